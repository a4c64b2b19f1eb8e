import JvmDerived
import JvmDerived.Pilot.@@N@@Statement
import JvmDerived.Pilot.@@N@@Code
set_option linter.unusedVariables false
set_option linter.unusedSimpArgs false
namespace Jvm.Pilot.@@N@@
open Jvm Jvm.ClassFile Sem Op Lib Jvm.Free Jvm.Stand Jvm.LawKit Jvm.RoadKit Bundle Jvm.Pilot.@@N@@.Jvm.D

section Own
variable {p : Program} {l : Launch} {e : Env} {R : Room} {s : State} {m : MethodId} {args : Array Value} {below : List Frame} {meth : Method} {c : Code} {T : State} {locs : List Loc} {cells slots : Nat} {Z : State} {a0 : Array Value} {h h' h0 : Heap} {K : Outcome → State → Prop} {pc pc' : Nat} {Ls : Array Slot} {st : List Value} {own : String} {ws ws' : List Addr} {L L' : List Loc}
/-- what is left to show at a point of a walk -/
def OGo (p : Program) (e : Env) (below : List Frame) (K : Outcome → State → Prop) (T : State) (g : JFrame) : Prop :=
  ∃ s₂ o, Steps p.tables e below (T.setTop g) s₂ ∧ s₂.status = .running ∧ Ended s₂ below o ∧ K o s₂
theorem OGo.via {T' : State} {g g' : JFrame} (k : OGo p e below K T' g') (q : ∀ t, Steps p.tables e below (T'.setTop g') t → Steps p.tables e below (T.setTop g) t) : OGo p e below K T g := by
  obtain ⟨s₂, o, h1, h2⟩ := k; exact ⟨s₂, o, q _ h1, h2⟩
theorem OGo.tr {T' : State} {g g' : JFrame} (k : OGo p e below K T' g') (q : Steps p.tables e below (T.setTop g) (T'.setTop g')) : OGo p e below K T g := k.via fun _ r => q.trans r
/-- the cells of h0 stand in h but for those at ws; cells of statics stand; what was written is at ws or new -/
def OPr (h0 : Heap) (ws : List Addr) (h : Heap) (L : List Loc) : Prop := Keep h0 h ws ∧ (∀ (x : Addr) (c : Cell), h0[x]? = some c → c.vm.isStatics = true → h[x]? = some c) ∧ ∀ y ∈ L, y.base ∈ ws ∨ h0.size ≤ y.base
theorem OPr.refl (h : Heap) (ws : List Addr) : OPr h ws h [] := ⟨Keep.refl h ws, fun _ _ q _ => q, fun _ q => nomatch q⟩
theorem OPr.size (P : OPr h0 ws h L) : h0.size ≤ h.size := P.1.1
theorem OPr.ge (P : OPr h0 ws h L) {a : Addr} (q : a = h.size) : h0.size ≤ a := q ▸ P.1.1
theorem OPr.ext (P : OPr h0 ws h L) (E : Ext h h') : OPr h0 ws h' L := ⟨P.1.ext E, fun x c q r => E.2 _ _ (P.2.1 x c q r), P.2.2⟩
theorem OPr.wr {a : Addr} {sl : Nat} {v : Value} (P : OPr h0 ws h L) (W : Wr h h' a sl v) (q : a ∈ ws ∨ h0.size ≤ a) : OPr h0 ws h' (L ++ [⟨a, sl⟩]) := by
  refine ⟨P.1.wr W q, fun x c r1 r2 => ?_, fun y hy => ?_⟩
  · obtain ⟨c', e1, -, -, -, e5, -, e7⟩ := wr_at W (P.2.1 x c r1 r2)
    have ne : x ≠ a := fun u => by rw [(e7 u).2.2] at r2; cases r2
    rw [← e5 ne]; exact e1
  · rcases List.mem_append.mp hy with u | u
    · exact P.2.2 y u
    · cases List.mem_singleton.mp u; exact q
theorem OPr.call (P : OPr h0 ws h L) (P' : OPr h ws' h' L') (q : ∀ x ∈ ws', x ∈ ws ∨ h0.size ≤ x) : OPr h0 ws h' (L ++ L') := by
  refine ⟨P.1.trans P'.1 q, fun x c r1 r2 => P'.2.1 x c (P.2.1 x c r1 r2) r2, fun y hy => ?_⟩
  rcases List.mem_append.mp hy with u | u
  · exact P.2.2 y u
  · rcases P'.2.2 y u with v | v
    · exact q _ v
    · exact Or.inr (Nat.le_trans P.1.1 v)
theorem OPr.fr (P : OPr h0 [] h L) : Fr h0.size L := fun y hy => (P.2.2 y hy).elim (fun q => nomatch q) id
theorem fldP {a : Addr} {C n d : String} {v : Value} (F : Fld Z h0 a C n d v) (P : OPr h0 ws h L) (q : a ∉ ws) : Fld Z h a C n d v := F.keep P.1 q
theorem exaP {a : Addr} {C : String} (F : Exa Z h0 a C) (P : OPr h0 ws h L) : Exa Z h a C := F.keep P.1
theorem staP {C n d : String} {v : Value} (F : Sta Z h0 C n d v) (P : OPr h0 ws h L) : Sta Z h C n d v := by
  obtain ⟨cf, i, k, f, sa, cell, h1, h2, h3, h4, h5, h6, h7⟩ := F
  exact ⟨cf, i, k, f, sa, cell, h1, h2, h3, h4, P.2.1 _ _ h5 h6, h6, h7⟩
/-- an array, told whole -/
def OAry (Z : State) (h : Heap) (a : Addr) (k : ClassId) (ty : FieldType) (vs : List Value) : Prop := ∃ c : Cell, Arr Z h a c ty ∧ c.cls = k ∧ c.slots.toList = vs ∧ vs.length < 2 ^ 31 ∧ ∀ v ∈ vs, fits ty v = true
theorem aryP {a : Addr} {k : ClassId} {ty : FieldType} {vs : List Value} (F : OAry Z h0 a k ty vs) (P : OPr h0 ws h L) (q : a ∉ ws) : OAry Z h a k ty vs := by
  obtain ⟨c, A, r⟩ := F; exact ⟨c, ⟨P.1.2.1 a c A.1 q, A.2⟩, r⟩
theorem aryE {a : Addr} {k : ClassId} {ty : FieldType} {vs : List Value} (F : OAry Z h a k ty vs) (E : Ext h h') : OAry Z h' a k ty vs := by
  obtain ⟨c, A, r⟩ := F; exact ⟨c, A.ext E, r⟩
theorem aryO {a b : Addr} {k : ClassId} {ty : FieldType} {vs : List Value} {sl : Nat} {v : Value} (F : OAry Z h b k ty vs) (W : Wr h h' a sl v) (q : b ≠ a) : OAry Z h' b k ty vs := by
  obtain ⟨c, A, r⟩ := F; exact ⟨c, A.other W q, r⟩
theorem aryLt {a : Addr} {k : ClassId} {ty : FieldType} {vs : List Value} (F : OAry Z h a k ty vs) : a < h.size := by obtain ⟨c, A, -⟩ := F; exact A.lt
theorem arySet {a : Addr} {k : ClassId} {ty : FieldType} {vs vs' : List Value} {j : Nat} {v : Value} (F : OAry Z h a k ty vs) (W : Wr h h' a j v) (hf : fits ty v = true) (e : vs.set j v = vs') : OAry Z h' a k ty vs' := by
  obtain ⟨c, A, r1, rfl, r3, r4⟩ := F
  subst e
  refine ⟨_, A.same W, r1, ?_, by simpa using r3, fun u hu => ?_⟩
  · show (c.slots.setIfInBounds j v).toList = _
    simp
  · rcases List.mem_or_eq_of_mem_set hu with z | rfl
    · exact r4 u z
    · exact hf
theorem aryIn {c : Cell} {vs : List Value} {j : Int32} {v : Value} (q : c.slots.toList = vs) (hj : ¬ j < 0) (hv : vs[j.toNatClampNeg]? = some v) : ¬ (j < 0 ∨ c.slots.size ≤ j.toNatClampNeg) ∧ c.slots[j.toNatClampNeg]? = some v := by
  subst q
  have hv' : c.slots[j.toNatClampNeg]? = some v := by simpa using hv
  exact ⟨fun u => u.elim hj fun u => by have := (Array.getElem?_eq_some_iff.mp hv').1; omega, hv'⟩
theorem aryFit {a : Addr} {k : ClassId} {ty : FieldType} {vs : List Value} {c : Cell} (A : Arr Z h a c ty) (q : c.slots.toList = vs) (r : ∀ v ∈ vs, fits ty v = true) : FitC Z c := fun i v hv => by
  subst q
  obtain ⟨hs, k, hk, comp, hkind⟩ := A.2.1
  have e : Z.slotType? c.cls .none i = some ty := by simp [State.slotType?, hk, hkind]
  have m : v ∈ c.slots.toList := by obtain ⟨hi, rfl⟩ := Array.getElem?_eq_some_iff.mp hv; simp
  simp [State.fitsSlot, e, r v m]
/-- what a method that returned has left -/
def OFin (s : State) (rm : Room) (Q : Option Value → Heap → List Loc → Prop) (o : Outcome) (U' : State) : Prop := ∃ v L, o = .returned v ∧ Q v U'.heap L ∧ FrameEnd s o U' L rm.cells rm.slots
/-- a method's contract, at given arguments and a given heap -/
def OMet (l : Launch) (y : MethodName) (bytes : ByteArray) (maxL : Nat) (ret : Option FieldType) (rm : Room) (as : Array Value) (Z : State) (h0 : Heap) (Q : Option Value → Heap → List Loc → Prop) : Prop :=
  ∀ ws : List Jvm.Cond, MetFree l y (head1 (Jvm.Cond.code y bytes maxL ret :: ws) rm) (fun a U => a = as ∧ Z.Warmed39 U.vm ∧ U.heap = h0) (fun _ _ _ _ _ => True) (fun _ U o U' => OFin U rm Q o U')
theorem OMet.body {y : MethodName} {bytes : ByteArray} {maxL : Nat} {ret : Option FieldType} {rm : Room} {as : Array Value} {Q : Option Value → Heap → List Loc → Prop} {Ls : Array Slot} (hpl : plainFor y = true) (hef : ∀ m, entryFrame m as maxL = mkF m 0 Ls [])
    (H : ∀ (p : Program) (e : Env) (s : State) (m : MethodId) (below : List Frame) (meth : Method) (c : Code) (T : State) (K : Outcome → State → Prop), K = OFin s rm Q → Stand p l e rm s m as below meth c T [] 0 0 → p.tables.exec = Jvm.exec → c.code = bytes → c.maxLocals = maxL → s.vm.findClass y.cls = some m.cls → meth.name = y.name → meth.sig.returnType = ret → meth.locks = false → Z.Warmed39 s.vm → T.heap = h0 → OGo p e below K T (mkF m 0 Ls [])) :
    OMet l y bytes maxL ret rm as Z h0 Q := fun ws => by
  refine MetFree.of_bodySF hpl hisR ?_
  intro p e s m args below meth c s₁ Bd hml0 hP hK
  obtain ⟨rfl, hZ, hh⟩ := hP
  have e0 : s₁.heap = h0 := by rw [← hh, Bd.state]; rfl
  have k := H p e s m below meth c s₁ _ rfl (Stand.of_body Bd) Bd.exec Bd.bytes hml0 (findClass_of_methodNamed Bd.named) (name_of_methodNamed Bd.named Bd.method).1 Bd.returns Bd.notSynchronized hZ e0
  rw [← hef m] at k
  exact k
theorem g_ret {rm : Room} {Q : Option Value → Heap → List Loc → Prop} {t : FieldType} {w : Value} {i : Instr} (X : Stand p l e rm s m args below meth c T locs cells slots) (hx : p.tables.exec = Jvm.exec) (hret : meth.sig.returnType = some t) (hlk : meth.locks = false) (hn : narrow t w = w)
    (hi : (i = .ireturn ∧ (t = .int ∨ t = .boolean ∨ t = .byte ∨ t = .char ∨ t = .short) ∧ ∃ z, w = .int z) ∨ (i = .lreturn ∧ t = .long ∧ ∃ z, w = .long z) ∨ (i = .dreturn ∧ t = .double ∧ ∃ z, w = .double z) ∨ (i = .freturn ∧ t = .float ∧ ∃ z, w = .float z) ∨ (i = .areturn ∧ t.isReference = true ∧ w.isRef = true))
    (hd : decode c.code pc = .ok (i, 1)) (hc : cells ≤ rm.cells) (hs : slots ≤ rm.slots) (eT : T.heap = h) (hK : K = OFin s rm Q) (hQ : Q (some w) h locs) : OGo p e below K T (mkF m pc Ls (w :: st)) := by
  subst hK
  obtain ⟨fs, hr, hrun, hended, hW, hsame⟩ := X.leave (v := some w) (fun h => by rw [hret] at h; cases h) hlk
  exact ⟨_, _, retOut X hx hret hn hi hd hr, hrun, hended, _, _, rfl, by show Q _ T.heap _; rw [eT]; exact hQ, ⟨_, rfl⟩, hW, hsame.mono hc hs⟩
theorem g_ret0 {rm : Room} {Q : Option Value → Heap → List Loc → Prop} (X : Stand p l e rm s m args below meth c T locs cells slots) (hx : p.tables.exec = Jvm.exec) (hret : meth.sig.returnType = none) (hlk : meth.locks = false)
    (hd : decode c.code pc = .ok (.return_, 1)) (hc : cells ≤ rm.cells) (hs : slots ≤ rm.slots) (eT : T.heap = h) (hK : K = OFin s rm Q) (hQ : Q none h locs) : OGo p e below K T (mkF m pc Ls []) := by
  subst hK
  obtain ⟨fs, hr, hrun, hended, hW, hsame⟩ := X.leave (v := none) (fun _ => rfl) hlk
  exact ⟨_, _, X.returnOut hx hret hd hr, hrun, hended, _, _, rfl, by show Q _ T.heap _; rw [eT]; exact hQ, ⟨_, rfl⟩, hW, hsame.mono hc hs⟩
theorem g_getf (X : Stand p l e R s m args below meth c T locs cells slots) (hx : p.tables.exec = Jvm.exec) (hZ : Z.Warmed39 s.vm) (hown : s.vm.findClass own = some m.cls) {R0 O n d host : String} {index : Nat} (w : (Jvm.Cond.fieldLink own index R0 n d).before a0 Z = true ∨ (Jvm.Cond.fieldLinkNest own index R0 n d host).before a0 Z = true) (via : Via Z R0 O n d)
    (eT : T.heap = h) {a : Addr} {v : Value} (F : Fld Z h a O n d v) (hd : decode c.code pc = .ok (.getfield index, 3)) (hp : pc + 3 = pc')
    (k : ∀ T', Stand p l e R s m args below meth c T' locs cells slots → T'.heap = h → OGo p e below K T' (mkF m pc' Ls (v :: st))) : OGo p e below K T (mkF m pc Ls (.ref a :: st)) := by
  subst hp
  obtain ⟨T', X', e', q⟩ := getF X hx hZ hown w via eT F (g := mkF m pc Ls (.ref a :: st)) rfl rfl hd
  exact (k T' X' e').via q
theorem g_gets (X : Stand p l e R s m args below meth c T locs cells slots) (hx : p.tables.exec = Jvm.exec) (hZ : Z.Warmed39 s.vm) (hown : s.vm.findClass own = some m.cls) {R0 O n d host : String} {index : Nat} (w : (Jvm.Cond.fieldLink own index R0 n d).before a0 Z = true ∨ (Jvm.Cond.fieldLinkNest own index R0 n d host).before a0 Z = true) (via : Via Z R0 O n d)
    (eT : T.heap = h) {v : Value} (F : Sta Z h O n d v) (hd : decode c.code pc = .ok (.getstatic index, 3)) (hp : pc + 3 = pc')
    (k : ∀ T', Stand p l e R s m args below meth c T' locs cells slots → T'.heap = h → OGo p e below K T' (mkF m pc' Ls (v :: st))) : OGo p e below K T (mkF m pc Ls st) := by
  subst hp
  obtain ⟨T', X', e', q⟩ := getS2 X hx hZ hown w via eT F (g := mkF m pc Ls st) rfl hd
  exact (k T' X' e').via q
theorem g_putf (X : Stand p l e R s m args below meth c T locs cells slots) (hx : p.tables.exec = Jvm.exec) (hZ : Z.Warmed39 s.vm) (hown : s.vm.findClass own = some m.cls) {R0 O n d host C : String} {index kk : Nat} {ty : FieldType} (w : (Jvm.Cond.fieldLink own index R0 n d).before a0 Z = true ∨ (Jvm.Cond.fieldLinkNest own index R0 n d host).before a0 Z = true) (via : Via Z R0 O n d)
    (eT : T.heap = h) {a : Addr} {v old : Value} (F : Fld Z h a O n d old) (E : Exa Z h a C) (L : (Jvm.Cond.lays C O n d).before a0 Z = true ∨ ((Jvm.Cond.laysFinal C O n d).before a0 Z = true ∧ own = O ∧ meth.name = "<init>")) (wi : (Jvm.Cond.instantiable C kk).before a0 Z = true)
    (hty : parseFieldDescriptor d = some ty) (hn : narrow ty v = v) (hf : fits ty v = true) (P : OPr h0 ws h locs) (q : a ∈ ws ∨ h0.size ≤ a) (hd : decode c.code pc = .ok (.putfield index, 3)) (hp : pc + 3 = pc')
    (k : ∀ T' h', Stand p l e R s m args below meth c T' (locs ++ [⟨a, RoadKit.slotOf Z O n d⟩]) cells slots → T'.heap = h' → Wr h h' a (RoadKit.slotOf Z O n d) v → OPr h0 ws h' (locs ++ [⟨a, RoadKit.slotOf Z O n d⟩]) → Fld Z h' a O n d v → OGo p e below K T' (mkF m pc' Ls st)) : OGo p e below K T (mkF m pc Ls (v :: .ref a :: st)) := by
  subst hp
  obtain ⟨T', h', X', e', W', r⟩ := putF X hx hZ hown w via eT F E L wi hty hn hf (g := mkF m pc Ls (v :: .ref a :: st)) rfl rfl hd
  exact (k T' h' X' e' W' (P.wr W' q) (F.same W')).via r
theorem g_new (X : Stand p l e R s m args below meth c T locs cells slots) (hx : p.tables.exec = Jvm.exec) (hZ : Z.Warmed39 s.vm) (hown : s.vm.findClass own = some m.cls) {C : String} {index n : Nat} (w : (Jvm.Cond.classLink own index C).before a0 Z = true) (wi : (Jvm.Cond.instantiable C n).before a0 Z = true) (wz : (Jvm.Cond.initialized C).before a0 Z = true) (eT : T.heap = h)
    (P : OPr h0 ws h locs) (hd : decode c.code pc = .ok (.new index, 3)) (hp : pc + 3 = pc') (hc : cells + 1 ≤ R.cells) (hl : slots + n ≤ R.slots)
    (k : ∀ T' h' a, a = h.size → h0.size ≤ a → Stand p l e R s m args below meth c T' locs (cells + 1) (slots + n) → T'.heap = h' → Ext h h' → OPr h0 ws h' locs → Exa Z h' a C → (∀ {O nm d : String} {ty : FieldType}, Laid Z a0 C O nm d → parseFieldDescriptor d = some ty → Fld Z h' a O nm d (defaultValue ty)) → OGo p e below K T' (mkF m pc' Ls (.ref a :: st))) : OGo p e below K T (mkF m pc Ls st) := by
  subst hp
  obtain ⟨T', h', X', e', E', A', D', -, r⟩ := newO X hx hZ hown w wi wz eT (g := mkF m pc Ls st) rfl hd hc hl
  exact (k T' h' h.size rfl P.1.1 X' e' E' (P.ext E') A' D').via r
theorem g_inito (X : Stand p l e R s m args below meth c T locs cells slots) (hx : p.tables.exec = Jvm.exec) (hZ : Z.Warmed39 s.vm) (hown : s.vm.findClass own = some m.cls) {idx : Nat} (w1 : (Jvm.Cond.methodLink own idx Lib.objectInit).before a0 Z = true) (w2 : (Jvm.Cond.instanceMethod Lib.objectInit).before a0 Z = true)
    (w3 : (Jvm.Cond.code Lib.objectInit ⟨#[0xb1]⟩ 1 none).before a0 Z = true) (eT : T.heap = h) (hsize : Ls.size = c.maxLocals) {a : Addr} (hd : decode c.code pc = .ok (.invokespecial idx, 3)) (hp : pc + 3 = pc')
    (hf : 1 ≤ R.frames) {W : Nat} (hW : (st.map fun v => v.category).sum ≤ W) (hl : W + 12 ≤ R.locals)
    (k : ∀ T', Stand p l e R s m args below meth c T' locs cells slots → T'.heap = h → OGo p e below K T' (mkF m pc' Ls st)) : OGo p e below K T (mkF m pc Ls (.ref a :: st)) := by
  subst hp
  obtain ⟨T', X', e', q⟩ := initO X hx hZ hown w1 w2 w3 eT (g := mkF m pc Ls (.ref a :: st)) rfl hsize rfl hd hf (W := W) (by show 2 * 0 + _ ≤ _; omega) hl
  exact (k T' X' e').via q
theorem OMet.back {y : MethodName} {bytes : ByteArray} {maxL : Nat} {ret : Option FieldType} {rm : Room} {as : Array Value} {Q : Option Value → Heap → List Loc → Prop} {len W : Nat} (hM : OMet l y bytes maxL ret rm as Z h Q) (hZ : Z.Warmed39 s.vm) (wc : (Jvm.Cond.code y bytes maxL ret).before a0 Z = true) (wz : (Jvm.Cond.initialized y.cls).before a0 Z = true) (hf : rm.frames + 1 ≤ R.frames) (hl : W + (maxL + 11) + rm.locals ≤ R.locals) :
    Back l R p e below s args y len W (fun A a => a = as ∧ A.U.heap = h ∧ A.cells + rm.cells ≤ R.cells ∧ A.slots + rm.slots ≤ R.slots)
      (fun A _ v B => ∃ L, Q v B.U.heap L ∧ B.locs = A.locs ++ L ∧ B.cells = A.cells + rm.cells ∧ B.slots = A.slots + rm.slots) := backOf (hM []) hZ wc wz hf hl
theorem g_special (X : Stand p l e R s m args below meth c T locs cells slots) (hx : p.tables.exec = Jvm.exec) (hZ : Z.Warmed39 s.vm) (hown : s.vm.findClass own = some m.cls) (eT : T.heap = h) {y : MethodName} {bytes : ByteArray} {maxL index : Nat} {rm : Room} {as : Array Value} {Q : Option Value → Heap → List Loc → Prop} (hM : OMet l y bytes maxL none rm as Z h Q) (hy1 : y.name = "<init>")
    (w1 : (Jvm.Cond.methodLink own index y).before a0 Z = true) (w2 : (Jvm.Cond.instanceMethod y).before a0 Z = true) (w3 : (Jvm.Cond.code y bytes maxL none).before a0 Z = true) (wz : (Jvm.Cond.initialized y.cls).before a0 Z = true) (hy : y.cls ≠ "java/lang/invoke/MethodHandle" ∧ y.cls ≠ "java/lang/invoke/VarHandle")
    {a : Addr} {argsL rest : List Value} (has : (.ref a :: argsL).toArray = as) (hst : st = argsL.reverse ++ .ref a :: rest) {W : Nat} {ps : List FieldType} (hde : parseMethodDescriptor y.desc = some ⟨ps, none⟩) (hlen : argsL.length = ps.length) (hW : (rest.map fun v => v.category).sum ≤ W) (hf : rm.frames + 1 ≤ R.frames) (hl : W + (maxL + 11) + rm.locals ≤ R.locals) (hc : cells + rm.cells ≤ R.cells) (hs : slots + rm.slots ≤ R.slots)
    (hsize : Ls.size = c.maxLocals) (hd : decode c.code pc = .ok (.invokespecial index, 3)) (hp : pc + 3 = pc')
    (k : ∀ v T' h' L, Stand p l e R s m args below meth c T' (locs ++ L) (cells + rm.cells) (slots + rm.slots) → T'.heap = h' → Q v h' L → OGo p e below K T' (mkF m pc' Ls (v.toList ++ rest))) : OGo p e below K T (mkF m pc Ls st) := by
  subst hp has
  obtain ⟨v, vm₁, ⟨T', L', c', n'⟩, -, X', ⟨Lc, hQ, l1, y1, z1⟩, r⟩ := X.specialBack hx (y := y) hy1 hown (mvT hZ w1) (mvT hZ w2) (mvT hZ w3) hy (hM.back (W := W) hZ w3 wz hf hl) (g := mkF m pc Ls st) rfl hsize (Steps.refl _) (a := a) (argsL := argsL) (rest := rest) (lenOf hde hlen) hst (by show 2 * 0 + _ ≤ _; omega) hd (fun _ _ => ⟨rfl, eT, hc, hs⟩)
  dsimp only [Pt.U, Pt.locs, Pt.cells, Pt.slots] at X' l1 y1 z1 r hQ
  subst l1 y1 z1
  exact (k v T' _ Lc X' rfl hQ).tr r
theorem g_virtual (X : Stand p l e R s m args below meth c T locs cells slots) (hx : p.tables.exec = Jvm.exec) (hZ : Z.Warmed39 s.vm) (hown : s.vm.findClass own = some m.cls) (eT : T.heap = h) {y z : MethodName} {bytes : ByteArray} {maxL index : Nat} {ret : Option FieldType} {rm : Room} {as : Array Value} {Q : Option Value → Heap → List Loc → Prop} (hM : OMet l z bytes maxL ret rm as Z h Q) {C : String}
    (w1 : (Jvm.Cond.methodLink own index y).before a0 Z = true) (w2 : (Jvm.Cond.declares y).before a0 Z = true) (nf : NotFace s y) (w3 : (Jvm.Cond.selects C y z).before a0 Z = true) (w4 : (Jvm.Cond.instanceMethod z).before a0 Z = true) (w5 : (Jvm.Cond.code z bytes maxL ret).before a0 Z = true) (wz : (Jvm.Cond.initialized z.cls).before a0 Z = true) (hy : y.cls ≠ "java/lang/invoke/MethodHandle" ∧ y.cls ≠ "java/lang/invoke/VarHandle")
    {a : Addr} (E : Exa Z h a C) {argsL rest : List Value} (has : (.ref a :: argsL).toArray = as) (hst : st = argsL.reverse ++ .ref a :: rest) {W : Nat} {ps : List FieldType} {rt : Option FieldType} (hde : parseMethodDescriptor y.desc = some ⟨ps, rt⟩) (hlen : argsL.length = ps.length) (hW : (rest.map fun v => v.category).sum ≤ W) (hf : rm.frames + 1 ≤ R.frames) (hl : W + (maxL + 11) + rm.locals ≤ R.locals) (hc : cells + rm.cells ≤ R.cells) (hs : slots + rm.slots ≤ R.slots)
    (hsize : Ls.size = c.maxLocals) (hd : decode c.code pc = .ok (.invokevirtual index, 3)) (hp : pc + 3 = pc')
    (k : ∀ v T' h' L, Stand p l e R s m args below meth c T' (locs ++ L) (cells + rm.cells) (slots + rm.slots) → T'.heap = h' → Q v h' L → OGo p e below K T' (mkF m pc' Ls (v.toList ++ rest))) : OGo p e below K T (mkF m pc Ls st) := by
  subst hp has
  obtain ⟨cB, kB, q1, q2, q3⟩ := isOf (T := T) hZ eT E
  obtain ⟨v, vm₁, ⟨T', L', c', n'⟩, -, X', ⟨Lc, hQ, l1, y1, z1⟩, r⟩ := X.virtualBack hx (y := y) (z := z) hown (mvT hZ w1) (mvT hZ w2) nf (mvT hZ w3) (mvT hZ w4) hy (hM.back (W := W) hZ w5 wz hf hl) q1 q3 (g := mkF m pc Ls st) rfl hsize (Steps.refl _) (argsL := argsL) (rest := rest) (lenOf hde hlen) hst (by show 2 * 0 + _ ≤ _; omega) hd (fun _ _ => ⟨rfl, eT, hc, hs⟩)
  dsimp only [Pt.U, Pt.locs, Pt.cells, Pt.slots] at X' l1 y1 z1 r hQ
  subst l1 y1 z1
  exact (k v T' _ Lc X' rfl hQ).tr r
theorem g_virtualUp (X : Stand p l e R s m args below meth c T locs cells slots) (hx : p.tables.exec = Jvm.exec) (hZ : Z.Warmed39 s.vm) (hown : s.vm.findClass own = some m.cls) (eT : T.heap = h) {y z : MethodName} {bytes : ByteArray} {maxL index : Nat} {ret : Option FieldType} {rm : Room} {as : Array Value} {Q : Option Value → Heap → List Loc → Prop} (hM : OMet l z bytes maxL ret rm as Z h Q) {C owner : String}
    (w1 : (Jvm.Cond.methodLink own index y).before a0 Z = true) (w0 : (Jvm.Cond.sameMethod y.cls owner y.name y.desc).before a0 Z = true) (w2 : (Jvm.Cond.declares ⟨owner, y.name, y.desc⟩).before a0 Z = true) (nf : NotFace s ⟨owner, y.name, y.desc⟩) (w3 : (Jvm.Cond.selects C y z).before a0 Z = true) (w4 : (Jvm.Cond.instanceMethod z).before a0 Z = true) (w5 : (Jvm.Cond.code z bytes maxL ret).before a0 Z = true) (wz : (Jvm.Cond.initialized z.cls).before a0 Z = true) (hy : owner ≠ "java/lang/invoke/MethodHandle" ∧ owner ≠ "java/lang/invoke/VarHandle")
    {a : Addr} (E : Exa Z h a C) {argsL rest : List Value} (has : (.ref a :: argsL).toArray = as) (hst : st = argsL.reverse ++ .ref a :: rest) {W : Nat} {ps : List FieldType} {rt : Option FieldType} (hde : parseMethodDescriptor y.desc = some ⟨ps, rt⟩) (hlen : argsL.length = ps.length) (hW : (rest.map fun v => v.category).sum ≤ W) (hf : rm.frames + 1 ≤ R.frames) (hl : W + (maxL + 11) + rm.locals ≤ R.locals) (hc : cells + rm.cells ≤ R.cells) (hs : slots + rm.slots ≤ R.slots)
    (hsize : Ls.size = c.maxLocals) (hd : decode c.code pc = .ok (.invokevirtual index, 3)) (hp : pc + 3 = pc')
    (k : ∀ v T' h' L, Stand p l e R s m args below meth c T' (locs ++ L) (cells + rm.cells) (slots + rm.slots) → T'.heap = h' → Q v h' L → OGo p e below K T' (mkF m pc' Ls (v.toList ++ rest))) : OGo p e below K T (mkF m pc Ls st) := by
  subst hp has
  obtain ⟨cB, kB, q1, q2, q3⟩ := isOf (T := T) hZ eT E
  obtain ⟨v, vm₁, ⟨T', L', c', n'⟩, -, X', ⟨Lc, hQ, l1, y1, z1⟩, r⟩ := X.virtualBackUp hx (x := y) (y := z) (owner := owner) hown (mvT hZ w1) (mvT hZ w0) (mvT hZ w2) hy (mvT hZ w3) (mvT hZ w4) (hM.back (W := W) hZ w5 wz hf hl) q1 q3 (g := mkF m pc Ls st) rfl hsize (Steps.refl _) (argsL := argsL) (rest := rest) (lenOf hde hlen) hst (by show 2 * 0 + _ ≤ _; omega) hd (fun _ _ => ⟨rfl, eT, hc, hs⟩)
  dsimp only [Pt.U, Pt.locs, Pt.cells, Pt.slots] at X' l1 y1 z1 r hQ
  subst l1 y1 z1
  exact (k v T' _ Lc X' rfl hQ).tr r
theorem g_static (X : Stand p l e R s m args below meth c T locs cells slots) (hx : p.tables.exec = Jvm.exec) (hZ : Z.Warmed39 s.vm) (hown : s.vm.findClass own = some m.cls) (eT : T.heap = h) {y : MethodName} {bytes : ByteArray} {maxL index : Nat} {ret : Option FieldType} {rm : Room} {as : Array Value} {Q : Option Value → Heap → List Loc → Prop} (hM : OMet l y bytes maxL ret rm as Z h Q)
    (w1 : (Jvm.Cond.methodLink own index y).before a0 Z = true) (w2 : (Jvm.Cond.static y).before a0 Z = true) (w3 : (Jvm.Cond.code y bytes maxL ret).before a0 Z = true) (wz : (Jvm.Cond.initialized y.cls).before a0 Z = true) (hy : y.cls ≠ "java/lang/invoke/MethodHandle" ∧ y.cls ≠ "java/lang/invoke/VarHandle")
    {argsL rest : List Value} (has : argsL.toArray = as) (hst : st = argsL.reverse ++ rest) {W : Nat} {ps : List FieldType} {rt : Option FieldType} (hde : parseMethodDescriptor y.desc = some ⟨ps, rt⟩) (hlen : argsL.length = ps.length) (hW : (rest.map fun v => v.category).sum ≤ W) (hf : rm.frames + 1 ≤ R.frames) (hl : W + (maxL + 11) + rm.locals ≤ R.locals) (hc : cells + rm.cells ≤ R.cells) (hs : slots + rm.slots ≤ R.slots)
    (hsize : Ls.size = c.maxLocals) (hd : decode c.code pc = .ok (.invokestatic index, 3)) (hp : pc + 3 = pc')
    (k : ∀ v T' h' L, Stand p l e R s m args below meth c T' (locs ++ L) (cells + rm.cells) (slots + rm.slots) → T'.heap = h' → Q v h' L → OGo p e below K T' (mkF m pc' Ls (v.toList ++ rest))) : OGo p e below K T (mkF m pc Ls st) := by
  subst hp has
  obtain ⟨v, vm₁, ⟨T', L', c', n'⟩, -, X', ⟨Lc, hQ, l1, y1, z1⟩, r⟩ := Jvm.LawKit.callS X hx (y := y) hown (mvT hZ w1) (mvT hZ w2) (mvT hZ wz) (mvT hZ w3) hy (hM.back (W := W) hZ w3 wz hf hl) (g := mkF m pc Ls st) rfl hsize (argsL := argsL) (rest := rest) (lenOf hde hlen) hst (by show 2 * 0 + _ ≤ _; omega) hd (fun _ _ => ⟨rfl, eT, hc, hs⟩)
  dsimp only [Pt.U, Pt.locs, Pt.cells, Pt.slots] at X' l1 y1 z1 r hQ
  subst l1 y1 z1
  exact (k v T' _ Lc X' rfl hQ).via r
theorem g_face (X : Stand p l e R s m args below meth c T locs cells slots) (hx : p.tables.exec = Jvm.exec) (hZ : Z.Warmed39 s.vm) (hown : s.vm.findClass own = some m.cls) (eT : T.heap = h) {y z : MethodName} {bytes : ByteArray} {maxL index count : Nat} {ret : Option FieldType} {rm : Room} {as : Array Value} {Q : Option Value → Heap → List Loc → Prop} (hM : OMet l z bytes maxL ret rm as Z h Q) {C : String}
    (w1 : (Jvm.Cond.methodLink own index y).before a0 Z = true) (w2 : (Jvm.Cond.declares y).before a0 Z = true) (w6 : (Jvm.Cond.interfaceMethod y.cls y.cls y.name y.desc).before a0 Z = true) (w3 : (Jvm.Cond.selects C y z).before a0 Z = true) (w4 : (Jvm.Cond.instanceMethod z).before a0 Z = true) (w7 : (Jvm.Cond.publicMethod z).before a0 Z = true) (w8 : (Jvm.Cond.unhidden C y.name y.desc).before a0 Z = true) (w9 : (Jvm.Cond.castable C y.cls).before a0 Z = true) (w5 : (Jvm.Cond.code z bytes maxL ret).before a0 Z = true) (wz : (Jvm.Cond.initialized z.cls).before a0 Z = true) (hy : y.cls ≠ "java/lang/invoke/MethodHandle" ∧ y.cls ≠ "java/lang/invoke/VarHandle")
    {a : Addr} (E : Exa Z h a C) {argsL rest : List Value} (has : (.ref a :: argsL).toArray = as) (hst : st = argsL.reverse ++ .ref a :: rest) {W : Nat} {ps : List FieldType} {rt : Option FieldType} (hde : parseMethodDescriptor y.desc = some ⟨ps, rt⟩) (hlen : argsL.length = ps.length) (hW : (rest.map fun v => v.category).sum ≤ W) (hf : rm.frames + 1 ≤ R.frames) (hl : W + (maxL + 11) + rm.locals ≤ R.locals) (hc : cells + rm.cells ≤ R.cells) (hs : slots + rm.slots ≤ R.slots)
    (hsize : Ls.size = c.maxLocals) (hd : decode c.code pc = .ok (.invokeinterface index count, 5)) (hp : pc + 5 = pc')
    (k : ∀ v T' h' L, Stand p l e R s m args below meth c T' (locs ++ L) (cells + rm.cells) (slots + rm.slots) → T'.heap = h' → Q v h' L → OGo p e below K T' (mkF m pc' Ls (v.toList ++ rest))) : OGo p e below K T (mkF m pc Ls st) := by
  subst hp has
  obtain ⟨cB, kB, q1, q2, q3⟩ := isOf (T := T) hZ eT E
  obtain ⟨v, vm₁, ⟨T', L', c', n'⟩, -, X', ⟨Lc, hQ, l1, y1, z1⟩, r⟩ := X.interfaceBack hx (xi := y) (y := z) hown (mvT hZ w1) (mvT hZ w2) (mvT hZ w6 (by simp [Jvm.Cond.onTables, Jvm.Cond.keepsFace, Jvm.Cond.keeps, Jvm.Cond.steady, Jvm.Cond.faceAtom, hy.1, hy.2])) (mvT hZ w3) (mvT hZ w4) (mvT hZ w7) (mvT hZ w8) (mvT hZ w9) hy (hM.back (W := W) hZ w5 wz hf hl) q1 q2 q3 (g := mkF m pc Ls st) rfl hsize (Steps.refl _) (argsL := argsL) (rest := rest) (lenOf hde hlen) hst (by show 2 * 0 + _ ≤ _; omega) hd (fun _ _ => ⟨rfl, eT, hc, hs⟩)
  dsimp only [Pt.U, Pt.locs, Pt.cells, Pt.slots] at X' l1 y1 z1 r hQ
  subst l1 y1 z1
  exact (k v T' _ Lc X' rfl hQ).tr r
theorem g_aloadN (X : Stand p l e R s m args below meth c T locs cells slots) (hx : p.tables.exec = Jvm.exec) {k : Fin 4} {v : Value} (hd : decode c.code pc = .ok (.aload_n k, 1)) (hp : pc + 1 = pc') (hl : Ls[k.val]? = some (.val v)) (hv : v.isRef = true)
    (k : OGo p e below K T (mkF m pc' Ls (v :: st))) : OGo p e below K T (mkF m pc Ls (st)) := by
  subst hp; exact k.via fun _ q => XS.aloadN X.here hx rfl hd hl hv q
theorem g_aload (X : Stand p l e R s m args below meth c T locs cells slots) (hx : p.tables.exec = Jvm.exec) {k : Nat} {v : Value} (hd : decode c.code pc = .ok (.aload k, 2)) (hp : pc + 2 = pc') (hl : Ls[k]? = some (.val v)) (hv : v.isRef = true)
    (k : OGo p e below K T (mkF m pc' Ls (v :: st))) : OGo p e below K T (mkF m pc Ls (st)) := by
  subst hp; exact k.via fun _ q => XS.aload X.here hx rfl hd hl hv q
theorem g_iloadN (X : Stand p l e R s m args below meth c T locs cells slots) (hx : p.tables.exec = Jvm.exec) {k : Fin 4} {v : Int32} (hd : decode c.code pc = .ok (.iload_n k, 1)) (hp : pc + 1 = pc') (hl : Ls[k.val]? = some (.val (.int v)))
    (k : OGo p e below K T (mkF m pc' Ls (.int v :: st))) : OGo p e below K T (mkF m pc Ls (st)) := by
  subst hp; exact k.via fun _ q => XS.iloadN X.here hx rfl hd hl q
theorem g_iload (X : Stand p l e R s m args below meth c T locs cells slots) (hx : p.tables.exec = Jvm.exec) {k : Nat} {v : Int32} (hd : decode c.code pc = .ok (.iload k, 2)) (hp : pc + 2 = pc') (hl : Ls[k]? = some (.val (.int v)))
    (k : OGo p e below K T (mkF m pc' Ls (.int v :: st))) : OGo p e below K T (mkF m pc Ls (st)) := by
  subst hp; exact k.via fun _ q => XS.iload X.here hx rfl hd hl q
theorem g_lloadN (X : Stand p l e R s m args below meth c T locs cells slots) (hx : p.tables.exec = Jvm.exec) {k : Fin 4} {v : Int64} (hd : decode c.code pc = .ok (.lload_n k, 1)) (hp : pc + 1 = pc') (hl : Ls[k.val]? = some (.val (.long v)))
    (k : OGo p e below K T (mkF m pc' Ls (.long v :: st))) : OGo p e below K T (mkF m pc Ls (st)) := by
  subst hp; exact k.via fun _ q => XT.lloadN X.here hx rfl hd hl q
theorem g_lload (X : Stand p l e R s m args below meth c T locs cells slots) (hx : p.tables.exec = Jvm.exec) {k : Nat} {v : Int64} (hd : decode c.code pc = .ok (.lload k, 2)) (hp : pc + 2 = pc') (hl : Ls[k]? = some (.val (.long v)))
    (k : OGo p e below K T (mkF m pc' Ls (.long v :: st))) : OGo p e below K T (mkF m pc Ls (st)) := by
  subst hp; exact k.via fun _ q => XT.lload X.here hx rfl hd hl q
theorem g_istoreN (X : Stand p l e R s m args below meth c T locs cells slots) (hx : p.tables.exec = Jvm.exec) {k : Fin 4} {x : Int32} {Ls' : Array Slot} (hd : decode c.code pc = .ok (.istore_n k, 1)) (hp : pc + 1 = pc') (hl : storeLocals Ls k.val (.int x) = some Ls')
    (k : OGo p e below K T (mkF m pc' Ls' (st))) : OGo p e below K T (mkF m pc Ls (.int x :: st)) := by
  subst hp; exact k.via fun _ q => XS.istoreN X.here hx rfl hd rfl hl q
theorem g_istore (X : Stand p l e R s m args below meth c T locs cells slots) (hx : p.tables.exec = Jvm.exec) {k : Nat} {x : Int32} {Ls' : Array Slot} (hd : decode c.code pc = .ok (.istore k, 2)) (hp : pc + 2 = pc') (hl : storeLocals Ls k (.int x) = some Ls')
    (k : OGo p e below K T (mkF m pc' Ls' (st))) : OGo p e below K T (mkF m pc Ls (.int x :: st)) := by
  subst hp; exact k.via fun _ q => XS.istore X.here hx rfl hd rfl hl q
theorem g_lstoreN (X : Stand p l e R s m args below meth c T locs cells slots) (hx : p.tables.exec = Jvm.exec) {k : Fin 4} {x : Int64} {Ls' : Array Slot} (hd : decode c.code pc = .ok (.lstore_n k, 1)) (hp : pc + 1 = pc') (hl : storeLocals Ls k.val (.long x) = some Ls')
    (k : OGo p e below K T (mkF m pc' Ls' (st))) : OGo p e below K T (mkF m pc Ls (.long x :: st)) := by
  subst hp; exact k.via fun _ q => XT.lstoreN X.here hx rfl hd rfl hl q
theorem g_lstore (X : Stand p l e R s m args below meth c T locs cells slots) (hx : p.tables.exec = Jvm.exec) {k : Nat} {x : Int64} {Ls' : Array Slot} (hd : decode c.code pc = .ok (.lstore k, 2)) (hp : pc + 2 = pc') (hl : storeLocals Ls k (.long x) = some Ls')
    (k : OGo p e below K T (mkF m pc' Ls' (st))) : OGo p e below K T (mkF m pc Ls (.long x :: st)) := by
  subst hp; exact k.via fun _ q => XT.lstore X.here hx rfl hd rfl hl q
theorem g_astoreN (X : Stand p l e R s m args below meth c T locs cells slots) (hx : p.tables.exec = Jvm.exec) {k : Fin 4} {x : Value} {Ls' : Array Slot} (hd : decode c.code pc = .ok (.astore_n k, 1)) (hp : pc + 1 = pc') (hv : x.isRef = true) (hl : storeLocals Ls k.val x = some Ls')
    (k : OGo p e below K T (mkF m pc' Ls' (st))) : OGo p e below K T (mkF m pc Ls (x :: st)) := by
  subst hp; exact k.via fun _ q => XS.astoreN X.here hx rfl hd rfl hv hl q
theorem g_astore (X : Stand p l e R s m args below meth c T locs cells slots) (hx : p.tables.exec = Jvm.exec) {k : Nat} {x : Value} {Ls' : Array Slot} (hd : decode c.code pc = .ok (.astore k, 2)) (hp : pc + 2 = pc') (hv : x.isRef = true) (hl : storeLocals Ls k x = some Ls')
    (k : OGo p e below K T (mkF m pc' Ls' (st))) : OGo p e below K T (mkF m pc Ls (x :: st)) := by
  subst hp; exact k.via fun _ q => XS.astore X.here hx rfl hd rfl hv hl q
theorem g_iconst (X : Stand p l e R s m args below meth c T locs cells slots) (hx : p.tables.exec = Jvm.exec) {i : Int} (v : Int32) (hd : decode c.code pc = .ok (.iconst i, 1)) (hp : pc + 1 = pc') (hv : Int32.ofInt i = v)
    (k : OGo p e below K T (mkF m pc' Ls (.int v :: st))) : OGo p e below K T (mkF m pc Ls st) := by
  subst hp; exact k.via fun _ q => XT.iconstV X.here hx rfl v hd hv q
theorem g_bipush (X : Stand p l e R s m args below meth c T locs cells slots) (hx : p.tables.exec = Jvm.exec) {i : Int} (v : Int32) (hd : decode c.code pc = .ok (.bipush i, 2)) (hp : pc + 2 = pc') (hv : (Int8.ofInt i).toInt32 = v)
    (k : OGo p e below K T (mkF m pc' Ls (.int v :: st))) : OGo p e below K T (mkF m pc Ls st) := by
  subst hp; exact k.via fun _ q => XT.bipushV X.here hx rfl v hd hv q
theorem g_sipush (X : Stand p l e R s m args below meth c T locs cells slots) (hx : p.tables.exec = Jvm.exec) {i : Int} (v : Int32) (hd : decode c.code pc = .ok (.sipush i, 3)) (hp : pc + 3 = pc') (hv : (Int16.ofInt i).toInt32 = v)
    (k : OGo p e below K T (mkF m pc' Ls (.int v :: st))) : OGo p e below K T (mkF m pc Ls st) := by
  subst hp; exact k.via fun _ q => XT.sipushV X.here hx rfl v hd hv q
theorem g_lconst (X : Stand p l e R s m args below meth c T locs cells slots) (hx : p.tables.exec = Jvm.exec) {i : Fin 2} (v : Int64) (hd : decode c.code pc = .ok (.lconst i, 1)) (hp : pc + 1 = pc') (hv : Int64.ofNat i = v)
    (k : OGo p e below K T (mkF m pc' Ls (.long v :: st))) : OGo p e below K T (mkF m pc Ls st) := by
  subst hp; exact k.via fun _ q => XT.lconstV X.here hx rfl v hd hv q
theorem g_anull (X : Stand p l e R s m args below meth c T locs cells slots) (hx : p.tables.exec = Jvm.exec)  (hd : decode c.code pc = .ok (.aconst_null, 1)) (hp : pc + 1 = pc')
    (k : OGo p e below K T (mkF m pc' Ls (.null :: st))) : OGo p e below K T (mkF m pc Ls (st)) := by
  subst hp; exact k.via fun _ q => XS.aconstNull X.here hx rfl hd  q
theorem g_ldcI (X : Stand p l e R s m args below meth c T locs cells slots) (hx : p.tables.exec = Jvm.exec) (hZ : Z.Warmed39 s.vm) (hown : s.vm.findClass own = some m.cls) {index : Nat} {v : Int32} (w : (Jvm.Cond.constant own index v).before a0 Z = true) (hd : decode c.code pc = .ok (.ldc index, 2)) (hp : pc + 2 = pc')
    (k : OGo p e below K T (mkF m pc' Ls (.int v :: st))) : OGo p e below K T (mkF m pc Ls st) := by
  subst hp; exact k.via fun _ q => X.ldcI hx hown (mvT hZ w) rfl hd q
theorem g_ldc2J (X : Stand p l e R s m args below meth c T locs cells slots) (hx : p.tables.exec = Jvm.exec) (hZ : Z.Warmed39 s.vm) (hown : s.vm.findClass own = some m.cls) {index : Nat} {v : Int64} (w : (Jvm.Cond.constantLong own index v).before a0 Z = true) (hd : decode c.code pc = .ok (.ldc2_w index, 3)) (hp : pc + 3 = pc')
    (k : OGo p e below K T (mkF m pc' Ls (.long v :: st))) : OGo p e below K T (mkF m pc Ls st) := by
  subst hp; exact k.via fun _ q => X.ldc2J hx hown (mvT hZ w) rfl hd q
theorem g_iadd (X : Stand p l e R s m args below meth c T locs cells slots) (hx : p.tables.exec = Jvm.exec) {x y z : Int32} (hd : decode c.code pc = .ok (.iadd, 1)) (hp : pc + 1 = pc') (hz : x + y = z)
    (k : OGo p e below K T (mkF m pc' Ls (.int z :: st))) : OGo p e below K T (mkF m pc Ls (.int y :: .int x :: st)) := by
  subst hp hz; exact k.via fun _ q => XS.iadd X.here hx rfl hd rfl q
theorem g_isub (X : Stand p l e R s m args below meth c T locs cells slots) (hx : p.tables.exec = Jvm.exec) {x y z : Int32} (hd : decode c.code pc = .ok (.isub, 1)) (hp : pc + 1 = pc') (hz : x - y = z)
    (k : OGo p e below K T (mkF m pc' Ls (.int z :: st))) : OGo p e below K T (mkF m pc Ls (.int y :: .int x :: st)) := by
  subst hp hz; exact k.via fun _ q => XS.isub X.here hx rfl hd rfl q
theorem g_iand (X : Stand p l e R s m args below meth c T locs cells slots) (hx : p.tables.exec = Jvm.exec) {x y z : Int32} (hd : decode c.code pc = .ok (.iand, 1)) (hp : pc + 1 = pc') (hz : x &&& y = z)
    (k : OGo p e below K T (mkF m pc' Ls (.int z :: st))) : OGo p e below K T (mkF m pc Ls (.int y :: .int x :: st)) := by
  subst hp hz; exact k.via fun _ q => XS.iand X.here hx rfl hd rfl q
theorem g_imul (X : Stand p l e R s m args below meth c T locs cells slots) (hx : p.tables.exec = Jvm.exec) {x y z : Int32} (hd : decode c.code pc = .ok (.imul, 1)) (hp : pc + 1 = pc') (hz : x * y = z)
    (k : OGo p e below K T (mkF m pc' Ls (.int z :: st))) : OGo p e below K T (mkF m pc Ls (.int y :: .int x :: st)) := by
  subst hp hz; exact k.via fun _ q => XS.imul X.here hx rfl hd rfl q
theorem g_ixor (X : Stand p l e R s m args below meth c T locs cells slots) (hx : p.tables.exec = Jvm.exec) {x y z : Int32} (hd : decode c.code pc = .ok (.ixor, 1)) (hp : pc + 1 = pc') (hz : x ^^^ y = z)
    (k : OGo p e below K T (mkF m pc' Ls (.int z :: st))) : OGo p e below K T (mkF m pc Ls (.int y :: .int x :: st)) := by
  subst hp hz; exact k.via fun _ q => XT.ixor X.here hx rfl hd rfl q
theorem g_ior (X : Stand p l e R s m args below meth c T locs cells slots) (hx : p.tables.exec = Jvm.exec) {x y z : Int32} (hd : decode c.code pc = .ok (.ior, 1)) (hp : pc + 1 = pc') (hz : x ||| y = z)
    (k : OGo p e below K T (mkF m pc' Ls (.int z :: st))) : OGo p e below K T (mkF m pc Ls (.int y :: .int x :: st)) := by
  subst hp hz; exact k.via fun _ q => XT.ior X.here hx rfl hd rfl q
theorem g_ishl (X : Stand p l e R s m args below meth c T locs cells slots) (hx : p.tables.exec = Jvm.exec) {x y z : Int32} (hd : decode c.code pc = .ok (.ishl, 1)) (hp : pc + 1 = pc') (hz : x <<< (y &&& 31) = z)
    (k : OGo p e below K T (mkF m pc' Ls (.int z :: st))) : OGo p e below K T (mkF m pc Ls (.int y :: .int x :: st)) := by
  subst hp hz; exact k.via fun _ q => XT.ishl X.here hx rfl hd rfl q
theorem g_ishr (X : Stand p l e R s m args below meth c T locs cells slots) (hx : p.tables.exec = Jvm.exec) {x y z : Int32} (hd : decode c.code pc = .ok (.ishr, 1)) (hp : pc + 1 = pc') (hz : x >>> (y &&& 31) = z)
    (k : OGo p e below K T (mkF m pc' Ls (.int z :: st))) : OGo p e below K T (mkF m pc Ls (.int y :: .int x :: st)) := by
  subst hp hz; exact k.via fun _ q => XT.ishr X.here hx rfl hd rfl q
theorem g_iushr (X : Stand p l e R s m args below meth c T locs cells slots) (hx : p.tables.exec = Jvm.exec) {x y z : Int32} (hd : decode c.code pc = .ok (.iushr, 1)) (hp : pc + 1 = pc') (hz : XT.ushr x y = z)
    (k : OGo p e below K T (mkF m pc' Ls (.int z :: st))) : OGo p e below K T (mkF m pc Ls (.int y :: .int x :: st)) := by
  subst hp hz; exact k.via fun _ q => XT.iushr X.here hx rfl hd rfl q
theorem g_ladd (X : Stand p l e R s m args below meth c T locs cells slots) (hx : p.tables.exec = Jvm.exec) {x y z : Int64} (hd : decode c.code pc = .ok (.ladd, 1)) (hp : pc + 1 = pc') (hz : x + y = z)
    (k : OGo p e below K T (mkF m pc' Ls (.long z :: st))) : OGo p e below K T (mkF m pc Ls (.long y :: .long x :: st)) := by
  subst hp hz; exact k.via fun _ q => XT.ladd X.here hx rfl hd rfl q
theorem g_lsub (X : Stand p l e R s m args below meth c T locs cells slots) (hx : p.tables.exec = Jvm.exec) {x y z : Int64} (hd : decode c.code pc = .ok (.lsub, 1)) (hp : pc + 1 = pc') (hz : x - y = z)
    (k : OGo p e below K T (mkF m pc' Ls (.long z :: st))) : OGo p e below K T (mkF m pc Ls (.long y :: .long x :: st)) := by
  subst hp hz; exact k.via fun _ q => XT.lsub X.here hx rfl hd rfl q
theorem g_lmul (X : Stand p l e R s m args below meth c T locs cells slots) (hx : p.tables.exec = Jvm.exec) {x y z : Int64} (hd : decode c.code pc = .ok (.lmul, 1)) (hp : pc + 1 = pc') (hz : x * y = z)
    (k : OGo p e below K T (mkF m pc' Ls (.long z :: st))) : OGo p e below K T (mkF m pc Ls (.long y :: .long x :: st)) := by
  subst hp hz; exact k.via fun _ q => XT.lmul X.here hx rfl hd rfl q
theorem g_land (X : Stand p l e R s m args below meth c T locs cells slots) (hx : p.tables.exec = Jvm.exec) {x y z : Int64} (hd : decode c.code pc = .ok (.land, 1)) (hp : pc + 1 = pc') (hz : x &&& y = z)
    (k : OGo p e below K T (mkF m pc' Ls (.long z :: st))) : OGo p e below K T (mkF m pc Ls (.long y :: .long x :: st)) := by
  subst hp hz; exact k.via fun _ q => XT.land X.here hx rfl hd rfl q
theorem g_lor (X : Stand p l e R s m args below meth c T locs cells slots) (hx : p.tables.exec = Jvm.exec) {x y z : Int64} (hd : decode c.code pc = .ok (.lor, 1)) (hp : pc + 1 = pc') (hz : x ||| y = z)
    (k : OGo p e below K T (mkF m pc' Ls (.long z :: st))) : OGo p e below K T (mkF m pc Ls (.long y :: .long x :: st)) := by
  subst hp hz; exact k.via fun _ q => XT.lor X.here hx rfl hd rfl q
theorem g_lxor (X : Stand p l e R s m args below meth c T locs cells slots) (hx : p.tables.exec = Jvm.exec) {x y z : Int64} (hd : decode c.code pc = .ok (.lxor, 1)) (hp : pc + 1 = pc') (hz : x ^^^ y = z)
    (k : OGo p e below K T (mkF m pc' Ls (.long z :: st))) : OGo p e below K T (mkF m pc Ls (.long y :: .long x :: st)) := by
  subst hp hz; exact k.via fun _ q => XT.lxor X.here hx rfl hd rfl q
theorem g_lshl (X : Stand p l e R s m args below meth c T locs cells slots) (hx : p.tables.exec = Jvm.exec) {x : Int64} {y : Int32} (hd : decode c.code pc = .ok (.lshl, 1)) (hp : pc + 1 = pc')
    (k : OGo p e below K T (mkF m pc' Ls (.long (x <<< (y.toInt64 &&& 63)) :: st))) : OGo p e below K T (mkF m pc Ls (.int y :: .long x :: st)) := by
  subst hp; exact k.via fun _ q => XT.lshl X.here hx rfl hd rfl q
theorem g_lshr (X : Stand p l e R s m args below meth c T locs cells slots) (hx : p.tables.exec = Jvm.exec) {x : Int64} {y : Int32} (hd : decode c.code pc = .ok (.lshr, 1)) (hp : pc + 1 = pc')
    (k : OGo p e below K T (mkF m pc' Ls (.long (x >>> (y.toInt64 &&& 63)) :: st))) : OGo p e below K T (mkF m pc Ls (.int y :: .long x :: st)) := by
  subst hp; exact k.via fun _ q => XT.lshr X.here hx rfl hd rfl q
theorem g_lushr (X : Stand p l e R s m args below meth c T locs cells slots) (hx : p.tables.exec = Jvm.exec) {x : Int64} {y : Int32} (hd : decode c.code pc = .ok (.lushr, 1)) (hp : pc + 1 = pc')
    (k : OGo p e below K T (mkF m pc' Ls (.long (XT.ushrL x y) :: st))) : OGo p e below K T (mkF m pc Ls (.int y :: .long x :: st)) := by
  subst hp; exact k.via fun _ q => XT.lushr X.here hx rfl hd rfl q
theorem g_idiv (X : Stand p l e R s m args below meth c T locs cells slots) (hx : p.tables.exec = Jvm.exec) {x y : Int32} (hd : decode c.code pc = .ok (.idiv, 1)) (hp : pc + 1 = pc') (hy : y ≠ 0)
    (k : OGo p e below K T (mkF m pc' Ls (.int (x / y) :: st))) : OGo p e below K T (mkF m pc Ls (.int y :: .int x :: st)) := by
  subst hp; exact k.via fun _ q => XS.idiv X.here hx rfl hd rfl hy q
theorem g_irem (X : Stand p l e R s m args below meth c T locs cells slots) (hx : p.tables.exec = Jvm.exec) {x y : Int32} (hd : decode c.code pc = .ok (.irem, 1)) (hp : pc + 1 = pc') (hy : y ≠ 0)
    (k : OGo p e below K T (mkF m pc' Ls (.int (x % y) :: st))) : OGo p e below K T (mkF m pc Ls (.int y :: .int x :: st)) := by
  subst hp; exact k.via fun _ q => iremM X hx rfl hd rfl hy q
theorem g_ldiv (X : Stand p l e R s m args below meth c T locs cells slots) (hx : p.tables.exec = Jvm.exec) {x y : Int64} (hd : decode c.code pc = .ok (.ldiv, 1)) (hp : pc + 1 = pc') (hy : y ≠ 0)
    (k : OGo p e below K T (mkF m pc' Ls (.long (x / y) :: st))) : OGo p e below K T (mkF m pc Ls (.long y :: .long x :: st)) := by
  subst hp; exact k.via fun _ q => XT.ldiv X.here hx rfl hd rfl hy q
theorem g_lrem (X : Stand p l e R s m args below meth c T locs cells slots) (hx : p.tables.exec = Jvm.exec) {x y : Int64} (hd : decode c.code pc = .ok (.lrem, 1)) (hp : pc + 1 = pc') (hy : y ≠ 0)
    (k : OGo p e below K T (mkF m pc' Ls (.long (x % y) :: st))) : OGo p e below K T (mkF m pc Ls (.long y :: .long x :: st)) := by
  subst hp; exact k.via fun _ q => XT.lrem X.here hx rfl hd rfl hy (by rw [lrem_mod]; exact q)
theorem g_ineg (X : Stand p l e R s m args below meth c T locs cells slots) (hx : p.tables.exec = Jvm.exec) {x : Int32} (hd : decode c.code pc = .ok (.ineg, 1)) (hp : pc + 1 = pc')
    (k : OGo p e below K T (mkF m pc' Ls (.int (-x) :: st))) : OGo p e below K T (mkF m pc Ls (.int x :: st)) := by
  subst hp; exact k.via fun _ q => XS.ineg X.here hx rfl hd rfl q
theorem g_lneg (X : Stand p l e R s m args below meth c T locs cells slots) (hx : p.tables.exec = Jvm.exec) {x : Int64} (hd : decode c.code pc = .ok (.lneg, 1)) (hp : pc + 1 = pc')
    (k : OGo p e below K T (mkF m pc' Ls (.long (-x) :: st))) : OGo p e below K T (mkF m pc Ls (.long x :: st)) := by
  subst hp; exact k.via fun _ q => XT.lneg X.here hx rfl hd rfl q
theorem g_i2l (X : Stand p l e R s m args below meth c T locs cells slots) (hx : p.tables.exec = Jvm.exec) {x : Int32} (hd : decode c.code pc = .ok (.i2l, 1)) (hp : pc + 1 = pc')
    (k : OGo p e below K T (mkF m pc' Ls (.long x.toInt64 :: st))) : OGo p e below K T (mkF m pc Ls (.int x :: st)) := by
  subst hp; exact k.via fun _ q => XT.i2l X.here hx rfl hd rfl q
theorem g_l2i (X : Stand p l e R s m args below meth c T locs cells slots) (hx : p.tables.exec = Jvm.exec) {x : Int64} (hd : decode c.code pc = .ok (.l2i, 1)) (hp : pc + 1 = pc')
    (k : OGo p e below K T (mkF m pc' Ls (.int x.toInt32 :: st))) : OGo p e below K T (mkF m pc Ls (.long x :: st)) := by
  subst hp; exact k.via fun _ q => XT.l2i X.here hx rfl hd rfl q
theorem g_i2b (X : Stand p l e R s m args below meth c T locs cells slots) (hx : p.tables.exec = Jvm.exec) {x : Int32} (hd : decode c.code pc = .ok (.i2b, 1)) (hp : pc + 1 = pc')
    (k : OGo p e below K T (mkF m pc' Ls (.int x.toInt8.toInt32 :: st))) : OGo p e below K T (mkF m pc Ls (.int x :: st)) := by
  subst hp; exact k.via fun _ q => XT.i2b X.here hx rfl hd rfl q
theorem g_i2c (X : Stand p l e R s m args below meth c T locs cells slots) (hx : p.tables.exec = Jvm.exec) {x : Int32} (hd : decode c.code pc = .ok (.i2c, 1)) (hp : pc + 1 = pc')
    (k : OGo p e below K T (mkF m pc' Ls (.int x.toUInt32.toUInt16.toUInt32.toInt32 :: st))) : OGo p e below K T (mkF m pc Ls (.int x :: st)) := by
  subst hp; exact k.via fun _ q => XT.i2c X.here hx rfl hd rfl q
theorem g_i2s (X : Stand p l e R s m args below meth c T locs cells slots) (hx : p.tables.exec = Jvm.exec) {x : Int32} (hd : decode c.code pc = .ok (.i2s, 1)) (hp : pc + 1 = pc')
    (k : OGo p e below K T (mkF m pc' Ls (.int x.toInt16.toInt32 :: st))) : OGo p e below K T (mkF m pc Ls (.int x :: st)) := by
  subst hp; exact k.via fun _ q => XT.i2s X.here hx rfl hd rfl q
theorem g_lcmp (X : Stand p l e R s m args below meth c T locs cells slots) (hx : p.tables.exec = Jvm.exec) {x y : Int64} (hd : decode c.code pc = .ok (.lcmp, 1)) (hp : pc + 1 = pc')
    (k : OGo p e below K T (mkF m pc' Ls (.int (XT.cmpL x y) :: st))) : OGo p e below K T (mkF m pc Ls (.long y :: .long x :: st)) := by
  subst hp; exact k.via fun _ q => XT.lcmp X.here hx rfl hd rfl q
theorem g_dup (X : Stand p l e R s m args below meth c T locs cells slots) (hx : p.tables.exec = Jvm.exec) {x : Value} (hd : decode c.code pc = .ok (.dup, 1)) (hp : pc + 1 = pc') (hc : x.category = 1)
    (k : OGo p e below K T (mkF m pc' Ls (x :: x :: st))) : OGo p e below K T (mkF m pc Ls (x :: st)) := by
  subst hp; exact k.via fun _ q => XS.dup X.here hx rfl hd rfl hc q
theorem g_pop (X : Stand p l e R s m args below meth c T locs cells slots) (hx : p.tables.exec = Jvm.exec) {x : Value} (hd : decode c.code pc = .ok (.pop, 1)) (hp : pc + 1 = pc') (hc : x.category = 1)
    (k : OGo p e below K T (mkF m pc' Ls (st))) : OGo p e below K T (mkF m pc Ls (x :: st)) := by
  subst hp; exact k.via fun _ q => XT.pop X.here hx rfl hd rfl hc q
theorem g_dupx1 (X : Stand p l e R s m args below meth c T locs cells slots) (hx : p.tables.exec = Jvm.exec) {x y : Value} (hd : decode c.code pc = .ok (.dup_x1, 1)) (hp : pc + 1 = pc') (hc : x.category = 1) (hc' : y.category = 1)
    (k : OGo p e below K T (mkF m pc' Ls (x :: y :: x :: st))) : OGo p e below K T (mkF m pc Ls (x :: y :: st)) := by
  subst hp; exact k.via fun _ q => XT.dupX1 X.here hx rfl hd rfl hc hc' q
theorem g_dup2 (X : Stand p l e R s m args below meth c T locs cells slots) (hx : p.tables.exec = Jvm.exec) {x y : Value} (hd : decode c.code pc = .ok (.dup2, 1)) (hp : pc + 1 = pc') (hc : x.category = 1) (hc' : y.category = 1)
    (k : OGo p e below K T (mkF m pc' Ls (x :: y :: x :: y :: st))) : OGo p e below K T (mkF m pc Ls (x :: y :: st)) := by
  subst hp; exact k.via fun _ q => XT.dup2 X.here hx rfl hd rfl hc hc' q
theorem g_dup2L (X : Stand p l e R s m args below meth c T locs cells slots) (hx : p.tables.exec = Jvm.exec) {x : Int64} (hd : decode c.code pc = .ok (.dup2, 1)) (hp : pc + 1 = pc')
    (k : OGo p e below K T (mkF m pc' Ls (.long x :: .long x :: st))) : OGo p e below K T (mkF m pc Ls (.long x :: st)) := by
  subst hp; exact k.via fun _ q => XT.dup2L X.here hx rfl hd rfl q
theorem g_iinc (X : Stand p l e R s m args below meth c T locs cells slots) (hx : p.tables.exec = Jvm.exec) {k : Nat} {cst : Int} {x z : Int32} {Ls' : Array Slot} (v : Int32) (hd : decode c.code pc = .ok (.iinc k cst, 3)) (hp : pc + 3 = pc') (hv : Int32.ofInt cst = v) (hl : Ls[k]? = some (.val (.int x))) (hs : x + v = z) (hl' : storeLocals Ls k (.int z) = some Ls')
    (k : OGo p e below K T (mkF m pc' Ls' st)) : OGo p e below K T (mkF m pc Ls st) := by
  subst hp hs; exact k.via fun _ q => XT.iincV X.here hx rfl v hd hv hl hl' q
theorem g_ifY (X : Stand p l e R s m args below meth c T locs cells slots) (hx : p.tables.exec = Jvm.exec) {cd : ClassFile.Cond} {x : Int32} {o : Int} (hd : decode c.code pc = .ok (.ifCond cd o, 3)) (hc : ifCond.holds cd x = true) (ho : 0 ≤ (pc : Int) + o) (hp : ((pc : Int) + o).toNat = pc')
    (k : OGo p e below K T (mkF m pc' Ls st)) : OGo p e below K T (mkF m pc Ls (.int x :: st)) := k.via fun _ q => XS.ifYes X.here hx rfl rfl hd rfl hc ho hp q
theorem g_ifN (X : Stand p l e R s m args below meth c T locs cells slots) (hx : p.tables.exec = Jvm.exec) {cd : ClassFile.Cond} {x : Int32} {o : Int} (hd : decode c.code pc = .ok (.ifCond cd o, 3)) (hc : ifCond.holds cd x = false) (hp : pc + 3 = pc')
    (k : OGo p e below K T (mkF m pc' Ls st)) : OGo p e below K T (mkF m pc Ls (.int x :: st)) := by
  subst hp; exact k.via fun _ q => XS.ifNo X.here hx rfl hd rfl hc q
theorem g_icmpY (X : Stand p l e R s m args below meth c T locs cells slots) (hx : p.tables.exec = Jvm.exec) {cd : ClassFile.Cond} {x y : Int32} {o : Int} (hd : decode c.code pc = .ok (.if_icmp cd o, 3)) (hc : if_icmp.holds cd x y = true) (ho : 0 ≤ (pc : Int) + o) (hp : ((pc : Int) + o).toNat = pc')
    (k : OGo p e below K T (mkF m pc' Ls st)) : OGo p e below K T (mkF m pc Ls (.int y :: .int x :: st)) := k.via fun _ q => XS.icmpYes X.here hx rfl rfl hd rfl hc ho hp q
theorem g_icmpN (X : Stand p l e R s m args below meth c T locs cells slots) (hx : p.tables.exec = Jvm.exec) {cd : ClassFile.Cond} {x y : Int32} {o : Int} (hd : decode c.code pc = .ok (.if_icmp cd o, 3)) (hc : if_icmp.holds cd x y = false) (hp : pc + 3 = pc')
    (k : OGo p e below K T (mkF m pc' Ls st)) : OGo p e below K T (mkF m pc Ls (.int y :: .int x :: st)) := by
  subst hp; exact k.via fun _ q => XS.icmpNo X.here hx rfl hd rfl hc q
theorem g_acmpY (X : Stand p l e R s m args below meth c T locs cells slots) (hx : p.tables.exec = Jvm.exec) {cd : ClassFile.ACond} {x y : Value} {o : Int} (hd : decode c.code pc = .ok (.if_acmp cd o, 3)) (hx1 : x.isRef = true) (hy1 : y.isRef = true) (hc : XT.acmp cd x y = true) (ho : 0 ≤ (pc : Int) + o) (hp : ((pc : Int) + o).toNat = pc')
    (k : OGo p e below K T (mkF m pc' Ls st)) : OGo p e below K T (mkF m pc Ls (y :: x :: st)) := k.via fun _ q => XT.acmpYes X.here hx rfl rfl hd rfl hx1 hy1 hc ho hp q
theorem g_acmpN (X : Stand p l e R s m args below meth c T locs cells slots) (hx : p.tables.exec = Jvm.exec) {cd : ClassFile.ACond} {x y : Value} {o : Int} (hd : decode c.code pc = .ok (.if_acmp cd o, 3)) (hx1 : x.isRef = true) (hy1 : y.isRef = true) (hc : XT.acmp cd x y = false) (hp : pc + 3 = pc')
    (k : OGo p e below K T (mkF m pc' Ls st)) : OGo p e below K T (mkF m pc Ls (y :: x :: st)) := by
  subst hp; exact k.via fun _ q => XT.acmpNo X.here hx rfl hd rfl hx1 hy1 hc q
theorem g_nullY (X : Stand p l e R s m args below meth c T locs cells slots) (hx : p.tables.exec = Jvm.exec) {o : Int} (hd : decode c.code pc = .ok (.ifnull o, 3)) (ho : 0 ≤ (pc : Int) + o) (hp : ((pc : Int) + o).toNat = pc')
    (k : OGo p e below K T (mkF m pc' Ls st)) : OGo p e below K T (mkF m pc Ls (.null :: st)) := k.via fun _ q => XS.ifnullYes X.here hx rfl rfl hd rfl ho hp q
theorem g_nullN (X : Stand p l e R s m args below meth c T locs cells slots) (hx : p.tables.exec = Jvm.exec) {o : Int} {a : Addr} (hd : decode c.code pc = .ok (.ifnull o, 3)) (hp : pc + 3 = pc')
    (k : OGo p e below K T (mkF m pc' Ls st)) : OGo p e below K T (mkF m pc Ls (.ref a :: st)) := by
  subst hp; exact k.via fun _ q => XS.ifnullNo X.here hx rfl hd rfl q
theorem g_nonnullY (X : Stand p l e R s m args below meth c T locs cells slots) (hx : p.tables.exec = Jvm.exec) {o : Int} {a : Addr} (hd : decode c.code pc = .ok (.ifnonnull o, 3)) (ho : 0 ≤ (pc : Int) + o) (hp : ((pc : Int) + o).toNat = pc')
    (k : OGo p e below K T (mkF m pc' Ls st)) : OGo p e below K T (mkF m pc Ls (.ref a :: st)) := k.via fun _ q => XT.ifnonnullYes X.here hx rfl rfl hd rfl ho hp q
theorem g_nonnullN (X : Stand p l e R s m args below meth c T locs cells slots) (hx : p.tables.exec = Jvm.exec) {o : Int} (hd : decode c.code pc = .ok (.ifnonnull o, 3)) (hp : pc + 3 = pc')
    (k : OGo p e below K T (mkF m pc' Ls st)) : OGo p e below K T (mkF m pc Ls (.null :: st)) := by
  subst hp; exact k.via fun _ q => XT.ifnonnullNo X.here hx rfl hd rfl q
theorem g_goto (X : Stand p l e R s m args below meth c T locs cells slots) (hx : p.tables.exec = Jvm.exec) {o : Int} (hd : decode c.code pc = .ok (.goto o, 3)) (ho : 0 ≤ (pc : Int) + o) (hp : ((pc : Int) + o).toNat = pc')
    (k : OGo p e below K T (mkF m pc' Ls st)) : OGo p e below K T (mkF m pc Ls st) := k.via fun _ q => XS.goto X.here hx rfl rfl hd ho hp q
theorem g_len (X : Stand p l e R s m args below meth c T locs cells slots) (hx : p.tables.exec = Jvm.exec) (hZ : Z.Warmed39 s.vm) (eT : T.heap = h) {a : Addr} {kk : ClassId} {ty : FieldType} {vs : List Value} (F : OAry Z h a kk ty vs) {z : Int32} (hz : vs.length.toInt32 = z) (hd : decode c.code pc = .ok (.arraylength, 1)) (hp : pc + 1 = pc')
    (k : OGo p e below K T (mkF m pc' Ls (.int z :: st))) : OGo p e below K T (mkF m pc Ls (.ref a :: st)) := by
  subst hp hz
  obtain ⟨cl, A, r1, rfl, -⟩ := F
  refine k.via fun t q => X.arraylength hx (cell := cl) (a := a) (by rw [eT]; exact A.1) (State.isArrayOf_alike hZ.alike A.2.1) (g := mkF m pc Ls (.ref a :: st)) rfl (rest := st) rfl hd t ?_
  simpa using q
theorem g_iaload (X : Stand p l e R s m args below meth c T locs cells slots) (hx : p.tables.exec = Jvm.exec) (hZ : Z.Warmed39 s.vm) (eT : T.heap = h) {a : Addr} {kk : ClassId} {vs : List Value} (F : OAry Z h a kk .int vs) {j : Int32} {v : Value} (hj : ¬ j < 0) (hv : vs[j.toNatClampNeg]? = some v) (hd : decode c.code pc = .ok (.iaload, 1)) (hp : pc + 1 = pc')
    (k : OGo p e below K T (mkF m pc' Ls (v :: st))) : OGo p e below K T (mkF m pc Ls (.int j :: .ref a :: st)) := by
  subst hp
  obtain ⟨cl, A, r1, r2, -⟩ := F
  exact k.via fun t q => X.iaload hx (cell := cl) (a := a) (j := j) (v := v) (by rw [eT]; exact A.1) (State.isArrayOf_alike hZ.alike A.2.1) A.2.2 (aryIn r2 hj hv).1 (aryIn r2 hj hv).2 (g := mkF m pc Ls (.int j :: .ref a :: st)) rfl (rest := st) rfl hd t q
theorem g_laload (X : Stand p l e R s m args below meth c T locs cells slots) (hx : p.tables.exec = Jvm.exec) (hZ : Z.Warmed39 s.vm) (eT : T.heap = h) {a : Addr} {kk : ClassId} {vs : List Value} (F : OAry Z h a kk .long vs) {j : Int32} {v : Value} (hj : ¬ j < 0) (hv : vs[j.toNatClampNeg]? = some v) (hd : decode c.code pc = .ok (.laload, 1)) (hp : pc + 1 = pc')
    (k : OGo p e below K T (mkF m pc' Ls (v :: st))) : OGo p e below K T (mkF m pc Ls (.int j :: .ref a :: st)) := by
  subst hp
  obtain ⟨cl, A, r1, r2, -⟩ := F
  exact k.via fun t q => X.laload hx (cell := cl) (a := a) (j := j) (v := v) (by rw [eT]; exact A.1) (State.isArrayOf_alike hZ.alike A.2.1) A.2.2 (aryIn r2 hj hv).1 (aryIn r2 hj hv).2 (g := mkF m pc Ls (.int j :: .ref a :: st)) rfl (rest := st) rfl hd t q
theorem g_caload (X : Stand p l e R s m args below meth c T locs cells slots) (hx : p.tables.exec = Jvm.exec) (hZ : Z.Warmed39 s.vm) (eT : T.heap = h) {a : Addr} {kk : ClassId} {vs : List Value} (F : OAry Z h a kk .char vs) {j : Int32} {v : Value} (hj : ¬ j < 0) (hv : vs[j.toNatClampNeg]? = some v) (hd : decode c.code pc = .ok (.caload, 1)) (hp : pc + 1 = pc')
    (k : OGo p e below K T (mkF m pc' Ls (v :: st))) : OGo p e below K T (mkF m pc Ls (.int j :: .ref a :: st)) := by
  subst hp
  obtain ⟨cl, A, r1, r2, -⟩ := F
  exact k.via fun t q => X.caload hx (cell := cl) (a := a) (j := j) (v := v) (by rw [eT]; exact A.1) (State.isArrayOf_alike hZ.alike A.2.1) A.2.2 (aryIn r2 hj hv).1 (aryIn r2 hj hv).2 (g := mkF m pc Ls (.int j :: .ref a :: st)) rfl (rest := st) rfl hd t q
theorem g_baload (X : Stand p l e R s m args below meth c T locs cells slots) (hx : p.tables.exec = Jvm.exec) (hZ : Z.Warmed39 s.vm) (eT : T.heap = h) {a : Addr} {kk : ClassId} {vs : List Value} (F : OAry Z h a kk .byte vs) {j : Int32} {v : Value} (hj : ¬ j < 0) (hv : vs[j.toNatClampNeg]? = some v) (hd : decode c.code pc = .ok (.baload, 1)) (hp : pc + 1 = pc')
    (k : OGo p e below K T (mkF m pc' Ls (v :: st))) : OGo p e below K T (mkF m pc Ls (.int j :: .ref a :: st)) := by
  subst hp
  obtain ⟨cl, A, r1, r2, -⟩ := F
  exact k.via fun t q => X.baloadBytes hx (cell := cl) (a := a) (j := j) (v := v) (by rw [eT]; exact A.1) (State.isArrayOf_alike hZ.alike A.2.1) A.2.2 (aryIn r2 hj hv).1 (aryIn r2 hj hv).2 (g := mkF m pc Ls (.int j :: .ref a :: st)) rfl (rest := st) rfl hd t q
theorem g_zaload (X : Stand p l e R s m args below meth c T locs cells slots) (hx : p.tables.exec = Jvm.exec) (hZ : Z.Warmed39 s.vm) (eT : T.heap = h) {a : Addr} {kk : ClassId} {vs : List Value} (F : OAry Z h a kk .boolean vs) {j : Int32} {v : Value} (hj : ¬ j < 0) (hv : vs[j.toNatClampNeg]? = some v) (hd : decode c.code pc = .ok (.baload, 1)) (hp : pc + 1 = pc')
    (k : OGo p e below K T (mkF m pc' Ls (v :: st))) : OGo p e below K T (mkF m pc Ls (.int j :: .ref a :: st)) := by
  subst hp
  obtain ⟨cl, A, r1, r2, -⟩ := F
  exact k.via fun t q => X.baloadBooleans hx (cell := cl) (a := a) (j := j) (v := v) (by rw [eT]; exact A.1) (State.isArrayOf_alike hZ.alike A.2.1) A.2.2 (aryIn r2 hj hv).1 (aryIn r2 hj hv).2 (g := mkF m pc Ls (.int j :: .ref a :: st)) rfl (rest := st) rfl hd t q
theorem g_saload (X : Stand p l e R s m args below meth c T locs cells slots) (hx : p.tables.exec = Jvm.exec) (hZ : Z.Warmed39 s.vm) (eT : T.heap = h) {a : Addr} {kk : ClassId} {vs : List Value} (F : OAry Z h a kk .short vs) {j : Int32} {v : Value} (hj : ¬ j < 0) (hv : vs[j.toNatClampNeg]? = some v) (hd : decode c.code pc = .ok (.saload, 1)) (hp : pc + 1 = pc')
    (k : OGo p e below K T (mkF m pc' Ls (v :: st))) : OGo p e below K T (mkF m pc Ls (.int j :: .ref a :: st)) := by
  subst hp
  obtain ⟨cl, A, r1, r2, -⟩ := F
  exact k.via fun t q => X.saload hx (cell := cl) (a := a) (j := j) (v := v) (by rw [eT]; exact A.1) (State.isArrayOf_alike hZ.alike A.2.1) A.2.2 (aryIn r2 hj hv).1 (aryIn r2 hj hv).2 (g := mkF m pc Ls (.int j :: .ref a :: st)) rfl (rest := st) rfl hd t q
theorem g_aaload (X : Stand p l e R s m args below meth c T locs cells slots) (hx : p.tables.exec = Jvm.exec) (hZ : Z.Warmed39 s.vm) (eT : T.heap = h) {a : Addr} {kk : ClassId} {ty : FieldType} {vs : List Value} (F : OAry Z h a kk ty vs) (hty : ty.isReference = true) {j : Int32} {v : Value} (hj : ¬ j < 0) (hv : vs[j.toNatClampNeg]? = some v) (hd : decode c.code pc = .ok (.aaload, 1)) (hp : pc + 1 = pc')
    (k : OGo p e below K T (mkF m pc' Ls (v :: st))) : OGo p e below K T (mkF m pc Ls (.int j :: .ref a :: st)) := by
  subst hp
  obtain ⟨cl, A, r1, r2, -⟩ := F
  exact k.via fun t q => X.aaload hx (cell := cl) (a := a) (j := j) (v := v) (by rw [eT]; exact A.1) (State.isArrayOf_alike hZ.alike A.2.1) hty A.2.2 (aryIn r2 hj hv).1 (aryIn r2 hj hv).2 (g := mkF m pc Ls (.int j :: .ref a :: st)) rfl (rest := st) rfl hd t q
theorem g_iastore (X : Stand p l e R s m args below meth c T locs cells slots) (hx : p.tables.exec = Jvm.exec) (hZ : Z.Warmed39 s.vm) (eT : T.heap = h) {a : Addr} {kk : ClassId} {vs vs' : List Value} (F : OAry Z h a kk .int vs) {j : Int32} {u : Value} {x : Int32} (hj : ¬ j < 0) (hv : vs[j.toNatClampNeg]? = some u) (hvs : vs.set j.toNatClampNeg (.int x) = vs') (P : OPr h0 ws h locs) (q : a ∈ ws ∨ h0.size ≤ a) (hd : decode c.code pc = .ok (.iastore, 1)) (hp : pc + 1 = pc')
    (k : ∀ T' h', Stand p l e R s m args below meth c T' (locs ++ [⟨a, j.toNatClampNeg⟩]) cells slots → T'.heap = h' → Wr h h' a j.toNatClampNeg (.int x) → OPr h0 ws h' (locs ++ [⟨a, j.toNatClampNeg⟩]) → OAry Z h' a kk .int vs' → OGo p e below K T' (mkF m pc' Ls st)) : OGo p e below K T (mkF m pc Ls (.int x :: .int j :: .ref a :: st)) := by
  subst hp
  obtain ⟨cl, A, r1, r2, r3⟩ := F
  obtain ⟨T', h', X', e', W', r⟩ := stI X hx hZ eT A (aryIn r2 hj hv).1 (g := mkF m pc Ls (.int x :: .int j :: .ref a :: st)) rfl rfl hd
  exact (k T' h' X' e' W' (P.wr W' q) (arySet ⟨cl, A, r1, r2, r3⟩ W' rfl hvs)).via r
theorem g_lastore (X : Stand p l e R s m args below meth c T locs cells slots) (hx : p.tables.exec = Jvm.exec) (hZ : Z.Warmed39 s.vm) (eT : T.heap = h) {a : Addr} {kk : ClassId} {vs vs' : List Value} (F : OAry Z h a kk .long vs) {j : Int32} {u : Value} {x : Int64} (hj : ¬ j < 0) (hv : vs[j.toNatClampNeg]? = some u) (hvs : vs.set j.toNatClampNeg (.long x) = vs') (P : OPr h0 ws h locs) (q : a ∈ ws ∨ h0.size ≤ a) (hd : decode c.code pc = .ok (.lastore, 1)) (hp : pc + 1 = pc')
    (k : ∀ T' h', Stand p l e R s m args below meth c T' (locs ++ [⟨a, j.toNatClampNeg⟩]) cells slots → T'.heap = h' → Wr h h' a j.toNatClampNeg (.long x) → OPr h0 ws h' (locs ++ [⟨a, j.toNatClampNeg⟩]) → OAry Z h' a kk .long vs' → OGo p e below K T' (mkF m pc' Ls st)) : OGo p e below K T (mkF m pc Ls (.long x :: .int j :: .ref a :: st)) := by
  subst hp
  obtain ⟨cl, A, r1, r2, r3⟩ := F
  obtain ⟨T', h', X', e', W', r⟩ := stJ X hx hZ eT A (aryIn r2 hj hv).1 (g := mkF m pc Ls (.long x :: .int j :: .ref a :: st)) rfl rfl hd
  exact (k T' h' X' e' W' (P.wr W' q) (arySet ⟨cl, A, r1, r2, r3⟩ W' rfl hvs)).via r
theorem g_aastore (X : Stand p l e R s m args below meth c T locs cells slots) (hx : p.tables.exec = Jvm.exec) (hZ : Z.Warmed39 s.vm) (eT : T.heap = h) {a : Addr} {kk : ClassId} {ty : FieldType} {vs vs' : List Value} (F : OAry Z h a kk ty vs) (hty : ty.isReference = true) {j : Int32} {u x : Value} (hj : ¬ j < 0) (hv : vs[j.toNatClampNeg]? = some u) (hvs : vs.set j.toNatClampNeg x = vs') (hf : fits ty x = true) (S : Sto Z h a x) (P : OPr h0 ws h locs) (q : a ∈ ws ∨ h0.size ≤ a) (hd : decode c.code pc = .ok (.aastore, 1)) (hp : pc + 1 = pc')
    (k : ∀ T' h', Stand p l e R s m args below meth c T' (locs ++ [⟨a, j.toNatClampNeg⟩]) cells slots → T'.heap = h' → Wr h h' a j.toNatClampNeg x → OPr h0 ws h' (locs ++ [⟨a, j.toNatClampNeg⟩]) → OAry Z h' a kk ty vs' → OGo p e below K T' (mkF m pc' Ls st)) : OGo p e below K T (mkF m pc Ls (x :: .int j :: .ref a :: st)) := by
  subst hp
  obtain ⟨cl, A, r1, r2, r3⟩ := F
  obtain ⟨T', h', X', e', W', r⟩ := stR X hx hZ eT A (aryIn r2 hj hv).1 hty S (g := mkF m pc Ls (x :: .int j :: .ref a :: st)) rfl rfl hd
  exact (k T' h' X' e' W' (P.wr W' q) (arySet ⟨cl, A, r1, r2, r3⟩ W' hf hvs)).via r
theorem fit0 (ty : FieldType) : fits ty (defaultValue ty) = true := by cases ty <;> rfl
theorem stoOf {a y : Addr} {kk : ClassId} {ty : FieldType} {vs : List Value} {C : String} (F : OAry Z h a kk ty vs) (O : Ovr Z kk C) (I : Ins Z h y C true) : Sto Z h a (.ref y) := by
  obtain ⟨cl, A, r1, -⟩ := F; exact Sto.ofV A r1 O I
theorem g_newarray (X : Stand p l e R s m args below meth c T locs cells slots) (hx : p.tables.exec = Jvm.exec) (hZ : Z.Warmed39 s.vm) {aty : ArrayType} {ad : String} (had : "[" ++ (newarray.typeOf aty).toString = ad) (w : (Jvm.Cond.arrayClass (newarray.typeOf aty)).before a0 Z = true) (eT : T.heap = h) {n : Int32} {vs : List Value} (hn : ¬ n < 0) (hvs : List.replicate n.toNatClampNeg (defaultValue (newarray.typeOf aty)) = vs) {cap : Nat} (hcap : n.toNatClampNeg ≤ cap) (hb : cap * 8 ≤ 536870912) (P : OPr h0 ws h locs)  (hd : decode c.code pc = .ok (.newarray aty, 2)) (hp : pc + 2 = pc') (hc : cells + 1 ≤ R.cells) (hl : slots + cap ≤ R.slots)
    (k : ∀ T' h' a kk, a = h.size → h0.size ≤ a → Stand p l e R s m args below meth c T' locs (cells + 1) (slots + cap) → T'.heap = h' → Ext h h' → OPr h0 ws h' locs → OAry Z h' a kk (newarray.typeOf aty) vs → Exa Z h' a ad → OGo p e below K T' (mkF m pc' Ls (.ref a :: st))) : OGo p e below K T (mkF m pc Ls (.int n :: st)) := by
  subst hp hvs had
  have hcb : componentBytes (newarray.typeOf aty) ≤ 8 := by cases aty <;> decide
  obtain ⟨cA, kA, comp, h1, h2, h3, X', r⟩ := X.newarrayPrim hx (mvA hZ w) (g := mkF m pc Ls (.int n :: st)) rfl hd rfl hn (Nat.le_trans (Nat.mul_le_mul hcap hcb) hb) hc (by omega)
  subst eT
  rw [hZ.alike.findClass] at h1
  obtain ⟨kZ, z1, -⟩ := Vm.findClass_spec h1
  obtain ⟨k', z2, z3⟩ := hZ.alike.2.2 _ _ z1
  cases h2.symm.trans z2
  have kk : kZ.kind = .array comp (newarray.typeOf aty) := by rw [← h3, z3]
  have hN : (T.heap.push (newA cA (newarray.typeOf aty) n))[T.heap.size]? = some (newA cA (newarray.typeOf aty) n) := by simp
  have A' : Arr Z (T.heap.push (newA cA (newarray.typeOf aty) n)) T.heap.size (newA cA (newarray.typeOf aty) n) (newarray.typeOf aty) := ⟨hN, ⟨by simp [newA], kZ, z1, comp, kk⟩, by simp [newA]⟩
  have E' : Ext T.heap (T.heap.push (newA cA (newarray.typeOf aty) n)) := ext_of fun a q => Array.getElem?_push_lt q |>.trans (Array.getElem?_eq_getElem q).symm
  refine (k _ _ T.heap.size cA rfl P.1.1 (X'.more (Nat.le_refl _) (by omega)) rfl E' (P.ext E') ⟨_, A', rfl, by simp [newA], by have := (back32 hn).2; simpa using this, fun v hv => ?_⟩ (exa_arr A' h1 rfl)).via r
  rw [(List.mem_replicate.mp hv).2]; exact fit0 _
theorem g_anewarray (X : Stand p l e R s m args below meth c T locs cells slots) (hx : p.tables.exec = Jvm.exec) (hZ : Z.Warmed39 s.vm) (hown : s.vm.findClass own = some m.cls) {C : String} {index : Nat} (w1 : (Jvm.Cond.classLink own index C).before a0 Z = true) (w2 : (Jvm.Cond.arrayOver (.object C)).before a0 Z = true) {ad : String} (had : "[" ++ (FieldType.object C).toString = ad) (eT : T.heap = h) {n : Int32} {vs : List Value} (hn : ¬ n < 0) (hvs : List.replicate n.toNatClampNeg Value.null = vs) {cap : Nat} (hcap : n.toNatClampNeg ≤ cap) (hb : cap * 8 ≤ 536870912) (P : OPr h0 ws h locs) (hd : decode c.code pc = .ok (.anewarray index, 3)) (hp : pc + 3 = pc') (hc : cells + 1 ≤ R.cells) (hl : slots + cap ≤ R.slots)
    (k : ∀ T' h' a kk, a = h.size → h0.size ≤ a → Stand p l e R s m args below meth c T' locs (cells + 1) (slots + cap) → T'.heap = h' → Ext h h' → OPr h0 ws h' locs → OAry Z h' a kk (.object C) vs → Ovr Z kk C → Exa Z h' a ad → OGo p e below K T' (mkF m pc' Ls (.ref a :: st))) : OGo p e below K T (mkF m pc Ls (.int n :: st)) := by
  subst hp hvs
  obtain ⟨T', h', cA, X', e', E', A', B', O', r⟩ := newRE X hx hZ hown w1 w2 eT (g := mkF m pc Ls (.int n :: st)) rfl hd rfl hn hcap hb hc hl had
  refine (k T' h' h.size cA rfl P.1.1 X' e' E' (P.ext E') ⟨_, A', rfl, by simp [newA, defaultValue], by have := (back32 hn).2; simpa using this, fun v hv => ?_⟩ O' B').via r
  rw [(List.mem_replicate.mp hv).2]; rfl
theorem g_anewarrayA (X : Stand p l e R s m args below meth c T locs cells slots) (hx : p.tables.exec = Jvm.exec) (hZ : Z.Warmed39 s.vm) (hown : s.vm.findClass own = some m.cls) {C : String} {ty : FieldType} {index : Nat} (hC : (FieldType.array ty).toString = C) (w1 : (Jvm.Cond.classLink own index C).before a0 Z = true) (w2 : (Jvm.Cond.arrayOver (.array ty)).before a0 Z = true) {ad : String} (had : "[" ++ C = ad) (eT : T.heap = h) {n : Int32} {vs : List Value} (hn : ¬ n < 0) (hvs : List.replicate n.toNatClampNeg Value.null = vs) {cap : Nat} (hcap : n.toNatClampNeg ≤ cap) (hb : cap * 8 ≤ 536870912) (P : OPr h0 ws h locs) (hd : decode c.code pc = .ok (.anewarray index, 3)) (hp : pc + 3 = pc') (hc : cells + 1 ≤ R.cells) (hl : slots + cap ≤ R.slots)
    (k : ∀ T' h' a kk, a = h.size → h0.size ≤ a → Stand p l e R s m args below meth c T' locs (cells + 1) (slots + cap) → T'.heap = h' → Ext h h' → OPr h0 ws h' locs → OAry Z h' a kk (.array ty) vs → OvrA Z kk ty C → OGo p e below K T' (mkF m pc' Ls (.ref a :: st))) : OGo p e below K T (mkF m pc Ls (.int n :: st)) := by
  subst hp hvs
  obtain ⟨T', h', cA, X', e', E', A', -, O', r⟩ := newRA X hx hZ hown hC w1 w2 eT (g := mkF m pc Ls (.int n :: st)) rfl hd rfl hn hcap hb hc hl had
  refine (k T' h' h.size cA rfl P.1.1 X' e' E' (P.ext E') ⟨_, A', rfl, by simp [newA, defaultValue], by have := (back32 hn).2; simpa using this, fun v hv => ?_⟩ O').via r
  rw [(List.mem_replicate.mp hv).2]; rfl
theorem stoOfA {a y : Addr} {kk : ClassId} {t0 ty : FieldType} {vs : List Value} {C : String} (F : OAry Z h a kk t0 vs) (O : OvrA Z kk ty C) (I : Ins Z h y C true) : Sto Z h a (.ref y) := by
  obtain ⟨cl, A, r1, -⟩ := F; exact Sto.ofVA A r1 O I
theorem g_castN (X : Stand p l e R s m args below meth c T locs cells slots) (hx : p.tables.exec = Jvm.exec) {index : Nat} (hd : decode c.code pc = .ok (.checkcast index, 3)) (hp : pc + 3 = pc')
    (k : OGo p e below K T (mkF m pc' Ls (.null :: st))) : OGo p e below K T (mkF m pc Ls (.null :: st)) := by
  subst hp; exact k.via fun t q => X.checkcastNull hx (g := mkF m pc Ls (.null :: st)) rfl rfl hd t q
theorem g_instN0 (X : Stand p l e R s m args below meth c T locs cells slots) (hx : p.tables.exec = Jvm.exec) {index : Nat} (hd : decode c.code pc = .ok (.instanceof index, 3)) (hp : pc + 3 = pc')
    (k : OGo p e below K T (mkF m pc' Ls (.int 0 :: st))) : OGo p e below K T (mkF m pc Ls (.null :: st)) := by
  subst hp; exact k.via fun t q => X.instanceofNull hx (g := mkF m pc Ls (.null :: st)) rfl rfl hd t q
theorem g_cast (X : Stand p l e R s m args below meth c T locs cells slots) (hx : p.tables.exec = Jvm.exec) (hZ : Z.Warmed39 s.vm) (hown : s.vm.findClass own = some m.cls) {Kc : String} {index : Nat} (w : (Jvm.Cond.classLink own index Kc).before a0 Z = true) (eT : T.heap = h) {a : Addr} (F : Ins Z h a Kc true) (hd : decode c.code pc = .ok (.checkcast index, 3)) (hp : pc + 3 = pc')
    (k : ∀ T', Stand p l e R s m args below meth c T' locs cells slots → T'.heap = h → OGo p e below K T' (mkF m pc' Ls (.ref a :: st))) : OGo p e below K T (mkF m pc Ls (.ref a :: st)) := by
  subst hp
  obtain ⟨T', X', e', q⟩ := castY X hx hZ hown w eT F (g := mkF m pc Ls (.ref a :: st)) rfl rfl hd
  exact (k T' X' e').via q
theorem g_instY (X : Stand p l e R s m args below meth c T locs cells slots) (hx : p.tables.exec = Jvm.exec) (hZ : Z.Warmed39 s.vm) (hown : s.vm.findClass own = some m.cls) {Kc : String} {index : Nat} (w : (Jvm.Cond.classLink own index Kc).before a0 Z = true) (eT : T.heap = h) {a : Addr} (F : Ins Z h a Kc true) (hd : decode c.code pc = .ok (.instanceof index, 3)) (hp : pc + 3 = pc')
    (k : ∀ T', Stand p l e R s m args below meth c T' locs cells slots → T'.heap = h → OGo p e below K T' (mkF m pc' Ls (.int 1 :: st))) : OGo p e below K T (mkF m pc Ls (.ref a :: st)) := by
  subst hp
  obtain ⟨T', X', e', q⟩ := instY X hx hZ hown w eT F (g := mkF m pc Ls (.ref a :: st)) rfl rfl hd
  exact (k T' X' e').via q

theorem g_clone (X : Stand p l e R s m args below meth c T locs cells slots) (hx : p.tables.exec = Jvm.exec) (hZ : Z.Warmed39 s.vm) (hown : s.vm.findClass own = some m.cls) {ad : String} {index : Nat}
    (w1 : (Jvm.Cond.methodLink own index ⟨ad, "clone", "()Ljava/lang/Object;"⟩).before a0 Z = true) (w2 : (Jvm.Cond.sameMethod ad "java/lang/Object" "clone" "()Ljava/lang/Object;").before a0 Z = true) (w3 : (Jvm.Cond.native ⟨"java/lang/Object", "clone", "()Ljava/lang/Object;"⟩).before a0 Z = true)
    (w4 : (Jvm.Cond.instanceMethod ⟨"java/lang/Object", "clone", "()Ljava/lang/Object;"⟩).before a0 Z = true) (w5 : (Jvm.Cond.selects ad ⟨ad, "clone", "()Ljava/lang/Object;"⟩ ⟨"java/lang/Object", "clone", "()Ljava/lang/Object;"⟩).before a0 Z = true) (w6 : (Jvm.Cond.castable ad "java/lang/Cloneable").before a0 Z = true)
    (eT : T.heap = h) {a : Addr} {kk : ClassId} {ty : FieldType} {vs : List Value} (F : OAry Z h a kk ty vs) (E : Exa Z h a ad) (P : OPr h0 ws h locs) (hsize : Ls.size = c.maxLocals) (hd : decode c.code pc = .ok (.invokevirtual index, 3)) (hp : pc + 3 = pc')
    (hf : 1 ≤ R.frames) {W cap : Nat} (hW : (st.map fun v => v.category).sum ≤ W) (hl : W + 14 ≤ R.locals) (hcap : vs.length ≤ cap) (hc : cells + 1 ≤ R.cells) (hsl : slots + cap ≤ R.slots)
    (k : ∀ T' h' a', a' = h.size → h0.size ≤ a' → Stand p l e R s m args below meth c T' locs (cells + 1) (slots + cap) → T'.heap = h' → Ext h h' → OPr h0 ws h' locs → OAry Z h' a' kk ty vs → Exa Z h' a' ad → OGo p e below K T' (mkF m pc' Ls (.ref a' :: st))) : OGo p e below K T (mkF m pc Ls (.ref a :: st)) := by
  subst hp
  obtain ⟨cl, A, r1, r2, r3, r4⟩ := F
  obtain ⟨T', h', X', e', E', A', B', r⟩ := cloneA X hx hZ hown w1 w2 w3 w4 w5 w6 eT A E (aryFit (k := kk) A r2 r4) (g := mkF m pc Ls (.ref a :: st)) rfl hsize rfl hd hf (W := W) (by show 2 * 0 + _ ≤ _; omega) hl (cap := cap) (by rw [← r2] at hcap; simpa using hcap) hc hsl
  exact (k T' h' h.size rfl P.1.1 X' e' E' (P.ext E') ⟨_, A', r1, r2, r3, r4⟩ B').via r
theorem eqI {first : State} {o : Option Outcome} {idx : List Nat} {t u : Term} {x y : Int32} (ha : t.eval args first o idx s = some (.int x)) (hb : u.eval args first o idx s = some (.int y)) : (Jvm.Cond.eq t u).value args first o s idx = some (decide (x = y)) := by simp [Cond.value, ha, hb]
theorem lenSt {t : Term} {a : Addr} {cl : Cell} {ty : FieldType} {n : Int32} (ev : t.eval args s none [] s = some (.ref a)) (A : Arr s s.heap a cl ty) (q : (Jvm.Cond.eq (.length t) (.int n)).value args s none s [] = some true) : cl.slots.size = n.toInt ∧ cl.slots.size < 2 ^ 31 := by
  have ha : s.arrayAt? a = some cl := A.fin (Vm.Alike.refl _)
  by_cases hl : cl.slots.size < 2 ^ 31
  · have e1 := len_f (idx := []) (first := s) (o := none) ev ha hl
    have e2 : cl.slots.size.toInt32 = n := by rw [eqI e1 (Term.int_eval n)] at q; simpa using q
    exact ⟨by rw [← e2, len_toInt hl], hl⟩
  · have e1 : (Term.length t).eval args s none [] s = none := by simp [Term.eval, ev, ha, hl]
    simp [Cond.value, e1] at q
theorem elemSt {t u : Term} {a : Addr} {cl : Cell} {ty : FieldType} {i : Int32} {v : Value} (ev : t.eval args s none [] s = some (.ref a)) (A : Arr s s.heap a cl ty) (eu : u.eval args s none [] s = some v) (hv : v.isRef = true) (q : (Jvm.Cond.eq (.elem t (.int i)) u).value args s none s [] = some true) : cl.slots[i.toNatClampNeg]? = some v := by
  obtain ⟨x, y, e1, e2, k1, k2⟩ := cmp_v (Or.inl q)
  cases eu.symm.trans e2
  have hx : x.isRef = true := by rcases ref_cases hv with rfl | ⟨b, rfl⟩ <;> exact k2.2
  have r : x = v := by rw [eq_R e1 e2 hx hv] at q; simpa using q
  subst r
  exact (elem_in e1 ev (Term.int_eval i) A.1).2
theorem aryStart {a : Addr} {cl : Cell} {ty : FieldType} {vs : List Value} (hf : Fit s) (A : Arr s s.heap a cl ty) (hs : cl.slots.size < 2 ^ 31) (hl : cl.slots.size = vs.length) (hv : ∀ i, i < vs.length → cl.slots[i]? = vs[i]?) : OAry s s.heap a cl.cls ty vs := by
  have e : cl.slots.toList = vs := by
    apply List.ext_getElem?
    intro i
    by_cases hi : i < vs.length
    · rw [← hv i hi]; simp
    · rw [List.getElem?_eq_none (by simp; omega), List.getElem?_eq_none (by omega)]
  refine ⟨cl, A, rfl, e, by omega, fun v hm => ?_⟩
  rw [← e] at hm
  obtain ⟨i, hi, rfl⟩ := List.getElem_of_mem hm
  have hi' : i < cl.slots.size := by simpa using hi
  have q := hf A.1 hi'
  obtain ⟨hs', k, hk, comp, hkind⟩ := A.2.1
  have e2 : s.slotType? cl.cls cl.vm i = some ty := by
    cases hq : cl.vm <;> first | exact absurd hq (hs' _) | simp [State.slotType?, hk, hkind]
  simp [State.fitsSlot, e2] at q
  simpa using q

theorem wd (hw : ∀ d ∈ tables_1, d.before a0 Z = true) (k : Nat) {d : Jvm.Cond} (q : tables_1[k]? = some d) : d.before a0 Z = true := hw d (List.mem_of_getElem? q)
theorem narR {t : FieldType} {v : Value} (q : v.isRef = true) : narrow t v = v := by rcases ref_cases q with rfl | ⟨a, rfl⟩ <;> cases t <;> rfl
theorem fitR {t : FieldType} {v : Value} (q : v.isRef = true) (r : t.isReference = true) : fits t v = true := by
  rcases ref_cases q with rfl | ⟨a, rfl⟩ <;> cases t <;> first | rfl | cases r
theorem insP {a : Addr} {C : String} {b : Bool} (F : Ins Z h0 a C b) (P : OPr h0 ws h L) : Ins Z h a C b := by
  obtain ⟨cell, cT, h1, h2, h3⟩ := F
  obtain ⟨c', e1, e2, e3, -⟩ := P.1.2.2 _ _ h1
  exact ⟨c', cT, e1, h2, by rw [e2, e3]; exact h3⟩
theorem neAry {a b : Addr} {kk : ClassId} {ty : FieldType} {vs : List Value} {C : String} {n : Nat} (E : Exa Z h b C) (wi : (Jvm.Cond.instantiable C n).before a0 Z = true) (F : OAry Z h a kk ty vs) : b ≠ a := by
  obtain ⟨c, A, -⟩ := F; exact ne_arr E wi A
theorem exSta {C n d Kc : String} (q : (Jvm.Cond.exactly (.static C n d) Kc).value args s none s [] = some true) (hi : (Jvm.Cond.initializedFor C n d).before args s = true ∨ ((Jvm.Cond.initialized C).before args s = true ∧ (Jvm.Cond.laysStatic C n d).before args s = true)) :
    ∃ a, (Term.static C n d).eval args s none [] s = some (.ref a) ∧ Sta s s.heap C n d (.ref a) ∧ Exa s s.heap a Kc := by
  obtain ⟨a, ev⟩ := exa_v q
  exact ⟨a, ev, Sta.start ev hi, Exa.start ev q⟩
theorem eqFld {t : Term} {a : Addr} {C n d : String} {k : Int32} (ev : t.eval args s none [] s = some (.ref a)) (q : (Jvm.Cond.eq (.field t C n d) (.int k)).value args s none s [] = some true) : Fld s s.heap a C n d (.int k) := by
  obtain ⟨x, y, e1, e2, -, k2⟩ := cmp_v (Or.inl q)
  cases e2
  obtain ⟨z, rfl⟩ := k2
  have r : z = k := by rw [eqI e1 (Term.int_eval k)] at q; simpa using q
  subst r
  exact Fld.start ((fld_at ev).symm.trans e1)
theorem eqFldR {t u : Term} {a : Addr} {v : Value} {C n d : String} (ev : t.eval args s none [] s = some (.ref a)) (eu : u.eval args s none [] s = some v) (hv : v.isRef = true) (q : (Jvm.Cond.eq (.field t C n d) u).value args s none s [] = some true) : Fld s s.heap a C n d v := by
  obtain ⟨x, y, e1, e2, k1, k2⟩ := cmp_v (Or.inl q)
  cases eu.symm.trans e2
  have hx : x.isRef = true := by rcases ref_cases hv with rfl | ⟨b, rfl⟩ <;> exact k2.2
  have r : x = v := by rw [eq_R e1 e2 hx hv] at q; simpa using q
  subst r
  exact Fld.start ((fld_at ev).symm.trans e1)
end Own
def VV (cc : Int32) (e0 e1 e2 e3 e4 e5 : Addr) : Value := if cc = 19 then .ref e0 else if cc = 20 then .ref e1 else if cc = 21 then .ref e2 else if cc = 22 then .ref e3 else if cc = 23 then .ref e4 else if cc = 25 then .ref e5 else .null
theorem VV_ref (cc : Int32) (e0 e1 e2 e3 e4 e5 : Addr) : (VV cc e0 e1 e2 e3 e4 e5).isRef = true := by unfold VV; repeat (first | rfl | split)
theorem VV_cases {Z : State} {h : Heap} (cc : Int32) {e0 e1 e2 e3 e4 e5 : Addr} (E0 : Exa Z h e0 "com/example/varco/varco/AuthnFailure") (F0 : Fld Z h e0 "com/example/varco/varco/AuthnFailure" "code" "I" (.int (19 : Int32))) (E1 : Exa Z h e1 "com/example/varco/varco/AuthnFailure") (F1 : Fld Z h e1 "com/example/varco/varco/AuthnFailure" "code" "I" (.int (20 : Int32))) (E2 : Exa Z h e2 "com/example/varco/varco/AuthnFailure") (F2 : Fld Z h e2 "com/example/varco/varco/AuthnFailure" "code" "I" (.int (21 : Int32))) (E3 : Exa Z h e3 "com/example/varco/varco/AuthnFailure") (F3 : Fld Z h e3 "com/example/varco/varco/AuthnFailure" "code" "I" (.int (22 : Int32))) (E4 : Exa Z h e4 "com/example/varco/varco/AuthnFailure") (F4 : Fld Z h e4 "com/example/varco/varco/AuthnFailure" "code" "I" (.int (23 : Int32))) (E5 : Exa Z h e5 "com/example/varco/varco/AuthnFailure") (F5 : Fld Z h e5 "com/example/varco/varco/AuthnFailure" "code" "I" (.int (25 : Int32))) : VV cc e0 e1 e2 e3 e4 e5 = .null ∨ ∃ b, VV cc e0 e1 e2 e3 e4 e5 = .ref b ∧ Exa Z h b "com/example/varco/varco/AuthnFailure" ∧ Fld Z h b "com/example/varco/varco/AuthnFailure" "code" "I" (.int cc) := by
  by_cases h0 : cc = 19
  · subst h0; exact Or.inr ⟨e0, rfl, E0, F0⟩
  by_cases h1 : cc = 20
  · subst h1; exact Or.inr ⟨e1, rfl, E1, F1⟩
  by_cases h2 : cc = 21
  · subst h2; exact Or.inr ⟨e2, rfl, E2, F2⟩
  by_cases h3 : cc = 22
  · subst h3; exact Or.inr ⟨e3, rfl, E3, F3⟩
  by_cases h4 : cc = 23
  · subst h4; exact Or.inr ⟨e4, rfl, E4, F4⟩
  by_cases h5 : cc = 25
  · subst h5; exact Or.inr ⟨e5, rfl, E5, F5⟩
  exact Or.inl (by simp [VV, h0, h1, h2, h3, h4, h5])
theorem d1_0 : decode prog_4_method_1_code 0 = .ok (.getstatic 22, 3) := by decide +kernel
theorem d1_3 : decode prog_4_method_1_code 3 = .ok (.invokevirtual 26, 3) := by decide +kernel
theorem d1_6 : decode prog_4_method_1_code 6 = .ok (.checkcast 27, 3) := by decide +kernel
theorem d1_9 : decode prog_4_method_1_code 9 = .ok (.areturn, 1) := by decide +kernel
theorem pn_rm_values : plainFor (⟨"com/example/varco/varco/AuthnFailure", "values", "()[Lcom/example/varco/varco/AuthnFailure;"⟩ : MethodName) = true := by first | exact plainFor_of_name (by first | (simp [plainName, overriddenIn]; done) | decide +kernel) | decide +kernel
set_option maxRecDepth 65536 in
set_option maxHeartbeats 40000000 in
theorem rm_values {l : Launch} {Z : State} {a0 : Array Value} (hw : ∀ d ∈ tables_1, d.before a0 Z = true) (av : Addr) (kv : ClassId) (e0 : Addr) (e1 : Addr) (e2 : Addr) (e3 : Addr) (e4 : Addr) (e5 : Addr) {h0 : Heap} (I0 : Sta Z h0 "com/example/varco/varco/AuthnFailure" "$VALUES" "[Lcom/example/varco/varco/AuthnFailure;" (.ref av)) (I1 : OAry Z h0 av kv (.object "com/example/varco/varco/AuthnFailure") [(.ref e0), (.ref e1), (.ref e2), (.ref e3), (.ref e4), (.ref e5)]) (I2 : Exa Z h0 av "[Lcom/example/varco/varco/AuthnFailure;")  :
    OMet l (⟨"com/example/varco/varco/AuthnFailure", "values", "()[Lcom/example/varco/varco/AuthnFailure;"⟩ : MethodName) prog_4_method_1_code 0 (Option.some (Jvm.ClassFile.FieldType.array (Jvm.ClassFile.FieldType.object "com/example/varco/varco/AuthnFailure"))) ({ frames := 1, cells := 1, slots := 6, locals := 14 } : Room) #[] Z h0 (fun v h L => ∃ o : Addr, v = some (.ref o) ∧ OPr h0 [] h L ∧ h0.size ≤ o ∧ OAry Z h o kv (.object "com/example/varco/varco/AuthnFailure") [(.ref e0), (.ref e1), (.ref e2), (.ref e3), (.ref e4), (.ref e5)]) := by
  refine OMet.body pn_rm_values (Ls := #[]) (fun m => by first | (simp [entryFrame, mkF, argsToLocals, Value.category]; done) | rfl) ?_
  intro p e s m below meth c T0 K hK X0 hx hby hml hown hnm hret hlk hZ eh0
  have P0 := OPr.refl h0 []
  refine g_gets X0 hx hZ hown (host := "") (Or.inl (wd hw 7 rfl)) Via.refl eh0 I0 (hb hby d1_0) (rfl : 0 + 3 = 3) fun T1 X1 eh1 => ?_
  refine g_clone X1 hx hZ hown (wd hw 9 rfl) (wd hw 10 rfl) (wd hw 14 rfl) (wd hw 12 rfl) (wd hw 13 rfl) (wd hw 15 rfl) eh1 I1 I2 P0 (by rw [hml]; rfl) (hb hby d1_3) (rfl : 3 + 3 = 6) (by decide) (W := 0) (Nat.le_of_eq rfl) (by decide) (cap := 6) (Nat.le_of_ble_eq_true rfl) (by decide) (by decide) fun T2 hh2 a2 q2 g2 X2 eh2 E2 P2 A2 B2 => ?_
  refine g_cast X2 hx hZ hown (wd hw 23 rfl) eh2 (Ins.self B2) (hb hby d1_6) (rfl : 6 + 3 = 9) fun T3 X3 eh3 => ?_
  exact g_ret X3 hx hret hlk rfl (Or.inr (Or.inr (Or.inr (Or.inr ⟨rfl, rfl, rfl⟩)))) (hb hby d1_9) (by decide) (by decide) eh3 hK ⟨a2, rfl, P2, g2, A2⟩
theorem d4_0 : decode jdk_32_method_2_code 0 = .ok (.aload_n 0, 1) := by decide +kernel
theorem d4_1 : decode jdk_32_method_2_code 1 = .ok (.invokespecial 7, 3) := by decide +kernel
theorem d4_4 : decode jdk_32_method_2_code 4 = .ok (.aload_n 0, 1) := by decide +kernel
theorem d4_5 : decode jdk_32_method_2_code 5 = .ok (.aload_n 1, 1) := by decide +kernel
theorem d4_6 : decode jdk_32_method_2_code 6 = .ok (.putfield 13, 3) := by decide +kernel
theorem d4_9 : decode jdk_32_method_2_code 9 = .ok (.return_, 1) := by decide +kernel
theorem pn_rm_oinit : plainFor (⟨"java/util/Optional", "<init>", "(Ljava/lang/Object;)V"⟩ : MethodName) = true := by first | exact plainFor_of_name (by first | (simp [plainName, overriddenIn]; done) | decide +kernel) | decide +kernel
set_option maxRecDepth 65536 in
set_option maxHeartbeats 40000000 in
theorem rm_oinit {l : Launch} {Z : State} {a0 : Array Value} (hw : ∀ d ∈ tables_1, d.before a0 Z = true) (a : Addr) (vv : Addr) {h0 : Heap} (I0 : Exa Z h0 a "java/util/Optional") (I1 : Fld Z h0 a "java/util/Optional" "value" "Ljava/lang/Object;" .null)  :
    OMet l (⟨"java/util/Optional", "<init>", "(Ljava/lang/Object;)V"⟩ : MethodName) jdk_32_method_2_code 2 (Option.none : Option Jvm.ClassFile.FieldType) ({ frames := 1, cells := 0, slots := 0, locals := 12 } : Room) #[(.ref a), (.ref vv)] Z h0 (fun v h L => v = none ∧ OPr h0 [a] h L ∧ Fld Z h a "java/util/Optional" "value" "Ljava/lang/Object;" (.ref vv)) := by
  refine OMet.body pn_rm_oinit (Ls := #[.val (.ref a), .val (.ref vv)]) (fun m => by first | (simp [entryFrame, mkF, argsToLocals, Value.category]; done) | rfl) ?_
  intro p e s m below meth c T0 K hK X0 hx hby hml hown hnm hret hlk hZ eh0
  have P0 := OPr.refl h0 [a]
  refine g_aloadN X0 hx (hb hby d4_0) (rfl : 0 + 1 = 1) rfl rfl ?_
  refine g_inito X0 hx hZ hown (wd hw 41 rfl) (wd hw 42 rfl) (wd hw 43 rfl) eh0 (by rw [hml]; rfl) (hb hby d4_1) (rfl : 1 + 3 = 4) (by decide) (W := 0) (Nat.le_of_eq rfl) (by decide) fun T1 X1 eh1 => ?_
  refine g_aloadN X1 hx (hb hby d4_4) (rfl : 4 + 1 = 5) rfl rfl ?_
  refine g_aloadN X1 hx (hb hby d4_5) (rfl : 5 + 1 = 6) rfl rfl ?_
  refine g_putf X1 hx hZ hown (host := "") (Or.inl (wd hw 44 rfl)) Via.refl eh1 I1 I0 (Or.inr ⟨(wd hw 45 rfl), rfl, hnm⟩) (wd hw 32 rfl) (ty := (.object "java/lang/Object")) (by decide) rfl rfl P0 (Or.inl (List.mem_of_getElem? (i := 0) rfl)) (hb hby d4_6) (rfl : 6 + 3 = 9) fun T2 hh2 X2 eh2 W2 P2 F2 => ?_
  exact g_ret0 X2 hx hret hlk (hb hby d4_9) (by decide) (by decide) eh2 hK ⟨rfl, P2, F2⟩
theorem d3_0 : decode jdk_31_method_10_code 0 = .ok (.aload_n 0, 1) := by decide +kernel
theorem d3_1 : decode jdk_31_method_10_code 1 = .ok (.ifnonnull 11, 3) := by decide +kernel
theorem d3_12 : decode jdk_31_method_10_code 12 = .ok (.aload_n 0, 1) := by decide +kernel
theorem d3_13 : decode jdk_31_method_10_code 13 = .ok (.areturn, 1) := by decide +kernel
theorem pn_rm_rnn : plainFor (⟨"java/util/Objects", "requireNonNull", "(Ljava/lang/Object;)Ljava/lang/Object;"⟩ : MethodName) = true := by first | exact plainFor_of_name (by first | (simp [plainName, overriddenIn]; done) | decide +kernel) | decide +kernel
set_option maxRecDepth 65536 in
set_option maxHeartbeats 40000000 in
theorem rm_rnn {l : Launch} {Z : State} {a0 : Array Value} (hw : ∀ d ∈ tables_1, d.before a0 Z = true) (vv : Addr) {h0 : Heap}   :
    OMet l (⟨"java/util/Objects", "requireNonNull", "(Ljava/lang/Object;)Ljava/lang/Object;"⟩ : MethodName) jdk_31_method_10_code 1 (Option.some (Jvm.ClassFile.FieldType.object "java/lang/Object")) ({ frames := 0, cells := 0, slots := 0, locals := 0 } : Room) #[(.ref vv)] Z h0 (fun v h L => v = some (.ref vv) ∧ OPr h0 [] h L) := by
  refine OMet.body pn_rm_rnn (Ls := #[.val (.ref vv)]) (fun m => by first | (simp [entryFrame, mkF, argsToLocals, Value.category]; done) | rfl) ?_
  intro p e s m below meth c T0 K hK X0 hx hby hml hown hnm hret hlk hZ eh0
  have P0 := OPr.refl h0 []
  refine g_aloadN X0 hx (hb hby d3_0) (rfl : 0 + 1 = 1) rfl rfl ?_
  refine g_nonnullY X0 hx (hb hby d3_1) (by decide) (pc' := 12) (by decide) ?_
  refine g_aloadN X0 hx (hb hby d3_12) (rfl : 12 + 1 = 13) rfl rfl ?_
  exact g_ret X0 hx hret hlk rfl (Or.inr (Or.inr (Or.inr (Or.inr ⟨rfl, rfl, rfl⟩)))) (hb hby d3_13) (by decide) (by decide) eh0 hK ⟨rfl, P0⟩
theorem d2_0 : decode jdk_32_method_3_code 0 = .ok (.new 2, 3) := by decide +kernel
theorem d2_3 : decode jdk_32_method_3_code 3 = .ok (.dup, 1) := by decide +kernel
theorem d2_4 : decode jdk_32_method_3_code 4 = .ok (.aload_n 0, 1) := by decide +kernel
theorem d2_5 : decode jdk_32_method_3_code 5 = .ok (.invokestatic 17, 3) := by decide +kernel
theorem d2_8 : decode jdk_32_method_3_code 8 = .ok (.invokespecial 23, 3) := by decide +kernel
theorem d2_11 : decode jdk_32_method_3_code 11 = .ok (.areturn, 1) := by decide +kernel
theorem pn_rm_oof : plainFor (⟨"java/util/Optional", "of", "(Ljava/lang/Object;)Ljava/util/Optional;"⟩ : MethodName) = true := by first | exact plainFor_of_name (by first | (simp [plainName, overriddenIn]; done) | decide +kernel) | decide +kernel
set_option maxRecDepth 65536 in
set_option maxHeartbeats 40000000 in
theorem rm_oof {l : Launch} {Z : State} {a0 : Array Value} (hw : ∀ d ∈ tables_1, d.before a0 Z = true) (vv : Addr) {h0 : Heap}   :
    OMet l (⟨"java/util/Optional", "of", "(Ljava/lang/Object;)Ljava/util/Optional;"⟩ : MethodName) jdk_32_method_3_code 1 (Option.some (Jvm.ClassFile.FieldType.object "java/util/Optional")) ({ frames := 2, cells := 1, slots := 1, locals := 26 } : Room) #[(.ref vv)] Z h0 (fun v h L => ∃ o : Addr, v = some (.ref o) ∧ OPr h0 [] h L ∧ h0.size ≤ o ∧ Exa Z h o "java/util/Optional" ∧ Fld Z h o "java/util/Optional" "value" "Ljava/lang/Object;" (.ref vv)) := by
  refine OMet.body pn_rm_oof (Ls := #[.val (.ref vv)]) (fun m => by first | (simp [entryFrame, mkF, argsToLocals, Value.category]; done) | rfl) ?_
  intro p e s m below meth c T0 K hK X0 hx hby hml hown hnm hret hlk hZ eh0
  have P0 := OPr.refl h0 []
  refine g_new X0 hx hZ hown (wd hw 31 rfl) (wd hw 32 rfl) (wd hw 29 rfl) eh0 P0 (hb hby d2_0) (rfl : 0 + 3 = 3) (by decide) (by decide) fun T1 hh1 a1 q1 g1 X1 eh1 E1 P1 A1 D1 => ?_
  have f2 : Fld Z hh1 a1 "java/util/Optional" "value" "Ljava/lang/Object;" .null := D1 (Or.inr (wd hw 45 rfl)) (ty := (.object "java/lang/Object")) (by decide)
  refine g_dup X1 hx (hb hby d2_3) (rfl : 3 + 1 = 4) rfl ?_
  refine g_aloadN X1 hx (hb hby d2_4) (rfl : 4 + 1 = 5) rfl rfl ?_
  refine g_static X1 hx hZ hown eh1 (rm_rnn hw vv) (wd hw 33 rfl) (wd hw 34 rfl) (wd hw 36 rfl) (wd hw 35 rfl) (by decide) (argsL := [(.ref vv)]) (rest := [(.ref a1), (.ref a1)]) rfl rfl (ps := [(.object "java/lang/Object")]) (rt := (some (.object "java/lang/Object"))) (by decide) rfl (W := 2) (Nat.le_of_eq rfl) (by decide) (by decide) (by decide) (by decide) (by rw [hml]; rfl) (hb hby d2_5) (rfl : 5 + 3 = 8) fun v3 T3 hh3 L3 X3 eh3 Q3 => ?_
  obtain ⟨rfl, Pc3⟩ := Q3
  have P3 := P1.call Pc3 all0
  show OGo p e below K T3 (mkF m 8 #[.val (.ref vv)] [(.ref vv), (.ref a1), (.ref a1)])
  have F5 := (exaP A1 Pc3)
  have F6 := (fldP f2 Pc3 nin0)
  refine g_special X3 hx hZ hown eh3 (rm_oinit hw a1 vv F5 F6) rfl (wd hw 37 rfl) (wd hw 38 rfl) (wd hw 40 rfl) (wd hw 29 rfl) (by decide) (a := a1) (argsL := [(.ref vv)]) (rest := [(.ref a1)]) rfl rfl (ps := [(.object "java/lang/Object")]) (by decide) rfl (W := 1) (Nat.le_of_eq rfl) (by decide) (by decide) (by decide) (by decide) (by rw [hml]; rfl) (hb hby d2_8) (rfl : 8 + 3 = 11) fun v4 T4 hh4 L4 X4 eh4 Q4 => ?_
  obtain ⟨rfl, Pc4, G4_0⟩ := Q4
  have P4 := P3.call Pc4 (allS (Or.inr g1) all0)
  show OGo p e below K T4 (mkF m 11 #[.val (.ref vv)] [(.ref a1)])
  have F7 := (exaP F5 Pc4)
  exact g_ret X4 hx hret hlk rfl (Or.inr (Or.inr (Or.inr (Or.inr ⟨rfl, rfl, rfl⟩)))) (hb hby d2_11) (by decide) (by decide) eh4 hK ⟨a1, rfl, P4, g1, F7, G4_0⟩
theorem d9_0 : decode jdk_32_method_1_code 0 = .ok (.getstatic 1, 3) := by decide +kernel
theorem d9_3 : decode jdk_32_method_1_code 3 = .ok (.astore_n 0, 1) := by decide +kernel
theorem d9_4 : decode jdk_32_method_1_code 4 = .ok (.aload_n 0, 1) := by decide +kernel
theorem d9_5 : decode jdk_32_method_1_code 5 = .ok (.areturn, 1) := by decide +kernel
theorem pn_rm_oempty : plainFor (⟨"java/util/Optional", "empty", "()Ljava/util/Optional;"⟩ : MethodName) = true := by first | exact plainFor_of_name (by first | (simp [plainName, overriddenIn]; done) | decide +kernel) | decide +kernel
set_option maxRecDepth 65536 in
set_option maxHeartbeats 40000000 in
theorem rm_oempty {l : Launch} {Z : State} {a0 : Array Value} (hw : ∀ d ∈ tables_1, d.before a0 Z = true) (em : Addr) {h0 : Heap} (I0 : Sta Z h0 "java/util/Optional" "EMPTY" "Ljava/util/Optional;" (.ref em))  :
    OMet l (⟨"java/util/Optional", "empty", "()Ljava/util/Optional;"⟩ : MethodName) jdk_32_method_1_code 1 (Option.some (Jvm.ClassFile.FieldType.object "java/util/Optional")) ({ frames := 0, cells := 0, slots := 0, locals := 0 } : Room) #[] Z h0 (fun v h L => v = some (.ref em) ∧ OPr h0 [] h L) := by
  refine OMet.body pn_rm_oempty (Ls := #[.unset]) (fun m => by first | (simp [entryFrame, mkF, argsToLocals, Value.category]; done) | rfl) ?_
  intro p e s m below meth c T0 K hK X0 hx hby hml hown hnm hret hlk hZ eh0
  have P0 := OPr.refl h0 []
  refine g_gets X0 hx hZ hown (host := "") (Or.inl (wd hw 66 rfl)) Via.refl eh0 I0 (hb hby d9_0) (rfl : 0 + 3 = 3) fun T1 X1 eh1 => ?_
  refine g_astoreN X1 hx (hb hby d9_3) (rfl : 3 + 1 = 4) rfl (Ls' := #[.val (.ref em)]) rfl ?_
  refine g_aloadN X1 hx (hb hby d9_4) (rfl : 4 + 1 = 5) rfl rfl ?_
  exact g_ret X1 hx hret hlk rfl (Or.inr (Or.inr (Or.inr (Or.inr ⟨rfl, rfl, rfl⟩)))) (hb hby d9_5) (by decide) (by decide) eh1 hK ⟨rfl, P0⟩
theorem d6_0 : decode jdk_32_method_15_code 0 = .ok (.aload_n 0, 1) := by decide +kernel
theorem d6_1 : decode jdk_32_method_15_code 1 = .ok (.getfield 13, 3) := by decide +kernel
theorem d6_4 : decode jdk_32_method_15_code 4 = .ok (.ifnull 10, 3) := by decide +kernel
theorem d6_7 : decode jdk_32_method_15_code 7 = .ok (.aload_n 0, 1) := by decide +kernel
theorem d6_8 : decode jdk_32_method_15_code 8 = .ok (.getfield 13, 3) := by decide +kernel
theorem d6_11 : decode jdk_32_method_15_code 11 = .ok (.goto 4, 3) := by decide +kernel
theorem d6_14 : decode jdk_32_method_15_code 14 = .ok (.aload_n 1, 1) := by decide +kernel
theorem d6_15 : decode jdk_32_method_15_code 15 = .ok (.areturn, 1) := by decide +kernel
theorem pn_rm_orelse : plainFor (⟨"java/util/Optional", "orElse", "(Ljava/lang/Object;)Ljava/lang/Object;"⟩ : MethodName) = true := by first | exact plainFor_of_name (by first | (simp [plainName, overriddenIn]; done) | decide +kernel) | decide +kernel
set_option maxRecDepth 65536 in
set_option maxHeartbeats 40000000 in
theorem rm_orelse {l : Launch} {Z : State} {a0 : Array Value} (hw : ∀ d ∈ tables_1, d.before a0 Z = true) (o : Addr) (vv : Value) {h0 : Heap} (I0 : Fld Z h0 o "java/util/Optional" "value" "Ljava/lang/Object;" vv) (hv : vv.isRef = true) :
    OMet l (⟨"java/util/Optional", "orElse", "(Ljava/lang/Object;)Ljava/lang/Object;"⟩ : MethodName) jdk_32_method_15_code 2 (Option.some (Jvm.ClassFile.FieldType.object "java/lang/Object")) ({ frames := 0, cells := 0, slots := 0, locals := 0 } : Room) #[(.ref o), .null] Z h0 (fun v h L => v = some vv ∧ OPr h0 [] h L) := by
  refine OMet.body pn_rm_orelse (Ls := #[.val (.ref o), .val .null]) (fun m => by first | (simp [entryFrame, mkF, argsToLocals, Value.category]; done) | rfl) ?_
  intro p e s m below meth c T0 K hK X0 hx hby hml hown hnm hret hlk hZ eh0
  have P0 := OPr.refl h0 []
  refine g_aloadN X0 hx (hb hby d6_0) (rfl : 0 + 1 = 1) rfl rfl ?_
  refine g_getf X0 hx hZ hown (host := "") (Or.inl (wd hw 44 rfl)) Via.refl eh0 I0 (hb hby d6_1) (rfl : 1 + 3 = 4) fun T1 X1 eh1 => ?_
  rcases ref_cases hv with rfl | ⟨b, rfl⟩
  · refine g_nullY X1 hx (hb hby d6_4) (by decide) (pc' := 14) (by decide) ?_
    refine g_aloadN X1 hx (hb hby d6_14) (rfl : 14 + 1 = 15) rfl rfl ?_
    exact g_ret X1 hx hret hlk rfl (Or.inr (Or.inr (Or.inr (Or.inr ⟨rfl, rfl, rfl⟩)))) (hb hby d6_15) (by decide) (by decide) eh1 hK ⟨rfl, P0⟩
  · refine g_nullN X1 hx (hb hby d6_4) (rfl : 4 + 3 = 7) ?_
    refine g_aloadN X1 hx (hb hby d6_7) (rfl : 7 + 1 = 8) rfl rfl ?_
    refine g_getf X1 hx hZ hown (host := "") (Or.inl (wd hw 44 rfl)) Via.refl eh1 I0 (hb hby d6_8) (rfl : 8 + 3 = 11) fun T2 X2 eh2 => ?_
    refine g_goto X2 hx (hb hby d6_11) (by decide) (pc' := 15) (by decide) ?_
    exact g_ret X2 hx hret hlk rfl (Or.inr (Or.inr (Or.inr (Or.inr ⟨rfl, rfl, rfl⟩)))) (hb hby d6_15) (by decide) (by decide) eh2 hK ⟨rfl, P0⟩
theorem d0_0 : decode prog_4_method_4_code 0 = .ok (.invokestatic 49, 3) := by decide +kernel
theorem d0_3 : decode prog_4_method_4_code 3 = .ok (.astore_n 1, 1) := by decide +kernel
theorem d0_4 : decode prog_4_method_4_code 4 = .ok (.aload_n 1, 1) := by decide +kernel
theorem d0_5 : decode prog_4_method_4_code 5 = .ok (.arraylength, 1) := by decide +kernel
theorem d0_6 : decode prog_4_method_4_code 6 = .ok (.istore_n 2, 1) := by decide +kernel
theorem d0_7 : decode prog_4_method_4_code 7 = .ok (.iconst 0, 1) := by decide +kernel
theorem d0_8 : decode prog_4_method_4_code 8 = .ok (.istore_n 3, 1) := by decide +kernel
theorem d0_9 : decode prog_4_method_4_code 9 = .ok (.iload_n 3, 1) := by decide +kernel
theorem d0_10 : decode prog_4_method_4_code 10 = .ok (.iload_n 2, 1) := by decide +kernel
theorem d0_11 : decode prog_4_method_4_code 11 = .ok (.if_icmp .ge 29, 3) := by decide +kernel
theorem d0_14 : decode prog_4_method_4_code 14 = .ok (.aload_n 1, 1) := by decide +kernel
theorem d0_15 : decode prog_4_method_4_code 15 = .ok (.iload_n 3, 1) := by decide +kernel
theorem d0_16 : decode prog_4_method_4_code 16 = .ok (.aaload, 1) := by decide +kernel
theorem d0_17 : decode prog_4_method_4_code 17 = .ok (.astore 4, 2) := by decide +kernel
theorem d0_19 : decode prog_4_method_4_code 19 = .ok (.aload 4, 2) := by decide +kernel
theorem d0_21 : decode prog_4_method_4_code 21 = .ok (.getfield 41, 3) := by decide +kernel
theorem d0_24 : decode prog_4_method_4_code 24 = .ok (.iload_n 0, 1) := by decide +kernel
theorem d0_25 : decode prog_4_method_4_code 25 = .ok (.if_icmp .ne 9, 3) := by decide +kernel
theorem d0_28 : decode prog_4_method_4_code 28 = .ok (.aload 4, 2) := by decide +kernel
theorem d0_30 : decode prog_4_method_4_code 30 = .ok (.invokestatic 53, 3) := by decide +kernel
theorem d0_33 : decode prog_4_method_4_code 33 = .ok (.areturn, 1) := by decide +kernel
theorem d0_34 : decode prog_4_method_4_code 34 = .ok (.iinc 3 1, 3) := by decide +kernel
theorem d0_37 : decode prog_4_method_4_code 37 = .ok (.goto (-28), 3) := by decide +kernel
theorem d0_40 : decode prog_4_method_4_code 40 = .ok (.invokestatic 59, 3) := by decide +kernel
theorem d0_43 : decode prog_4_method_4_code 43 = .ok (.areturn, 1) := by decide +kernel
theorem pn_rm_ofcode : plainFor (⟨"com/example/varco/varco/AuthnFailure", "ofCode", "(I)Ljava/util/Optional;"⟩ : MethodName) = true := by first | exact plainFor_of_name (by first | (simp [plainName, overriddenIn]; done) | decide +kernel) | decide +kernel
set_option maxRecDepth 65536 in
set_option maxHeartbeats 40000000 in
theorem rm_ofcode {l : Launch} {Z : State} {a0 : Array Value} (hw : ∀ d ∈ tables_1, d.before a0 Z = true) (cc : Int32) (em : Addr) (av : Addr) (kv : ClassId) (e0 : Addr) (e1 : Addr) (e2 : Addr) (e3 : Addr) (e4 : Addr) (e5 : Addr) {h0 : Heap} (I0 : Sta Z h0 "com/example/varco/varco/AuthnFailure" "$VALUES" "[Lcom/example/varco/varco/AuthnFailure;" (.ref av)) (I1 : OAry Z h0 av kv (.object "com/example/varco/varco/AuthnFailure") [(.ref e0), (.ref e1), (.ref e2), (.ref e3), (.ref e4), (.ref e5)]) (I2 : Exa Z h0 av "[Lcom/example/varco/varco/AuthnFailure;") (I3 : Fld Z h0 e0 "com/example/varco/varco/AuthnFailure" "code" "I" (.int (19 : Int32))) (I4 : Fld Z h0 e1 "com/example/varco/varco/AuthnFailure" "code" "I" (.int (20 : Int32))) (I5 : Fld Z h0 e2 "com/example/varco/varco/AuthnFailure" "code" "I" (.int (21 : Int32))) (I6 : Fld Z h0 e3 "com/example/varco/varco/AuthnFailure" "code" "I" (.int (22 : Int32))) (I7 : Fld Z h0 e4 "com/example/varco/varco/AuthnFailure" "code" "I" (.int (23 : Int32))) (I8 : Fld Z h0 e5 "com/example/varco/varco/AuthnFailure" "code" "I" (.int (25 : Int32))) (I9 : Sta Z h0 "java/util/Optional" "EMPTY" "Ljava/util/Optional;" (.ref em)) (I10 : Exa Z h0 em "java/util/Optional") (I11 : Fld Z h0 em "java/util/Optional" "value" "Ljava/lang/Object;" .null)  :
    OMet l (⟨"com/example/varco/varco/AuthnFailure", "ofCode", "(I)Ljava/util/Optional;"⟩ : MethodName) prog_4_method_4_code 5 (Option.some (Jvm.ClassFile.FieldType.object "java/util/Optional")) ({ frames := 3, cells := 2, slots := 7, locals := 38 } : Room) #[(.int cc)] Z h0 (fun v h L => ∃ o : Addr, v = some (.ref o) ∧ OPr h0 [] h L ∧ Exa Z h o "java/util/Optional" ∧ Fld Z h o "java/util/Optional" "value" "Ljava/lang/Object;" (VV cc e0 e1 e2 e3 e4 e5)) := by
  refine OMet.body pn_rm_ofcode (Ls := #[.val (.int cc), .unset, .unset, .unset, .unset]) (fun m => by first | (simp [entryFrame, mkF, argsToLocals, Value.category]; done) | rfl) ?_
  intro p e s m below meth c T0 K hK X0 hx hby hml hown hnm hret hlk hZ eh0
  have P0 := OPr.refl h0 []
  refine g_static X0 hx hZ hown eh0 (rm_values hw av kv e0 e1 e2 e3 e4 e5 I0 I1 I2) (wd hw 4 rfl) (wd hw 5 rfl) (wd hw 6 rfl) (wd hw 2 rfl) (by decide) (argsL := []) (rest := []) rfl rfl (ps := []) (rt := (some (.array (.object "com/example/varco/varco/AuthnFailure")))) (by decide) rfl (W := 0) (Nat.le_of_eq rfl) (by decide) (by decide) (by decide) (by decide) (by rw [hml]; rfl) (hb hby d0_0) (rfl : 0 + 3 = 3) fun v1 T1 hh1 L1 X1 eh1 Q1 => ?_
  obtain ⟨o_1, rfl, Pc1, G1_0, G1_1⟩ := Q1
  have P1 := P0.call Pc1 all0
  show OGo p e below K T1 (mkF m 3 #[.val (.int cc), .unset, .unset, .unset, .unset] [(.ref o_1)])
  refine g_astoreN X1 hx (hb hby d0_3) (rfl : 3 + 1 = 4) rfl (Ls' := #[.val (.int cc), .val (.ref o_1), .unset, .unset, .unset]) rfl ?_
  refine g_aloadN X1 hx (hb hby d0_4) (rfl : 4 + 1 = 5) rfl rfl ?_
  refine g_len X1 hx hZ eh1 G1_1 (z := (6 : Int32)) rfl (hb hby d0_5) (rfl : 5 + 1 = 6) ?_
  refine g_istoreN X1 hx (hb hby d0_6) (rfl : 6 + 1 = 7) (Ls' := #[.val (.int cc), .val (.ref o_1), .val (.int (6 : Int32)), .unset, .unset]) rfl ?_
  refine g_iconst X1 hx (0 : Int32) (hb hby d0_7) (rfl : 7 + 1 = 8) (by decide) ?_
  refine g_istoreN X1 hx (hb hby d0_8) (rfl : 8 + 1 = 9) (Ls' := #[.val (.int cc), .val (.ref o_1), .val (.int (6 : Int32)), .val (.int (0 : Int32)), .unset]) rfl ?_
  refine g_iloadN X1 hx (hb hby d0_9) (rfl : 9 + 1 = 10) rfl ?_
  refine g_iloadN X1 hx (hb hby d0_10) (rfl : 10 + 1 = 11) rfl ?_
  refine g_icmpN X1 hx (hb hby d0_11) (XT.ii_ge_f (by decide)) (rfl : 11 + 3 = 14) ?_
  refine g_aloadN X1 hx (hb hby d0_14) (rfl : 14 + 1 = 15) rfl rfl ?_
  refine g_iloadN X1 hx (hb hby d0_15) (rfl : 15 + 1 = 16) rfl ?_
  refine g_aaload X1 hx hZ eh1 G1_1 rfl (v := (.ref e0)) (by decide) (by rfl) (hb hby d0_16) (rfl : 16 + 1 = 17) ?_
  refine g_astore X1 hx (hb hby d0_17) (rfl : 17 + 2 = 19) rfl (Ls' := #[.val (.int cc), .val (.ref o_1), .val (.int (6 : Int32)), .val (.int (0 : Int32)), .val (.ref e0)]) rfl ?_
  refine g_aload X1 hx (hb hby d0_19) (rfl : 19 + 2 = 21) rfl rfl ?_
  have F2 := (fldP I3 Pc1 nin0)
  refine g_getf X1 hx hZ hown (host := "") (Or.inl (wd hw 25 rfl)) Via.refl eh1 F2 (hb hby d0_21) (rfl : 21 + 3 = 24) fun T3 X3 eh3 => ?_
  refine g_iloadN X3 hx (hb hby d0_24) (rfl : 24 + 1 = 25) rfl ?_
  by_cases h0 : (19 : Int32) = cc
  · refine g_icmpN X3 hx (hb hby d0_25) (XT.ii_ne_f h0) (rfl : 25 + 3 = 28) ?_
    refine g_aload X3 hx (hb hby d0_28) (rfl : 28 + 2 = 30) rfl rfl ?_
    refine g_static X3 hx hZ hown eh3 (rm_oof hw e0) (wd hw 27 rfl) (wd hw 28 rfl) (wd hw 30 rfl) (wd hw 29 rfl) (by decide) (argsL := [(.ref e0)]) (rest := []) rfl rfl (ps := [(.object "java/lang/Object")]) (rt := (some (.object "java/util/Optional"))) (by decide) rfl (W := 0) (Nat.le_of_eq rfl) (by decide) (by decide) (by decide) (by decide) (by rw [hml]; rfl) (hb hby d0_30) (rfl : 30 + 3 = 33) fun v4 T4 hh4 L4 X4 eh4 Q4 => ?_
    obtain ⟨o_4, rfl, Pc4, G4_0, G4_1, G4_2⟩ := Q4
    have P4 := P1.call Pc4 all0
    show OGo p e below K T4 (mkF m 33 #[.val (.int cc), .val (.ref o_1), .val (.int (6 : Int32)), .val (.int (0 : Int32)), .val (.ref e0)] [(.ref o_4)])
    have hV : VV cc e0 e1 e2 e3 e4 e5 = .ref e0 := by rw [← h0]; rfl
    have FV5 := G4_2
    rw [← hV] at FV5
    exact g_ret X4 hx hret hlk rfl (Or.inr (Or.inr (Or.inr (Or.inr ⟨rfl, rfl, rfl⟩)))) (hb hby d0_33) (by decide) (by decide) eh4 hK ⟨o_4, rfl, P4, G4_1, FV5⟩
  · refine g_icmpY X3 hx (hb hby d0_25) (XT.ii_ne_t h0) (by decide) (pc' := 34) (by decide) ?_
    refine g_iinc X3 hx (1 : Int32) (hb hby d0_34) (rfl : 34 + 3 = 37) (by decide) rfl (z := (1 : Int32)) (by decide) (Ls' := #[.val (.int cc), .val (.ref o_1), .val (.int (6 : Int32)), .val (.int (1 : Int32)), .val (.ref e0)]) rfl ?_
    refine g_goto X3 hx (hb hby d0_37) (by decide) (pc' := 9) (by decide) ?_
    refine g_iloadN X3 hx (hb hby d0_9) (rfl : 9 + 1 = 10) rfl ?_
    refine g_iloadN X3 hx (hb hby d0_10) (rfl : 10 + 1 = 11) rfl ?_
    refine g_icmpN X3 hx (hb hby d0_11) (XT.ii_ge_f (by decide)) (rfl : 11 + 3 = 14) ?_
    refine g_aloadN X3 hx (hb hby d0_14) (rfl : 14 + 1 = 15) rfl rfl ?_
    refine g_iloadN X3 hx (hb hby d0_15) (rfl : 15 + 1 = 16) rfl ?_
    refine g_aaload X3 hx hZ eh3 G1_1 rfl (v := (.ref e1)) (by decide) (by rfl) (hb hby d0_16) (rfl : 16 + 1 = 17) ?_
    refine g_astore X3 hx (hb hby d0_17) (rfl : 17 + 2 = 19) rfl (Ls' := #[.val (.int cc), .val (.ref o_1), .val (.int (6 : Int32)), .val (.int (1 : Int32)), .val (.ref e1)]) rfl ?_
    refine g_aload X3 hx (hb hby d0_19) (rfl : 19 + 2 = 21) rfl rfl ?_
    have F6 := (fldP I4 Pc1 nin0)
    refine g_getf X3 hx hZ hown (host := "") (Or.inl (wd hw 25 rfl)) Via.refl eh3 F6 (hb hby d0_21) (rfl : 21 + 3 = 24) fun T7 X7 eh7 => ?_
    refine g_iloadN X7 hx (hb hby d0_24) (rfl : 24 + 1 = 25) rfl ?_
    by_cases h1 : (20 : Int32) = cc
    · refine g_icmpN X7 hx (hb hby d0_25) (XT.ii_ne_f h1) (rfl : 25 + 3 = 28) ?_
      refine g_aload X7 hx (hb hby d0_28) (rfl : 28 + 2 = 30) rfl rfl ?_
      refine g_static X7 hx hZ hown eh7 (rm_oof hw e1) (wd hw 27 rfl) (wd hw 28 rfl) (wd hw 30 rfl) (wd hw 29 rfl) (by decide) (argsL := [(.ref e1)]) (rest := []) rfl rfl (ps := [(.object "java/lang/Object")]) (rt := (some (.object "java/util/Optional"))) (by decide) rfl (W := 0) (Nat.le_of_eq rfl) (by decide) (by decide) (by decide) (by decide) (by rw [hml]; rfl) (hb hby d0_30) (rfl : 30 + 3 = 33) fun v8 T8 hh8 L8 X8 eh8 Q8 => ?_
      obtain ⟨o_8, rfl, Pc8, G8_0, G8_1, G8_2⟩ := Q8
      have P8 := P1.call Pc8 all0
      show OGo p e below K T8 (mkF m 33 #[.val (.int cc), .val (.ref o_1), .val (.int (6 : Int32)), .val (.int (1 : Int32)), .val (.ref e1)] [(.ref o_8)])
      have hV : VV cc e0 e1 e2 e3 e4 e5 = .ref e1 := by rw [← h1]; rfl
      have FV9 := G8_2
      rw [← hV] at FV9
      exact g_ret X8 hx hret hlk rfl (Or.inr (Or.inr (Or.inr (Or.inr ⟨rfl, rfl, rfl⟩)))) (hb hby d0_33) (by decide) (by decide) eh8 hK ⟨o_8, rfl, P8, G8_1, FV9⟩
    · refine g_icmpY X7 hx (hb hby d0_25) (XT.ii_ne_t h1) (by decide) (pc' := 34) (by decide) ?_
      refine g_iinc X7 hx (1 : Int32) (hb hby d0_34) (rfl : 34 + 3 = 37) (by decide) rfl (z := (2 : Int32)) (by decide) (Ls' := #[.val (.int cc), .val (.ref o_1), .val (.int (6 : Int32)), .val (.int (2 : Int32)), .val (.ref e1)]) rfl ?_
      refine g_goto X7 hx (hb hby d0_37) (by decide) (pc' := 9) (by decide) ?_
      refine g_iloadN X7 hx (hb hby d0_9) (rfl : 9 + 1 = 10) rfl ?_
      refine g_iloadN X7 hx (hb hby d0_10) (rfl : 10 + 1 = 11) rfl ?_
      refine g_icmpN X7 hx (hb hby d0_11) (XT.ii_ge_f (by decide)) (rfl : 11 + 3 = 14) ?_
      refine g_aloadN X7 hx (hb hby d0_14) (rfl : 14 + 1 = 15) rfl rfl ?_
      refine g_iloadN X7 hx (hb hby d0_15) (rfl : 15 + 1 = 16) rfl ?_
      refine g_aaload X7 hx hZ eh7 G1_1 rfl (v := (.ref e2)) (by decide) (by rfl) (hb hby d0_16) (rfl : 16 + 1 = 17) ?_
      refine g_astore X7 hx (hb hby d0_17) (rfl : 17 + 2 = 19) rfl (Ls' := #[.val (.int cc), .val (.ref o_1), .val (.int (6 : Int32)), .val (.int (2 : Int32)), .val (.ref e2)]) rfl ?_
      refine g_aload X7 hx (hb hby d0_19) (rfl : 19 + 2 = 21) rfl rfl ?_
      have F10 := (fldP I5 Pc1 nin0)
      refine g_getf X7 hx hZ hown (host := "") (Or.inl (wd hw 25 rfl)) Via.refl eh7 F10 (hb hby d0_21) (rfl : 21 + 3 = 24) fun T11 X11 eh11 => ?_
      refine g_iloadN X11 hx (hb hby d0_24) (rfl : 24 + 1 = 25) rfl ?_
      by_cases h2 : (21 : Int32) = cc
      · refine g_icmpN X11 hx (hb hby d0_25) (XT.ii_ne_f h2) (rfl : 25 + 3 = 28) ?_
        refine g_aload X11 hx (hb hby d0_28) (rfl : 28 + 2 = 30) rfl rfl ?_
        refine g_static X11 hx hZ hown eh11 (rm_oof hw e2) (wd hw 27 rfl) (wd hw 28 rfl) (wd hw 30 rfl) (wd hw 29 rfl) (by decide) (argsL := [(.ref e2)]) (rest := []) rfl rfl (ps := [(.object "java/lang/Object")]) (rt := (some (.object "java/util/Optional"))) (by decide) rfl (W := 0) (Nat.le_of_eq rfl) (by decide) (by decide) (by decide) (by decide) (by rw [hml]; rfl) (hb hby d0_30) (rfl : 30 + 3 = 33) fun v12 T12 hh12 L12 X12 eh12 Q12 => ?_
        obtain ⟨o_12, rfl, Pc12, G12_0, G12_1, G12_2⟩ := Q12
        have P12 := P1.call Pc12 all0
        show OGo p e below K T12 (mkF m 33 #[.val (.int cc), .val (.ref o_1), .val (.int (6 : Int32)), .val (.int (2 : Int32)), .val (.ref e2)] [(.ref o_12)])
        have hV : VV cc e0 e1 e2 e3 e4 e5 = .ref e2 := by rw [← h2]; rfl
        have FV13 := G12_2
        rw [← hV] at FV13
        exact g_ret X12 hx hret hlk rfl (Or.inr (Or.inr (Or.inr (Or.inr ⟨rfl, rfl, rfl⟩)))) (hb hby d0_33) (by decide) (by decide) eh12 hK ⟨o_12, rfl, P12, G12_1, FV13⟩
      · refine g_icmpY X11 hx (hb hby d0_25) (XT.ii_ne_t h2) (by decide) (pc' := 34) (by decide) ?_
        refine g_iinc X11 hx (1 : Int32) (hb hby d0_34) (rfl : 34 + 3 = 37) (by decide) rfl (z := (3 : Int32)) (by decide) (Ls' := #[.val (.int cc), .val (.ref o_1), .val (.int (6 : Int32)), .val (.int (3 : Int32)), .val (.ref e2)]) rfl ?_
        refine g_goto X11 hx (hb hby d0_37) (by decide) (pc' := 9) (by decide) ?_
        refine g_iloadN X11 hx (hb hby d0_9) (rfl : 9 + 1 = 10) rfl ?_
        refine g_iloadN X11 hx (hb hby d0_10) (rfl : 10 + 1 = 11) rfl ?_
        refine g_icmpN X11 hx (hb hby d0_11) (XT.ii_ge_f (by decide)) (rfl : 11 + 3 = 14) ?_
        refine g_aloadN X11 hx (hb hby d0_14) (rfl : 14 + 1 = 15) rfl rfl ?_
        refine g_iloadN X11 hx (hb hby d0_15) (rfl : 15 + 1 = 16) rfl ?_
        refine g_aaload X11 hx hZ eh11 G1_1 rfl (v := (.ref e3)) (by decide) (by rfl) (hb hby d0_16) (rfl : 16 + 1 = 17) ?_
        refine g_astore X11 hx (hb hby d0_17) (rfl : 17 + 2 = 19) rfl (Ls' := #[.val (.int cc), .val (.ref o_1), .val (.int (6 : Int32)), .val (.int (3 : Int32)), .val (.ref e3)]) rfl ?_
        refine g_aload X11 hx (hb hby d0_19) (rfl : 19 + 2 = 21) rfl rfl ?_
        have F14 := (fldP I6 Pc1 nin0)
        refine g_getf X11 hx hZ hown (host := "") (Or.inl (wd hw 25 rfl)) Via.refl eh11 F14 (hb hby d0_21) (rfl : 21 + 3 = 24) fun T15 X15 eh15 => ?_
        refine g_iloadN X15 hx (hb hby d0_24) (rfl : 24 + 1 = 25) rfl ?_
        by_cases h3 : (22 : Int32) = cc
        · refine g_icmpN X15 hx (hb hby d0_25) (XT.ii_ne_f h3) (rfl : 25 + 3 = 28) ?_
          refine g_aload X15 hx (hb hby d0_28) (rfl : 28 + 2 = 30) rfl rfl ?_
          refine g_static X15 hx hZ hown eh15 (rm_oof hw e3) (wd hw 27 rfl) (wd hw 28 rfl) (wd hw 30 rfl) (wd hw 29 rfl) (by decide) (argsL := [(.ref e3)]) (rest := []) rfl rfl (ps := [(.object "java/lang/Object")]) (rt := (some (.object "java/util/Optional"))) (by decide) rfl (W := 0) (Nat.le_of_eq rfl) (by decide) (by decide) (by decide) (by decide) (by rw [hml]; rfl) (hb hby d0_30) (rfl : 30 + 3 = 33) fun v16 T16 hh16 L16 X16 eh16 Q16 => ?_
          obtain ⟨o_16, rfl, Pc16, G16_0, G16_1, G16_2⟩ := Q16
          have P16 := P1.call Pc16 all0
          show OGo p e below K T16 (mkF m 33 #[.val (.int cc), .val (.ref o_1), .val (.int (6 : Int32)), .val (.int (3 : Int32)), .val (.ref e3)] [(.ref o_16)])
          have hV : VV cc e0 e1 e2 e3 e4 e5 = .ref e3 := by rw [← h3]; rfl
          have FV17 := G16_2
          rw [← hV] at FV17
          exact g_ret X16 hx hret hlk rfl (Or.inr (Or.inr (Or.inr (Or.inr ⟨rfl, rfl, rfl⟩)))) (hb hby d0_33) (by decide) (by decide) eh16 hK ⟨o_16, rfl, P16, G16_1, FV17⟩
        · refine g_icmpY X15 hx (hb hby d0_25) (XT.ii_ne_t h3) (by decide) (pc' := 34) (by decide) ?_
          refine g_iinc X15 hx (1 : Int32) (hb hby d0_34) (rfl : 34 + 3 = 37) (by decide) rfl (z := (4 : Int32)) (by decide) (Ls' := #[.val (.int cc), .val (.ref o_1), .val (.int (6 : Int32)), .val (.int (4 : Int32)), .val (.ref e3)]) rfl ?_
          refine g_goto X15 hx (hb hby d0_37) (by decide) (pc' := 9) (by decide) ?_
          refine g_iloadN X15 hx (hb hby d0_9) (rfl : 9 + 1 = 10) rfl ?_
          refine g_iloadN X15 hx (hb hby d0_10) (rfl : 10 + 1 = 11) rfl ?_
          refine g_icmpN X15 hx (hb hby d0_11) (XT.ii_ge_f (by decide)) (rfl : 11 + 3 = 14) ?_
          refine g_aloadN X15 hx (hb hby d0_14) (rfl : 14 + 1 = 15) rfl rfl ?_
          refine g_iloadN X15 hx (hb hby d0_15) (rfl : 15 + 1 = 16) rfl ?_
          refine g_aaload X15 hx hZ eh15 G1_1 rfl (v := (.ref e4)) (by decide) (by rfl) (hb hby d0_16) (rfl : 16 + 1 = 17) ?_
          refine g_astore X15 hx (hb hby d0_17) (rfl : 17 + 2 = 19) rfl (Ls' := #[.val (.int cc), .val (.ref o_1), .val (.int (6 : Int32)), .val (.int (4 : Int32)), .val (.ref e4)]) rfl ?_
          refine g_aload X15 hx (hb hby d0_19) (rfl : 19 + 2 = 21) rfl rfl ?_
          have F18 := (fldP I7 Pc1 nin0)
          refine g_getf X15 hx hZ hown (host := "") (Or.inl (wd hw 25 rfl)) Via.refl eh15 F18 (hb hby d0_21) (rfl : 21 + 3 = 24) fun T19 X19 eh19 => ?_
          refine g_iloadN X19 hx (hb hby d0_24) (rfl : 24 + 1 = 25) rfl ?_
          by_cases h4 : (23 : Int32) = cc
          · refine g_icmpN X19 hx (hb hby d0_25) (XT.ii_ne_f h4) (rfl : 25 + 3 = 28) ?_
            refine g_aload X19 hx (hb hby d0_28) (rfl : 28 + 2 = 30) rfl rfl ?_
            refine g_static X19 hx hZ hown eh19 (rm_oof hw e4) (wd hw 27 rfl) (wd hw 28 rfl) (wd hw 30 rfl) (wd hw 29 rfl) (by decide) (argsL := [(.ref e4)]) (rest := []) rfl rfl (ps := [(.object "java/lang/Object")]) (rt := (some (.object "java/util/Optional"))) (by decide) rfl (W := 0) (Nat.le_of_eq rfl) (by decide) (by decide) (by decide) (by decide) (by rw [hml]; rfl) (hb hby d0_30) (rfl : 30 + 3 = 33) fun v20 T20 hh20 L20 X20 eh20 Q20 => ?_
            obtain ⟨o_20, rfl, Pc20, G20_0, G20_1, G20_2⟩ := Q20
            have P20 := P1.call Pc20 all0
            show OGo p e below K T20 (mkF m 33 #[.val (.int cc), .val (.ref o_1), .val (.int (6 : Int32)), .val (.int (4 : Int32)), .val (.ref e4)] [(.ref o_20)])
            have hV : VV cc e0 e1 e2 e3 e4 e5 = .ref e4 := by rw [← h4]; rfl
            have FV21 := G20_2
            rw [← hV] at FV21
            exact g_ret X20 hx hret hlk rfl (Or.inr (Or.inr (Or.inr (Or.inr ⟨rfl, rfl, rfl⟩)))) (hb hby d0_33) (by decide) (by decide) eh20 hK ⟨o_20, rfl, P20, G20_1, FV21⟩
          · refine g_icmpY X19 hx (hb hby d0_25) (XT.ii_ne_t h4) (by decide) (pc' := 34) (by decide) ?_
            refine g_iinc X19 hx (1 : Int32) (hb hby d0_34) (rfl : 34 + 3 = 37) (by decide) rfl (z := (5 : Int32)) (by decide) (Ls' := #[.val (.int cc), .val (.ref o_1), .val (.int (6 : Int32)), .val (.int (5 : Int32)), .val (.ref e4)]) rfl ?_
            refine g_goto X19 hx (hb hby d0_37) (by decide) (pc' := 9) (by decide) ?_
            refine g_iloadN X19 hx (hb hby d0_9) (rfl : 9 + 1 = 10) rfl ?_
            refine g_iloadN X19 hx (hb hby d0_10) (rfl : 10 + 1 = 11) rfl ?_
            refine g_icmpN X19 hx (hb hby d0_11) (XT.ii_ge_f (by decide)) (rfl : 11 + 3 = 14) ?_
            refine g_aloadN X19 hx (hb hby d0_14) (rfl : 14 + 1 = 15) rfl rfl ?_
            refine g_iloadN X19 hx (hb hby d0_15) (rfl : 15 + 1 = 16) rfl ?_
            refine g_aaload X19 hx hZ eh19 G1_1 rfl (v := (.ref e5)) (by decide) (by rfl) (hb hby d0_16) (rfl : 16 + 1 = 17) ?_
            refine g_astore X19 hx (hb hby d0_17) (rfl : 17 + 2 = 19) rfl (Ls' := #[.val (.int cc), .val (.ref o_1), .val (.int (6 : Int32)), .val (.int (5 : Int32)), .val (.ref e5)]) rfl ?_
            refine g_aload X19 hx (hb hby d0_19) (rfl : 19 + 2 = 21) rfl rfl ?_
            have F22 := (fldP I8 Pc1 nin0)
            refine g_getf X19 hx hZ hown (host := "") (Or.inl (wd hw 25 rfl)) Via.refl eh19 F22 (hb hby d0_21) (rfl : 21 + 3 = 24) fun T23 X23 eh23 => ?_
            refine g_iloadN X23 hx (hb hby d0_24) (rfl : 24 + 1 = 25) rfl ?_
            by_cases h5 : (25 : Int32) = cc
            · refine g_icmpN X23 hx (hb hby d0_25) (XT.ii_ne_f h5) (rfl : 25 + 3 = 28) ?_
              refine g_aload X23 hx (hb hby d0_28) (rfl : 28 + 2 = 30) rfl rfl ?_
              refine g_static X23 hx hZ hown eh23 (rm_oof hw e5) (wd hw 27 rfl) (wd hw 28 rfl) (wd hw 30 rfl) (wd hw 29 rfl) (by decide) (argsL := [(.ref e5)]) (rest := []) rfl rfl (ps := [(.object "java/lang/Object")]) (rt := (some (.object "java/util/Optional"))) (by decide) rfl (W := 0) (Nat.le_of_eq rfl) (by decide) (by decide) (by decide) (by decide) (by rw [hml]; rfl) (hb hby d0_30) (rfl : 30 + 3 = 33) fun v24 T24 hh24 L24 X24 eh24 Q24 => ?_
              obtain ⟨o_24, rfl, Pc24, G24_0, G24_1, G24_2⟩ := Q24
              have P24 := P1.call Pc24 all0
              show OGo p e below K T24 (mkF m 33 #[.val (.int cc), .val (.ref o_1), .val (.int (6 : Int32)), .val (.int (5 : Int32)), .val (.ref e5)] [(.ref o_24)])
              have hV : VV cc e0 e1 e2 e3 e4 e5 = .ref e5 := by rw [← h5]; rfl
              have FV25 := G24_2
              rw [← hV] at FV25
              exact g_ret X24 hx hret hlk rfl (Or.inr (Or.inr (Or.inr (Or.inr ⟨rfl, rfl, rfl⟩)))) (hb hby d0_33) (by decide) (by decide) eh24 hK ⟨o_24, rfl, P24, G24_1, FV25⟩
            · refine g_icmpY X23 hx (hb hby d0_25) (XT.ii_ne_t h5) (by decide) (pc' := 34) (by decide) ?_
              refine g_iinc X23 hx (1 : Int32) (hb hby d0_34) (rfl : 34 + 3 = 37) (by decide) rfl (z := (6 : Int32)) (by decide) (Ls' := #[.val (.int cc), .val (.ref o_1), .val (.int (6 : Int32)), .val (.int (6 : Int32)), .val (.ref e5)]) rfl ?_
              refine g_goto X23 hx (hb hby d0_37) (by decide) (pc' := 9) (by decide) ?_
              refine g_iloadN X23 hx (hb hby d0_9) (rfl : 9 + 1 = 10) rfl ?_
              refine g_iloadN X23 hx (hb hby d0_10) (rfl : 10 + 1 = 11) rfl ?_
              refine g_icmpY X23 hx (hb hby d0_11) (XT.ii_ge_t (by decide)) (by decide) (pc' := 40) (by decide) ?_
              have F27 := (staP I9 Pc1)
              refine g_static X23 hx hZ hown eh23 (rm_oempty hw em F27) (wd hw 63 rfl) (wd hw 64 rfl) (wd hw 65 rfl) (wd hw 29 rfl) (by decide) (argsL := []) (rest := []) rfl rfl (ps := []) (rt := (some (.object "java/util/Optional"))) (by decide) rfl (W := 0) (Nat.le_of_eq rfl) (by decide) (by decide) (by decide) (by decide) (by rw [hml]; rfl) (hb hby d0_40) (rfl : 40 + 3 = 43) fun v26 T26 hh26 L26 X26 eh26 Q26 => ?_
              obtain ⟨rfl, Pc26⟩ := Q26
              have P26 := P1.call Pc26 all0
              show OGo p e below K T26 (mkF m 43 #[.val (.int cc), .val (.ref o_1), .val (.int (6 : Int32)), .val (.int (6 : Int32)), .val (.ref e5)] [(.ref em)])
              have F28 := (fldP I11 P26 nin0)
              have hV : VV cc e0 e1 e2 e3 e4 e5 = .null := by simp [VV, Ne.symm h0, Ne.symm h1, Ne.symm h2, Ne.symm h3, Ne.symm h4, Ne.symm h5]
              have FV29 := F28
              rw [← hV] at FV29
              have F30 := (exaP I10 P26)
              exact g_ret X26 hx hret hlk rfl (Or.inr (Or.inr (Or.inr (Or.inr ⟨rfl, rfl, rfl⟩)))) (hb hby d0_43) (by decide) (by decide) eh26 hK ⟨em, rfl, P26, F30, FV29⟩
theorem d7_0 : decode method_2_code 0 = .ok (.iload_n 0, 1) := by decide +kernel
theorem d7_1 : decode method_2_code 1 = .ok (.bipush 19, 2) := by decide +kernel
theorem d7_3 : decode method_2_code 3 = .ok (.if_icmp .ne 7, 3) := by decide +kernel
theorem d7_6 : decode method_2_code 6 = .ok (.getstatic 7, 3) := by decide +kernel
theorem d7_9 : decode method_2_code 9 = .ok (.areturn, 1) := by decide +kernel
theorem d7_10 : decode method_2_code 10 = .ok (.iload_n 0, 1) := by decide +kernel
theorem d7_11 : decode method_2_code 11 = .ok (.bipush 20, 2) := by decide +kernel
theorem d7_13 : decode method_2_code 13 = .ok (.if_icmp .ne 7, 3) := by decide +kernel
theorem d7_16 : decode method_2_code 16 = .ok (.getstatic 13, 3) := by decide +kernel
theorem d7_19 : decode method_2_code 19 = .ok (.areturn, 1) := by decide +kernel
theorem d7_20 : decode method_2_code 20 = .ok (.iload_n 0, 1) := by decide +kernel
theorem d7_21 : decode method_2_code 21 = .ok (.bipush 21, 2) := by decide +kernel
theorem d7_23 : decode method_2_code 23 = .ok (.if_icmp .ne 7, 3) := by decide +kernel
theorem d7_26 : decode method_2_code 26 = .ok (.getstatic 16, 3) := by decide +kernel
theorem d7_29 : decode method_2_code 29 = .ok (.areturn, 1) := by decide +kernel
theorem d7_30 : decode method_2_code 30 = .ok (.iload_n 0, 1) := by decide +kernel
theorem d7_31 : decode method_2_code 31 = .ok (.bipush 22, 2) := by decide +kernel
theorem d7_33 : decode method_2_code 33 = .ok (.if_icmp .ne 7, 3) := by decide +kernel
theorem d7_36 : decode method_2_code 36 = .ok (.getstatic 19, 3) := by decide +kernel
theorem d7_39 : decode method_2_code 39 = .ok (.areturn, 1) := by decide +kernel
theorem d7_40 : decode method_2_code 40 = .ok (.iload_n 0, 1) := by decide +kernel
theorem d7_41 : decode method_2_code 41 = .ok (.bipush 23, 2) := by decide +kernel
theorem d7_43 : decode method_2_code 43 = .ok (.if_icmp .ne 7, 3) := by decide +kernel
theorem d7_46 : decode method_2_code 46 = .ok (.getstatic 22, 3) := by decide +kernel
theorem d7_49 : decode method_2_code 49 = .ok (.areturn, 1) := by decide +kernel
theorem d7_50 : decode method_2_code 50 = .ok (.iload_n 0, 1) := by decide +kernel
theorem d7_51 : decode method_2_code 51 = .ok (.bipush 25, 2) := by decide +kernel
theorem d7_53 : decode method_2_code 53 = .ok (.if_icmp .ne 7, 3) := by decide +kernel
theorem d7_56 : decode method_2_code 56 = .ok (.getstatic 25, 3) := by decide +kernel
theorem d7_59 : decode method_2_code 59 = .ok (.areturn, 1) := by decide +kernel
theorem d7_60 : decode method_2_code 60 = .ok (.aconst_null, 1) := by decide +kernel
theorem d7_61 : decode method_2_code 61 = .ok (.areturn, 1) := by decide +kernel
theorem pn_rm_exp : plainFor (⟨"com/example/varco/varco/AuthnFailureOfCodePinLaw", "expected", "(I)Lcom/example/varco/varco/AuthnFailure;"⟩ : MethodName) = true := by first | exact plainFor_of_name (by first | (simp [plainName, overriddenIn]; done) | decide +kernel) | decide +kernel
set_option maxRecDepth 65536 in
set_option maxHeartbeats 40000000 in
theorem rm_exp {l : Launch} {Z : State} {a0 : Array Value} (hw : ∀ d ∈ tables_1, d.before a0 Z = true) (cc : Int32) (e0 : Addr) (e1 : Addr) (e2 : Addr) (e3 : Addr) (e4 : Addr) (e5 : Addr) {h0 : Heap} (I0 : Sta Z h0 "com/example/varco/varco/AuthnFailure" "TOO_MANY_ATTEMPTS" "Lcom/example/varco/varco/AuthnFailure;" (.ref e0)) (I1 : Sta Z h0 "com/example/varco/varco/AuthnFailure" "LEVEL_TOO_LOW" "Lcom/example/varco/varco/AuthnFailure;" (.ref e1)) (I2 : Sta Z h0 "com/example/varco/varco/AuthnFailure" "TIMED_OUT" "Lcom/example/varco/varco/AuthnFailure;" (.ref e2)) (I3 : Sta Z h0 "com/example/varco/varco/AuthnFailure" "CONSENT_DENIED" "Lcom/example/varco/varco/AuthnFailure;" (.ref e3)) (I4 : Sta Z h0 "com/example/varco/varco/AuthnFailure" "IDENTITY_SUSPENDED" "Lcom/example/varco/varco/AuthnFailure;" (.ref e4)) (I5 : Sta Z h0 "com/example/varco/varco/AuthnFailure" "CANCELLED" "Lcom/example/varco/varco/AuthnFailure;" (.ref e5))  :
    OMet l (⟨"com/example/varco/varco/AuthnFailureOfCodePinLaw", "expected", "(I)Lcom/example/varco/varco/AuthnFailure;"⟩ : MethodName) method_2_code 1 (Option.some (Jvm.ClassFile.FieldType.object "com/example/varco/varco/AuthnFailure")) ({ frames := 0, cells := 0, slots := 0, locals := 0 } : Room) #[(.int cc)] Z h0 (fun v h L => v = some (VV cc e0 e1 e2 e3 e4 e5) ∧ OPr h0 [] h L) := by
  refine OMet.body pn_rm_exp (Ls := #[.val (.int cc)]) (fun m => by first | (simp [entryFrame, mkF, argsToLocals, Value.category]; done) | rfl) ?_
  intro p e s m below meth c T0 K hK X0 hx hby hml hown hnm hret hlk hZ eh0
  have P0 := OPr.refl h0 []
  refine g_iloadN X0 hx (hb hby d7_0) (rfl : 0 + 1 = 1) rfl ?_
  refine g_bipush X0 hx (19 : Int32) (hb hby d7_1) (rfl : 1 + 2 = 3) (by decide) ?_
  by_cases h0 : cc = (19 : Int32)
  · refine g_icmpN X0 hx (hb hby d7_3) (XT.ii_ne_f h0) (rfl : 3 + 3 = 6) ?_
    refine g_gets X0 hx hZ hown (host := "") (Or.inl (wd hw 57 rfl)) Via.refl eh0 I0 (hb hby d7_6) (rfl : 6 + 3 = 9) fun T1 X1 eh1 => ?_
    exact g_ret X1 hx hret hlk rfl (Or.inr (Or.inr (Or.inr (Or.inr ⟨rfl, rfl, rfl⟩)))) (hb hby d7_9) (by decide) (by decide) eh1 hK ⟨(by rw [h0]; rfl), P0⟩
  · refine g_icmpY X0 hx (hb hby d7_3) (XT.ii_ne_t h0) (by decide) (pc' := 10) (by decide) ?_
    refine g_iloadN X0 hx (hb hby d7_10) (rfl : 10 + 1 = 11) rfl ?_
    refine g_bipush X0 hx (20 : Int32) (hb hby d7_11) (rfl : 11 + 2 = 13) (by decide) ?_
    by_cases h1 : cc = (20 : Int32)
    · refine g_icmpN X0 hx (hb hby d7_13) (XT.ii_ne_f h1) (rfl : 13 + 3 = 16) ?_
      refine g_gets X0 hx hZ hown (host := "") (Or.inl (wd hw 67 rfl)) Via.refl eh0 I1 (hb hby d7_16) (rfl : 16 + 3 = 19) fun T2 X2 eh2 => ?_
      exact g_ret X2 hx hret hlk rfl (Or.inr (Or.inr (Or.inr (Or.inr ⟨rfl, rfl, rfl⟩)))) (hb hby d7_19) (by decide) (by decide) eh2 hK ⟨(by rw [h1]; rfl), P0⟩
    · refine g_icmpY X0 hx (hb hby d7_13) (XT.ii_ne_t h1) (by decide) (pc' := 20) (by decide) ?_
      refine g_iloadN X0 hx (hb hby d7_20) (rfl : 20 + 1 = 21) rfl ?_
      refine g_bipush X0 hx (21 : Int32) (hb hby d7_21) (rfl : 21 + 2 = 23) (by decide) ?_
      by_cases h2 : cc = (21 : Int32)
      · refine g_icmpN X0 hx (hb hby d7_23) (XT.ii_ne_f h2) (rfl : 23 + 3 = 26) ?_
        refine g_gets X0 hx hZ hown (host := "") (Or.inl (wd hw 70 rfl)) Via.refl eh0 I2 (hb hby d7_26) (rfl : 26 + 3 = 29) fun T3 X3 eh3 => ?_
        exact g_ret X3 hx hret hlk rfl (Or.inr (Or.inr (Or.inr (Or.inr ⟨rfl, rfl, rfl⟩)))) (hb hby d7_29) (by decide) (by decide) eh3 hK ⟨(by rw [h2]; rfl), P0⟩
      · refine g_icmpY X0 hx (hb hby d7_23) (XT.ii_ne_t h2) (by decide) (pc' := 30) (by decide) ?_
        refine g_iloadN X0 hx (hb hby d7_30) (rfl : 30 + 1 = 31) rfl ?_
        refine g_bipush X0 hx (22 : Int32) (hb hby d7_31) (rfl : 31 + 2 = 33) (by decide) ?_
        by_cases h3 : cc = (22 : Int32)
        · refine g_icmpN X0 hx (hb hby d7_33) (XT.ii_ne_f h3) (rfl : 33 + 3 = 36) ?_
          refine g_gets X0 hx hZ hown (host := "") (Or.inl (wd hw 71 rfl)) Via.refl eh0 I3 (hb hby d7_36) (rfl : 36 + 3 = 39) fun T4 X4 eh4 => ?_
          exact g_ret X4 hx hret hlk rfl (Or.inr (Or.inr (Or.inr (Or.inr ⟨rfl, rfl, rfl⟩)))) (hb hby d7_39) (by decide) (by decide) eh4 hK ⟨(by rw [h3]; rfl), P0⟩
        · refine g_icmpY X0 hx (hb hby d7_33) (XT.ii_ne_t h3) (by decide) (pc' := 40) (by decide) ?_
          refine g_iloadN X0 hx (hb hby d7_40) (rfl : 40 + 1 = 41) rfl ?_
          refine g_bipush X0 hx (23 : Int32) (hb hby d7_41) (rfl : 41 + 2 = 43) (by decide) ?_
          by_cases h4 : cc = (23 : Int32)
          · refine g_icmpN X0 hx (hb hby d7_43) (XT.ii_ne_f h4) (rfl : 43 + 3 = 46) ?_
            refine g_gets X0 hx hZ hown (host := "") (Or.inl (wd hw 69 rfl)) Via.refl eh0 I4 (hb hby d7_46) (rfl : 46 + 3 = 49) fun T5 X5 eh5 => ?_
            exact g_ret X5 hx hret hlk rfl (Or.inr (Or.inr (Or.inr (Or.inr ⟨rfl, rfl, rfl⟩)))) (hb hby d7_49) (by decide) (by decide) eh5 hK ⟨(by rw [h4]; rfl), P0⟩
          · refine g_icmpY X0 hx (hb hby d7_43) (XT.ii_ne_t h4) (by decide) (pc' := 50) (by decide) ?_
            refine g_iloadN X0 hx (hb hby d7_50) (rfl : 50 + 1 = 51) rfl ?_
            refine g_bipush X0 hx (25 : Int32) (hb hby d7_51) (rfl : 51 + 2 = 53) (by decide) ?_
            by_cases h5 : cc = (25 : Int32)
            · refine g_icmpN X0 hx (hb hby d7_53) (XT.ii_ne_f h5) (rfl : 53 + 3 = 56) ?_
              refine g_gets X0 hx hZ hown (host := "") (Or.inl (wd hw 68 rfl)) Via.refl eh0 I5 (hb hby d7_56) (rfl : 56 + 3 = 59) fun T6 X6 eh6 => ?_
              exact g_ret X6 hx hret hlk rfl (Or.inr (Or.inr (Or.inr (Or.inr ⟨rfl, rfl, rfl⟩)))) (hb hby d7_59) (by decide) (by decide) eh6 hK ⟨(by rw [h5]; rfl), P0⟩
            · refine g_icmpY X0 hx (hb hby d7_53) (XT.ii_ne_t h5) (by decide) (pc' := 60) (by decide) ?_
              refine g_anull X0 hx (hb hby d7_60) (rfl : 60 + 1 = 61) ?_
              exact g_ret X0 hx hret hlk rfl (Or.inr (Or.inr (Or.inr (Or.inr ⟨rfl, rfl, rfl⟩)))) (hb hby d7_61) (by decide) (by decide) eh0 hK ⟨(by simp [VV, h0, h1, h2, h3, h4, h5]), P0⟩
theorem d8_0 : decode prog_4_method_5_code 0 = .ok (.aload_n 0, 1) := by decide +kernel
theorem d8_1 : decode prog_4_method_5_code 1 = .ok (.getfield 41, 3) := by decide +kernel
theorem d8_4 : decode prog_4_method_5_code 4 = .ok (.ireturn, 1) := by decide +kernel
theorem pn_rm_code : plainFor (⟨"com/example/varco/varco/AuthnFailure", "code", "()I"⟩ : MethodName) = true := by first | exact plainFor_of_name (by first | (simp [plainName, overriddenIn]; done) | decide +kernel) | decide +kernel
set_option maxRecDepth 65536 in
set_option maxHeartbeats 40000000 in
theorem rm_code {l : Launch} {Z : State} {a0 : Array Value} (hw : ∀ d ∈ tables_1, d.before a0 Z = true) (b : Addr) (cc : Int32) {h0 : Heap} (I0 : Fld Z h0 b "com/example/varco/varco/AuthnFailure" "code" "I" (.int cc))  :
    OMet l (⟨"com/example/varco/varco/AuthnFailure", "code", "()I"⟩ : MethodName) prog_4_method_5_code 1 (Option.some Jvm.ClassFile.FieldType.int) ({ frames := 0, cells := 0, slots := 0, locals := 0 } : Room) #[(.ref b)] Z h0 (fun v h L => v = some (.int cc) ∧ OPr h0 [] h L) := by
  refine OMet.body pn_rm_code (Ls := #[.val (.ref b)]) (fun m => by first | (simp [entryFrame, mkF, argsToLocals, Value.category]; done) | rfl) ?_
  intro p e s m below meth c T0 K hK X0 hx hby hml hown hnm hret hlk hZ eh0
  have P0 := OPr.refl h0 []
  refine g_aloadN X0 hx (hb hby d8_0) (rfl : 0 + 1 = 1) rfl rfl ?_
  refine g_getf X0 hx hZ hown (host := "") (Or.inl (wd hw 25 rfl)) Via.refl eh0 I0 (hb hby d8_1) (rfl : 1 + 3 = 4) fun T1 X1 eh1 => ?_
  exact g_ret X1 hx hret hlk rfl (Or.inl ⟨rfl, Or.inl rfl, _, rfl⟩) (hb hby d8_4) (by decide) (by decide) eh1 hK ⟨rfl, P0⟩
theorem pn_rm0 : plainFor x = true := by first | exact plainFor_of_name (by first | (simp [plainName, overriddenIn]; done) | decide +kernel) | decide +kernel
set_option maxRecDepth 65536 in
set_option maxHeartbeats 40000000 in
theorem rm0 {l : Launch} {Z : State} {a0 : Array Value} (hw : ∀ d ∈ tables_1, d.before a0 Z = true) (p1 : Int32) (p2 : Int32) (em : Addr) (av : Addr) (kv : ClassId) (e0 : Addr) (e1 : Addr) (e2 : Addr) (e3 : Addr) (e4 : Addr) (e5 : Addr) {h0 : Heap} (I0 : Sta Z h0 "com/example/varco/varco/AuthnFailure" "$VALUES" "[Lcom/example/varco/varco/AuthnFailure;" (.ref av)) (I1 : OAry Z h0 av kv (.object "com/example/varco/varco/AuthnFailure") [(.ref e0), (.ref e1), (.ref e2), (.ref e3), (.ref e4), (.ref e5)]) (I2 : Exa Z h0 av "[Lcom/example/varco/varco/AuthnFailure;") (I3 : Fld Z h0 e0 "com/example/varco/varco/AuthnFailure" "code" "I" (.int (19 : Int32))) (I4 : Fld Z h0 e1 "com/example/varco/varco/AuthnFailure" "code" "I" (.int (20 : Int32))) (I5 : Fld Z h0 e2 "com/example/varco/varco/AuthnFailure" "code" "I" (.int (21 : Int32))) (I6 : Fld Z h0 e3 "com/example/varco/varco/AuthnFailure" "code" "I" (.int (22 : Int32))) (I7 : Fld Z h0 e4 "com/example/varco/varco/AuthnFailure" "code" "I" (.int (23 : Int32))) (I8 : Fld Z h0 e5 "com/example/varco/varco/AuthnFailure" "code" "I" (.int (25 : Int32))) (I9 : Sta Z h0 "java/util/Optional" "EMPTY" "Ljava/util/Optional;" (.ref em)) (I10 : Exa Z h0 em "java/util/Optional") (I11 : Fld Z h0 em "java/util/Optional" "value" "Ljava/lang/Object;" .null) (I12 : Sta Z h0 "com/example/varco/varco/AuthnFailure" "TOO_MANY_ATTEMPTS" "Lcom/example/varco/varco/AuthnFailure;" (.ref e0)) (I13 : Sta Z h0 "com/example/varco/varco/AuthnFailure" "LEVEL_TOO_LOW" "Lcom/example/varco/varco/AuthnFailure;" (.ref e1)) (I14 : Sta Z h0 "com/example/varco/varco/AuthnFailure" "TIMED_OUT" "Lcom/example/varco/varco/AuthnFailure;" (.ref e2)) (I15 : Sta Z h0 "com/example/varco/varco/AuthnFailure" "CONSENT_DENIED" "Lcom/example/varco/varco/AuthnFailure;" (.ref e3)) (I16 : Sta Z h0 "com/example/varco/varco/AuthnFailure" "IDENTITY_SUSPENDED" "Lcom/example/varco/varco/AuthnFailure;" (.ref e4)) (I17 : Sta Z h0 "com/example/varco/varco/AuthnFailure" "CANCELLED" "Lcom/example/varco/varco/AuthnFailure;" (.ref e5)) (I18 : Exa Z h0 e0 "com/example/varco/varco/AuthnFailure") (I19 : Exa Z h0 e1 "com/example/varco/varco/AuthnFailure") (I20 : Exa Z h0 e2 "com/example/varco/varco/AuthnFailure") (I21 : Exa Z h0 e3 "com/example/varco/varco/AuthnFailure") (I22 : Exa Z h0 e4 "com/example/varco/varco/AuthnFailure") (I23 : Exa Z h0 e5 "com/example/varco/varco/AuthnFailure")  :
    OMet l x code maxLocals ret room_1 #[(.int p1), (.int p2)] Z h0 (fun v h L => v = some (.int (1 : Int32)) ∧ OPr h0 [] h L) := by
  refine OMet.body pn_rm0 (Ls := #[.val (.int p1), .val (.int p2), .unset, .unset, .unset]) (fun m => by first | (simp [entryFrame, mkF, argsToLocals, Value.category, maxLocals]; done) | rfl) ?_
  intro p e s m below meth c T0 K hK X0 hx hby hml hown hnm hret hlk hZ eh0
  have P0 := OPr.refl h0 []
  have key : ∀ (cc : Int32), OGo p e below K T0 (mkF m 20 #[.val (.int p1), .val (.int p2), .val (.int cc), .unset, .unset] []) := by
    intro cc
    rcases VV_cases cc I18 I3 I19 I4 I20 I5 I21 I6 I22 I7 I23 I8 with hV | ⟨b, hV, Eb, Fb⟩
    · refine g_iloadN X0 hx (hb hby at_20) (rfl : 20 + 1 = 21) rfl ?_
      refine g_static X0 hx hZ hown eh0 (rm_ofcode hw cc em av kv e0 e1 e2 e3 e4 e5 I0 I1 I2 I3 I4 I5 I6 I7 I8 I9 I10 I11) (wd hw 0 rfl) (wd hw 1 rfl) (wd hw 3 rfl) (wd hw 2 rfl) (by decide) (argsL := [(.int cc)]) (rest := []) rfl rfl (ps := [.int]) (rt := (some (.object "java/util/Optional"))) (by decide) rfl (W := 0) (Nat.le_of_eq rfl) (by decide) (by decide) (by decide) (by decide) (by rw [hml]; rfl) (hb hby at_21) (rfl : 21 + 3 = 24) fun v1 T1 hh1 L1 X1 eh1 Q1 => ?_
      obtain ⟨o_1, rfl, Pc1, G1_0, G1_1⟩ := Q1
      have P1 := P0.call Pc1 all0
      show OGo p e below K T1 (mkF m 24 #[.val (.int p1), .val (.int p2), .val (.int cc), .unset, .unset] [(.ref o_1)])
      rw [hV] at G1_1
      refine g_anull X1 hx (hb hby at_24) (rfl : 24 + 1 = 25) ?_
      refine g_virtual X1 hx hZ hown eh1 (rm_orelse hw o_1 .null G1_1 rfl) (C := "java/util/Optional") (wd hw 46 rfl) (wd hw 47 rfl) (notFace_of_selects (args := #[]) (mvT hZ (wd hw 49 rfl))) (wd hw 49 rfl) (wd hw 48 rfl) (wd hw 50 rfl) (wd hw 29 rfl) (by decide) (a := o_1) G1_0 (argsL := [.null]) (rest := []) rfl rfl (ps := [(.object "java/lang/Object")]) (rt := (some (.object "java/lang/Object"))) (by decide) rfl (W := 0) (Nat.le_of_eq rfl) (by decide) (by decide) (by decide) (by decide) (by rw [hml]; rfl) (hb hby at_25) (rfl : 25 + 3 = 28) fun v2 T2 hh2 L2 X2 eh2 Q2 => ?_
      obtain ⟨rfl, Pc2⟩ := Q2
      have P2 := P1.call Pc2 all0
      show OGo p e below K T2 (mkF m 28 #[.val (.int p1), .val (.int p2), .val (.int cc), .unset, .unset] [.null])
      refine g_castN X2 hx (hb hby at_28) (rfl : 28 + 3 = 31) ?_
      refine g_astoreN X2 hx (hb hby at_31) (rfl : 31 + 1 = 32) rfl (Ls' := #[.val (.int p1), .val (.int p2), .val (.int cc), .val .null, .unset]) rfl ?_
      refine g_iloadN X2 hx (hb hby at_32) (rfl : 32 + 1 = 33) rfl ?_
      have F5 := (staP I12 P2)
      have F6 := (staP I13 P2)
      have F7 := (staP I14 P2)
      have F8 := (staP I15 P2)
      have F9 := (staP I16 P2)
      have F10 := (staP I17 P2)
      refine g_static X2 hx hZ hown eh2 (rm_exp hw cc e0 e1 e2 e3 e4 e5 F5 F6 F7 F8 F9 F10) (wd hw 53 rfl) (wd hw 54 rfl) (wd hw 56 rfl) (wd hw 55 rfl) (by decide) (argsL := [(.int cc)]) (rest := []) rfl rfl (ps := [.int]) (rt := (some (.object "com/example/varco/varco/AuthnFailure"))) (by decide) rfl (W := 0) (Nat.le_of_eq rfl) (by decide) (by decide) (by decide) (by decide) (by rw [hml]; rfl) (hb hby at_33) (rfl : 33 + 3 = 36) fun v4 T4 hh4 L4 X4 eh4 Q4 => ?_
      obtain ⟨rfl, Pc4⟩ := Q4
      have P4 := P2.call Pc4 all0
      show OGo p e below K T4 (mkF m 36 #[.val (.int p1), .val (.int p2), .val (.int cc), .val .null, .unset] [(VV cc e0 e1 e2 e3 e4 e5)])
      rw [hV]
      refine g_astore X4 hx (hb hby at_36) (rfl : 36 + 2 = 38) rfl (Ls' := #[.val (.int p1), .val (.int p2), .val (.int cc), .val .null, .val .null]) rfl ?_
      refine g_aloadN X4 hx (hb hby at_38) (rfl : 38 + 1 = 39) rfl rfl ?_
      refine g_aload X4 hx (hb hby at_39) (rfl : 39 + 2 = 41) rfl rfl ?_
      refine g_acmpY X4 hx (hb hby at_41) rfl rfl (XT.aa_eq_t rfl) (by decide) (pc' := 46) (by decide) ?_
      refine g_aloadN X4 hx (hb hby at_46) (rfl : 46 + 1 = 47) rfl rfl ?_
      refine g_nullY X4 hx (hb hby at_47) (by decide) (pc' := 58) (by decide) ?_
      refine g_iconst X4 hx (1 : Int32) (hb hby at_58) (rfl : 58 + 1 = 59) (by decide) ?_
      refine g_goto X4 hx (hb hby at_59) (by decide) (pc' := 63) (by decide) ?_
      exact g_ret X4 hx hret hlk rfl (Or.inl ⟨rfl, Or.inr (Or.inl rfl), _, rfl⟩) (hb hby at_63) (by decide) (by decide) eh4 hK ⟨rfl, P4⟩
    · refine g_iloadN X0 hx (hb hby at_20) (rfl : 20 + 1 = 21) rfl ?_
      refine g_static X0 hx hZ hown eh0 (rm_ofcode hw cc em av kv e0 e1 e2 e3 e4 e5 I0 I1 I2 I3 I4 I5 I6 I7 I8 I9 I10 I11) (wd hw 0 rfl) (wd hw 1 rfl) (wd hw 3 rfl) (wd hw 2 rfl) (by decide) (argsL := [(.int cc)]) (rest := []) rfl rfl (ps := [.int]) (rt := (some (.object "java/util/Optional"))) (by decide) rfl (W := 0) (Nat.le_of_eq rfl) (by decide) (by decide) (by decide) (by decide) (by rw [hml]; rfl) (hb hby at_21) (rfl : 21 + 3 = 24) fun v11 T11 hh11 L11 X11 eh11 Q11 => ?_
      obtain ⟨o_11, rfl, Pc11, G11_0, G11_1⟩ := Q11
      have P11 := P0.call Pc11 all0
      show OGo p e below K T11 (mkF m 24 #[.val (.int p1), .val (.int p2), .val (.int cc), .unset, .unset] [(.ref o_11)])
      rw [hV] at G11_1
      refine g_anull X11 hx (hb hby at_24) (rfl : 24 + 1 = 25) ?_
      refine g_virtual X11 hx hZ hown eh11 (rm_orelse hw o_11 (.ref b) G11_1 rfl) (C := "java/util/Optional") (wd hw 46 rfl) (wd hw 47 rfl) (notFace_of_selects (args := #[]) (mvT hZ (wd hw 49 rfl))) (wd hw 49 rfl) (wd hw 48 rfl) (wd hw 50 rfl) (wd hw 29 rfl) (by decide) (a := o_11) G11_0 (argsL := [.null]) (rest := []) rfl rfl (ps := [(.object "java/lang/Object")]) (rt := (some (.object "java/lang/Object"))) (by decide) rfl (W := 0) (Nat.le_of_eq rfl) (by decide) (by decide) (by decide) (by decide) (by rw [hml]; rfl) (hb hby at_25) (rfl : 25 + 3 = 28) fun v12 T12 hh12 L12 X12 eh12 Q12 => ?_
      obtain ⟨rfl, Pc12⟩ := Q12
      have P12 := P11.call Pc12 all0
      show OGo p e below K T12 (mkF m 28 #[.val (.int p1), .val (.int p2), .val (.int cc), .unset, .unset] [(.ref b)])
      have F14 := (exaP Eb P12)
      refine g_cast X12 hx hZ hown (wd hw 51 rfl) eh12 (Ins.self F14) (hb hby at_28) (rfl : 28 + 3 = 31) fun T13 X13 eh13 => ?_
      refine g_astoreN X13 hx (hb hby at_31) (rfl : 31 + 1 = 32) rfl (Ls' := #[.val (.int p1), .val (.int p2), .val (.int cc), .val (.ref b), .unset]) rfl ?_
      refine g_iloadN X13 hx (hb hby at_32) (rfl : 32 + 1 = 33) rfl ?_
      have F16 := (staP I12 P12)
      have F17 := (staP I13 P12)
      have F18 := (staP I14 P12)
      have F19 := (staP I15 P12)
      have F20 := (staP I16 P12)
      have F21 := (staP I17 P12)
      refine g_static X13 hx hZ hown eh13 (rm_exp hw cc e0 e1 e2 e3 e4 e5 F16 F17 F18 F19 F20 F21) (wd hw 53 rfl) (wd hw 54 rfl) (wd hw 56 rfl) (wd hw 55 rfl) (by decide) (argsL := [(.int cc)]) (rest := []) rfl rfl (ps := [.int]) (rt := (some (.object "com/example/varco/varco/AuthnFailure"))) (by decide) rfl (W := 0) (Nat.le_of_eq rfl) (by decide) (by decide) (by decide) (by decide) (by rw [hml]; rfl) (hb hby at_33) (rfl : 33 + 3 = 36) fun v15 T15 hh15 L15 X15 eh15 Q15 => ?_
      obtain ⟨rfl, Pc15⟩ := Q15
      have P15 := P12.call Pc15 all0
      show OGo p e below K T15 (mkF m 36 #[.val (.int p1), .val (.int p2), .val (.int cc), .val (.ref b), .unset] [(VV cc e0 e1 e2 e3 e4 e5)])
      rw [hV]
      refine g_astore X15 hx (hb hby at_36) (rfl : 36 + 2 = 38) rfl (Ls' := #[.val (.int p1), .val (.int p2), .val (.int cc), .val (.ref b), .val (.ref b)]) rfl ?_
      refine g_aloadN X15 hx (hb hby at_38) (rfl : 38 + 1 = 39) rfl rfl ?_
      refine g_aload X15 hx (hb hby at_39) (rfl : 39 + 2 = 41) rfl rfl ?_
      refine g_acmpY X15 hx (hb hby at_41) rfl rfl (XT.aa_eq_t rfl) (by decide) (pc' := 46) (by decide) ?_
      refine g_aloadN X15 hx (hb hby at_46) (rfl : 46 + 1 = 47) rfl rfl ?_
      refine g_nullN X15 hx (hb hby at_47) (rfl : 47 + 3 = 50) ?_
      refine g_aloadN X15 hx (hb hby at_50) (rfl : 50 + 1 = 51) rfl rfl ?_
      have F23 := (fldP Fb P15 nin0)
      have F24 := (exaP F14 Pc15)
      refine g_virtual X15 hx hZ hown eh15 (rm_code hw b cc F23) (C := "com/example/varco/varco/AuthnFailure") (wd hw 58 rfl) (wd hw 59 rfl) (notFace_of_selects (args := #[]) (mvT hZ (wd hw 61 rfl))) (wd hw 61 rfl) (wd hw 60 rfl) (wd hw 62 rfl) (wd hw 2 rfl) (by decide) (a := b) F24 (argsL := []) (rest := []) rfl rfl (ps := []) (rt := (some .int)) (by decide) rfl (W := 0) (Nat.le_of_eq rfl) (by decide) (by decide) (by decide) (by decide) (by rw [hml]; rfl) (hb hby at_51) (rfl : 51 + 3 = 54) fun v22 T22 hh22 L22 X22 eh22 Q22 => ?_
      obtain ⟨rfl, Pc22⟩ := Q22
      have P22 := P15.call Pc22 all0
      show OGo p e below K T22 (mkF m 54 #[.val (.int p1), .val (.int p2), .val (.int cc), .val (.ref b), .val (.ref b)] [(.int cc)])
      refine g_iloadN X22 hx (hb hby at_54) (rfl : 54 + 1 = 55) rfl ?_
      refine g_icmpN X22 hx (hb hby at_55) (XT.ii_ne_f rfl) (rfl : 55 + 3 = 58) ?_
      refine g_iconst X22 hx (1 : Int32) (hb hby at_58) (rfl : 58 + 1 = 59) (by decide) ?_
      refine g_goto X22 hx (hb hby at_59) (by decide) (pc' := 63) (by decide) ?_
      exact g_ret X22 hx hret hlk rfl (Or.inl ⟨rfl, Or.inr (Or.inl rfl), _, rfl⟩) (hb hby at_63) (by decide) (by decide) eh22 hK ⟨rfl, P22⟩
  refine g_iloadN X0 hx (hb hby at_0) (rfl : 0 + 1 = 1) rfl ?_
  refine g_iconst X0 hx (1 : Int32) (hb hby at_1) (rfl : 1 + 1 = 2) (by decide) ?_
  refine g_iand X0 hx (hb hby at_2) (rfl : 2 + 1 = 3) (z := (p2 &&& (1 : Int32))) rfl ?_
  by_cases hs : (p2 &&& (1 : Int32)) = (0 : Int32)
  · refine g_ifY X0 hx (hb hby at_3) (XT.i0_eq_t hs) (by decide) (pc' := 18) (by decide) ?_
    refine g_iloadN X0 hx (hb hby at_18) (rfl : 18 + 1 = 19) rfl ?_
    refine g_istoreN X0 hx (hb hby at_19) (rfl : 19 + 1 = 20) (Ls' := #[.val (.int p1), .val (.int p2), .val (.int p1), .unset, .unset]) rfl ?_
    exact key _
  · refine g_ifN X0 hx (hb hby at_3) (XT.i0_eq_f hs) (rfl : 3 + 3 = 6) ?_
    refine g_bipush X0 hx (18 : Int32) (hb hby at_6) (rfl : 6 + 2 = 8) (by decide) ?_
    refine g_iloadN X0 hx (hb hby at_8) (rfl : 8 + 1 = 9) rfl ?_
    refine g_iconst X0 hx (1 : Int32) (hb hby at_9) (rfl : 9 + 1 = 10) (by decide) ?_
    refine g_iushr X0 hx (hb hby at_10) (rfl : 10 + 1 = 11) (z := (XT.ushr p2 (1 : Int32))) rfl ?_
    refine g_bipush X0 hx (9 : Int32) (hb hby at_11) (rfl : 11 + 2 = 13) (by decide) ?_
    refine g_irem X0 hx (hb hby at_13) (rfl : 13 + 1 = 14) (by decide) ?_
    refine g_iadd X0 hx (hb hby at_14) (rfl : 14 + 1 = 15) (z := ((18 : Int32) + ((XT.ushr p2 (1 : Int32)) % (9 : Int32)))) rfl ?_
    refine g_goto X0 hx (hb hby at_15) (by decide) (pc' := 19) (by decide) ?_
    refine g_istoreN X0 hx (hb hby at_19) (rfl : 19 + 1 = 20) (Ls' := #[.val (.int p1), .val (.int p2), .val (.int ((18 : Int32) + ((XT.ushr p2 (1 : Int32)) % (9 : Int32)))), .unset, .unset]) rfl ?_
    exact key _
set_option maxRecDepth 65536 in
set_option maxHeartbeats 40000000 in
theorem comes_1 {Post : Tables → Env → Array Value → State → Outcome → State → Prop} (hpost : ∀ tb e args s v u, (limb_1_1.after args s (.returned v) u = true ∧ limb_1_2.after args s (.returned v) u = true ∧ True) → Jvm.Pilot.@@N@@.Jvm.D.Framed s (.returned v) u (Jvm.fieldLocs frame_1_writes args s ++ Jvm.arrayLocs frame_1_arrays args s ++ Jvm.staticLocs frame_1_statics s) 16 128 → Post tb e args s (.returned v) u) :
    ArmFor flags0 classFile x code maxLocals ret World_1 tables_1 room_1 Calls_1 rest_1 Pre_1 Post := by
  intro l hfl _ _ p e ha hc hk s m args below hf hA hF happ hP
  obtain ⟨hcalls, hrest, hpre⟩ := hP
  obtain ⟨-, -, -, hnamed, -, -, -, hat⟩ := (Spec.applies_iff hf).mp happ
  obtain ⟨hg, hn⟩ := and_e (Cond.before_iff.mp (show (Jvm.Cond.and given_1 narrow_1).before args s = true from hpre))
  obtain ⟨h1, hgg⟩ := and_e hg
  obtain ⟨w0, w1, rfl⟩ : ∃ w0 w1 : Value, args = #[w0, w1] := by
    have hs : args.size = 2 := by simpa [Cond.value, given_1] using h1
    obtain ⟨L⟩ := args
    match L, hs with
    | [w0, w1], _ => exact ⟨w0, w1, rfl⟩
  have hw := fun d (hd : d ∈ tables_1) => atoms_spec (ws := Jvm.Cond.code x code maxLocals ret :: tables_1) hat d (List.mem_cons_of_mem _ hd)
  have hfit : Fit s := fun {y c} hc i hi => by
    obtain ⟨ha, rfl⟩ := Array.getElem?_eq_some_iff.mp hc
    have q := List.all_eq_true.mp ((Array.all_eq_true_iff_forall_mem.mp hF) _ (Array.getElem_mem ha)) i (List.mem_range.mpr hi)
    simpa [Array.getElem?_eq_getElem hi] using q
  obtain ⟨ga0, gb0⟩ := and_e hgg
  obtain ⟨i0, ea0⟩ := is_v ga0
  obtain rfl : w0 = (.int i0) := Option.some.inj ea0
  obtain ⟨i1, ea1⟩ := is_v gb0
  obtain rfl : w1 = (.int i1) := Option.some.inj ea1
  obtain ⟨hsets, hown0⟩ := atoms_of _ (rest_1_c_eq ▸ (show rest_1_c.before _ s = true from hrest))
  obtain ⟨aA, hn_0⟩ := and_e hn
  obtain ⟨aX, hn_1⟩ := and_e hn_0
  obtain ⟨aL, hn_2⟩ := and_e hn_1
  obtain ⟨x0, hn_3⟩ := and_e hn_2
  obtain ⟨m0, hn_4⟩ := and_e hn_3
  obtain ⟨x1, hn_5⟩ := and_e hn_4
  obtain ⟨m1, hn_6⟩ := and_e hn_5
  obtain ⟨x2, hn_7⟩ := and_e hn_6
  obtain ⟨m2, hn_8⟩ := and_e hn_7
  obtain ⟨x3, hn_9⟩ := and_e hn_8
  obtain ⟨m3, hn_10⟩ := and_e hn_9
  obtain ⟨x4, hn_11⟩ := and_e hn_10
  obtain ⟨m4, hn_12⟩ := and_e hn_11
  obtain ⟨x5, hn_13⟩ := and_e hn_12
  obtain ⟨m5, hn_14⟩ := and_e hn_13
  obtain ⟨o0, hn_15⟩ := and_e hn_14
  obtain ⟨o1, hn_16⟩ := and_e hn_15
  obtain ⟨o2, hn_17⟩ := and_e hn_16
  obtain ⟨o3, hn_18⟩ := and_e hn_17
  obtain ⟨o4, hn_19⟩ := and_e hn_18
  have o5 := hn_19
  obtain ⟨ba, va, Sa, Ea⟩ := exSta aX (Or.inr ⟨(wd hw 2 rfl), (wd hw 8 rfl)⟩)
  obtain ⟨b0, v0, S0, E0⟩ := exSta x0 (Or.inr ⟨(wd hw 2 rfl), (wd hw 16 rfl)⟩)
  have O0 := eqFld v0 o0
  obtain ⟨b1, v1, S1, E1⟩ := exSta x1 (Or.inr ⟨(wd hw 2 rfl), (wd hw 17 rfl)⟩)
  have O1 := eqFld v1 o1
  obtain ⟨b2, v2, S2, E2⟩ := exSta x2 (Or.inr ⟨(wd hw 2 rfl), (wd hw 18 rfl)⟩)
  have O2 := eqFld v2 o2
  obtain ⟨b3, v3, S3, E3⟩ := exSta x3 (Or.inr ⟨(wd hw 2 rfl), (wd hw 19 rfl)⟩)
  have O3 := eqFld v3 o3
  obtain ⟨b4, v4, S4, E4⟩ := exSta x4 (Or.inr ⟨(wd hw 2 rfl), (wd hw 20 rfl)⟩)
  have O4 := eqFld v4 o4
  obtain ⟨b5, v5, S5, E5⟩ := exSta x5 (Or.inr ⟨(wd hw 2 rfl), (wd hw 21 rfl)⟩)
  have O5 := eqFld v5 o5
  obtain ⟨cl, A⟩ := Arr.start va aA
  obtain ⟨l1, l2⟩ := lenSt va A aL
  have AY := aryStart hfit A l2 (vs := [.ref b0, .ref b1, .ref b2, .ref b3, .ref b4, .ref b5]) (by have q := l1; simp at q ⊢; omega) (by
    intro i hi
    have hi2 : i = 0 ∨ i = 1 ∨ i = 2 ∨ i = 3 ∨ i = 4 ∨ i = 5 := by simp at hi; omega
    rcases hi2 with rfl | rfl | rfl | rfl | rfl | rfl
    · exact elemSt va A v0 rfl m0
    · exact elemSt va A v1 rfl m1
    · exact elemSt va A v2 rfl m2
    · exact elemSt va A v3 rfl m3
    · exact elemSt va A v4 rfl m4
    · exact elemSt va A v5 rfl m5)
  obtain ⟨be, ve, Se, Ee⟩ := exSta (Cond.before_iff.mp (hsets _ (List.mem_of_getElem? (i := 2) rfl))) (Or.inl (hsets _ (List.mem_of_getElem? (i := 1) rfl)))
  have Fe := eqFldR ve rfl rfl (Cond.before_iff.mp (hsets _ (List.mem_of_getElem? (i := 3) rfl)))
  obtain ⟨n, o, r1, r2, r3, _, L, rfl, ⟨rfl, Pf⟩, hq⟩ := (rm0 hw i0 i1 be ba cl.cls b0 b1 b2 b3 b4 b5 Sa AY Ea O0 O1 O2 O3 O4 O5 Se Ee Fe S0 S1 S2 S3 S4 S5 E0 E1 E2 E3 E4 E5) tables_1 p e ha hc hk s m _ below hf ((Spec.applies_iff_loose hf).mp happ).1 ⟨rfl, State.Warmed39.refl s, rfl⟩ trivial
  refine ⟨n, _, r1, r2, r3, hpost _ _ _ _ _ _ ⟨Cond.after_iff.mpr rfl, Cond.after_iff.mpr (eq_i res_at (Term.int_eval (1)) rfl), trivial⟩ ⟨hq.1, hq.2.1, (hq.2.2.sift fun y hy => Or.inr (Pf.fr y hy)).mono (by decide) (by decide)⟩⟩
theorem main_1_1 : Claimed_1_1 := comes_1 fun _ _ _ _ _ _ h hF => ⟨h.1, hF⟩
theorem main_1_2 : Claimed_1_2 := comes_1 fun _ _ _ _ _ _ h hF => ⟨h.2.1, hF⟩
end Jvm.Pilot.@@N@@
namespace Jvm.Pilot.@@N@@
open Jvm Jvm.ClassFile Sem Op Lib Jvm.Free Jvm.Stand Jvm.Pilot.@@N@@.Jvm.D
/-! MADE BY PROGRAM (witnessworld.py) out of the Statement's table words and the real class files: 15 classes; the members and pool entries that the words name. The judged class is class 1, her method 2. -/
namespace start1
open Jvm.ClassFile
def u (s : String) : CpInfo := .utf8 (stringToUtf16 s)
/-- a pool by its gaps: so many unusable entries, then the entry; so many at the end -/
def gap : Nat → List CpInfo → List CpInfo
  | 0, r => r
  | n + 1, r => .unusable :: gap n r
def poolList (es : List (Nat × CpInfo)) (last : Nat) : List CpInfo := es.foldr (fun e r => gap e.1 (e.2 :: r)) (gap last [])
def pool (es : List (Nat × CpInfo)) (last : Nat) : Array CpInfo := ⟨poolList es last⟩
def fileOf (pool : Array CpInfo) (this : Nat) (attrs : Array Attribute := #[]) (ms : Array MethodInfo := #[]) (fl : Nat := 33) (sup : Nat := 0) (ifs : Array Nat := #[]) (fds : Array FieldInfo := #[]) : ClassFile where
  minorVersion := 0
  majorVersion := 65
  constantPool := pool
  accessFlags := fl
  thisClass := this
  superClass := sup
  interfaces := ifs
  fields := fds
  methods := ms
  attributes := attrs
def plain (name : String) (sup : Option ClassId) : Class where
  name := name
  kind := .ordinary
  loader := none
  accessFlags := 33
  super := sup
  interfaces := #[]
  cf := none
  fields := #[]
  methods := #[]
  instanceTypes := #[]
  staticTypes := #[]
  resolved := #[]
  callSites := []
  init := .initialized
  statics := none
  mirror := none

def pool0 : Array CpInfo := pool [(5, u "<init>"), (0, u "()V"), (1, .class_ 10), (1, u "java/lang/Object"), (85, u "clone"), (0, u "()Ljava/lang/Object;")] 26

def k0c0 : Code := { maxStack := 0, maxLocals := 1, code := object_method_1_code, exceptionTable := #[], attributes := #[] }
def k0m0 : Method := { name := "<init>", desc := "()V", sig := { parameters := [], returnType := none }, accessFlags := 1, code := some k0c0 }
def k0m1 : Method := { name := "clone", desc := "()Ljava/lang/Object;", sig := { parameters := [], returnType := some (.object "java/lang/Object") }, accessFlags := 260, code := none }
/-- java/lang/Object -/
def k0 : Class := { plain "java/lang/Object" none with
  accessFlags := 33
  interfaces := #[]
  cf := some (fileOf pool0 8 #[] #[{ accessFlags := 1, nameIndex := 5, descriptorIndex := 6, attributes := #[] }, { accessFlags := 260, nameIndex := 96, descriptorIndex := 97, attributes := #[] }] 33 0 #[] #[])
  fields := #[]
  methods := #[k0m0, k0m1]
  instanceTypes := #[]
  staticTypes := #[]
  resolved := Array.replicate 124 none
  statics := none }

def pool1 : Array CpInfo := pool [(2, .class_ 4), (1, u "java/lang/Object"), (0, u "<init>"), (0, u "()V"), (0, .fieldref 8 9), (0, .class_ 10), (0, .nameAndType 11 12), (0, u "com/example/varco/varco/AuthnFailure"), (0, u "TOO_MANY_ATTEMPTS"), (0, u "Lcom/example/varco/varco/AuthnFailure;"), (0, .fieldref 8 14), (0, .nameAndType 15 12), (0, u "LEVEL_TOO_LOW"), (0, .fieldref 8 17), (0, .nameAndType 18 12), (0, u "TIMED_OUT"), (0, .fieldref 8 20), (0, .nameAndType 21 12), (0, u "CONSENT_DENIED"), (0, .fieldref 8 23), (0, .nameAndType 24 12), (0, u "IDENTITY_SUSPENDED"), (0, .fieldref 8 26), (0, .nameAndType 27 12), (0, u "CANCELLED"), (0, .methodref 8 29), (0, .nameAndType 30 31), (0, u "ofCode"), (0, u "(I)Ljava/util/Optional;"), (0, .methodref 33 34), (0, .class_ 35), (0, .nameAndType 36 37), (0, u "java/util/Optional"), (0, u "orElse"), (0, u "(Ljava/lang/Object;)Ljava/lang/Object;"), (0, .methodref 39 40), (0, .class_ 41), (0, .nameAndType 42 43), (0, u "com/example/varco/varco/AuthnFailureOfCodePinLaw"), (0, u "expected"), (0, u "(I)Lcom/example/varco/varco/AuthnFailure;"), (0, .methodref 8 45), (0, .nameAndType 46 47), (0, u "code"), (0, u "()I"), (3, u "law"), (0, u "(II)Z")] 2

def k1m0 : Method := { name := "<init>", desc := "()V", sig := { parameters := [], returnType := none }, accessFlags := 1, code := none }
def k1c1 : Code := { maxStack := 2, maxLocals := 1, code := method_2_code, exceptionTable := #[], attributes := #[] }
def k1m1 : Method := { name := "expected", desc := "(I)Lcom/example/varco/varco/AuthnFailure;", sig := { parameters := [.int], returnType := some (.object "com/example/varco/varco/AuthnFailure") }, accessFlags := 10, code := some k1c1 }
def k1c2 : Code := { maxStack := 3, maxLocals := 5, code := code, exceptionTable := #[], attributes := #[] }
def k1m2 : Method := { name := "law", desc := "(II)Z", sig := { parameters := [.int, .int], returnType := some .boolean }, accessFlags := 9, code := some k1c2 }
/-- com/example/varco/varco/AuthnFailureOfCodePinLaw -/
def k1 : Class := { plain "com/example/varco/varco/AuthnFailureOfCodePinLaw" (some 0) with
  accessFlags := 49
  interfaces := #[]
  cf := some (fileOf pool1 39 #[] #[{ accessFlags := 1, nameIndex := 5, descriptorIndex := 6, attributes := #[] }, { accessFlags := 10, nameIndex := 42, descriptorIndex := 43, attributes := #[] }, { accessFlags := 9, nameIndex := 51, descriptorIndex := 52, attributes := #[] }] 49 2 #[] #[])
  fields := #[]
  methods := #[k1m0, k1m1, k1m2]
  instanceTypes := #[]
  staticTypes := #[]
  resolved := Array.replicate 55 none
  statics := none }

def pool2 : Array CpInfo := pool [(1, .class_ 2), (0, u "java/lang/constant/Constable"), (0, .class_ 4), (0, u "java/lang/Object")] 6

/-- java/lang/constant/Constable -/
def k2 : Class := { plain "java/lang/constant/Constable" (some 0) with
  accessFlags := 1537
  interfaces := #[]
  cf := some (fileOf pool2 1 #[] #[] 1537 3 #[] #[])
  fields := #[]
  methods := #[]
  instanceTypes := #[]
  staticTypes := #[]
  resolved := Array.replicate 11 none
  statics := none }

def pool3 : Array CpInfo := pool [(1, .class_ 2), (0, u "java/lang/Comparable"), (0, .class_ 4), (0, u "java/lang/Object")] 7

/-- java/lang/Comparable -/
def k3 : Class := { plain "java/lang/Comparable" (some 0) with
  accessFlags := 1537
  interfaces := #[]
  cf := some (fileOf pool3 1 #[] #[] 1537 3 #[] #[])
  fields := #[]
  methods := #[]
  instanceTypes := #[]
  staticTypes := #[]
  resolved := Array.replicate 12 none
  statics := none }

def pool4 : Array CpInfo := pool [(1, .class_ 2), (0, u "java/io/Serializable"), (0, .class_ 4), (0, u "java/lang/Object")] 2

/-- java/io/Serializable -/
def k4 : Class := { plain "java/io/Serializable" (some 0) with
  accessFlags := 1537
  interfaces := #[]
  cf := some (fileOf pool4 1 #[] #[] 1537 3 #[] #[])
  fields := #[]
  methods := #[]
  instanceTypes := #[]
  staticTypes := #[]
  resolved := Array.replicate 7 none
  statics := none }

def pool5 : Array CpInfo := pool [(2, .class_ 4), (1, u "java/lang/Enum"), (0, u "name"), (0, u "Ljava/lang/String;"), (2, u "ordinal"), (0, u "I"), (1, .class_ 14), (1, u "java/lang/Object"), (4, u "hash"), (86, .class_ 108), (1, u "java/lang/Enum$EnumDesc"), (2, .class_ 112), (0, u "java/lang/constant/Constable"), (0, .class_ 114), (0, u "java/lang/Comparable"), (0, .class_ 116), (0, u "java/io/Serializable")] 87

/-- java/lang/Enum -/
def k5 : Class := { plain "java/lang/Enum" (some 0) with
  accessFlags := 1057
  interfaces := #[2, 3, 4]
  cf := some (fileOf pool5 2 #[.nestMembers #[106]] #[] 1057 12 #[111, 113, 115] #[{ accessFlags := 18, nameIndex := 5, descriptorIndex := 6, attributes := #[] }, { accessFlags := 18, nameIndex := 9, descriptorIndex := 10, attributes := #[] }, { accessFlags := 2, nameIndex := 19, descriptorIndex := 10, attributes := #[] }])
  fields := #[{ name := "name", type := (.object "java/lang/String"), accessFlags := 18, slot := 0, constantValue := 0 }, { name := "ordinal", type := .int, accessFlags := 18, slot := 1, constantValue := 0 }, { name := "hash", type := .int, accessFlags := 2, slot := 2, constantValue := 0 }]
  methods := #[]
  instanceTypes := #[(.object "java/lang/String"), .int, .int]
  staticTypes := #[]
  resolved := Array.replicate 204 none
  statics := none }

def pool6 : Array CpInfo := pool [(1, .class_ 2), (0, u "com/example/varco/varco/AuthnFailure"), (2, u "TOO_MANY_ATTEMPTS"), (0, u "Lcom/example/varco/varco/AuthnFailure;"), (2, u "LEVEL_TOO_LOW"), (2, u "TIMED_OUT"), (2, u "CONSENT_DENIED"), (2, u "IDENTITY_SUSPENDED"), (2, u "CANCELLED"), (0, .fieldref 1 23), (0, .nameAndType 24 25), (0, u "$VALUES"), (0, u "[Lcom/example/varco/varco/AuthnFailure;"), (0, .methodref 27 28), (0, .class_ 25), (0, .nameAndType 29 30), (0, u "clone"), (0, u "()Ljava/lang/Object;"), (1, .class_ 34), (1, u "java/lang/Enum"), (6, .fieldref 1 42), (0, .nameAndType 43 44), (0, u "code"), (0, u "I"), (2, u "message"), (0, u "Ljava/lang/String;"), (0, .methodref 1 50), (0, .nameAndType 51 52), (0, u "values"), (0, u "()[Lcom/example/varco/varco/AuthnFailure;"), (0, .methodref 54 55), (0, .class_ 56), (0, .nameAndType 57 58), (0, u "java/util/Optional"), (0, u "of"), (0, u "(Ljava/lang/Object;)Ljava/util/Optional;"), (0, .methodref 54 60), (0, .nameAndType 61 62), (0, u "empty"), (0, u "()Ljava/util/Optional;"), (30, u "ofCode"), (0, u "(I)Ljava/util/Optional;"), (2, u "()I")] 6

def k6c0 : Code := { maxStack := 1, maxLocals := 0, code := prog_4_method_1_code, exceptionTable := #[], attributes := #[] }
def k6m0 : Method := { name := "values", desc := "()[Lcom/example/varco/varco/AuthnFailure;", sig := { parameters := [], returnType := some (.array (.object "com/example/varco/varco/AuthnFailure")) }, accessFlags := 9, code := some k6c0 }
def k6c1 : Code := { maxStack := 2, maxLocals := 5, code := prog_4_method_4_code, exceptionTable := #[], attributes := #[] }
def k6m1 : Method := { name := "ofCode", desc := "(I)Ljava/util/Optional;", sig := { parameters := [.int], returnType := some (.object "java/util/Optional") }, accessFlags := 8, code := some k6c1 }
def k6c2 : Code := { maxStack := 1, maxLocals := 1, code := prog_4_method_5_code, exceptionTable := #[], attributes := #[] }
def k6m2 : Method := { name := "code", desc := "()I", sig := { parameters := [], returnType := some .int }, accessFlags := 0, code := some k6c2 }
/-- com/example/varco/varco/AuthnFailure -/
def k6 : Class := { plain "com/example/varco/varco/AuthnFailure" (some 5) with
  accessFlags := 16432
  interfaces := #[]
  cf := some (fileOf pool6 1 #[] #[{ accessFlags := 9, nameIndex := 51, descriptorIndex := 52, attributes := #[] }, { accessFlags := 8, nameIndex := 93, descriptorIndex := 94, attributes := #[] }, { accessFlags := 0, nameIndex := 43, descriptorIndex := 97, attributes := #[] }] 16432 32 #[] #[{ accessFlags := 16409, nameIndex := 5, descriptorIndex := 6, attributes := #[] }, { accessFlags := 16409, nameIndex := 9, descriptorIndex := 6, attributes := #[] }, { accessFlags := 16409, nameIndex := 12, descriptorIndex := 6, attributes := #[] }, { accessFlags := 16409, nameIndex := 15, descriptorIndex := 6, attributes := #[] }, { accessFlags := 16409, nameIndex := 18, descriptorIndex := 6, attributes := #[] }, { accessFlags := 16409, nameIndex := 21, descriptorIndex := 6, attributes := #[] }, { accessFlags := 18, nameIndex := 43, descriptorIndex := 44, attributes := #[] }, { accessFlags := 18, nameIndex := 47, descriptorIndex := 48, attributes := #[] }, { accessFlags := 4122, nameIndex := 24, descriptorIndex := 25, attributes := #[] }])
  fields := #[{ name := "TOO_MANY_ATTEMPTS", type := (.object "com/example/varco/varco/AuthnFailure"), accessFlags := 16409, slot := 0, constantValue := 0 }, { name := "LEVEL_TOO_LOW", type := (.object "com/example/varco/varco/AuthnFailure"), accessFlags := 16409, slot := 1, constantValue := 0 }, { name := "TIMED_OUT", type := (.object "com/example/varco/varco/AuthnFailure"), accessFlags := 16409, slot := 2, constantValue := 0 }, { name := "CONSENT_DENIED", type := (.object "com/example/varco/varco/AuthnFailure"), accessFlags := 16409, slot := 3, constantValue := 0 }, { name := "IDENTITY_SUSPENDED", type := (.object "com/example/varco/varco/AuthnFailure"), accessFlags := 16409, slot := 4, constantValue := 0 }, { name := "CANCELLED", type := (.object "com/example/varco/varco/AuthnFailure"), accessFlags := 16409, slot := 5, constantValue := 0 }, { name := "code", type := .int, accessFlags := 18, slot := 3, constantValue := 0 }, { name := "message", type := (.object "java/lang/String"), accessFlags := 18, slot := 4, constantValue := 0 }, { name := "$VALUES", type := (.array (.object "com/example/varco/varco/AuthnFailure")), accessFlags := 4122, slot := 6, constantValue := 0 }]
  methods := #[k6m0, k6m1, k6m2]
  instanceTypes := #[(.object "java/lang/String"), .int, .int, .int, (.object "java/lang/String")]
  staticTypes := #[(.object "com/example/varco/varco/AuthnFailure"), (.object "com/example/varco/varco/AuthnFailure"), (.object "com/example/varco/varco/AuthnFailure"), (.object "com/example/varco/varco/AuthnFailure"), (.object "com/example/varco/varco/AuthnFailure"), (.object "com/example/varco/varco/AuthnFailure"), (.array (.object "com/example/varco/varco/AuthnFailure"))]
  resolved := Array.replicate 104 none
  statics := some 0 }

def pool7 : Array CpInfo := pool [(1, .class_ 2), (0, u "java/lang/Cloneable"), (0, .class_ 4), (0, u "java/lang/Object")] 2

/-- java/lang/Cloneable -/
def k7 : Class := { plain "java/lang/Cloneable" (some 0) with
  accessFlags := 1537
  interfaces := #[]
  cf := some (fileOf pool7 1 #[] #[] 1537 3 #[] #[])
  fields := #[]
  methods := #[]
  instanceTypes := #[]
  staticTypes := #[]
  resolved := Array.replicate 7 none
  statics := none }

def pool8 : Array CpInfo := pool [(1, .fieldref 2 3), (0, .class_ 4), (0, .nameAndType 5 6), (0, u "java/util/Optional"), (0, u "EMPTY"), (0, u "Ljava/util/Optional;"), (0, .methodref 8 9), (0, .class_ 10), (0, .nameAndType 11 12), (0, u "java/lang/Object"), (0, u "<init>"), (0, u "()V"), (0, .fieldref 2 14), (0, .nameAndType 15 16), (0, u "value"), (0, u "Ljava/lang/Object;"), (0, .methodref 18 19), (0, .class_ 20), (0, .nameAndType 21 22), (0, u "java/util/Objects"), (0, u "requireNonNull"), (0, u "(Ljava/lang/Object;)Ljava/lang/Object;"), (0, .methodref 2 24), (0, .nameAndType 11 25), (0, u "(Ljava/lang/Object;)V"), (29, u "empty"), (0, u "()Ljava/util/Optional;"), (8, u "(Ljava/lang/Object;)Ljava/util/Optional;"), (16, u "of"), (82, u "orElse")] 21

def k8c0 : Code := { maxStack := 1, maxLocals := 1, code := jdk_32_method_1_code, exceptionTable := #[], attributes := #[] }
def k8m0 : Method := { name := "empty", desc := "()Ljava/util/Optional;", sig := { parameters := [], returnType := some (.object "java/util/Optional") }, accessFlags := 9, code := some k8c0 }
def k8c1 : Code := { maxStack := 2, maxLocals := 2, code := jdk_32_method_2_code, exceptionTable := #[], attributes := #[] }
def k8m1 : Method := { name := "<init>", desc := "(Ljava/lang/Object;)V", sig := { parameters := [(.object "java/lang/Object")], returnType := none }, accessFlags := 2, code := some k8c1 }
def k8c2 : Code := { maxStack := 3, maxLocals := 1, code := jdk_32_method_3_code, exceptionTable := #[], attributes := #[] }
def k8m2 : Method := { name := "of", desc := "(Ljava/lang/Object;)Ljava/util/Optional;", sig := { parameters := [(.object "java/lang/Object")], returnType := some (.object "java/util/Optional") }, accessFlags := 9, code := some k8c2 }
def k8c3 : Code := { maxStack := 1, maxLocals := 2, code := jdk_32_method_15_code, exceptionTable := #[], attributes := #[] }
def k8m3 : Method := { name := "orElse", desc := "(Ljava/lang/Object;)Ljava/lang/Object;", sig := { parameters := [(.object "java/lang/Object")], returnType := some (.object "java/lang/Object") }, accessFlags := 1, code := some k8c3 }
/-- java/util/Optional -/
def k8 : Class := { plain "java/util/Optional" (some 0) with
  accessFlags := 49
  interfaces := #[]
  cf := some (fileOf pool8 2 #[] #[{ accessFlags := 9, nameIndex := 55, descriptorIndex := 56, attributes := #[] }, { accessFlags := 2, nameIndex := 11, descriptorIndex := 25, attributes := #[] }, { accessFlags := 9, nameIndex := 82, descriptorIndex := 65, attributes := #[] }, { accessFlags := 1, nameIndex := 165, descriptorIndex := 22, attributes := #[] }] 49 8 #[] #[{ accessFlags := 26, nameIndex := 5, descriptorIndex := 6, attributes := #[] }, { accessFlags := 18, nameIndex := 15, descriptorIndex := 16, attributes := #[] }])
  fields := #[{ name := "EMPTY", type := (.object "java/util/Optional"), accessFlags := 26, slot := 0, constantValue := 0 }, { name := "value", type := (.object "java/lang/Object"), accessFlags := 18, slot := 0, constantValue := 0 }]
  methods := #[k8m0, k8m1, k8m2, k8m3]
  instanceTypes := #[(.object "java/lang/Object")]
  staticTypes := #[(.object "java/util/Optional")]
  resolved := Array.replicate 187 none
  statics := some 1 }

def pool9 : Array CpInfo := pool [(2, .class_ 4), (1, u "java/lang/Object"), (0, u "<init>"), (0, u "()V"), (35, .class_ 44), (1, u "java/util/Objects"), (0, u "requireNonNull"), (0, u "(Ljava/lang/Object;)Ljava/lang/Object;")] 137

def k9m0 : Method := { name := "<init>", desc := "()V", sig := { parameters := [], returnType := none }, accessFlags := 2, code := none }
def k9c1 : Code := { maxStack := 2, maxLocals := 1, code := jdk_31_method_10_code, exceptionTable := #[], attributes := #[] }
def k9m1 : Method := { name := "requireNonNull", desc := "(Ljava/lang/Object;)Ljava/lang/Object;", sig := { parameters := [(.object "java/lang/Object")], returnType := some (.object "java/lang/Object") }, accessFlags := 9, code := some k9c1 }
/-- java/util/Objects -/
def k9 : Class := { plain "java/util/Objects" (some 0) with
  accessFlags := 49
  interfaces := #[]
  cf := some (fileOf pool9 42 #[] #[{ accessFlags := 2, nameIndex := 5, descriptorIndex := 6, attributes := #[] }, { accessFlags := 9, nameIndex := 45, descriptorIndex := 46, attributes := #[] }] 49 2 #[] #[])
  fields := #[]
  methods := #[k9m0, k9m1]
  instanceTypes := #[]
  staticTypes := #[]
  resolved := Array.replicate 184 none
  statics := none }

/-- the primitive byte -/
def k10 : Class := { plain "byte" none with kind := .primitive 'B', accessFlags := 0x411 }
/-- [B -/
def k11 : Class := { plain "[B" (some 0) with kind := .array 10 .byte, interfaces := #[7, 4], accessFlags := 1041 }

/-- the primitive int -/
def k12 : Class := { plain "int" none with kind := .primitive 'I', accessFlags := 0x411 }
/-- [I -/
def k13 : Class := { plain "[I" (some 0) with kind := .array 12 .int, interfaces := #[7, 4], accessFlags := 1041 }

/-- [Lcom/example/varco/varco/AuthnFailure; -/
def k14 : Class := { plain "[Lcom/example/varco/varco/AuthnFailure;" (some 0) with kind := .array 6 (.object "com/example/varco/varco/AuthnFailure"), interfaces := #[7, 4], accessFlags := 1041 }

def heap : Heap := #[{ cls := 6, slots := #[.ref 3, .ref 4, .ref 5, .ref 6, .ref 7, .ref 8, .ref 2], vm := .statics 6 },
  { cls := 8, slots := #[.ref 9], vm := .statics 8 },
  { cls := 14, slots := #[.ref 3, .ref 4, .ref 5, .ref 6, .ref 7, .ref 8], vm := .none },
  { cls := 6, slots := #[.null, .int 0, .int 0, .int 19, .null], vm := .none },
  { cls := 6, slots := #[.null, .int 0, .int 0, .int 20, .null], vm := .none },
  { cls := 6, slots := #[.null, .int 0, .int 0, .int 21, .null], vm := .none },
  { cls := 6, slots := #[.null, .int 0, .int 0, .int 22, .null], vm := .none },
  { cls := 6, slots := #[.null, .int 0, .int 0, .int 23, .null], vm := .none },
  { cls := 6, slots := #[.null, .int 0, .int 0, .int 25, .null], vm := .none },
  { cls := 8, slots := #[.null], vm := .none }]
def classes : Array Class := #[k0, k1, k2, k3, k4, k5, k6, k7, k8, k9, k10, k11, k12, k13, k14]
def interned : List (Array UInt16 × Addr) := []
def slotsUsed : Nat := 45
def theMethod : MethodId := ⟨1, 2⟩
def args0 : Array Value := #[.int 5, .int 3]
def aboutOver (below : List Frame) : State where
  vm := { classes := classes, interned := interned.toArray }
  heap := heap
  slotsUsed := slotsUsed
  threads := #[{ frames := .invoking theMethod args0 :: below }]
def below0 : List Frame := [.native { method := ⟨0, 0⟩, args := #[] }]
def about1 : State := aboutOver below0
def p0 : Program := .bare "" "" ""
def e0 : Env := launch0.env 0 0 0
theorem w_frames : about1.frames = Frame.invoking theMethod args0 :: below0 := rfl
set_option maxRecDepth 65536 in
theorem w_args : argsFit about1.vm theMethod args0 = true := by decide +kernel
set_option maxRecDepth 65536 in
theorem w_heap : heapFits about1 = true := by decide +kernel
set_option maxRecDepth 65536 in
theorem w_runnable : about1.curStatus? = some .runnable := by decide +kernel
set_option maxRecDepth 65536 in
theorem w_alone : about1.alone = true := by decide +kernel
set_option maxRecDepth 65536 in
theorem w_named : about1.methodNamed? x = some theMethod := by decide +kernel
set_option maxRecDepth 65536 in
theorem w_hears : about1.hears theMethod below0 = true := by decide +kernel
set_option maxRecDepth 65536 in
theorem w_ripe : about1.ripe theMethod args0 below0 = true := by decide +kernel
theorem w_running : about1.status = .running := rfl
set_option maxRecDepth 65536 in
theorem w_room : about1.hasRoom e0.platform room_1 = true :=
  launch0.hasRoom_least _ room_1 (by decide +kernel) (by decide +kernel) (by decide +kernel) (by decide +kernel) (by decide +kernel) (by decide +kernel)
theorem allAtoms_all (ts : List Jvm.Cond) (a : Array Jvm.Value) (st : Jvm.State) : (allAtoms ts).before a st = ts.all (fun c => c.before a st) := by
  induction ts with
  | nil => rfl
  | cons c t ih =>
    show (Jvm.Cond.and c (allAtoms t)).before a st = _
    rw [Jvm.Cond.before_and, ih, List.all_cons]
def words1 : List Jvm.Cond := Jvm.Cond.code x code maxLocals ret :: tables_1
/-- a 'code' word, met by the world's own term for the bytes: nothing is compared byte by byte -/
theorem code_word {y : MethodName} {bytes : ByteArray} {mx : Nat} {rt : Option FieldType} {a : Array Value} {s : State} {m : MethodId} {meth : Method} {c : Code} (h1 : s.methodNamed? y = some m) (h2 : s.vm.method? m = some meth) (h3 : meth.code = some c) (h4 : c.code = bytes)
    (h5 : (c.maxLocals == mx && c.exceptionTable.isEmpty && decide (c.maxStack ≤ mostOperands) && decide (meth.sig.returnType = rt) && !meth.locks && decide (parseMethodDescriptor y.desc = some meth.sig)) = true) : (Jvm.Cond.code y bytes mx rt).before a s = true := by
  simp only [Bool.and_eq_true, beq_iff_eq, Bool.not_eq_true', decide_eq_true_eq] at h5
  obtain ⟨⟨⟨⟨⟨g1, g2⟩, g3⟩, g4⟩, g5⟩, g6⟩ := h5
  simp [Cond.before, Cond.holds, Cond.value, h1, h2, h3, h4, g1, g2, g3, g4, g5, g6]
def isCode : Jvm.Cond → Bool
  | .code _ _ _ _ => true
  | _ => false
theorem all_split {L : List Jvm.Cond} {P : Jvm.Cond → Bool} (h1 : L.all (fun c => isCode c || P c) = true) (h2 : ∀ c ∈ L.filter isCode, P c = true) : L.all P = true := by
  refine List.all_eq_true.mpr fun c hc => ?_
  have h := List.all_eq_true.mp h1 c hc
  rcases Bool.eq_false_or_eq_true (isCode c) with hi | hi
  · exact h2 c (List.mem_filter.mpr ⟨hc, hi⟩)
  · simpa [hi] using h
set_option maxRecDepth 65536 in
theorem w_c0 : (Jvm.Cond.code x code maxLocals ret).before args0 about1 = true := code_word (m := ⟨1, 2⟩) (meth := k1m2) (c := k1c2) (by decide +kernel) rfl rfl rfl (by decide +kernel)
set_option maxRecDepth 65536 in
theorem w_c1 : (Jvm.Cond.code ({ cls := "com/example/varco/varco/AuthnFailure", name := "ofCode", desc := "(I)Ljava/util/Optional;" } : Jvm.MethodName) prog_4_method_4_code (5 : Nat) (Option.some (Jvm.ClassFile.FieldType.object "java/util/Optional"))).before args0 about1 = true := code_word (m := ⟨6, 1⟩) (meth := k6m1) (c := k6c1) (by decide +kernel) rfl rfl rfl (by decide +kernel)
set_option maxRecDepth 65536 in
theorem w_c2 : (Jvm.Cond.code ({ cls := "com/example/varco/varco/AuthnFailure", name := "values", desc := "()[Lcom/example/varco/varco/AuthnFailure;" } : Jvm.MethodName) prog_4_method_1_code (0 : Nat) (Option.some (Jvm.ClassFile.FieldType.array (Jvm.ClassFile.FieldType.object "com/example/varco/varco/AuthnFailure")))).before args0 about1 = true := code_word (m := ⟨6, 0⟩) (meth := k6m0) (c := k6c0) (by decide +kernel) rfl rfl rfl (by decide +kernel)
set_option maxRecDepth 65536 in
theorem w_c3 : (Jvm.Cond.code ({ cls := "java/util/Optional", name := "of", desc := "(Ljava/lang/Object;)Ljava/util/Optional;" } : Jvm.MethodName) jdk_32_method_3_code (1 : Nat) (Option.some (Jvm.ClassFile.FieldType.object "java/util/Optional"))).before args0 about1 = true := code_word (m := ⟨8, 2⟩) (meth := k8m2) (c := k8c2) (by decide +kernel) rfl rfl rfl (by decide +kernel)
set_option maxRecDepth 65536 in
theorem w_c4 : (Jvm.Cond.code ({ cls := "java/util/Objects", name := "requireNonNull", desc := "(Ljava/lang/Object;)Ljava/lang/Object;" } : Jvm.MethodName) jdk_31_method_10_code (1 : Nat) (Option.some (Jvm.ClassFile.FieldType.object "java/lang/Object"))).before args0 about1 = true := code_word (m := ⟨9, 1⟩) (meth := k9m1) (c := k9c1) (by decide +kernel) rfl rfl rfl (by decide +kernel)
set_option maxRecDepth 65536 in
theorem w_c5 : (Jvm.Cond.code ({ cls := "java/util/Optional", name := "<init>", desc := "(Ljava/lang/Object;)V" } : Jvm.MethodName) jdk_32_method_2_code (2 : Nat) (Option.none : Option Jvm.ClassFile.FieldType)).before args0 about1 = true := code_word (m := ⟨8, 1⟩) (meth := k8m1) (c := k8c1) (by decide +kernel) rfl rfl rfl (by decide +kernel)
set_option maxRecDepth 65536 in
theorem w_c6 : (Jvm.Cond.code ({ cls := "java/lang/Object", name := "<init>", desc := "()V" } : Jvm.MethodName) object_method_1_code (1 : Nat) (Option.none : Option Jvm.ClassFile.FieldType)).before args0 about1 = true := code_word (m := ⟨0, 0⟩) (meth := k0m0) (c := k0c0) (by decide +kernel) rfl rfl rfl (by decide +kernel)
set_option maxRecDepth 65536 in
theorem w_c7 : (Jvm.Cond.code ({ cls := "java/util/Optional", name := "orElse", desc := "(Ljava/lang/Object;)Ljava/lang/Object;" } : Jvm.MethodName) jdk_32_method_15_code (2 : Nat) (Option.some (Jvm.ClassFile.FieldType.object "java/lang/Object"))).before args0 about1 = true := code_word (m := ⟨8, 3⟩) (meth := k8m3) (c := k8c3) (by decide +kernel) rfl rfl rfl (by decide +kernel)
set_option maxRecDepth 65536 in
theorem w_c8 : (Jvm.Cond.code ({ cls := "com/example/varco/varco/AuthnFailureOfCodePinLaw", name := "expected", desc := "(I)Lcom/example/varco/varco/AuthnFailure;" } : Jvm.MethodName) method_2_code (1 : Nat) (Option.some (Jvm.ClassFile.FieldType.object "com/example/varco/varco/AuthnFailure"))).before args0 about1 = true := code_word (m := ⟨1, 1⟩) (meth := k1m1) (c := k1c1) (by decide +kernel) rfl rfl rfl (by decide +kernel)
set_option maxRecDepth 65536 in
theorem w_c9 : (Jvm.Cond.code ({ cls := "com/example/varco/varco/AuthnFailure", name := "code", desc := "()I" } : Jvm.MethodName) prog_4_method_5_code (1 : Nat) (Option.some Jvm.ClassFile.FieldType.int)).before args0 about1 = true := code_word (m := ⟨6, 2⟩) (meth := k6m2) (c := k6c2) (by decide +kernel) rfl rfl rfl (by decide +kernel)
set_option maxRecDepth 65536 in
theorem w_c10 : (Jvm.Cond.code ({ cls := "java/util/Optional", name := "empty", desc := "()Ljava/util/Optional;" } : Jvm.MethodName) jdk_32_method_1_code (1 : Nat) (Option.some (Jvm.ClassFile.FieldType.object "java/util/Optional"))).before args0 about1 = true := code_word (m := ⟨8, 0⟩) (meth := k8m0) (c := k8c0) (by decide +kernel) rfl rfl rfl (by decide +kernel)
def codes1 : List Jvm.Cond := [Jvm.Cond.code x code maxLocals ret, Jvm.Cond.code ({ cls := "com/example/varco/varco/AuthnFailure", name := "ofCode", desc := "(I)Ljava/util/Optional;" } : Jvm.MethodName) prog_4_method_4_code (5 : Nat) (Option.some (Jvm.ClassFile.FieldType.object "java/util/Optional")), Jvm.Cond.code ({ cls := "com/example/varco/varco/AuthnFailure", name := "values", desc := "()[Lcom/example/varco/varco/AuthnFailure;" } : Jvm.MethodName) prog_4_method_1_code (0 : Nat) (Option.some (Jvm.ClassFile.FieldType.array (Jvm.ClassFile.FieldType.object "com/example/varco/varco/AuthnFailure"))), Jvm.Cond.code ({ cls := "java/util/Optional", name := "of", desc := "(Ljava/lang/Object;)Ljava/util/Optional;" } : Jvm.MethodName) jdk_32_method_3_code (1 : Nat) (Option.some (Jvm.ClassFile.FieldType.object "java/util/Optional")), Jvm.Cond.code ({ cls := "java/util/Objects", name := "requireNonNull", desc := "(Ljava/lang/Object;)Ljava/lang/Object;" } : Jvm.MethodName) jdk_31_method_10_code (1 : Nat) (Option.some (Jvm.ClassFile.FieldType.object "java/lang/Object")), Jvm.Cond.code ({ cls := "java/util/Optional", name := "<init>", desc := "(Ljava/lang/Object;)V" } : Jvm.MethodName) jdk_32_method_2_code (2 : Nat) (Option.none : Option Jvm.ClassFile.FieldType), Jvm.Cond.code ({ cls := "java/lang/Object", name := "<init>", desc := "()V" } : Jvm.MethodName) object_method_1_code (1 : Nat) (Option.none : Option Jvm.ClassFile.FieldType), Jvm.Cond.code ({ cls := "java/util/Optional", name := "orElse", desc := "(Ljava/lang/Object;)Ljava/lang/Object;" } : Jvm.MethodName) jdk_32_method_15_code (2 : Nat) (Option.some (Jvm.ClassFile.FieldType.object "java/lang/Object")), Jvm.Cond.code ({ cls := "com/example/varco/varco/AuthnFailureOfCodePinLaw", name := "expected", desc := "(I)Lcom/example/varco/varco/AuthnFailure;" } : Jvm.MethodName) method_2_code (1 : Nat) (Option.some (Jvm.ClassFile.FieldType.object "com/example/varco/varco/AuthnFailure")), Jvm.Cond.code ({ cls := "com/example/varco/varco/AuthnFailure", name := "code", desc := "()I" } : Jvm.MethodName) prog_4_method_5_code (1 : Nat) (Option.some Jvm.ClassFile.FieldType.int), Jvm.Cond.code ({ cls := "java/util/Optional", name := "empty", desc := "()Ljava/util/Optional;" } : Jvm.MethodName) jdk_32_method_1_code (1 : Nat) (Option.some (Jvm.ClassFile.FieldType.object "java/util/Optional"))]
set_option maxRecDepth 65536 in
theorem codes_eq : words1.filter isCode = codes1 := rfl
theorem w_codes : ∀ c ∈ words1.filter isCode, c.before args0 about1 = true := by
  rw [codes_eq]
  intro c hc
  simp only [codes1, List.mem_cons, List.not_mem_nil, or_false] at hc
  rcases hc with rfl | rfl | rfl | rfl | rfl | rfl | rfl | rfl | rfl | rfl | rfl
  · exact w_c0
  · exact w_c1
  · exact w_c2
  · exact w_c3
  · exact w_c4
  · exact w_c5
  · exact w_c6
  · exact w_c7
  · exact w_c8
  · exact w_c9
  · exact w_c10
set_option maxRecDepth 65536 in
theorem w_t1 : (words1.take 24).all (fun c => isCode c || c.before args0 about1) = true := by decide +kernel
set_option maxRecDepth 65536 in
theorem w_t2 : ((words1.drop 24).take 24).all (fun c => isCode c || c.before args0 about1) = true := by decide +kernel
set_option maxRecDepth 65536 in
theorem w_t3 : (((words1.drop 24).drop 24).take 24).all (fun c => isCode c || c.before args0 about1) = true := by decide +kernel
set_option maxRecDepth 65536 in
theorem w_t4 : (((words1.drop 24).drop 24).drop 24).all (fun c => isCode c || c.before args0 about1) = true := by decide +kernel
theorem w_tables : (allAtoms (Jvm.Cond.code x code maxLocals ret :: tables_1)).before args0 about1 = true := by
  rw [allAtoms_all]
  show words1.all (fun c => c.before args0 about1) = true
  refine all_split ?_ w_codes
  rw [← List.take_append_drop 24 words1, List.all_append, w_t1, ← List.take_append_drop 24 (words1.drop 24), List.all_append, w_t2, ← List.take_append_drop 24 ((words1.drop 24).drop 24), List.all_append, w_t3, w_t4]
  rfl
set_option maxRecDepth 65536 in
theorem w_rest : rest_1_c.before args0 about1 = true := by decide +kernel
set_option maxRecDepth 65536 in
theorem w_case : (Jvm.Cond.and given_1 narrow_1).before args0 about1 = true := by decide +kernel
theorem w_applies : (headSpec (Jvm.Cond.code x code maxLocals ret :: tables_1) room_1).applies x e0.platform about1 = true :=
  (Spec.applies_iff w_frames).mpr ⟨w_running, w_runnable, w_alone, w_named, w_hears, w_ripe, w_room, w_tables⟩
theorem atStart : AtStart classFile x code maxLocals ret World_1 tables_1 room_1 Calls_1 rest_1 Pre_1 launch0 p0 e0 about1 theMethod args0 below0 :=
  ⟨lists_1, trivial, launch0.admits_env _ _ _, launch0.least_env, fairChoices_fair.cas, fairChoices_fair.clock, w_frames, w_args, w_heap, w_applies, trivial, w_rest, w_case⟩
end start1
theorem witness_1 : WitnessClaimed_1 := ⟨start1.p0, start1.e0, start1.about1, start1.theMethod, start1.args0, start1.below0, start1.atStart⟩
end Jvm.Pilot.@@N@@
