import JvmDerived
import JvmDerived.Pilot.@@N@@Statement
import JvmDerived.Pilot.@@N@@Code
@@BLOCK:TracedD.lean.txt@@
set_option linter.unusedVariables false
set_option linter.unusedSimpArgs false
namespace Jvm.Pilot.@@N@@
open Jvm Jvm.ClassFile Sem Op Lib Jvm.Free Jvm.Stand Jvm.LawKit Jvm.RoadKit Bundle Jvm.Pilot.@@N@@.Jvm.D

section Own
variable {p : Program} {l : Launch} {e : Env} {R : Room} {s : State} {m : MethodId} {args : Array Value} {below : List Frame} {meth : Method} {c : Code} {T : State} {locs : List Loc} {cells slots : Nat} {Z : State} {a0 : Array Value} {h h' h0 : Heap} {K : Outcome → State → Prop} {pc pc' : Nat} {Ls : Array Slot} {st : List Value} {own : String} {ws ws' : List Addr} {L L' : List Loc}
/-- what is left to show at a point of a walk -/
def OGo (p : Program) (e : Env) (below : List Frame) (K : Outcome → State → Prop) (T : State) (g : JFrame) : Prop :=
  ∃ s₂ o, Steps p.tables e below (T.setTop g) s₂ ∧ s₂.status = .running ∧ Ended s₂ below o ∧ K o s₂
theorem OGo.via {T' : State} {g g' : JFrame} (k : OGo p e below K T' g') (q : ∀ t, Steps p.tables e below (T'.setTop g') t → Steps p.tables e below (T.setTop g) t) : OGo p e below K T g := by
  obtain ⟨s₂, o, h1, h2⟩ := k; exact ⟨s₂, o, q _ h1, h2⟩
theorem OGo.tr {T' : State} {g g' : JFrame} (k : OGo p e below K T' g') (q : Steps p.tables e below (T.setTop g) (T'.setTop g')) : OGo p e below K T g := k.via fun _ r => q.trans r
/-- the cells of h0 stand in h but for those at ws; cells of statics stand; what was written is at ws or new -/
def OPr (h0 : Heap) (ws : List Addr) (h : Heap) (L : List Loc) : Prop := Keep h0 h ws ∧ (∀ (x : Addr) (c : Cell), h0[x]? = some c → c.vm.isStatics = true → h[x]? = some c) ∧ ∀ y ∈ L, y.base ∈ ws ∨ h0.size ≤ y.base
theorem OPr.refl (h : Heap) (ws : List Addr) : OPr h ws h [] := ⟨Keep.refl h ws, fun _ _ q _ => q, fun _ q => nomatch q⟩
theorem OPr.size (P : OPr h0 ws h L) : h0.size ≤ h.size := P.1.1
theorem OPr.ge (P : OPr h0 ws h L) {a : Addr} (q : a = h.size) : h0.size ≤ a := q ▸ P.1.1
theorem OPr.ext (P : OPr h0 ws h L) (E : Ext h h') : OPr h0 ws h' L := ⟨P.1.ext E, fun x c q r => E.2 _ _ (P.2.1 x c q r), P.2.2⟩
theorem OPr.wr {a : Addr} {sl : Nat} {v : Value} (P : OPr h0 ws h L) (W : Wr h h' a sl v) (q : a ∈ ws ∨ h0.size ≤ a) : OPr h0 ws h' (L ++ [⟨a, sl⟩]) := by
  refine ⟨P.1.wr W q, fun x c r1 r2 => ?_, fun y hy => ?_⟩
  · obtain ⟨c', e1, -, -, -, e5, -, e7⟩ := wr_at W (P.2.1 x c r1 r2)
    have ne : x ≠ a := fun u => by rw [(e7 u).2.2] at r2; cases r2
    rw [← e5 ne]; exact e1
  · rcases List.mem_append.mp hy with u | u
    · exact P.2.2 y u
    · cases List.mem_singleton.mp u; exact q
theorem OPr.call (P : OPr h0 ws h L) (P' : OPr h ws' h' L') (q : ∀ x ∈ ws', x ∈ ws ∨ h0.size ≤ x) : OPr h0 ws h' (L ++ L') := by
  refine ⟨P.1.trans P'.1 q, fun x c r1 r2 => P'.2.1 x c (P.2.1 x c r1 r2) r2, fun y hy => ?_⟩
  rcases List.mem_append.mp hy with u | u
  · exact P.2.2 y u
  · rcases P'.2.2 y u with v | v
    · exact q _ v
    · exact Or.inr (Nat.le_trans P.1.1 v)
theorem OPr.fr (P : OPr h0 [] h L) : Fr h0.size L := fun y hy => (P.2.2 y hy).elim (fun q => nomatch q) id
theorem fldP {a : Addr} {C n d : String} {v : Value} (F : Fld Z h0 a C n d v) (P : OPr h0 ws h L) (q : a ∉ ws) : Fld Z h a C n d v := F.keep P.1 q
theorem exaP {a : Addr} {C : String} (F : Exa Z h0 a C) (P : OPr h0 ws h L) : Exa Z h a C := F.keep P.1
theorem staP {C n d : String} {v : Value} (F : Sta Z h0 C n d v) (P : OPr h0 ws h L) : Sta Z h C n d v := by
  obtain ⟨cf, i, k, f, sa, cell, h1, h2, h3, h4, h5, h6, h7⟩ := F
  exact ⟨cf, i, k, f, sa, cell, h1, h2, h3, h4, P.2.1 _ _ h5 h6, h6, h7⟩
/-- an array, told whole -/
def OAry (Z : State) (h : Heap) (a : Addr) (k : ClassId) (ty : FieldType) (vs : List Value) : Prop := ∃ c : Cell, Arr Z h a c ty ∧ c.cls = k ∧ c.slots.toList = vs ∧ vs.length < 2 ^ 31 ∧ ∀ v ∈ vs, fits ty v = true
theorem aryP {a : Addr} {k : ClassId} {ty : FieldType} {vs : List Value} (F : OAry Z h0 a k ty vs) (P : OPr h0 ws h L) (q : a ∉ ws) : OAry Z h a k ty vs := by
  obtain ⟨c, A, r⟩ := F; exact ⟨c, ⟨P.1.2.1 a c A.1 q, A.2⟩, r⟩
theorem aryE {a : Addr} {k : ClassId} {ty : FieldType} {vs : List Value} (F : OAry Z h a k ty vs) (E : Ext h h') : OAry Z h' a k ty vs := by
  obtain ⟨c, A, r⟩ := F; exact ⟨c, A.ext E, r⟩
theorem aryO {a b : Addr} {k : ClassId} {ty : FieldType} {vs : List Value} {sl : Nat} {v : Value} (F : OAry Z h b k ty vs) (W : Wr h h' a sl v) (q : b ≠ a) : OAry Z h' b k ty vs := by
  obtain ⟨c, A, r⟩ := F; exact ⟨c, A.other W q, r⟩
theorem aryLt {a : Addr} {k : ClassId} {ty : FieldType} {vs : List Value} (F : OAry Z h a k ty vs) : a < h.size := by obtain ⟨c, A, -⟩ := F; exact A.lt
theorem arySet {a : Addr} {k : ClassId} {ty : FieldType} {vs vs' : List Value} {j : Nat} {v : Value} (F : OAry Z h a k ty vs) (W : Wr h h' a j v) (hf : fits ty v = true) (e : vs.set j v = vs') : OAry Z h' a k ty vs' := by
  obtain ⟨c, A, r1, rfl, r3, r4⟩ := F
  subst e
  refine ⟨_, A.same W, r1, ?_, by simpa using r3, fun u hu => ?_⟩
  · show (c.slots.setIfInBounds j v).toList = _
    simp
  · rcases List.mem_or_eq_of_mem_set hu with z | rfl
    · exact r4 u z
    · exact hf
theorem aryIn {c : Cell} {vs : List Value} {j : Int32} {v : Value} (q : c.slots.toList = vs) (hj : ¬ j < 0) (hv : vs[j.toNatClampNeg]? = some v) : ¬ (j < 0 ∨ c.slots.size ≤ j.toNatClampNeg) ∧ c.slots[j.toNatClampNeg]? = some v := by
  subst q
  have hv' : c.slots[j.toNatClampNeg]? = some v := by simpa using hv
  exact ⟨fun u => u.elim hj fun u => by have := (Array.getElem?_eq_some_iff.mp hv').1; omega, hv'⟩
theorem aryFit {a : Addr} {k : ClassId} {ty : FieldType} {vs : List Value} {c : Cell} (A : Arr Z h a c ty) (q : c.slots.toList = vs) (r : ∀ v ∈ vs, fits ty v = true) : FitC Z c := fun i v hv => by
  subst q
  obtain ⟨hs, k, hk, comp, hkind⟩ := A.2.1
  have e : Z.slotType? c.cls .none i = some ty := by simp [State.slotType?, hk, hkind]
  have m : v ∈ c.slots.toList := by obtain ⟨hi, rfl⟩ := Array.getElem?_eq_some_iff.mp hv; simp
  simp [State.fitsSlot, e, r v m]
/-- what a method that returned has left -/
def OFin (s : State) (rm : Room) (Q : Option Value → Heap → List Loc → Prop) (o : Outcome) (U' : State) : Prop := ∃ v L, o = .returned v ∧ Q v U'.heap L ∧ FrameEnd s o U' L rm.cells rm.slots
/-- a method's contract, at given arguments and a given heap -/
def OMet (l : Launch) (y : MethodName) (bytes : ByteArray) (maxL : Nat) (ret : Option FieldType) (rm : Room) (as : Array Value) (Z : State) (h0 : Heap) (Q : Option Value → Heap → List Loc → Prop) : Prop :=
  ∀ ws : List Jvm.Cond, MetFree l y (head1 (Jvm.Cond.code y bytes maxL ret :: ws) rm) (fun a U => a = as ∧ Z.Warmed39 U.vm ∧ U.heap = h0) (fun _ _ _ _ _ => True) (fun _ U o U' => OFin U rm Q o U')
theorem OMet.body {y : MethodName} {bytes : ByteArray} {maxL : Nat} {ret : Option FieldType} {rm : Room} {as : Array Value} {Q : Option Value → Heap → List Loc → Prop} {Ls : Array Slot} (hpl : plainFor y = true) (hef : ∀ m, entryFrame m as maxL = mkF m 0 Ls [])
    (H : ∀ (p : Program) (e : Env) (s : State) (m : MethodId) (below : List Frame) (meth : Method) (c : Code) (T : State) (K : Outcome → State → Prop), K = OFin s rm Q → Stand p l e rm s m as below meth c T [] 0 0 → p.tables.exec = Jvm.exec → c.code = bytes → c.maxLocals = maxL → s.vm.findClass y.cls = some m.cls → meth.name = y.name → meth.sig.returnType = ret → meth.locks = false → Z.Warmed39 s.vm → T.heap = h0 → OGo p e below K T (mkF m 0 Ls [])) :
    OMet l y bytes maxL ret rm as Z h0 Q := fun ws => by
  refine MetFree.of_bodySF hpl hisR ?_
  intro p e s m args below meth c s₁ Bd hml0 hP hK
  obtain ⟨rfl, hZ, hh⟩ := hP
  have e0 : s₁.heap = h0 := by rw [← hh, Bd.state]; rfl
  have k := H p e s m below meth c s₁ _ rfl (Stand.of_body Bd) Bd.exec Bd.bytes hml0 (findClass_of_methodNamed Bd.named) (name_of_methodNamed Bd.named Bd.method).1 Bd.returns Bd.notSynchronized hZ e0
  rw [← hef m] at k
  exact k
theorem g_ret {rm : Room} {Q : Option Value → Heap → List Loc → Prop} {t : FieldType} {w : Value} {i : Instr} (X : Stand p l e rm s m args below meth c T locs cells slots) (hx : p.tables.exec = Jvm.exec) (hret : meth.sig.returnType = some t) (hlk : meth.locks = false) (hn : narrow t w = w)
    (hi : (i = .ireturn ∧ (t = .int ∨ t = .boolean ∨ t = .byte ∨ t = .char ∨ t = .short) ∧ ∃ z, w = .int z) ∨ (i = .lreturn ∧ t = .long ∧ ∃ z, w = .long z) ∨ (i = .dreturn ∧ t = .double ∧ ∃ z, w = .double z) ∨ (i = .freturn ∧ t = .float ∧ ∃ z, w = .float z) ∨ (i = .areturn ∧ t.isReference = true ∧ w.isRef = true))
    (hd : decode c.code pc = .ok (i, 1)) (hc : cells ≤ rm.cells) (hs : slots ≤ rm.slots) (eT : T.heap = h) (hK : K = OFin s rm Q) (hQ : Q (some w) h locs) : OGo p e below K T (mkF m pc Ls (w :: st)) := by
  subst hK
  obtain ⟨fs, hr, hrun, hended, hW, hsame⟩ := X.leave (v := some w) (fun h => by rw [hret] at h; cases h) hlk
  exact ⟨_, _, retOut X hx hret hn hi hd hr, hrun, hended, _, _, rfl, by show Q _ T.heap _; rw [eT]; exact hQ, ⟨_, rfl⟩, hW, hsame.mono hc hs⟩
theorem g_ret0 {rm : Room} {Q : Option Value → Heap → List Loc → Prop} (X : Stand p l e rm s m args below meth c T locs cells slots) (hx : p.tables.exec = Jvm.exec) (hret : meth.sig.returnType = none) (hlk : meth.locks = false)
    (hd : decode c.code pc = .ok (.return_, 1)) (hc : cells ≤ rm.cells) (hs : slots ≤ rm.slots) (eT : T.heap = h) (hK : K = OFin s rm Q) (hQ : Q none h locs) : OGo p e below K T (mkF m pc Ls []) := by
  subst hK
  obtain ⟨fs, hr, hrun, hended, hW, hsame⟩ := X.leave (v := none) (fun _ => rfl) hlk
  exact ⟨_, _, X.returnOut hx hret hd hr, hrun, hended, _, _, rfl, by show Q _ T.heap _; rw [eT]; exact hQ, ⟨_, rfl⟩, hW, hsame.mono hc hs⟩
theorem g_getf (X : Stand p l e R s m args below meth c T locs cells slots) (hx : p.tables.exec = Jvm.exec) (hZ : Z.Warmed39 s.vm) (hown : s.vm.findClass own = some m.cls) {R0 O n d host : String} {index : Nat} (w : (Jvm.Cond.fieldLink own index R0 n d).before a0 Z = true ∨ (Jvm.Cond.fieldLinkNest own index R0 n d host).before a0 Z = true) (via : Via Z R0 O n d)
    (eT : T.heap = h) {a : Addr} {v : Value} (F : Fld Z h a O n d v) (hd : decode c.code pc = .ok (.getfield index, 3)) (hp : pc + 3 = pc')
    (k : ∀ T', Stand p l e R s m args below meth c T' locs cells slots → T'.heap = h → OGo p e below K T' (mkF m pc' Ls (v :: st))) : OGo p e below K T (mkF m pc Ls (.ref a :: st)) := by
  subst hp
  obtain ⟨T', X', e', q⟩ := getF X hx hZ hown w via eT F (g := mkF m pc Ls (.ref a :: st)) rfl rfl hd
  exact (k T' X' e').via q
theorem g_gets (X : Stand p l e R s m args below meth c T locs cells slots) (hx : p.tables.exec = Jvm.exec) (hZ : Z.Warmed39 s.vm) (hown : s.vm.findClass own = some m.cls) {R0 O n d host : String} {index : Nat} (w : (Jvm.Cond.fieldLink own index R0 n d).before a0 Z = true ∨ (Jvm.Cond.fieldLinkNest own index R0 n d host).before a0 Z = true) (via : Via Z R0 O n d)
    (eT : T.heap = h) {v : Value} (F : Sta Z h O n d v) (hd : decode c.code pc = .ok (.getstatic index, 3)) (hp : pc + 3 = pc')
    (k : ∀ T', Stand p l e R s m args below meth c T' locs cells slots → T'.heap = h → OGo p e below K T' (mkF m pc' Ls (v :: st))) : OGo p e below K T (mkF m pc Ls st) := by
  subst hp
  obtain ⟨T', X', e', q⟩ := getS2 X hx hZ hown w via eT F (g := mkF m pc Ls st) rfl hd
  exact (k T' X' e').via q
theorem g_putf (X : Stand p l e R s m args below meth c T locs cells slots) (hx : p.tables.exec = Jvm.exec) (hZ : Z.Warmed39 s.vm) (hown : s.vm.findClass own = some m.cls) {R0 O n d host C : String} {index kk : Nat} {ty : FieldType} (w : (Jvm.Cond.fieldLink own index R0 n d).before a0 Z = true ∨ (Jvm.Cond.fieldLinkNest own index R0 n d host).before a0 Z = true) (via : Via Z R0 O n d)
    (eT : T.heap = h) {a : Addr} {v old : Value} (F : Fld Z h a O n d old) (E : Exa Z h a C) (L : (Jvm.Cond.lays C O n d).before a0 Z = true ∨ ((Jvm.Cond.laysFinal C O n d).before a0 Z = true ∧ own = O ∧ meth.name = "<init>")) (wi : (Jvm.Cond.instantiable C kk).before a0 Z = true)
    (hty : parseFieldDescriptor d = some ty) (hn : narrow ty v = v) (hf : fits ty v = true) (P : OPr h0 ws h locs) (q : a ∈ ws ∨ h0.size ≤ a) (hd : decode c.code pc = .ok (.putfield index, 3)) (hp : pc + 3 = pc')
    (k : ∀ T' h', Stand p l e R s m args below meth c T' (locs ++ [⟨a, RoadKit.slotOf Z O n d⟩]) cells slots → T'.heap = h' → Wr h h' a (RoadKit.slotOf Z O n d) v → OPr h0 ws h' (locs ++ [⟨a, RoadKit.slotOf Z O n d⟩]) → Fld Z h' a O n d v → OGo p e below K T' (mkF m pc' Ls st)) : OGo p e below K T (mkF m pc Ls (v :: .ref a :: st)) := by
  subst hp
  obtain ⟨T', h', X', e', W', r⟩ := putF X hx hZ hown w via eT F E L wi hty hn hf (g := mkF m pc Ls (v :: .ref a :: st)) rfl rfl hd
  exact (k T' h' X' e' W' (P.wr W' q) (F.same W')).via r
theorem g_new (X : Stand p l e R s m args below meth c T locs cells slots) (hx : p.tables.exec = Jvm.exec) (hZ : Z.Warmed39 s.vm) (hown : s.vm.findClass own = some m.cls) {C : String} {index n : Nat} (w : (Jvm.Cond.classLink own index C).before a0 Z = true) (wi : (Jvm.Cond.instantiable C n).before a0 Z = true) (wz : (Jvm.Cond.initialized C).before a0 Z = true) (eT : T.heap = h)
    (P : OPr h0 ws h locs) (hd : decode c.code pc = .ok (.new index, 3)) (hp : pc + 3 = pc') (hc : cells + 1 ≤ R.cells) (hl : slots + n ≤ R.slots)
    (k : ∀ T' h' a, a = h.size → h0.size ≤ a → Stand p l e R s m args below meth c T' locs (cells + 1) (slots + n) → T'.heap = h' → Ext h h' → OPr h0 ws h' locs → Exa Z h' a C → (∀ {O nm d : String} {ty : FieldType}, Laid Z a0 C O nm d → parseFieldDescriptor d = some ty → Fld Z h' a O nm d (defaultValue ty)) → OGo p e below K T' (mkF m pc' Ls (.ref a :: st))) : OGo p e below K T (mkF m pc Ls st) := by
  subst hp
  obtain ⟨T', h', X', e', E', A', D', -, r⟩ := newO X hx hZ hown w wi wz eT (g := mkF m pc Ls st) rfl hd hc hl
  exact (k T' h' h.size rfl P.1.1 X' e' E' (P.ext E') A' D').via r
theorem g_inito (X : Stand p l e R s m args below meth c T locs cells slots) (hx : p.tables.exec = Jvm.exec) (hZ : Z.Warmed39 s.vm) (hown : s.vm.findClass own = some m.cls) {idx : Nat} (w1 : (Jvm.Cond.methodLink own idx Lib.objectInit).before a0 Z = true) (w2 : (Jvm.Cond.instanceMethod Lib.objectInit).before a0 Z = true)
    (w3 : (Jvm.Cond.code Lib.objectInit ⟨#[0xb1]⟩ 1 none).before a0 Z = true) (eT : T.heap = h) (hsize : Ls.size = c.maxLocals) {a : Addr} (hd : decode c.code pc = .ok (.invokespecial idx, 3)) (hp : pc + 3 = pc')
    (hf : 1 ≤ R.frames) {W : Nat} (hW : (st.map fun v => v.category).sum ≤ W) (hl : W + 12 ≤ R.locals)
    (k : ∀ T', Stand p l e R s m args below meth c T' locs cells slots → T'.heap = h → OGo p e below K T' (mkF m pc' Ls st)) : OGo p e below K T (mkF m pc Ls (.ref a :: st)) := by
  subst hp
  obtain ⟨T', X', e', q⟩ := initO X hx hZ hown w1 w2 w3 eT (g := mkF m pc Ls (.ref a :: st)) rfl hsize rfl hd hf (W := W) (by show 2 * 0 + _ ≤ _; omega) hl
  exact (k T' X' e').via q
theorem OMet.back {y : MethodName} {bytes : ByteArray} {maxL : Nat} {ret : Option FieldType} {rm : Room} {as : Array Value} {Q : Option Value → Heap → List Loc → Prop} {len W : Nat} (hM : OMet l y bytes maxL ret rm as Z h Q) (hZ : Z.Warmed39 s.vm) (wc : (Jvm.Cond.code y bytes maxL ret).before a0 Z = true) (wz : (Jvm.Cond.initialized y.cls).before a0 Z = true) (hf : rm.frames + 1 ≤ R.frames) (hl : W + (maxL + 11) + rm.locals ≤ R.locals) :
    Back l R p e below s args y len W (fun A a => a = as ∧ A.U.heap = h ∧ A.cells + rm.cells ≤ R.cells ∧ A.slots + rm.slots ≤ R.slots)
      (fun A _ v B => ∃ L, Q v B.U.heap L ∧ B.locs = A.locs ++ L ∧ B.cells = A.cells + rm.cells ∧ B.slots = A.slots + rm.slots) := backOf (hM []) hZ wc wz hf hl
theorem g_special (X : Stand p l e R s m args below meth c T locs cells slots) (hx : p.tables.exec = Jvm.exec) (hZ : Z.Warmed39 s.vm) (hown : s.vm.findClass own = some m.cls) (eT : T.heap = h) {y : MethodName} {bytes : ByteArray} {maxL index : Nat} {rm : Room} {as : Array Value} {Q : Option Value → Heap → List Loc → Prop} (hM : OMet l y bytes maxL none rm as Z h Q) (hy1 : y.name = "<init>")
    (w1 : (Jvm.Cond.methodLink own index y).before a0 Z = true) (w2 : (Jvm.Cond.instanceMethod y).before a0 Z = true) (w3 : (Jvm.Cond.code y bytes maxL none).before a0 Z = true) (wz : (Jvm.Cond.initialized y.cls).before a0 Z = true) (hy : y.cls ≠ "java/lang/invoke/MethodHandle" ∧ y.cls ≠ "java/lang/invoke/VarHandle")
    {a : Addr} {argsL rest : List Value} (has : (.ref a :: argsL).toArray = as) (hst : st = argsL.reverse ++ .ref a :: rest) {W : Nat} {ps : List FieldType} (hde : parseMethodDescriptor y.desc = some ⟨ps, none⟩) (hlen : argsL.length = ps.length) (hW : (rest.map fun v => v.category).sum ≤ W) (hf : rm.frames + 1 ≤ R.frames) (hl : W + (maxL + 11) + rm.locals ≤ R.locals) (hc : cells + rm.cells ≤ R.cells) (hs : slots + rm.slots ≤ R.slots)
    (hsize : Ls.size = c.maxLocals) (hd : decode c.code pc = .ok (.invokespecial index, 3)) (hp : pc + 3 = pc')
    (k : ∀ v T' h' L, Stand p l e R s m args below meth c T' (locs ++ L) (cells + rm.cells) (slots + rm.slots) → T'.heap = h' → Q v h' L → OGo p e below K T' (mkF m pc' Ls (v.toList ++ rest))) : OGo p e below K T (mkF m pc Ls st) := by
  subst hp has
  obtain ⟨v, vm₁, ⟨T', L', c', n'⟩, -, X', ⟨Lc, hQ, l1, y1, z1⟩, r⟩ := X.specialBack hx (y := y) hy1 hown (mvT hZ w1) (mvT hZ w2) (mvT hZ w3) hy (hM.back (W := W) hZ w3 wz hf hl) (g := mkF m pc Ls st) rfl hsize (Steps.refl _) (a := a) (argsL := argsL) (rest := rest) (lenOf hde hlen) hst (by show 2 * 0 + _ ≤ _; omega) hd (fun _ _ => ⟨rfl, eT, hc, hs⟩)
  dsimp only [Pt.U, Pt.locs, Pt.cells, Pt.slots] at X' l1 y1 z1 r hQ
  subst l1 y1 z1
  exact (k v T' _ Lc X' rfl hQ).tr r
theorem g_virtual (X : Stand p l e R s m args below meth c T locs cells slots) (hx : p.tables.exec = Jvm.exec) (hZ : Z.Warmed39 s.vm) (hown : s.vm.findClass own = some m.cls) (eT : T.heap = h) {y z : MethodName} {bytes : ByteArray} {maxL index : Nat} {ret : Option FieldType} {rm : Room} {as : Array Value} {Q : Option Value → Heap → List Loc → Prop} (hM : OMet l z bytes maxL ret rm as Z h Q) {C : String}
    (w1 : (Jvm.Cond.methodLink own index y).before a0 Z = true) (w2 : (Jvm.Cond.declares y).before a0 Z = true) (nf : NotFace s y) (w3 : (Jvm.Cond.selects C y z).before a0 Z = true) (w4 : (Jvm.Cond.instanceMethod z).before a0 Z = true) (w5 : (Jvm.Cond.code z bytes maxL ret).before a0 Z = true) (wz : (Jvm.Cond.initialized z.cls).before a0 Z = true) (hy : y.cls ≠ "java/lang/invoke/MethodHandle" ∧ y.cls ≠ "java/lang/invoke/VarHandle")
    {a : Addr} (E : Exa Z h a C) {argsL rest : List Value} (has : (.ref a :: argsL).toArray = as) (hst : st = argsL.reverse ++ .ref a :: rest) {W : Nat} {ps : List FieldType} {rt : Option FieldType} (hde : parseMethodDescriptor y.desc = some ⟨ps, rt⟩) (hlen : argsL.length = ps.length) (hW : (rest.map fun v => v.category).sum ≤ W) (hf : rm.frames + 1 ≤ R.frames) (hl : W + (maxL + 11) + rm.locals ≤ R.locals) (hc : cells + rm.cells ≤ R.cells) (hs : slots + rm.slots ≤ R.slots)
    (hsize : Ls.size = c.maxLocals) (hd : decode c.code pc = .ok (.invokevirtual index, 3)) (hp : pc + 3 = pc')
    (k : ∀ v T' h' L, Stand p l e R s m args below meth c T' (locs ++ L) (cells + rm.cells) (slots + rm.slots) → T'.heap = h' → Q v h' L → OGo p e below K T' (mkF m pc' Ls (v.toList ++ rest))) : OGo p e below K T (mkF m pc Ls st) := by
  subst hp has
  obtain ⟨cB, kB, q1, q2, q3⟩ := isOf (T := T) hZ eT E
  obtain ⟨v, vm₁, ⟨T', L', c', n'⟩, -, X', ⟨Lc, hQ, l1, y1, z1⟩, r⟩ := X.virtualBack hx (y := y) (z := z) hown (mvT hZ w1) (mvT hZ w2) nf (mvT hZ w3) (mvT hZ w4) hy (hM.back (W := W) hZ w5 wz hf hl) q1 q3 (g := mkF m pc Ls st) rfl hsize (Steps.refl _) (argsL := argsL) (rest := rest) (lenOf hde hlen) hst (by show 2 * 0 + _ ≤ _; omega) hd (fun _ _ => ⟨rfl, eT, hc, hs⟩)
  dsimp only [Pt.U, Pt.locs, Pt.cells, Pt.slots] at X' l1 y1 z1 r hQ
  subst l1 y1 z1
  exact (k v T' _ Lc X' rfl hQ).tr r
theorem g_virtualUp (X : Stand p l e R s m args below meth c T locs cells slots) (hx : p.tables.exec = Jvm.exec) (hZ : Z.Warmed39 s.vm) (hown : s.vm.findClass own = some m.cls) (eT : T.heap = h) {y z : MethodName} {bytes : ByteArray} {maxL index : Nat} {ret : Option FieldType} {rm : Room} {as : Array Value} {Q : Option Value → Heap → List Loc → Prop} (hM : OMet l z bytes maxL ret rm as Z h Q) {C owner : String}
    (w1 : (Jvm.Cond.methodLink own index y).before a0 Z = true) (w0 : (Jvm.Cond.sameMethod y.cls owner y.name y.desc).before a0 Z = true) (w2 : (Jvm.Cond.declares ⟨owner, y.name, y.desc⟩).before a0 Z = true) (nf : NotFace s ⟨owner, y.name, y.desc⟩) (w3 : (Jvm.Cond.selects C y z).before a0 Z = true) (w4 : (Jvm.Cond.instanceMethod z).before a0 Z = true) (w5 : (Jvm.Cond.code z bytes maxL ret).before a0 Z = true) (wz : (Jvm.Cond.initialized z.cls).before a0 Z = true) (hy : owner ≠ "java/lang/invoke/MethodHandle" ∧ owner ≠ "java/lang/invoke/VarHandle")
    {a : Addr} (E : Exa Z h a C) {argsL rest : List Value} (has : (.ref a :: argsL).toArray = as) (hst : st = argsL.reverse ++ .ref a :: rest) {W : Nat} {ps : List FieldType} {rt : Option FieldType} (hde : parseMethodDescriptor y.desc = some ⟨ps, rt⟩) (hlen : argsL.length = ps.length) (hW : (rest.map fun v => v.category).sum ≤ W) (hf : rm.frames + 1 ≤ R.frames) (hl : W + (maxL + 11) + rm.locals ≤ R.locals) (hc : cells + rm.cells ≤ R.cells) (hs : slots + rm.slots ≤ R.slots)
    (hsize : Ls.size = c.maxLocals) (hd : decode c.code pc = .ok (.invokevirtual index, 3)) (hp : pc + 3 = pc')
    (k : ∀ v T' h' L, Stand p l e R s m args below meth c T' (locs ++ L) (cells + rm.cells) (slots + rm.slots) → T'.heap = h' → Q v h' L → OGo p e below K T' (mkF m pc' Ls (v.toList ++ rest))) : OGo p e below K T (mkF m pc Ls st) := by
  subst hp has
  obtain ⟨cB, kB, q1, q2, q3⟩ := isOf (T := T) hZ eT E
  obtain ⟨v, vm₁, ⟨T', L', c', n'⟩, -, X', ⟨Lc, hQ, l1, y1, z1⟩, r⟩ := X.virtualBackUp hx (x := y) (y := z) (owner := owner) hown (mvT hZ w1) (mvT hZ w0) (mvT hZ w2) hy (mvT hZ w3) (mvT hZ w4) (hM.back (W := W) hZ w5 wz hf hl) q1 q3 (g := mkF m pc Ls st) rfl hsize (Steps.refl _) (argsL := argsL) (rest := rest) (lenOf hde hlen) hst (by show 2 * 0 + _ ≤ _; omega) hd (fun _ _ => ⟨rfl, eT, hc, hs⟩)
  dsimp only [Pt.U, Pt.locs, Pt.cells, Pt.slots] at X' l1 y1 z1 r hQ
  subst l1 y1 z1
  exact (k v T' _ Lc X' rfl hQ).tr r
theorem g_static (X : Stand p l e R s m args below meth c T locs cells slots) (hx : p.tables.exec = Jvm.exec) (hZ : Z.Warmed39 s.vm) (hown : s.vm.findClass own = some m.cls) (eT : T.heap = h) {y : MethodName} {bytes : ByteArray} {maxL index : Nat} {ret : Option FieldType} {rm : Room} {as : Array Value} {Q : Option Value → Heap → List Loc → Prop} (hM : OMet l y bytes maxL ret rm as Z h Q)
    (w1 : (Jvm.Cond.methodLink own index y).before a0 Z = true) (w2 : (Jvm.Cond.static y).before a0 Z = true) (w3 : (Jvm.Cond.code y bytes maxL ret).before a0 Z = true) (wz : (Jvm.Cond.initialized y.cls).before a0 Z = true) (hy : y.cls ≠ "java/lang/invoke/MethodHandle" ∧ y.cls ≠ "java/lang/invoke/VarHandle")
    {argsL rest : List Value} (has : argsL.toArray = as) (hst : st = argsL.reverse ++ rest) {W : Nat} {ps : List FieldType} {rt : Option FieldType} (hde : parseMethodDescriptor y.desc = some ⟨ps, rt⟩) (hlen : argsL.length = ps.length) (hW : (rest.map fun v => v.category).sum ≤ W) (hf : rm.frames + 1 ≤ R.frames) (hl : W + (maxL + 11) + rm.locals ≤ R.locals) (hc : cells + rm.cells ≤ R.cells) (hs : slots + rm.slots ≤ R.slots)
    (hsize : Ls.size = c.maxLocals) (hd : decode c.code pc = .ok (.invokestatic index, 3)) (hp : pc + 3 = pc')
    (k : ∀ v T' h' L, Stand p l e R s m args below meth c T' (locs ++ L) (cells + rm.cells) (slots + rm.slots) → T'.heap = h' → Q v h' L → OGo p e below K T' (mkF m pc' Ls (v.toList ++ rest))) : OGo p e below K T (mkF m pc Ls st) := by
  subst hp has
  obtain ⟨v, vm₁, ⟨T', L', c', n'⟩, -, X', ⟨Lc, hQ, l1, y1, z1⟩, r⟩ := Jvm.LawKit.callS X hx (y := y) hown (mvT hZ w1) (mvT hZ w2) (mvT hZ wz) (mvT hZ w3) hy (hM.back (W := W) hZ w3 wz hf hl) (g := mkF m pc Ls st) rfl hsize (argsL := argsL) (rest := rest) (lenOf hde hlen) hst (by show 2 * 0 + _ ≤ _; omega) hd (fun _ _ => ⟨rfl, eT, hc, hs⟩)
  dsimp only [Pt.U, Pt.locs, Pt.cells, Pt.slots] at X' l1 y1 z1 r hQ
  subst l1 y1 z1
  exact (k v T' _ Lc X' rfl hQ).via r
theorem g_face (X : Stand p l e R s m args below meth c T locs cells slots) (hx : p.tables.exec = Jvm.exec) (hZ : Z.Warmed39 s.vm) (hown : s.vm.findClass own = some m.cls) (eT : T.heap = h) {y z : MethodName} {bytes : ByteArray} {maxL index count : Nat} {ret : Option FieldType} {rm : Room} {as : Array Value} {Q : Option Value → Heap → List Loc → Prop} (hM : OMet l z bytes maxL ret rm as Z h Q) {C : String}
    (w1 : (Jvm.Cond.methodLink own index y).before a0 Z = true) (w2 : (Jvm.Cond.declares y).before a0 Z = true) (w6 : (Jvm.Cond.interfaceMethod y.cls y.cls y.name y.desc).before a0 Z = true) (w3 : (Jvm.Cond.selects C y z).before a0 Z = true) (w4 : (Jvm.Cond.instanceMethod z).before a0 Z = true) (w7 : (Jvm.Cond.publicMethod z).before a0 Z = true) (w8 : (Jvm.Cond.unhidden C y.name y.desc).before a0 Z = true) (w9 : (Jvm.Cond.castable C y.cls).before a0 Z = true) (w5 : (Jvm.Cond.code z bytes maxL ret).before a0 Z = true) (wz : (Jvm.Cond.initialized z.cls).before a0 Z = true) (hy : y.cls ≠ "java/lang/invoke/MethodHandle" ∧ y.cls ≠ "java/lang/invoke/VarHandle")
    {a : Addr} (E : Exa Z h a C) {argsL rest : List Value} (has : (.ref a :: argsL).toArray = as) (hst : st = argsL.reverse ++ .ref a :: rest) {W : Nat} {ps : List FieldType} {rt : Option FieldType} (hde : parseMethodDescriptor y.desc = some ⟨ps, rt⟩) (hlen : argsL.length = ps.length) (hW : (rest.map fun v => v.category).sum ≤ W) (hf : rm.frames + 1 ≤ R.frames) (hl : W + (maxL + 11) + rm.locals ≤ R.locals) (hc : cells + rm.cells ≤ R.cells) (hs : slots + rm.slots ≤ R.slots)
    (hsize : Ls.size = c.maxLocals) (hd : decode c.code pc = .ok (.invokeinterface index count, 5)) (hp : pc + 5 = pc')
    (k : ∀ v T' h' L, Stand p l e R s m args below meth c T' (locs ++ L) (cells + rm.cells) (slots + rm.slots) → T'.heap = h' → Q v h' L → OGo p e below K T' (mkF m pc' Ls (v.toList ++ rest))) : OGo p e below K T (mkF m pc Ls st) := by
  subst hp has
  obtain ⟨cB, kB, q1, q2, q3⟩ := isOf (T := T) hZ eT E
  obtain ⟨v, vm₁, ⟨T', L', c', n'⟩, -, X', ⟨Lc, hQ, l1, y1, z1⟩, r⟩ := X.interfaceBack hx (xi := y) (y := z) hown (mvT hZ w1) (mvT hZ w2) (mvT hZ w6 (by simp [Jvm.Cond.onTables, Jvm.Cond.keepsFace, Jvm.Cond.keeps, Jvm.Cond.steady, Jvm.Cond.faceAtom, hy.1, hy.2])) (mvT hZ w3) (mvT hZ w4) (mvT hZ w7) (mvT hZ w8) (mvT hZ w9) hy (hM.back (W := W) hZ w5 wz hf hl) q1 q2 q3 (g := mkF m pc Ls st) rfl hsize (Steps.refl _) (argsL := argsL) (rest := rest) (lenOf hde hlen) hst (by show 2 * 0 + _ ≤ _; omega) hd (fun _ _ => ⟨rfl, eT, hc, hs⟩)
  dsimp only [Pt.U, Pt.locs, Pt.cells, Pt.slots] at X' l1 y1 z1 r hQ
  subst l1 y1 z1
  exact (k v T' _ Lc X' rfl hQ).tr r
theorem g_aloadN (X : Stand p l e R s m args below meth c T locs cells slots) (hx : p.tables.exec = Jvm.exec) {k : Fin 4} {v : Value} (hd : decode c.code pc = .ok (.aload_n k, 1)) (hp : pc + 1 = pc') (hl : Ls[k.val]? = some (.val v)) (hv : v.isRef = true)
    (k : OGo p e below K T (mkF m pc' Ls (v :: st))) : OGo p e below K T (mkF m pc Ls (st)) := by
  subst hp; exact k.via fun _ q => XS.aloadN X.here hx rfl hd hl hv q
theorem g_aload (X : Stand p l e R s m args below meth c T locs cells slots) (hx : p.tables.exec = Jvm.exec) {k : Nat} {v : Value} (hd : decode c.code pc = .ok (.aload k, 2)) (hp : pc + 2 = pc') (hl : Ls[k]? = some (.val v)) (hv : v.isRef = true)
    (k : OGo p e below K T (mkF m pc' Ls (v :: st))) : OGo p e below K T (mkF m pc Ls (st)) := by
  subst hp; exact k.via fun _ q => XS.aload X.here hx rfl hd hl hv q
theorem g_iloadN (X : Stand p l e R s m args below meth c T locs cells slots) (hx : p.tables.exec = Jvm.exec) {k : Fin 4} {v : Int32} (hd : decode c.code pc = .ok (.iload_n k, 1)) (hp : pc + 1 = pc') (hl : Ls[k.val]? = some (.val (.int v)))
    (k : OGo p e below K T (mkF m pc' Ls (.int v :: st))) : OGo p e below K T (mkF m pc Ls (st)) := by
  subst hp; exact k.via fun _ q => XS.iloadN X.here hx rfl hd hl q
theorem g_iload (X : Stand p l e R s m args below meth c T locs cells slots) (hx : p.tables.exec = Jvm.exec) {k : Nat} {v : Int32} (hd : decode c.code pc = .ok (.iload k, 2)) (hp : pc + 2 = pc') (hl : Ls[k]? = some (.val (.int v)))
    (k : OGo p e below K T (mkF m pc' Ls (.int v :: st))) : OGo p e below K T (mkF m pc Ls (st)) := by
  subst hp; exact k.via fun _ q => XS.iload X.here hx rfl hd hl q
theorem g_lloadN (X : Stand p l e R s m args below meth c T locs cells slots) (hx : p.tables.exec = Jvm.exec) {k : Fin 4} {v : Int64} (hd : decode c.code pc = .ok (.lload_n k, 1)) (hp : pc + 1 = pc') (hl : Ls[k.val]? = some (.val (.long v)))
    (k : OGo p e below K T (mkF m pc' Ls (.long v :: st))) : OGo p e below K T (mkF m pc Ls (st)) := by
  subst hp; exact k.via fun _ q => XT.lloadN X.here hx rfl hd hl q
theorem g_lload (X : Stand p l e R s m args below meth c T locs cells slots) (hx : p.tables.exec = Jvm.exec) {k : Nat} {v : Int64} (hd : decode c.code pc = .ok (.lload k, 2)) (hp : pc + 2 = pc') (hl : Ls[k]? = some (.val (.long v)))
    (k : OGo p e below K T (mkF m pc' Ls (.long v :: st))) : OGo p e below K T (mkF m pc Ls (st)) := by
  subst hp; exact k.via fun _ q => XT.lload X.here hx rfl hd hl q
theorem g_istoreN (X : Stand p l e R s m args below meth c T locs cells slots) (hx : p.tables.exec = Jvm.exec) {k : Fin 4} {x : Int32} {Ls' : Array Slot} (hd : decode c.code pc = .ok (.istore_n k, 1)) (hp : pc + 1 = pc') (hl : storeLocals Ls k.val (.int x) = some Ls')
    (k : OGo p e below K T (mkF m pc' Ls' (st))) : OGo p e below K T (mkF m pc Ls (.int x :: st)) := by
  subst hp; exact k.via fun _ q => XS.istoreN X.here hx rfl hd rfl hl q
theorem g_istore (X : Stand p l e R s m args below meth c T locs cells slots) (hx : p.tables.exec = Jvm.exec) {k : Nat} {x : Int32} {Ls' : Array Slot} (hd : decode c.code pc = .ok (.istore k, 2)) (hp : pc + 2 = pc') (hl : storeLocals Ls k (.int x) = some Ls')
    (k : OGo p e below K T (mkF m pc' Ls' (st))) : OGo p e below K T (mkF m pc Ls (.int x :: st)) := by
  subst hp; exact k.via fun _ q => XS.istore X.here hx rfl hd rfl hl q
theorem g_lstoreN (X : Stand p l e R s m args below meth c T locs cells slots) (hx : p.tables.exec = Jvm.exec) {k : Fin 4} {x : Int64} {Ls' : Array Slot} (hd : decode c.code pc = .ok (.lstore_n k, 1)) (hp : pc + 1 = pc') (hl : storeLocals Ls k.val (.long x) = some Ls')
    (k : OGo p e below K T (mkF m pc' Ls' (st))) : OGo p e below K T (mkF m pc Ls (.long x :: st)) := by
  subst hp; exact k.via fun _ q => XT.lstoreN X.here hx rfl hd rfl hl q
theorem g_lstore (X : Stand p l e R s m args below meth c T locs cells slots) (hx : p.tables.exec = Jvm.exec) {k : Nat} {x : Int64} {Ls' : Array Slot} (hd : decode c.code pc = .ok (.lstore k, 2)) (hp : pc + 2 = pc') (hl : storeLocals Ls k (.long x) = some Ls')
    (k : OGo p e below K T (mkF m pc' Ls' (st))) : OGo p e below K T (mkF m pc Ls (.long x :: st)) := by
  subst hp; exact k.via fun _ q => XT.lstore X.here hx rfl hd rfl hl q
theorem g_astoreN (X : Stand p l e R s m args below meth c T locs cells slots) (hx : p.tables.exec = Jvm.exec) {k : Fin 4} {x : Value} {Ls' : Array Slot} (hd : decode c.code pc = .ok (.astore_n k, 1)) (hp : pc + 1 = pc') (hv : x.isRef = true) (hl : storeLocals Ls k.val x = some Ls')
    (k : OGo p e below K T (mkF m pc' Ls' (st))) : OGo p e below K T (mkF m pc Ls (x :: st)) := by
  subst hp; exact k.via fun _ q => XS.astoreN X.here hx rfl hd rfl hv hl q
theorem g_astore (X : Stand p l e R s m args below meth c T locs cells slots) (hx : p.tables.exec = Jvm.exec) {k : Nat} {x : Value} {Ls' : Array Slot} (hd : decode c.code pc = .ok (.astore k, 2)) (hp : pc + 2 = pc') (hv : x.isRef = true) (hl : storeLocals Ls k x = some Ls')
    (k : OGo p e below K T (mkF m pc' Ls' (st))) : OGo p e below K T (mkF m pc Ls (x :: st)) := by
  subst hp; exact k.via fun _ q => XS.astore X.here hx rfl hd rfl hv hl q
theorem g_iconst (X : Stand p l e R s m args below meth c T locs cells slots) (hx : p.tables.exec = Jvm.exec) {i : Int} (v : Int32) (hd : decode c.code pc = .ok (.iconst i, 1)) (hp : pc + 1 = pc') (hv : Int32.ofInt i = v)
    (k : OGo p e below K T (mkF m pc' Ls (.int v :: st))) : OGo p e below K T (mkF m pc Ls st) := by
  subst hp; exact k.via fun _ q => XT.iconstV X.here hx rfl v hd hv q
theorem g_bipush (X : Stand p l e R s m args below meth c T locs cells slots) (hx : p.tables.exec = Jvm.exec) {i : Int} (v : Int32) (hd : decode c.code pc = .ok (.bipush i, 2)) (hp : pc + 2 = pc') (hv : (Int8.ofInt i).toInt32 = v)
    (k : OGo p e below K T (mkF m pc' Ls (.int v :: st))) : OGo p e below K T (mkF m pc Ls st) := by
  subst hp; exact k.via fun _ q => XT.bipushV X.here hx rfl v hd hv q
theorem g_sipush (X : Stand p l e R s m args below meth c T locs cells slots) (hx : p.tables.exec = Jvm.exec) {i : Int} (v : Int32) (hd : decode c.code pc = .ok (.sipush i, 3)) (hp : pc + 3 = pc') (hv : (Int16.ofInt i).toInt32 = v)
    (k : OGo p e below K T (mkF m pc' Ls (.int v :: st))) : OGo p e below K T (mkF m pc Ls st) := by
  subst hp; exact k.via fun _ q => XT.sipushV X.here hx rfl v hd hv q
theorem g_lconst (X : Stand p l e R s m args below meth c T locs cells slots) (hx : p.tables.exec = Jvm.exec) {i : Fin 2} (v : Int64) (hd : decode c.code pc = .ok (.lconst i, 1)) (hp : pc + 1 = pc') (hv : Int64.ofNat i = v)
    (k : OGo p e below K T (mkF m pc' Ls (.long v :: st))) : OGo p e below K T (mkF m pc Ls st) := by
  subst hp; exact k.via fun _ q => XT.lconstV X.here hx rfl v hd hv q
theorem g_anull (X : Stand p l e R s m args below meth c T locs cells slots) (hx : p.tables.exec = Jvm.exec)  (hd : decode c.code pc = .ok (.aconst_null, 1)) (hp : pc + 1 = pc')
    (k : OGo p e below K T (mkF m pc' Ls (.null :: st))) : OGo p e below K T (mkF m pc Ls (st)) := by
  subst hp; exact k.via fun _ q => XS.aconstNull X.here hx rfl hd  q
theorem g_ldcI (X : Stand p l e R s m args below meth c T locs cells slots) (hx : p.tables.exec = Jvm.exec) (hZ : Z.Warmed39 s.vm) (hown : s.vm.findClass own = some m.cls) {index : Nat} {v : Int32} (w : (Jvm.Cond.constant own index v).before a0 Z = true) (hd : decode c.code pc = .ok (.ldc index, 2)) (hp : pc + 2 = pc')
    (k : OGo p e below K T (mkF m pc' Ls (.int v :: st))) : OGo p e below K T (mkF m pc Ls st) := by
  subst hp; exact k.via fun _ q => X.ldcI hx hown (mvT hZ w) rfl hd q
theorem g_ldc2J (X : Stand p l e R s m args below meth c T locs cells slots) (hx : p.tables.exec = Jvm.exec) (hZ : Z.Warmed39 s.vm) (hown : s.vm.findClass own = some m.cls) {index : Nat} {v : Int64} (w : (Jvm.Cond.constantLong own index v).before a0 Z = true) (hd : decode c.code pc = .ok (.ldc2_w index, 3)) (hp : pc + 3 = pc')
    (k : OGo p e below K T (mkF m pc' Ls (.long v :: st))) : OGo p e below K T (mkF m pc Ls st) := by
  subst hp; exact k.via fun _ q => X.ldc2J hx hown (mvT hZ w) rfl hd q
theorem g_iadd (X : Stand p l e R s m args below meth c T locs cells slots) (hx : p.tables.exec = Jvm.exec) {x y z : Int32} (hd : decode c.code pc = .ok (.iadd, 1)) (hp : pc + 1 = pc') (hz : x + y = z)
    (k : OGo p e below K T (mkF m pc' Ls (.int z :: st))) : OGo p e below K T (mkF m pc Ls (.int y :: .int x :: st)) := by
  subst hp hz; exact k.via fun _ q => XS.iadd X.here hx rfl hd rfl q
theorem g_isub (X : Stand p l e R s m args below meth c T locs cells slots) (hx : p.tables.exec = Jvm.exec) {x y z : Int32} (hd : decode c.code pc = .ok (.isub, 1)) (hp : pc + 1 = pc') (hz : x - y = z)
    (k : OGo p e below K T (mkF m pc' Ls (.int z :: st))) : OGo p e below K T (mkF m pc Ls (.int y :: .int x :: st)) := by
  subst hp hz; exact k.via fun _ q => XS.isub X.here hx rfl hd rfl q
theorem g_iand (X : Stand p l e R s m args below meth c T locs cells slots) (hx : p.tables.exec = Jvm.exec) {x y z : Int32} (hd : decode c.code pc = .ok (.iand, 1)) (hp : pc + 1 = pc') (hz : x &&& y = z)
    (k : OGo p e below K T (mkF m pc' Ls (.int z :: st))) : OGo p e below K T (mkF m pc Ls (.int y :: .int x :: st)) := by
  subst hp hz; exact k.via fun _ q => XS.iand X.here hx rfl hd rfl q
theorem g_imul (X : Stand p l e R s m args below meth c T locs cells slots) (hx : p.tables.exec = Jvm.exec) {x y z : Int32} (hd : decode c.code pc = .ok (.imul, 1)) (hp : pc + 1 = pc') (hz : x * y = z)
    (k : OGo p e below K T (mkF m pc' Ls (.int z :: st))) : OGo p e below K T (mkF m pc Ls (.int y :: .int x :: st)) := by
  subst hp hz; exact k.via fun _ q => XS.imul X.here hx rfl hd rfl q
theorem g_ixor (X : Stand p l e R s m args below meth c T locs cells slots) (hx : p.tables.exec = Jvm.exec) {x y z : Int32} (hd : decode c.code pc = .ok (.ixor, 1)) (hp : pc + 1 = pc') (hz : x ^^^ y = z)
    (k : OGo p e below K T (mkF m pc' Ls (.int z :: st))) : OGo p e below K T (mkF m pc Ls (.int y :: .int x :: st)) := by
  subst hp hz; exact k.via fun _ q => XT.ixor X.here hx rfl hd rfl q
theorem g_ior (X : Stand p l e R s m args below meth c T locs cells slots) (hx : p.tables.exec = Jvm.exec) {x y z : Int32} (hd : decode c.code pc = .ok (.ior, 1)) (hp : pc + 1 = pc') (hz : x ||| y = z)
    (k : OGo p e below K T (mkF m pc' Ls (.int z :: st))) : OGo p e below K T (mkF m pc Ls (.int y :: .int x :: st)) := by
  subst hp hz; exact k.via fun _ q => XT.ior X.here hx rfl hd rfl q
theorem g_ishl (X : Stand p l e R s m args below meth c T locs cells slots) (hx : p.tables.exec = Jvm.exec) {x y z : Int32} (hd : decode c.code pc = .ok (.ishl, 1)) (hp : pc + 1 = pc') (hz : x <<< (y &&& 31) = z)
    (k : OGo p e below K T (mkF m pc' Ls (.int z :: st))) : OGo p e below K T (mkF m pc Ls (.int y :: .int x :: st)) := by
  subst hp hz; exact k.via fun _ q => XT.ishl X.here hx rfl hd rfl q
theorem g_ishr (X : Stand p l e R s m args below meth c T locs cells slots) (hx : p.tables.exec = Jvm.exec) {x y z : Int32} (hd : decode c.code pc = .ok (.ishr, 1)) (hp : pc + 1 = pc') (hz : x >>> (y &&& 31) = z)
    (k : OGo p e below K T (mkF m pc' Ls (.int z :: st))) : OGo p e below K T (mkF m pc Ls (.int y :: .int x :: st)) := by
  subst hp hz; exact k.via fun _ q => XT.ishr X.here hx rfl hd rfl q
theorem g_iushr (X : Stand p l e R s m args below meth c T locs cells slots) (hx : p.tables.exec = Jvm.exec) {x y z : Int32} (hd : decode c.code pc = .ok (.iushr, 1)) (hp : pc + 1 = pc') (hz : XT.ushr x y = z)
    (k : OGo p e below K T (mkF m pc' Ls (.int z :: st))) : OGo p e below K T (mkF m pc Ls (.int y :: .int x :: st)) := by
  subst hp hz; exact k.via fun _ q => XT.iushr X.here hx rfl hd rfl q
theorem g_ladd (X : Stand p l e R s m args below meth c T locs cells slots) (hx : p.tables.exec = Jvm.exec) {x y z : Int64} (hd : decode c.code pc = .ok (.ladd, 1)) (hp : pc + 1 = pc') (hz : x + y = z)
    (k : OGo p e below K T (mkF m pc' Ls (.long z :: st))) : OGo p e below K T (mkF m pc Ls (.long y :: .long x :: st)) := by
  subst hp hz; exact k.via fun _ q => XT.ladd X.here hx rfl hd rfl q
theorem g_lsub (X : Stand p l e R s m args below meth c T locs cells slots) (hx : p.tables.exec = Jvm.exec) {x y z : Int64} (hd : decode c.code pc = .ok (.lsub, 1)) (hp : pc + 1 = pc') (hz : x - y = z)
    (k : OGo p e below K T (mkF m pc' Ls (.long z :: st))) : OGo p e below K T (mkF m pc Ls (.long y :: .long x :: st)) := by
  subst hp hz; exact k.via fun _ q => XT.lsub X.here hx rfl hd rfl q
theorem g_lmul (X : Stand p l e R s m args below meth c T locs cells slots) (hx : p.tables.exec = Jvm.exec) {x y z : Int64} (hd : decode c.code pc = .ok (.lmul, 1)) (hp : pc + 1 = pc') (hz : x * y = z)
    (k : OGo p e below K T (mkF m pc' Ls (.long z :: st))) : OGo p e below K T (mkF m pc Ls (.long y :: .long x :: st)) := by
  subst hp hz; exact k.via fun _ q => XT.lmul X.here hx rfl hd rfl q
theorem g_land (X : Stand p l e R s m args below meth c T locs cells slots) (hx : p.tables.exec = Jvm.exec) {x y z : Int64} (hd : decode c.code pc = .ok (.land, 1)) (hp : pc + 1 = pc') (hz : x &&& y = z)
    (k : OGo p e below K T (mkF m pc' Ls (.long z :: st))) : OGo p e below K T (mkF m pc Ls (.long y :: .long x :: st)) := by
  subst hp hz; exact k.via fun _ q => XT.land X.here hx rfl hd rfl q
theorem g_lor (X : Stand p l e R s m args below meth c T locs cells slots) (hx : p.tables.exec = Jvm.exec) {x y z : Int64} (hd : decode c.code pc = .ok (.lor, 1)) (hp : pc + 1 = pc') (hz : x ||| y = z)
    (k : OGo p e below K T (mkF m pc' Ls (.long z :: st))) : OGo p e below K T (mkF m pc Ls (.long y :: .long x :: st)) := by
  subst hp hz; exact k.via fun _ q => XT.lor X.here hx rfl hd rfl q
theorem g_lxor (X : Stand p l e R s m args below meth c T locs cells slots) (hx : p.tables.exec = Jvm.exec) {x y z : Int64} (hd : decode c.code pc = .ok (.lxor, 1)) (hp : pc + 1 = pc') (hz : x ^^^ y = z)
    (k : OGo p e below K T (mkF m pc' Ls (.long z :: st))) : OGo p e below K T (mkF m pc Ls (.long y :: .long x :: st)) := by
  subst hp hz; exact k.via fun _ q => XT.lxor X.here hx rfl hd rfl q
theorem g_lshl (X : Stand p l e R s m args below meth c T locs cells slots) (hx : p.tables.exec = Jvm.exec) {x : Int64} {y : Int32} (hd : decode c.code pc = .ok (.lshl, 1)) (hp : pc + 1 = pc')
    (k : OGo p e below K T (mkF m pc' Ls (.long (x <<< (y.toInt64 &&& 63)) :: st))) : OGo p e below K T (mkF m pc Ls (.int y :: .long x :: st)) := by
  subst hp; exact k.via fun _ q => XT.lshl X.here hx rfl hd rfl q
theorem g_lshr (X : Stand p l e R s m args below meth c T locs cells slots) (hx : p.tables.exec = Jvm.exec) {x : Int64} {y : Int32} (hd : decode c.code pc = .ok (.lshr, 1)) (hp : pc + 1 = pc')
    (k : OGo p e below K T (mkF m pc' Ls (.long (x >>> (y.toInt64 &&& 63)) :: st))) : OGo p e below K T (mkF m pc Ls (.int y :: .long x :: st)) := by
  subst hp; exact k.via fun _ q => XT.lshr X.here hx rfl hd rfl q
theorem g_lushr (X : Stand p l e R s m args below meth c T locs cells slots) (hx : p.tables.exec = Jvm.exec) {x : Int64} {y : Int32} (hd : decode c.code pc = .ok (.lushr, 1)) (hp : pc + 1 = pc')
    (k : OGo p e below K T (mkF m pc' Ls (.long (XT.ushrL x y) :: st))) : OGo p e below K T (mkF m pc Ls (.int y :: .long x :: st)) := by
  subst hp; exact k.via fun _ q => XT.lushr X.here hx rfl hd rfl q
theorem g_idiv (X : Stand p l e R s m args below meth c T locs cells slots) (hx : p.tables.exec = Jvm.exec) {x y : Int32} (hd : decode c.code pc = .ok (.idiv, 1)) (hp : pc + 1 = pc') (hy : y ≠ 0)
    (k : OGo p e below K T (mkF m pc' Ls (.int (x / y) :: st))) : OGo p e below K T (mkF m pc Ls (.int y :: .int x :: st)) := by
  subst hp; exact k.via fun _ q => XS.idiv X.here hx rfl hd rfl hy q
theorem g_irem (X : Stand p l e R s m args below meth c T locs cells slots) (hx : p.tables.exec = Jvm.exec) {x y : Int32} (hd : decode c.code pc = .ok (.irem, 1)) (hp : pc + 1 = pc') (hy : y ≠ 0)
    (k : OGo p e below K T (mkF m pc' Ls (.int (x % y) :: st))) : OGo p e below K T (mkF m pc Ls (.int y :: .int x :: st)) := by
  subst hp; exact k.via fun _ q => iremM X hx rfl hd rfl hy q
theorem g_ldiv (X : Stand p l e R s m args below meth c T locs cells slots) (hx : p.tables.exec = Jvm.exec) {x y : Int64} (hd : decode c.code pc = .ok (.ldiv, 1)) (hp : pc + 1 = pc') (hy : y ≠ 0)
    (k : OGo p e below K T (mkF m pc' Ls (.long (x / y) :: st))) : OGo p e below K T (mkF m pc Ls (.long y :: .long x :: st)) := by
  subst hp; exact k.via fun _ q => XT.ldiv X.here hx rfl hd rfl hy q
theorem g_lrem (X : Stand p l e R s m args below meth c T locs cells slots) (hx : p.tables.exec = Jvm.exec) {x y : Int64} (hd : decode c.code pc = .ok (.lrem, 1)) (hp : pc + 1 = pc') (hy : y ≠ 0)
    (k : OGo p e below K T (mkF m pc' Ls (.long (x % y) :: st))) : OGo p e below K T (mkF m pc Ls (.long y :: .long x :: st)) := by
  subst hp; exact k.via fun _ q => XT.lrem X.here hx rfl hd rfl hy (by rw [lrem_mod]; exact q)
theorem g_ineg (X : Stand p l e R s m args below meth c T locs cells slots) (hx : p.tables.exec = Jvm.exec) {x : Int32} (hd : decode c.code pc = .ok (.ineg, 1)) (hp : pc + 1 = pc')
    (k : OGo p e below K T (mkF m pc' Ls (.int (-x) :: st))) : OGo p e below K T (mkF m pc Ls (.int x :: st)) := by
  subst hp; exact k.via fun _ q => XS.ineg X.here hx rfl hd rfl q
theorem g_lneg (X : Stand p l e R s m args below meth c T locs cells slots) (hx : p.tables.exec = Jvm.exec) {x : Int64} (hd : decode c.code pc = .ok (.lneg, 1)) (hp : pc + 1 = pc')
    (k : OGo p e below K T (mkF m pc' Ls (.long (-x) :: st))) : OGo p e below K T (mkF m pc Ls (.long x :: st)) := by
  subst hp; exact k.via fun _ q => XT.lneg X.here hx rfl hd rfl q
theorem g_i2l (X : Stand p l e R s m args below meth c T locs cells slots) (hx : p.tables.exec = Jvm.exec) {x : Int32} (hd : decode c.code pc = .ok (.i2l, 1)) (hp : pc + 1 = pc')
    (k : OGo p e below K T (mkF m pc' Ls (.long x.toInt64 :: st))) : OGo p e below K T (mkF m pc Ls (.int x :: st)) := by
  subst hp; exact k.via fun _ q => XT.i2l X.here hx rfl hd rfl q
theorem g_l2i (X : Stand p l e R s m args below meth c T locs cells slots) (hx : p.tables.exec = Jvm.exec) {x : Int64} (hd : decode c.code pc = .ok (.l2i, 1)) (hp : pc + 1 = pc')
    (k : OGo p e below K T (mkF m pc' Ls (.int x.toInt32 :: st))) : OGo p e below K T (mkF m pc Ls (.long x :: st)) := by
  subst hp; exact k.via fun _ q => XT.l2i X.here hx rfl hd rfl q
theorem g_i2b (X : Stand p l e R s m args below meth c T locs cells slots) (hx : p.tables.exec = Jvm.exec) {x : Int32} (hd : decode c.code pc = .ok (.i2b, 1)) (hp : pc + 1 = pc')
    (k : OGo p e below K T (mkF m pc' Ls (.int x.toInt8.toInt32 :: st))) : OGo p e below K T (mkF m pc Ls (.int x :: st)) := by
  subst hp; exact k.via fun _ q => XT.i2b X.here hx rfl hd rfl q
theorem g_i2c (X : Stand p l e R s m args below meth c T locs cells slots) (hx : p.tables.exec = Jvm.exec) {x : Int32} (hd : decode c.code pc = .ok (.i2c, 1)) (hp : pc + 1 = pc')
    (k : OGo p e below K T (mkF m pc' Ls (.int x.toUInt32.toUInt16.toUInt32.toInt32 :: st))) : OGo p e below K T (mkF m pc Ls (.int x :: st)) := by
  subst hp; exact k.via fun _ q => XT.i2c X.here hx rfl hd rfl q
theorem g_i2s (X : Stand p l e R s m args below meth c T locs cells slots) (hx : p.tables.exec = Jvm.exec) {x : Int32} (hd : decode c.code pc = .ok (.i2s, 1)) (hp : pc + 1 = pc')
    (k : OGo p e below K T (mkF m pc' Ls (.int x.toInt16.toInt32 :: st))) : OGo p e below K T (mkF m pc Ls (.int x :: st)) := by
  subst hp; exact k.via fun _ q => XT.i2s X.here hx rfl hd rfl q
theorem g_lcmp (X : Stand p l e R s m args below meth c T locs cells slots) (hx : p.tables.exec = Jvm.exec) {x y : Int64} (hd : decode c.code pc = .ok (.lcmp, 1)) (hp : pc + 1 = pc')
    (k : OGo p e below K T (mkF m pc' Ls (.int (XT.cmpL x y) :: st))) : OGo p e below K T (mkF m pc Ls (.long y :: .long x :: st)) := by
  subst hp; exact k.via fun _ q => XT.lcmp X.here hx rfl hd rfl q
theorem g_dup (X : Stand p l e R s m args below meth c T locs cells slots) (hx : p.tables.exec = Jvm.exec) {x : Value} (hd : decode c.code pc = .ok (.dup, 1)) (hp : pc + 1 = pc') (hc : x.category = 1)
    (k : OGo p e below K T (mkF m pc' Ls (x :: x :: st))) : OGo p e below K T (mkF m pc Ls (x :: st)) := by
  subst hp; exact k.via fun _ q => XS.dup X.here hx rfl hd rfl hc q
theorem g_pop (X : Stand p l e R s m args below meth c T locs cells slots) (hx : p.tables.exec = Jvm.exec) {x : Value} (hd : decode c.code pc = .ok (.pop, 1)) (hp : pc + 1 = pc') (hc : x.category = 1)
    (k : OGo p e below K T (mkF m pc' Ls (st))) : OGo p e below K T (mkF m pc Ls (x :: st)) := by
  subst hp; exact k.via fun _ q => XT.pop X.here hx rfl hd rfl hc q
theorem g_dupx1 (X : Stand p l e R s m args below meth c T locs cells slots) (hx : p.tables.exec = Jvm.exec) {x y : Value} (hd : decode c.code pc = .ok (.dup_x1, 1)) (hp : pc + 1 = pc') (hc : x.category = 1) (hc' : y.category = 1)
    (k : OGo p e below K T (mkF m pc' Ls (x :: y :: x :: st))) : OGo p e below K T (mkF m pc Ls (x :: y :: st)) := by
  subst hp; exact k.via fun _ q => XT.dupX1 X.here hx rfl hd rfl hc hc' q
theorem g_dup2 (X : Stand p l e R s m args below meth c T locs cells slots) (hx : p.tables.exec = Jvm.exec) {x y : Value} (hd : decode c.code pc = .ok (.dup2, 1)) (hp : pc + 1 = pc') (hc : x.category = 1) (hc' : y.category = 1)
    (k : OGo p e below K T (mkF m pc' Ls (x :: y :: x :: y :: st))) : OGo p e below K T (mkF m pc Ls (x :: y :: st)) := by
  subst hp; exact k.via fun _ q => XT.dup2 X.here hx rfl hd rfl hc hc' q
theorem g_dup2L (X : Stand p l e R s m args below meth c T locs cells slots) (hx : p.tables.exec = Jvm.exec) {x : Int64} (hd : decode c.code pc = .ok (.dup2, 1)) (hp : pc + 1 = pc')
    (k : OGo p e below K T (mkF m pc' Ls (.long x :: .long x :: st))) : OGo p e below K T (mkF m pc Ls (.long x :: st)) := by
  subst hp; exact k.via fun _ q => XT.dup2L X.here hx rfl hd rfl q
theorem g_iinc (X : Stand p l e R s m args below meth c T locs cells slots) (hx : p.tables.exec = Jvm.exec) {k : Nat} {cst : Int} {x z : Int32} {Ls' : Array Slot} (v : Int32) (hd : decode c.code pc = .ok (.iinc k cst, 3)) (hp : pc + 3 = pc') (hv : Int32.ofInt cst = v) (hl : Ls[k]? = some (.val (.int x))) (hs : x + v = z) (hl' : storeLocals Ls k (.int z) = some Ls')
    (k : OGo p e below K T (mkF m pc' Ls' st)) : OGo p e below K T (mkF m pc Ls st) := by
  subst hp hs; exact k.via fun _ q => XT.iincV X.here hx rfl v hd hv hl hl' q
theorem g_ifY (X : Stand p l e R s m args below meth c T locs cells slots) (hx : p.tables.exec = Jvm.exec) {cd : ClassFile.Cond} {x : Int32} {o : Int} (hd : decode c.code pc = .ok (.ifCond cd o, 3)) (hc : ifCond.holds cd x = true) (ho : 0 ≤ (pc : Int) + o) (hp : ((pc : Int) + o).toNat = pc')
    (k : OGo p e below K T (mkF m pc' Ls st)) : OGo p e below K T (mkF m pc Ls (.int x :: st)) := k.via fun _ q => XS.ifYes X.here hx rfl rfl hd rfl hc ho hp q
theorem g_ifN (X : Stand p l e R s m args below meth c T locs cells slots) (hx : p.tables.exec = Jvm.exec) {cd : ClassFile.Cond} {x : Int32} {o : Int} (hd : decode c.code pc = .ok (.ifCond cd o, 3)) (hc : ifCond.holds cd x = false) (hp : pc + 3 = pc')
    (k : OGo p e below K T (mkF m pc' Ls st)) : OGo p e below K T (mkF m pc Ls (.int x :: st)) := by
  subst hp; exact k.via fun _ q => XS.ifNo X.here hx rfl hd rfl hc q
theorem g_icmpY (X : Stand p l e R s m args below meth c T locs cells slots) (hx : p.tables.exec = Jvm.exec) {cd : ClassFile.Cond} {x y : Int32} {o : Int} (hd : decode c.code pc = .ok (.if_icmp cd o, 3)) (hc : if_icmp.holds cd x y = true) (ho : 0 ≤ (pc : Int) + o) (hp : ((pc : Int) + o).toNat = pc')
    (k : OGo p e below K T (mkF m pc' Ls st)) : OGo p e below K T (mkF m pc Ls (.int y :: .int x :: st)) := k.via fun _ q => XS.icmpYes X.here hx rfl rfl hd rfl hc ho hp q
theorem g_icmpN (X : Stand p l e R s m args below meth c T locs cells slots) (hx : p.tables.exec = Jvm.exec) {cd : ClassFile.Cond} {x y : Int32} {o : Int} (hd : decode c.code pc = .ok (.if_icmp cd o, 3)) (hc : if_icmp.holds cd x y = false) (hp : pc + 3 = pc')
    (k : OGo p e below K T (mkF m pc' Ls st)) : OGo p e below K T (mkF m pc Ls (.int y :: .int x :: st)) := by
  subst hp; exact k.via fun _ q => XS.icmpNo X.here hx rfl hd rfl hc q
theorem g_acmpY (X : Stand p l e R s m args below meth c T locs cells slots) (hx : p.tables.exec = Jvm.exec) {cd : ClassFile.ACond} {x y : Value} {o : Int} (hd : decode c.code pc = .ok (.if_acmp cd o, 3)) (hx1 : x.isRef = true) (hy1 : y.isRef = true) (hc : XT.acmp cd x y = true) (ho : 0 ≤ (pc : Int) + o) (hp : ((pc : Int) + o).toNat = pc')
    (k : OGo p e below K T (mkF m pc' Ls st)) : OGo p e below K T (mkF m pc Ls (y :: x :: st)) := k.via fun _ q => XT.acmpYes X.here hx rfl rfl hd rfl hx1 hy1 hc ho hp q
theorem g_acmpN (X : Stand p l e R s m args below meth c T locs cells slots) (hx : p.tables.exec = Jvm.exec) {cd : ClassFile.ACond} {x y : Value} {o : Int} (hd : decode c.code pc = .ok (.if_acmp cd o, 3)) (hx1 : x.isRef = true) (hy1 : y.isRef = true) (hc : XT.acmp cd x y = false) (hp : pc + 3 = pc')
    (k : OGo p e below K T (mkF m pc' Ls st)) : OGo p e below K T (mkF m pc Ls (y :: x :: st)) := by
  subst hp; exact k.via fun _ q => XT.acmpNo X.here hx rfl hd rfl hx1 hy1 hc q
theorem g_nullY (X : Stand p l e R s m args below meth c T locs cells slots) (hx : p.tables.exec = Jvm.exec) {o : Int} (hd : decode c.code pc = .ok (.ifnull o, 3)) (ho : 0 ≤ (pc : Int) + o) (hp : ((pc : Int) + o).toNat = pc')
    (k : OGo p e below K T (mkF m pc' Ls st)) : OGo p e below K T (mkF m pc Ls (.null :: st)) := k.via fun _ q => XS.ifnullYes X.here hx rfl rfl hd rfl ho hp q
theorem g_nullN (X : Stand p l e R s m args below meth c T locs cells slots) (hx : p.tables.exec = Jvm.exec) {o : Int} {a : Addr} (hd : decode c.code pc = .ok (.ifnull o, 3)) (hp : pc + 3 = pc')
    (k : OGo p e below K T (mkF m pc' Ls st)) : OGo p e below K T (mkF m pc Ls (.ref a :: st)) := by
  subst hp; exact k.via fun _ q => XS.ifnullNo X.here hx rfl hd rfl q
theorem g_nonnullY (X : Stand p l e R s m args below meth c T locs cells slots) (hx : p.tables.exec = Jvm.exec) {o : Int} {a : Addr} (hd : decode c.code pc = .ok (.ifnonnull o, 3)) (ho : 0 ≤ (pc : Int) + o) (hp : ((pc : Int) + o).toNat = pc')
    (k : OGo p e below K T (mkF m pc' Ls st)) : OGo p e below K T (mkF m pc Ls (.ref a :: st)) := k.via fun _ q => XT.ifnonnullYes X.here hx rfl rfl hd rfl ho hp q
theorem g_nonnullN (X : Stand p l e R s m args below meth c T locs cells slots) (hx : p.tables.exec = Jvm.exec) {o : Int} (hd : decode c.code pc = .ok (.ifnonnull o, 3)) (hp : pc + 3 = pc')
    (k : OGo p e below K T (mkF m pc' Ls st)) : OGo p e below K T (mkF m pc Ls (.null :: st)) := by
  subst hp; exact k.via fun _ q => XT.ifnonnullNo X.here hx rfl hd rfl q
theorem g_goto (X : Stand p l e R s m args below meth c T locs cells slots) (hx : p.tables.exec = Jvm.exec) {o : Int} (hd : decode c.code pc = .ok (.goto o, 3)) (ho : 0 ≤ (pc : Int) + o) (hp : ((pc : Int) + o).toNat = pc')
    (k : OGo p e below K T (mkF m pc' Ls st)) : OGo p e below K T (mkF m pc Ls st) := k.via fun _ q => XS.goto X.here hx rfl rfl hd ho hp q
theorem g_len (X : Stand p l e R s m args below meth c T locs cells slots) (hx : p.tables.exec = Jvm.exec) (hZ : Z.Warmed39 s.vm) (eT : T.heap = h) {a : Addr} {kk : ClassId} {ty : FieldType} {vs : List Value} (F : OAry Z h a kk ty vs) {z : Int32} (hz : vs.length.toInt32 = z) (hd : decode c.code pc = .ok (.arraylength, 1)) (hp : pc + 1 = pc')
    (k : OGo p e below K T (mkF m pc' Ls (.int z :: st))) : OGo p e below K T (mkF m pc Ls (.ref a :: st)) := by
  subst hp hz
  obtain ⟨cl, A, r1, rfl, -⟩ := F
  refine k.via fun t q => X.arraylength hx (cell := cl) (a := a) (by rw [eT]; exact A.1) (State.isArrayOf_alike hZ.alike A.2.1) (g := mkF m pc Ls (.ref a :: st)) rfl (rest := st) rfl hd t ?_
  simpa using q
theorem g_iaload (X : Stand p l e R s m args below meth c T locs cells slots) (hx : p.tables.exec = Jvm.exec) (hZ : Z.Warmed39 s.vm) (eT : T.heap = h) {a : Addr} {kk : ClassId} {vs : List Value} (F : OAry Z h a kk .int vs) {j : Int32} {v : Value} (hj : ¬ j < 0) (hv : vs[j.toNatClampNeg]? = some v) (hd : decode c.code pc = .ok (.iaload, 1)) (hp : pc + 1 = pc')
    (k : OGo p e below K T (mkF m pc' Ls (v :: st))) : OGo p e below K T (mkF m pc Ls (.int j :: .ref a :: st)) := by
  subst hp
  obtain ⟨cl, A, r1, r2, -⟩ := F
  exact k.via fun t q => X.iaload hx (cell := cl) (a := a) (j := j) (v := v) (by rw [eT]; exact A.1) (State.isArrayOf_alike hZ.alike A.2.1) A.2.2 (aryIn r2 hj hv).1 (aryIn r2 hj hv).2 (g := mkF m pc Ls (.int j :: .ref a :: st)) rfl (rest := st) rfl hd t q
theorem g_laload (X : Stand p l e R s m args below meth c T locs cells slots) (hx : p.tables.exec = Jvm.exec) (hZ : Z.Warmed39 s.vm) (eT : T.heap = h) {a : Addr} {kk : ClassId} {vs : List Value} (F : OAry Z h a kk .long vs) {j : Int32} {v : Value} (hj : ¬ j < 0) (hv : vs[j.toNatClampNeg]? = some v) (hd : decode c.code pc = .ok (.laload, 1)) (hp : pc + 1 = pc')
    (k : OGo p e below K T (mkF m pc' Ls (v :: st))) : OGo p e below K T (mkF m pc Ls (.int j :: .ref a :: st)) := by
  subst hp
  obtain ⟨cl, A, r1, r2, -⟩ := F
  exact k.via fun t q => X.laload hx (cell := cl) (a := a) (j := j) (v := v) (by rw [eT]; exact A.1) (State.isArrayOf_alike hZ.alike A.2.1) A.2.2 (aryIn r2 hj hv).1 (aryIn r2 hj hv).2 (g := mkF m pc Ls (.int j :: .ref a :: st)) rfl (rest := st) rfl hd t q
theorem g_caload (X : Stand p l e R s m args below meth c T locs cells slots) (hx : p.tables.exec = Jvm.exec) (hZ : Z.Warmed39 s.vm) (eT : T.heap = h) {a : Addr} {kk : ClassId} {vs : List Value} (F : OAry Z h a kk .char vs) {j : Int32} {v : Value} (hj : ¬ j < 0) (hv : vs[j.toNatClampNeg]? = some v) (hd : decode c.code pc = .ok (.caload, 1)) (hp : pc + 1 = pc')
    (k : OGo p e below K T (mkF m pc' Ls (v :: st))) : OGo p e below K T (mkF m pc Ls (.int j :: .ref a :: st)) := by
  subst hp
  obtain ⟨cl, A, r1, r2, -⟩ := F
  exact k.via fun t q => X.caload hx (cell := cl) (a := a) (j := j) (v := v) (by rw [eT]; exact A.1) (State.isArrayOf_alike hZ.alike A.2.1) A.2.2 (aryIn r2 hj hv).1 (aryIn r2 hj hv).2 (g := mkF m pc Ls (.int j :: .ref a :: st)) rfl (rest := st) rfl hd t q
theorem g_baload (X : Stand p l e R s m args below meth c T locs cells slots) (hx : p.tables.exec = Jvm.exec) (hZ : Z.Warmed39 s.vm) (eT : T.heap = h) {a : Addr} {kk : ClassId} {vs : List Value} (F : OAry Z h a kk .byte vs) {j : Int32} {v : Value} (hj : ¬ j < 0) (hv : vs[j.toNatClampNeg]? = some v) (hd : decode c.code pc = .ok (.baload, 1)) (hp : pc + 1 = pc')
    (k : OGo p e below K T (mkF m pc' Ls (v :: st))) : OGo p e below K T (mkF m pc Ls (.int j :: .ref a :: st)) := by
  subst hp
  obtain ⟨cl, A, r1, r2, -⟩ := F
  exact k.via fun t q => X.baloadBytes hx (cell := cl) (a := a) (j := j) (v := v) (by rw [eT]; exact A.1) (State.isArrayOf_alike hZ.alike A.2.1) A.2.2 (aryIn r2 hj hv).1 (aryIn r2 hj hv).2 (g := mkF m pc Ls (.int j :: .ref a :: st)) rfl (rest := st) rfl hd t q
theorem g_zaload (X : Stand p l e R s m args below meth c T locs cells slots) (hx : p.tables.exec = Jvm.exec) (hZ : Z.Warmed39 s.vm) (eT : T.heap = h) {a : Addr} {kk : ClassId} {vs : List Value} (F : OAry Z h a kk .boolean vs) {j : Int32} {v : Value} (hj : ¬ j < 0) (hv : vs[j.toNatClampNeg]? = some v) (hd : decode c.code pc = .ok (.baload, 1)) (hp : pc + 1 = pc')
    (k : OGo p e below K T (mkF m pc' Ls (v :: st))) : OGo p e below K T (mkF m pc Ls (.int j :: .ref a :: st)) := by
  subst hp
  obtain ⟨cl, A, r1, r2, -⟩ := F
  exact k.via fun t q => X.baloadBooleans hx (cell := cl) (a := a) (j := j) (v := v) (by rw [eT]; exact A.1) (State.isArrayOf_alike hZ.alike A.2.1) A.2.2 (aryIn r2 hj hv).1 (aryIn r2 hj hv).2 (g := mkF m pc Ls (.int j :: .ref a :: st)) rfl (rest := st) rfl hd t q
theorem g_saload (X : Stand p l e R s m args below meth c T locs cells slots) (hx : p.tables.exec = Jvm.exec) (hZ : Z.Warmed39 s.vm) (eT : T.heap = h) {a : Addr} {kk : ClassId} {vs : List Value} (F : OAry Z h a kk .short vs) {j : Int32} {v : Value} (hj : ¬ j < 0) (hv : vs[j.toNatClampNeg]? = some v) (hd : decode c.code pc = .ok (.saload, 1)) (hp : pc + 1 = pc')
    (k : OGo p e below K T (mkF m pc' Ls (v :: st))) : OGo p e below K T (mkF m pc Ls (.int j :: .ref a :: st)) := by
  subst hp
  obtain ⟨cl, A, r1, r2, -⟩ := F
  exact k.via fun t q => X.saload hx (cell := cl) (a := a) (j := j) (v := v) (by rw [eT]; exact A.1) (State.isArrayOf_alike hZ.alike A.2.1) A.2.2 (aryIn r2 hj hv).1 (aryIn r2 hj hv).2 (g := mkF m pc Ls (.int j :: .ref a :: st)) rfl (rest := st) rfl hd t q
theorem g_aaload (X : Stand p l e R s m args below meth c T locs cells slots) (hx : p.tables.exec = Jvm.exec) (hZ : Z.Warmed39 s.vm) (eT : T.heap = h) {a : Addr} {kk : ClassId} {ty : FieldType} {vs : List Value} (F : OAry Z h a kk ty vs) (hty : ty.isReference = true) {j : Int32} {v : Value} (hj : ¬ j < 0) (hv : vs[j.toNatClampNeg]? = some v) (hd : decode c.code pc = .ok (.aaload, 1)) (hp : pc + 1 = pc')
    (k : OGo p e below K T (mkF m pc' Ls (v :: st))) : OGo p e below K T (mkF m pc Ls (.int j :: .ref a :: st)) := by
  subst hp
  obtain ⟨cl, A, r1, r2, -⟩ := F
  exact k.via fun t q => X.aaload hx (cell := cl) (a := a) (j := j) (v := v) (by rw [eT]; exact A.1) (State.isArrayOf_alike hZ.alike A.2.1) hty A.2.2 (aryIn r2 hj hv).1 (aryIn r2 hj hv).2 (g := mkF m pc Ls (.int j :: .ref a :: st)) rfl (rest := st) rfl hd t q
theorem g_iastore (X : Stand p l e R s m args below meth c T locs cells slots) (hx : p.tables.exec = Jvm.exec) (hZ : Z.Warmed39 s.vm) (eT : T.heap = h) {a : Addr} {kk : ClassId} {vs vs' : List Value} (F : OAry Z h a kk .int vs) {j : Int32} {u : Value} {x : Int32} (hj : ¬ j < 0) (hv : vs[j.toNatClampNeg]? = some u) (hvs : vs.set j.toNatClampNeg (.int x) = vs') (P : OPr h0 ws h locs) (q : a ∈ ws ∨ h0.size ≤ a) (hd : decode c.code pc = .ok (.iastore, 1)) (hp : pc + 1 = pc')
    (k : ∀ T' h', Stand p l e R s m args below meth c T' (locs ++ [⟨a, j.toNatClampNeg⟩]) cells slots → T'.heap = h' → Wr h h' a j.toNatClampNeg (.int x) → OPr h0 ws h' (locs ++ [⟨a, j.toNatClampNeg⟩]) → OAry Z h' a kk .int vs' → OGo p e below K T' (mkF m pc' Ls st)) : OGo p e below K T (mkF m pc Ls (.int x :: .int j :: .ref a :: st)) := by
  subst hp
  obtain ⟨cl, A, r1, r2, r3⟩ := F
  obtain ⟨T', h', X', e', W', r⟩ := stI X hx hZ eT A (aryIn r2 hj hv).1 (g := mkF m pc Ls (.int x :: .int j :: .ref a :: st)) rfl rfl hd
  exact (k T' h' X' e' W' (P.wr W' q) (arySet ⟨cl, A, r1, r2, r3⟩ W' rfl hvs)).via r
theorem g_lastore (X : Stand p l e R s m args below meth c T locs cells slots) (hx : p.tables.exec = Jvm.exec) (hZ : Z.Warmed39 s.vm) (eT : T.heap = h) {a : Addr} {kk : ClassId} {vs vs' : List Value} (F : OAry Z h a kk .long vs) {j : Int32} {u : Value} {x : Int64} (hj : ¬ j < 0) (hv : vs[j.toNatClampNeg]? = some u) (hvs : vs.set j.toNatClampNeg (.long x) = vs') (P : OPr h0 ws h locs) (q : a ∈ ws ∨ h0.size ≤ a) (hd : decode c.code pc = .ok (.lastore, 1)) (hp : pc + 1 = pc')
    (k : ∀ T' h', Stand p l e R s m args below meth c T' (locs ++ [⟨a, j.toNatClampNeg⟩]) cells slots → T'.heap = h' → Wr h h' a j.toNatClampNeg (.long x) → OPr h0 ws h' (locs ++ [⟨a, j.toNatClampNeg⟩]) → OAry Z h' a kk .long vs' → OGo p e below K T' (mkF m pc' Ls st)) : OGo p e below K T (mkF m pc Ls (.long x :: .int j :: .ref a :: st)) := by
  subst hp
  obtain ⟨cl, A, r1, r2, r3⟩ := F
  obtain ⟨T', h', X', e', W', r⟩ := stJ X hx hZ eT A (aryIn r2 hj hv).1 (g := mkF m pc Ls (.long x :: .int j :: .ref a :: st)) rfl rfl hd
  exact (k T' h' X' e' W' (P.wr W' q) (arySet ⟨cl, A, r1, r2, r3⟩ W' rfl hvs)).via r
theorem g_aastore (X : Stand p l e R s m args below meth c T locs cells slots) (hx : p.tables.exec = Jvm.exec) (hZ : Z.Warmed39 s.vm) (eT : T.heap = h) {a : Addr} {kk : ClassId} {ty : FieldType} {vs vs' : List Value} (F : OAry Z h a kk ty vs) (hty : ty.isReference = true) {j : Int32} {u x : Value} (hj : ¬ j < 0) (hv : vs[j.toNatClampNeg]? = some u) (hvs : vs.set j.toNatClampNeg x = vs') (hf : fits ty x = true) (S : Sto Z h a x) (P : OPr h0 ws h locs) (q : a ∈ ws ∨ h0.size ≤ a) (hd : decode c.code pc = .ok (.aastore, 1)) (hp : pc + 1 = pc')
    (k : ∀ T' h', Stand p l e R s m args below meth c T' (locs ++ [⟨a, j.toNatClampNeg⟩]) cells slots → T'.heap = h' → Wr h h' a j.toNatClampNeg x → OPr h0 ws h' (locs ++ [⟨a, j.toNatClampNeg⟩]) → OAry Z h' a kk ty vs' → OGo p e below K T' (mkF m pc' Ls st)) : OGo p e below K T (mkF m pc Ls (x :: .int j :: .ref a :: st)) := by
  subst hp
  obtain ⟨cl, A, r1, r2, r3⟩ := F
  obtain ⟨T', h', X', e', W', r⟩ := stR X hx hZ eT A (aryIn r2 hj hv).1 hty S (g := mkF m pc Ls (x :: .int j :: .ref a :: st)) rfl rfl hd
  exact (k T' h' X' e' W' (P.wr W' q) (arySet ⟨cl, A, r1, r2, r3⟩ W' hf hvs)).via r
theorem fit0 (ty : FieldType) : fits ty (defaultValue ty) = true := by cases ty <;> rfl
theorem stoOf {a y : Addr} {kk : ClassId} {ty : FieldType} {vs : List Value} {C : String} (F : OAry Z h a kk ty vs) (O : Ovr Z kk C) (I : Ins Z h y C true) : Sto Z h a (.ref y) := by
  obtain ⟨cl, A, r1, -⟩ := F; exact Sto.ofV A r1 O I
theorem g_newarray (X : Stand p l e R s m args below meth c T locs cells slots) (hx : p.tables.exec = Jvm.exec) (hZ : Z.Warmed39 s.vm) {aty : ArrayType} {ad : String} (had : "[" ++ (newarray.typeOf aty).toString = ad) (w : (Jvm.Cond.arrayClass (newarray.typeOf aty)).before a0 Z = true) (eT : T.heap = h) {n : Int32} {vs : List Value} (hn : ¬ n < 0) (hvs : List.replicate n.toNatClampNeg (defaultValue (newarray.typeOf aty)) = vs) {cap : Nat} (hcap : n.toNatClampNeg ≤ cap) (hb : cap * 8 ≤ 536870912) (P : OPr h0 ws h locs)  (hd : decode c.code pc = .ok (.newarray aty, 2)) (hp : pc + 2 = pc') (hc : cells + 1 ≤ R.cells) (hl : slots + cap ≤ R.slots)
    (k : ∀ T' h' a kk, a = h.size → h0.size ≤ a → Stand p l e R s m args below meth c T' locs (cells + 1) (slots + cap) → T'.heap = h' → Ext h h' → OPr h0 ws h' locs → OAry Z h' a kk (newarray.typeOf aty) vs → Exa Z h' a ad → OGo p e below K T' (mkF m pc' Ls (.ref a :: st))) : OGo p e below K T (mkF m pc Ls (.int n :: st)) := by
  subst hp hvs had
  have hcb : componentBytes (newarray.typeOf aty) ≤ 8 := by cases aty <;> decide
  obtain ⟨cA, kA, comp, h1, h2, h3, X', r⟩ := X.newarrayPrim hx (mvA hZ w) (g := mkF m pc Ls (.int n :: st)) rfl hd rfl hn (Nat.le_trans (Nat.mul_le_mul hcap hcb) hb) hc (by omega)
  subst eT
  rw [hZ.alike.findClass] at h1
  obtain ⟨kZ, z1, -⟩ := Vm.findClass_spec h1
  obtain ⟨k', z2, z3⟩ := hZ.alike.2.2 _ _ z1
  cases h2.symm.trans z2
  have kk : kZ.kind = .array comp (newarray.typeOf aty) := by rw [← h3, z3]
  have hN : (T.heap.push (newA cA (newarray.typeOf aty) n))[T.heap.size]? = some (newA cA (newarray.typeOf aty) n) := by simp
  have A' : Arr Z (T.heap.push (newA cA (newarray.typeOf aty) n)) T.heap.size (newA cA (newarray.typeOf aty) n) (newarray.typeOf aty) := ⟨hN, ⟨by simp [newA], kZ, z1, comp, kk⟩, by simp [newA]⟩
  have E' : Ext T.heap (T.heap.push (newA cA (newarray.typeOf aty) n)) := ext_of fun a q => Array.getElem?_push_lt q |>.trans (Array.getElem?_eq_getElem q).symm
  refine (k _ _ T.heap.size cA rfl P.1.1 (X'.more (Nat.le_refl _) (by omega)) rfl E' (P.ext E') ⟨_, A', rfl, by simp [newA], by have := (back32 hn).2; simpa using this, fun v hv => ?_⟩ (exa_arr A' h1 rfl)).via r
  rw [(List.mem_replicate.mp hv).2]; exact fit0 _
theorem g_anewarray (X : Stand p l e R s m args below meth c T locs cells slots) (hx : p.tables.exec = Jvm.exec) (hZ : Z.Warmed39 s.vm) (hown : s.vm.findClass own = some m.cls) {C : String} {index : Nat} (w1 : (Jvm.Cond.classLink own index C).before a0 Z = true) (w2 : (Jvm.Cond.arrayOver (.object C)).before a0 Z = true) {ad : String} (had : "[" ++ (FieldType.object C).toString = ad) (eT : T.heap = h) {n : Int32} {vs : List Value} (hn : ¬ n < 0) (hvs : List.replicate n.toNatClampNeg Value.null = vs) {cap : Nat} (hcap : n.toNatClampNeg ≤ cap) (hb : cap * 8 ≤ 536870912) (P : OPr h0 ws h locs) (hd : decode c.code pc = .ok (.anewarray index, 3)) (hp : pc + 3 = pc') (hc : cells + 1 ≤ R.cells) (hl : slots + cap ≤ R.slots)
    (k : ∀ T' h' a kk, a = h.size → h0.size ≤ a → Stand p l e R s m args below meth c T' locs (cells + 1) (slots + cap) → T'.heap = h' → Ext h h' → OPr h0 ws h' locs → OAry Z h' a kk (.object C) vs → Ovr Z kk C → Exa Z h' a ad → OGo p e below K T' (mkF m pc' Ls (.ref a :: st))) : OGo p e below K T (mkF m pc Ls (.int n :: st)) := by
  subst hp hvs
  obtain ⟨T', h', cA, X', e', E', A', B', O', r⟩ := newRE X hx hZ hown w1 w2 eT (g := mkF m pc Ls (.int n :: st)) rfl hd rfl hn hcap hb hc hl had
  refine (k T' h' h.size cA rfl P.1.1 X' e' E' (P.ext E') ⟨_, A', rfl, by simp [newA, defaultValue], by have := (back32 hn).2; simpa using this, fun v hv => ?_⟩ O' B').via r
  rw [(List.mem_replicate.mp hv).2]; rfl
theorem g_anewarrayA (X : Stand p l e R s m args below meth c T locs cells slots) (hx : p.tables.exec = Jvm.exec) (hZ : Z.Warmed39 s.vm) (hown : s.vm.findClass own = some m.cls) {C : String} {ty : FieldType} {index : Nat} (hC : (FieldType.array ty).toString = C) (w1 : (Jvm.Cond.classLink own index C).before a0 Z = true) (w2 : (Jvm.Cond.arrayOver (.array ty)).before a0 Z = true) {ad : String} (had : "[" ++ C = ad) (eT : T.heap = h) {n : Int32} {vs : List Value} (hn : ¬ n < 0) (hvs : List.replicate n.toNatClampNeg Value.null = vs) {cap : Nat} (hcap : n.toNatClampNeg ≤ cap) (hb : cap * 8 ≤ 536870912) (P : OPr h0 ws h locs) (hd : decode c.code pc = .ok (.anewarray index, 3)) (hp : pc + 3 = pc') (hc : cells + 1 ≤ R.cells) (hl : slots + cap ≤ R.slots)
    (k : ∀ T' h' a kk, a = h.size → h0.size ≤ a → Stand p l e R s m args below meth c T' locs (cells + 1) (slots + cap) → T'.heap = h' → Ext h h' → OPr h0 ws h' locs → OAry Z h' a kk (.array ty) vs → OvrA Z kk ty C → OGo p e below K T' (mkF m pc' Ls (.ref a :: st))) : OGo p e below K T (mkF m pc Ls (.int n :: st)) := by
  subst hp hvs
  obtain ⟨T', h', cA, X', e', E', A', -, O', r⟩ := newRA X hx hZ hown hC w1 w2 eT (g := mkF m pc Ls (.int n :: st)) rfl hd rfl hn hcap hb hc hl had
  refine (k T' h' h.size cA rfl P.1.1 X' e' E' (P.ext E') ⟨_, A', rfl, by simp [newA, defaultValue], by have := (back32 hn).2; simpa using this, fun v hv => ?_⟩ O').via r
  rw [(List.mem_replicate.mp hv).2]; rfl
theorem stoOfA {a y : Addr} {kk : ClassId} {t0 ty : FieldType} {vs : List Value} {C : String} (F : OAry Z h a kk t0 vs) (O : OvrA Z kk ty C) (I : Ins Z h y C true) : Sto Z h a (.ref y) := by
  obtain ⟨cl, A, r1, -⟩ := F; exact Sto.ofVA A r1 O I
theorem g_castN (X : Stand p l e R s m args below meth c T locs cells slots) (hx : p.tables.exec = Jvm.exec) {index : Nat} (hd : decode c.code pc = .ok (.checkcast index, 3)) (hp : pc + 3 = pc')
    (k : OGo p e below K T (mkF m pc' Ls (.null :: st))) : OGo p e below K T (mkF m pc Ls (.null :: st)) := by
  subst hp; exact k.via fun t q => X.checkcastNull hx (g := mkF m pc Ls (.null :: st)) rfl rfl hd t q
theorem g_instN0 (X : Stand p l e R s m args below meth c T locs cells slots) (hx : p.tables.exec = Jvm.exec) {index : Nat} (hd : decode c.code pc = .ok (.instanceof index, 3)) (hp : pc + 3 = pc')
    (k : OGo p e below K T (mkF m pc' Ls (.int 0 :: st))) : OGo p e below K T (mkF m pc Ls (.null :: st)) := by
  subst hp; exact k.via fun t q => X.instanceofNull hx (g := mkF m pc Ls (.null :: st)) rfl rfl hd t q
theorem g_cast (X : Stand p l e R s m args below meth c T locs cells slots) (hx : p.tables.exec = Jvm.exec) (hZ : Z.Warmed39 s.vm) (hown : s.vm.findClass own = some m.cls) {Kc : String} {index : Nat} (w : (Jvm.Cond.classLink own index Kc).before a0 Z = true) (eT : T.heap = h) {a : Addr} (F : Ins Z h a Kc true) (hd : decode c.code pc = .ok (.checkcast index, 3)) (hp : pc + 3 = pc')
    (k : ∀ T', Stand p l e R s m args below meth c T' locs cells slots → T'.heap = h → OGo p e below K T' (mkF m pc' Ls (.ref a :: st))) : OGo p e below K T (mkF m pc Ls (.ref a :: st)) := by
  subst hp
  obtain ⟨T', X', e', q⟩ := castY X hx hZ hown w eT F (g := mkF m pc Ls (.ref a :: st)) rfl rfl hd
  exact (k T' X' e').via q
theorem g_instY (X : Stand p l e R s m args below meth c T locs cells slots) (hx : p.tables.exec = Jvm.exec) (hZ : Z.Warmed39 s.vm) (hown : s.vm.findClass own = some m.cls) {Kc : String} {index : Nat} (w : (Jvm.Cond.classLink own index Kc).before a0 Z = true) (eT : T.heap = h) {a : Addr} (F : Ins Z h a Kc true) (hd : decode c.code pc = .ok (.instanceof index, 3)) (hp : pc + 3 = pc')
    (k : ∀ T', Stand p l e R s m args below meth c T' locs cells slots → T'.heap = h → OGo p e below K T' (mkF m pc' Ls (.int 1 :: st))) : OGo p e below K T (mkF m pc Ls (.ref a :: st)) := by
  subst hp
  obtain ⟨T', X', e', q⟩ := instY X hx hZ hown w eT F (g := mkF m pc Ls (.ref a :: st)) rfl rfl hd
  exact (k T' X' e').via q

theorem g_clone (X : Stand p l e R s m args below meth c T locs cells slots) (hx : p.tables.exec = Jvm.exec) (hZ : Z.Warmed39 s.vm) (hown : s.vm.findClass own = some m.cls) {ad : String} {index : Nat}
    (w1 : (Jvm.Cond.methodLink own index ⟨ad, "clone", "()Ljava/lang/Object;"⟩).before a0 Z = true) (w2 : (Jvm.Cond.sameMethod ad "java/lang/Object" "clone" "()Ljava/lang/Object;").before a0 Z = true) (w3 : (Jvm.Cond.native ⟨"java/lang/Object", "clone", "()Ljava/lang/Object;"⟩).before a0 Z = true)
    (w4 : (Jvm.Cond.instanceMethod ⟨"java/lang/Object", "clone", "()Ljava/lang/Object;"⟩).before a0 Z = true) (w5 : (Jvm.Cond.selects ad ⟨ad, "clone", "()Ljava/lang/Object;"⟩ ⟨"java/lang/Object", "clone", "()Ljava/lang/Object;"⟩).before a0 Z = true) (w6 : (Jvm.Cond.castable ad "java/lang/Cloneable").before a0 Z = true)
    (eT : T.heap = h) {a : Addr} {kk : ClassId} {ty : FieldType} {vs : List Value} (F : OAry Z h a kk ty vs) (E : Exa Z h a ad) (P : OPr h0 ws h locs) (hsize : Ls.size = c.maxLocals) (hd : decode c.code pc = .ok (.invokevirtual index, 3)) (hp : pc + 3 = pc')
    (hf : 1 ≤ R.frames) {W cap : Nat} (hW : (st.map fun v => v.category).sum ≤ W) (hl : W + 14 ≤ R.locals) (hcap : vs.length ≤ cap) (hc : cells + 1 ≤ R.cells) (hsl : slots + cap ≤ R.slots)
    (k : ∀ T' h' a', a' = h.size → h0.size ≤ a' → Stand p l e R s m args below meth c T' locs (cells + 1) (slots + cap) → T'.heap = h' → Ext h h' → OPr h0 ws h' locs → OAry Z h' a' kk ty vs → Exa Z h' a' ad → OGo p e below K T' (mkF m pc' Ls (.ref a' :: st))) : OGo p e below K T (mkF m pc Ls (.ref a :: st)) := by
  subst hp
  obtain ⟨cl, A, r1, r2, r3, r4⟩ := F
  obtain ⟨T', h', X', e', E', A', B', r⟩ := cloneA X hx hZ hown w1 w2 w3 w4 w5 w6 eT A E (aryFit (k := kk) A r2 r4) (g := mkF m pc Ls (.ref a :: st)) rfl hsize rfl hd hf (W := W) (by show 2 * 0 + _ ≤ _; omega) hl (cap := cap) (by rw [← r2] at hcap; simpa using hcap) hc hsl
  exact (k T' h' h.size rfl P.1.1 X' e' E' (P.ext E') ⟨_, A', r1, r2, r3, r4⟩ B').via r
theorem eqI {first : State} {o : Option Outcome} {idx : List Nat} {t u : Term} {x y : Int32} (ha : t.eval args first o idx s = some (.int x)) (hb : u.eval args first o idx s = some (.int y)) : (Jvm.Cond.eq t u).value args first o s idx = some (decide (x = y)) := by simp [Cond.value, ha, hb]
theorem lenSt {t : Term} {a : Addr} {cl : Cell} {ty : FieldType} {n : Int32} (ev : t.eval args s none [] s = some (.ref a)) (A : Arr s s.heap a cl ty) (q : (Jvm.Cond.eq (.length t) (.int n)).value args s none s [] = some true) : cl.slots.size = n.toInt ∧ cl.slots.size < 2 ^ 31 := by
  have ha : s.arrayAt? a = some cl := A.fin (Vm.Alike.refl _)
  by_cases hl : cl.slots.size < 2 ^ 31
  · have e1 := len_f (idx := []) (first := s) (o := none) ev ha hl
    have e2 : cl.slots.size.toInt32 = n := by rw [eqI e1 (Term.int_eval n)] at q; simpa using q
    exact ⟨by rw [← e2, len_toInt hl], hl⟩
  · have e1 : (Term.length t).eval args s none [] s = none := by simp [Term.eval, ev, ha, hl]
    simp [Cond.value, e1] at q
theorem elemSt {t u : Term} {a : Addr} {cl : Cell} {ty : FieldType} {i : Int32} {v : Value} (ev : t.eval args s none [] s = some (.ref a)) (A : Arr s s.heap a cl ty) (eu : u.eval args s none [] s = some v) (hv : v.isRef = true) (q : (Jvm.Cond.eq (.elem t (.int i)) u).value args s none s [] = some true) : cl.slots[i.toNatClampNeg]? = some v := by
  obtain ⟨x, y, e1, e2, k1, k2⟩ := cmp_v (Or.inl q)
  cases eu.symm.trans e2
  have hx : x.isRef = true := by rcases ref_cases hv with rfl | ⟨b, rfl⟩ <;> exact k2.2
  have r : x = v := by rw [eq_R e1 e2 hx hv] at q; simpa using q
  subst r
  exact (elem_in e1 ev (Term.int_eval i) A.1).2
theorem aryStart {a : Addr} {cl : Cell} {ty : FieldType} {vs : List Value} (hf : Fit s) (A : Arr s s.heap a cl ty) (hs : cl.slots.size < 2 ^ 31) (hl : cl.slots.size = vs.length) (hv : ∀ i, i < vs.length → cl.slots[i]? = vs[i]?) : OAry s s.heap a cl.cls ty vs := by
  have e : cl.slots.toList = vs := by
    apply List.ext_getElem?
    intro i
    by_cases hi : i < vs.length
    · rw [← hv i hi]; simp
    · rw [List.getElem?_eq_none (by simp; omega), List.getElem?_eq_none (by omega)]
  refine ⟨cl, A, rfl, e, by omega, fun v hm => ?_⟩
  rw [← e] at hm
  obtain ⟨i, hi, rfl⟩ := List.getElem_of_mem hm
  have hi' : i < cl.slots.size := by simpa using hi
  have q := hf A.1 hi'
  obtain ⟨hs', k, hk, comp, hkind⟩ := A.2.1
  have e2 : s.slotType? cl.cls cl.vm i = some ty := by
    cases hq : cl.vm <;> first | exact absurd hq (hs' _) | simp [State.slotType?, hk, hkind]
  simp [State.fitsSlot, e2] at q
  simpa using q

theorem wd (hw : ∀ d ∈ tables_1, d.before a0 Z = true) (k : Nat) {d : Jvm.Cond} (q : tables_1[k]? = some d) : d.before a0 Z = true := hw d (List.mem_of_getElem? q)
theorem narR {t : FieldType} {v : Value} (q : v.isRef = true) : narrow t v = v := by rcases ref_cases q with rfl | ⟨a, rfl⟩ <;> cases t <;> rfl
theorem fitR {t : FieldType} {v : Value} (q : v.isRef = true) (r : t.isReference = true) : fits t v = true := by
  rcases ref_cases q with rfl | ⟨a, rfl⟩ <;> cases t <;> first | rfl | cases r
theorem insP {a : Addr} {C : String} {b : Bool} (F : Ins Z h0 a C b) (P : OPr h0 ws h L) : Ins Z h a C b := by
  obtain ⟨cell, cT, h1, h2, h3⟩ := F
  obtain ⟨c', e1, e2, e3, -⟩ := P.1.2.2 _ _ h1
  exact ⟨c', cT, e1, h2, by rw [e2, e3]; exact h3⟩
theorem neAry {a b : Addr} {kk : ClassId} {ty : FieldType} {vs : List Value} {C : String} {n : Nat} (E : Exa Z h b C) (wi : (Jvm.Cond.instantiable C n).before a0 Z = true) (F : OAry Z h a kk ty vs) : b ≠ a := by
  obtain ⟨c, A, -⟩ := F; exact ne_arr E wi A
theorem exSta {C n d Kc : String} (q : (Jvm.Cond.exactly (.static C n d) Kc).value args s none s [] = some true) (hi : (Jvm.Cond.initializedFor C n d).before args s = true ∨ ((Jvm.Cond.initialized C).before args s = true ∧ (Jvm.Cond.laysStatic C n d).before args s = true)) :
    ∃ a, (Term.static C n d).eval args s none [] s = some (.ref a) ∧ Sta s s.heap C n d (.ref a) ∧ Exa s s.heap a Kc := by
  obtain ⟨a, ev⟩ := exa_v q
  exact ⟨a, ev, Sta.start ev hi, Exa.start ev q⟩
theorem eqFld {t : Term} {a : Addr} {C n d : String} {k : Int32} (ev : t.eval args s none [] s = some (.ref a)) (q : (Jvm.Cond.eq (.field t C n d) (.int k)).value args s none s [] = some true) : Fld s s.heap a C n d (.int k) := by
  obtain ⟨x, y, e1, e2, -, k2⟩ := cmp_v (Or.inl q)
  cases e2
  obtain ⟨z, rfl⟩ := k2
  have r : z = k := by rw [eqI e1 (Term.int_eval k)] at q; simpa using q
  subst r
  exact Fld.start ((fld_at ev).symm.trans e1)
theorem eqFldR {t u : Term} {a : Addr} {v : Value} {C n d : String} (ev : t.eval args s none [] s = some (.ref a)) (eu : u.eval args s none [] s = some v) (hv : v.isRef = true) (q : (Jvm.Cond.eq (.field t C n d) u).value args s none s [] = some true) : Fld s s.heap a C n d v := by
  obtain ⟨x, y, e1, e2, k1, k2⟩ := cmp_v (Or.inl q)
  cases eu.symm.trans e2
  have hx : x.isRef = true := by rcases ref_cases hv with rfl | ⟨b, rfl⟩ <;> exact k2.2
  have r : x = v := by rw [eq_R e1 e2 hx hv] at q; simpa using q
  subst r
  exact Fld.start ((fld_at ev).symm.trans e1)

theorem sinceR (s : State) : s.Since s.vm 0 := State.WarmedH.since (State.WarmedH.refl s) 0
/-- what a method that returned, and that may have interned, has left -/
def OFinW (s : State) (rm : Room) (Q : Option Value → Heap → List Loc → Prop) (o : Outcome) (U' : State) : Prop := ∃ v L, o = .returned v ∧ Q v U'.heap L ∧ ReturnedEndW s o U' L rm.cells rm.slots
def OMetW (l : Launch) (y : MethodName) (bytes : ByteArray) (maxL : Nat) (ret : Option FieldType) (rm : Room) (as : Array Value) (Z : State) (h0 : Heap) (Q : Option Value → Heap → List Loc → Prop) : Prop :=
  ∀ ws : List Jvm.Cond, MetFree l y (head1 (Jvm.Cond.code y bytes maxL ret :: ws) rm) (fun a U => a = as ∧ Z.Warmed39 U.vm ∧ U.heap = h0) (fun _ _ bl s _ => s.vm.MethodsKnown ∧ s.vm.FramesKnown bl) (fun _ U o U' => OFinW U rm Q o U')
theorem OMetW.body {y : MethodName} {bytes : ByteArray} {maxL : Nat} {ret : Option FieldType} {rm : Room} {as : Array Value} {Q : Option Value → Heap → List Loc → Prop} {Ls : Array Slot} (hpl : plainFor y = true) (hef : ∀ m, entryFrame m as maxL = mkF m 0 Ls [])
    (H : ∀ (p : Program) (e : Env) (s : State) (m : MethodId) (below : List Frame) (meth : Method) (c : Code) (T : State) (K : Outcome → State → Prop), K = OFinW s rm Q → Stand p l e rm (s.setVm s.vm) m as below meth c T [] 0 0 → p.tables.exec = Jvm.exec → c.code = bytes → c.maxLocals = maxL → s.vm.findClass y.cls = some m.cls → meth.name = y.name → meth.sig.returnType = ret → meth.locks = false → Z.Warmed39 s.vm → T.heap = h0 → T.heap = s.heap → s.vm.MethodsKnown → s.vm.FramesKnown below → OGo p e below K T (mkF m 0 Ls [])) :
    OMetW l y bytes maxL ret rm as Z h0 Q := fun ws => by
  refine MetFree.of_bodySF hpl hisR ?_
  intro p e s m args below meth c s₁ Bd hml0 hP hK
  obtain ⟨rfl, hZ, hh⟩ := hP
  have e1 : s₁.heap = s.heap := by rw [Bd.state]; rfl
  have e0 : s₁.heap = h0 := by rw [← hh, e1]
  have k := H p e s m below meth c s₁ _ rfl (Stand.of_body Bd) Bd.exec Bd.bytes hml0 (findClass_of_methodNamed Bd.named) (name_of_methodNamed Bd.named Bd.method).1 Bd.returns Bd.notSynchronized hZ e0 e1 hK.1 hK.2
  rw [← hef m] at k
  exact k
theorem g_retW {rm : Room} {vm0 : Vm} {k0 : Nat} {Q : Option Value → Heap → List Loc → Prop} {t : FieldType} {w : Value} {i : Instr} (X : Stand p l e rm (s.setVm vm0) m args below meth c T locs cells slots) (hx : p.tables.exec = Jvm.exec) (hret : meth.sig.returnType = some t) (hlk : meth.locks = false) (hS : s.Since vm0 k0) (hk : k0 ≤ h.size) (hn : narrow t w = w)
    (hi : (i = .ireturn ∧ (t = .int ∨ t = .boolean ∨ t = .byte ∨ t = .char ∨ t = .short) ∧ ∃ z, w = .int z) ∨ (i = .lreturn ∧ t = .long ∧ ∃ z, w = .long z) ∨ (i = .dreturn ∧ t = .double ∧ ∃ z, w = .double z) ∨ (i = .freturn ∧ t = .float ∧ ∃ z, w = .float z) ∨ (i = .areturn ∧ t.isReference = true ∧ w.isRef = true))
    (hd : decode c.code pc = .ok (i, 1)) (hc : cells ≤ rm.cells) (hs : slots ≤ rm.slots) (eT : T.heap = h) (hK : K = OFinW s rm Q) (hQ : Q (some w) h locs) : OGo p e below K T (mkF m pc Ls (w :: st)) := by
  subst hK
  obtain ⟨fs, hr, hrun, hended, hW⟩ := X.leaveW hS (v := some w) (by rw [eT]; exact hk) (fun h => by rw [hret] at h; cases h) hlk
  obtain ⟨z1, z2, z3, z4⟩ := hW
  exact ⟨_, _, retOut X hx hret hn hi hd hr, hrun, hended, _, _, rfl, by show Q _ T.heap _; rw [eT]; exact hQ, ⟨z1, z2, z3, z4.mono hc hs⟩⟩
theorem g_ret0W {rm : Room} {vm0 : Vm} {k0 : Nat} {Q : Option Value → Heap → List Loc → Prop} (X : Stand p l e rm (s.setVm vm0) m args below meth c T locs cells slots) (hx : p.tables.exec = Jvm.exec) (hret : meth.sig.returnType = none) (hlk : meth.locks = false) (hS : s.Since vm0 k0) (hk : k0 ≤ h.size)
    (hd : decode c.code pc = .ok (.return_, 1)) (hc : cells ≤ rm.cells) (hs : slots ≤ rm.slots) (eT : T.heap = h) (hK : K = OFinW s rm Q) (hQ : Q none h locs) : OGo p e below K T (mkF m pc Ls []) := by
  subst hK
  obtain ⟨fs, hr, hrun, hended, hW⟩ := X.leaveW hS (v := none) (by rw [eT]; exact hk) (fun _ => rfl) hlk
  obtain ⟨z1, z2, z3, z4⟩ := hW
  exact ⟨_, _, X.returnOut hx hret hd hr, hrun, hended, _, _, rfl, by show Q _ T.heap _; rw [eT]; exact hQ, ⟨z1, z2, z3, z4.mono hc hs⟩⟩
theorem wrSz {a : Addr} {sl : Nat} {v : Value} (W : Wr h h' a sl v) : h.size ≤ h'.size := by obtain ⟨c0, -, -, -, rfl⟩ := W; simp
theorem g_newU (X : Stand p l e R s m args below meth c T locs cells slots) (hx : p.tables.exec = Jvm.exec) (hZ : Z.Warmed39 s.vm) (hown : s.vm.findClass own = some m.cls) {C : String} {index n : Nat} (w : (Jvm.Cond.classLink own index C).before a0 Z = true) (wi : (Jvm.Cond.instantiable C n).before a0 Z = true) (wz : (Jvm.Cond.initialized C).before a0 Z = true) (eT : T.heap = h)
    (P : OPr h0 ws h locs) (hd : decode c.code pc = .ok (.new index, 3)) (hp : pc + 3 = pc') (hc : cells + 1 ≤ R.cells) (hl : slots + n ≤ R.slots)
    (k : ∀ T' h' a, a = h.size → h0.size ≤ a → Stand p l e R s m args below meth c T' locs (cells + 1) (slots + n) → T'.heap = h' → Ext h h' → OPr h0 ws h' locs → Exa Z h' a C → (∀ {O nm d : String} {ty : FieldType}, Laid Z a0 C O nm d → parseFieldDescriptor d = some ty → Fld Z h' a O nm d (defaultValue ty)) → Unt h' a → OGo p e below K T' (mkF m pc' Ls (.ref a :: st))) : OGo p e below K T (mkF m pc Ls st) := by
  subst hp
  obtain ⟨T', h', X', e', E', A', D', N', r⟩ := newO X hx hZ hown w wi wz eT (g := mkF m pc Ls st) rfl hd hc hl
  exact (k T' h' h.size rfl P.1.1 X' e' E' (P.ext E') A' D' N').via r
theorem subOf {L M : List Jvm.Cond} (q : (L.all fun c => M.contains c) = true) : ∀ c ∈ L, c ∈ M := fun c hc => by simpa using (List.all_eq_true.mp q) c hc
theorem linkOf {k : Nat} {rc : String} {x : Jvm.Free.Exc.Link} {r : List Jvm.Free.Exc.Link} (h4 : ∀ d ∈ [Jvm.Cond.code (Jvm.Free.Exc.ctor k x.1) x.2.2 (k + 1) none, .initialized x.1, .methodLink x.1 x.2.1 (Jvm.Free.Exc.ctor k (Jvm.Free.Exc.headName r)), .instanceMethod (Jvm.Free.Exc.ctor k (Jvm.Free.Exc.headName r))], d.before a0 Z = true) (hr : (Jvm.Free.Exc.chainTab k rc r).before a0 Z = true) : (Jvm.Free.Exc.chainTab k rc (x :: r)).before a0 Z = true := conj_of fun d hd => by
  simp only [List.mem_cons, List.not_mem_nil, or_false] at hd h4
  rcases hd with rfl | rfl | rfl | rfl | rfl
  · exact h4 _ (Or.inl rfl)
  · exact h4 _ (Or.inr (Or.inl rfl))
  · exact h4 _ (Or.inr (Or.inr (Or.inl rfl)))
  · exact h4 _ (Or.inr (Or.inr (Or.inr rfl)))
  · exact hr
theorem g_ldcS {vm0 : Vm} {k0 : Nat} (X : Stand p l e R (s.setVm vm0) m args below meth c T locs cells slots) (hx : p.tables.exec = Jvm.exec) (hZ : Z.Warmed39 vm0) (hown : vm0.findClass own = some m.cls) {text : String} {index : Nat} (w : (Jvm.Cond.stringLink own index text).before a0 Z = true) (wS : ∀ a ∈ Bundle.stringAtoms, a.before a0 Z = true)
    (eT : T.heap = h) (hS : s.Since vm0 k0) (hk : k0 ≤ h.size) (P : OPr h0 ws h locs) (hd : decode c.code pc = .ok (.ldc index, 2)) (hp : pc + 2 = pc') {n : Nat} (hn : 4 * text.toList.length ≤ n) (hbig : n ≤ 536870912) (hc : cells + 2 ≤ R.cells) (hl : slots + (n + 4) ≤ R.slots)
    (k : ∀ (a : Addr) T' h' vm1 k1, Stand p l e R (s.setVm vm1) m args below meth c T' locs (cells + 2) (slots + (n + 4)) → T'.heap = h' → Ext h h' → OPr h0 ws h' locs → s.Since vm1 k1 → k1 ≤ h'.size → Z.Warmed39 vm1 → vm1.findClass own = some m.cls → OGo p e below K T' (mkF m pc' Ls (.ref a :: st))) : OGo p e below K T (mkF m pc Ls st) := by
  subst hp
  obtain ⟨a, T', h', k1, X', e', E', hS', hk', hZ', ho', r⟩ := ldcS X hx hZ hown w wS eT hS hk (g := mkF m pc Ls st) rfl hd hn hbig hc hl
  exact (k a T' h' _ k1 X' e' E' (P.ext E') hS' hk' hZ' ho').via r
theorem OPr.kp {a : Addr} (Kk : Kp Z h h' a) (N : Unt h a) : OPr h [a] h' (sixLocs Z a) := by
  refine ⟨keep_of_kp Kk, fun x c q r => ?_, fun y hy => ?_⟩
  · obtain ⟨c', q1, -, -, q4, -⟩ := Kk.2 x c q
    have ne : x ≠ a := fun z => by
      subst z; obtain ⟨c2, u1, u2, -⟩ := N
      cases q.symm.trans u1; rw [u2] at r; cases r
    rw [q1, q4 ne]
  · obtain ⟨nd, -, rfl⟩ := List.mem_map.mp hy; exact Or.inl (List.mem_singleton_self a)
theorem ThS.pr (F : ThS Z h0) (P : OPr h0 ws h L) : ThS Z h := fun st k cl cell h1 h2 h3 h4 h5 => P.2.1 _ _ (F st k cl cell h1 h2 h3 h4 h5) h5
theorem g_exc1 (X : Stand p l e R s m args below meth c T locs cells slots) (hx : p.tables.exec = Jvm.exec) (hl : l.stackTraces = true) (hZ : Z.Warmed39 s.vm) (hown : s.vm.findClass own = some m.cls) {rc : String} {links : List Jvm.Free.Exc.Link} {ic n : Nat} (hok : Jvm.Free.Exc.linksOk 1 links = true)
    (w1 : (Jvm.Cond.methodLink own ic (Jvm.Free.Exc.ctor 1 (Jvm.Free.Exc.headName links))).before a0 Z = true) (w2 : (Jvm.Cond.instanceMethod (Jvm.Free.Exc.ctor 1 (Jvm.Free.Exc.headName links))).before a0 Z = true) (wT : (Jvm.Free.Exc.chainTab 1 rc links).before a0 Z = true) (wi : (Jvm.Cond.instantiable rc n).before a0 Z = true) (r : ∀ d ∈ twoRefs, d.before a0 Z = true)
    (hT0 : ThS Z s.heap) (hT : ThS Z h) (hTK : s.vm.MethodsKnown) (hBelow : s.vm.FramesKnown below) (eT : T.heap = h) {a : Addr} (E : Exa Z h a rc) (N : Unt h a) (B : Fld Z h a Bundle.tN "backtrace" Jvm.Free.Exc.obD .null) (B2 : Fld Z h a Bundle.tN "detailMessage" Jvm.Free.Exc.msgD .null) {msg : Value} (hmsg : msg.isRef = true)
    (hsize : Ls.size = c.maxLocals) {rest : List Value} (hst : st = msg :: .ref a :: rest) (hd : decode c.code pc = .ok (.invokespecial ic, 3)) (hp : pc + 3 = pc') {W : Nat} (hW : (rest.map fun v => v.category).sum ≤ W)
    (hf : 4 + links.length ≤ R.frames) (hlo : W + (56 + 14 * links.length) ≤ R.locals) (hc : cells + 1 ≤ R.cells) (hsl : slots + 2752 ≤ R.slots)
    (k : ∀ v T' h' L, Stand p l e R s m args below meth c T' (locs ++ L) (cells + 1) (slots + 2752) → T'.heap = h' → (v = (none : Option Value) ∧ OPr h [a] h' L) → OGo p e below K T' (mkF m pc' Ls (v.toList ++ rest))) : OGo p e below K T (mkF m pc Ls st) := by
  subst hp hst
  obtain ⟨T', h', X', e', Kk, -, -, -, -, -, q⟩ := excL1 X hx hl hZ hown hok w1 w2 wT wi r hT0 hT hTK hBelow eT E N B B2 hmsg (g := mkF m pc Ls (msg :: .ref a :: rest)) rfl hsize rfl hd hf (by show 2 * 0 + _ + _ ≤ _; omega) hc hsl
  exact (k none T' h' _ X' e' ⟨rfl, OPr.kp Kk N⟩).via q
theorem OMetW.back {y : MethodName} {bytes : ByteArray} {maxL : Nat} {ret : Option FieldType} {rm : Room} {as : Array Value} {Q : Option Value → Heap → List Loc → Prop} {len W : Nat} (hM : OMetW l y bytes maxL ret rm as Z h Q) (hZ : Z.Warmed39 s.vm) (wc : (Jvm.Cond.code y bytes maxL ret).before a0 Z = true) (wz : (Jvm.Cond.initialized y.cls).before a0 Z = true) (hf : rm.frames + 1 ≤ R.frames) (hl : W + (maxL + 11) + rm.locals ≤ R.locals) (hTK : s.vm.MethodsKnown) (hBelow : s.vm.FramesKnown below) :
    BackS l R p e below s args y len W (fun A a => a = as ∧ A.U.heap = h ∧ A.cells + rm.cells ≤ R.cells ∧ A.slots + rm.slots ≤ R.slots)
      (fun A _ v B => ∃ L, Q v B.U.heap L ∧ B.locs = A.locs ++ L ∧ B.cells = A.cells + rm.cells ∧ B.slots = A.slots + rm.slots) := backOfSKL (hM []) hZ wc wz hf hl hTK hBelow
theorem g_specialW {vm0 : Vm} {k0 : Nat} (X : Stand p l e R (s.setVm vm0) m args below meth c T locs cells slots) (hx : p.tables.exec = Jvm.exec) (hZ : Z.Warmed39 vm0) (hown : vm0.findClass own = some m.cls) (eT : T.heap = h) (hS : s.Since vm0 k0) (hk : k0 ≤ h.size) (hTK : s.vm.MethodsKnown) (hBelow : s.vm.FramesKnown below) {y : MethodName} {bytes : ByteArray} {maxL index : Nat} {rm : Room} {as : Array Value} {Q : Option Value → Heap → List Loc → Prop} (hM : OMetW l y bytes maxL none rm as Z h Q) (hy1 : y.name = "<init>")
    (w1 : (Jvm.Cond.methodLink own index y).before a0 Z = true) (w2 : (Jvm.Cond.instanceMethod y).before a0 Z = true) (w3 : (Jvm.Cond.code y bytes maxL none).before a0 Z = true) (wz : (Jvm.Cond.initialized y.cls).before a0 Z = true) (hy : y.cls ≠ "java/lang/invoke/MethodHandle" ∧ y.cls ≠ "java/lang/invoke/VarHandle")
    {a : Addr} {argsL rest : List Value} (has : (.ref a :: argsL).toArray = as) (hst : st = argsL.reverse ++ .ref a :: rest) {W : Nat} {ps : List FieldType} (hde : parseMethodDescriptor y.desc = some ⟨ps, none⟩) (hlen : argsL.length = ps.length) (hW : (rest.map fun v => v.category).sum ≤ W) (hf : rm.frames + 1 ≤ R.frames) (hl : W + (maxL + 11) + rm.locals ≤ R.locals) (hc : cells + rm.cells ≤ R.cells) (hs : slots + rm.slots ≤ R.slots)
    (hsize : Ls.size = c.maxLocals) (hd : decode c.code pc = .ok (.invokespecial index, 3)) (hp : pc + 3 = pc')
    (k : ∀ v T' h' L vm1 k1, Stand p l e R (s.setVm vm1) m args below meth c T' (locs ++ L) (cells + rm.cells) (slots + rm.slots) → T'.heap = h' → Q v h' L → s.Since vm1 k1 → k1 ≤ h'.size → Z.Warmed39 vm1 → vm1.findClass own = some m.cls → OGo p e below K T' (mkF m pc' Ls (v.toList ++ rest))) : OGo p e below K T (mkF m pc Ls st) := by
  subst hp has
  have hZ' : Z.Warmed39 (s.setVm vm0).vm := hZ
  obtain ⟨v, vm₁, ⟨T', L', c', n'⟩, -, X', hS', hg', ⟨Lc, hQ, l1, y1, z1⟩, r⟩ := X.specialBackS hx (y := y) hy1 hown (mvT hZ' w1) (mvT hZ' w2) (mvT hZ' w3) hy (hM.back (s := s.setVm vm0) (W := W) hZ' w3 wz hf hl (Vm.MethodsKnown.alikeC hS.1.alike hTK) (Vm.FramesKnown.alikeC hS.1.alike hBelow)) (g := mkF m pc Ls st) rfl hsize (Steps.refl _) (a := a) (argsL := argsL) (rest := rest) (lenOf hde hlen) hst (by show 2 * 0 + _ ≤ _; omega) hd (fun _ _ => ⟨rfl, eT, hc, hs⟩)
  dsimp only [Pt.U, Pt.locs, Pt.cells, Pt.slots] at X' l1 y1 z1 r hQ hS' hg'
  subst l1 y1 z1
  have hS2 : s.Since T'.vm T'.heap.size := hS.trans hS' (Nat.le_trans hk (by rw [← eT]; exact hg'))
  exact (k v T' _ Lc T'.vm _ X' rfl hQ hS2 (Nat.le_refl _) (State.Warmed39.trans (t := s.setVm vm0) hZ hS'.1) (by rw [hS'.1.alike.findClass]; exact hown)).tr r
theorem g_virtualW {vm0 : Vm} {k0 : Nat} (X : Stand p l e R (s.setVm vm0) m args below meth c T locs cells slots) (hx : p.tables.exec = Jvm.exec) (hZ : Z.Warmed39 vm0) (hown : vm0.findClass own = some m.cls) (eT : T.heap = h) (hS : s.Since vm0 k0) (hk : k0 ≤ h.size) (hTK : s.vm.MethodsKnown) (hBelow : s.vm.FramesKnown below) {y z : MethodName} {bytes : ByteArray} {maxL index : Nat} {ret : Option FieldType} {rm : Room} {as : Array Value} {Q : Option Value → Heap → List Loc → Prop} (hM : OMetW l z bytes maxL ret rm as Z h Q) {C : String}
    (w1 : (Jvm.Cond.methodLink own index y).before a0 Z = true) (w2 : (Jvm.Cond.declares y).before a0 Z = true) (nf : NotFace (s.setVm vm0) y) (w3 : (Jvm.Cond.selects C y z).before a0 Z = true) (w4 : (Jvm.Cond.instanceMethod z).before a0 Z = true) (w5 : (Jvm.Cond.code z bytes maxL ret).before a0 Z = true) (wz : (Jvm.Cond.initialized z.cls).before a0 Z = true) (hy : y.cls ≠ "java/lang/invoke/MethodHandle" ∧ y.cls ≠ "java/lang/invoke/VarHandle")
    {a : Addr} (E : Exa Z h a C) {argsL rest : List Value} (has : (.ref a :: argsL).toArray = as) (hst : st = argsL.reverse ++ .ref a :: rest) {W : Nat} {ps : List FieldType} {rt : Option FieldType} (hde : parseMethodDescriptor y.desc = some ⟨ps, rt⟩) (hlen : argsL.length = ps.length) (hW : (rest.map fun v => v.category).sum ≤ W) (hf : rm.frames + 1 ≤ R.frames) (hl : W + (maxL + 11) + rm.locals ≤ R.locals) (hc : cells + rm.cells ≤ R.cells) (hs : slots + rm.slots ≤ R.slots)
    (hsize : Ls.size = c.maxLocals) (hd : decode c.code pc = .ok (.invokevirtual index, 3)) (hp : pc + 3 = pc')
    (k : ∀ v T' h' L vm1 k1, Stand p l e R (s.setVm vm1) m args below meth c T' (locs ++ L) (cells + rm.cells) (slots + rm.slots) → T'.heap = h' → Q v h' L → s.Since vm1 k1 → k1 ≤ h'.size → Z.Warmed39 vm1 → vm1.findClass own = some m.cls → OGo p e below K T' (mkF m pc' Ls (v.toList ++ rest))) : OGo p e below K T (mkF m pc Ls st) := by
  subst hp has
  have hZ' : Z.Warmed39 (s.setVm vm0).vm := hZ
  obtain ⟨cB, kB, q1, q2, q3⟩ := isOf (s := s.setVm vm0) (T := T) hZ' eT E
  obtain ⟨v, vm₁, ⟨T', L', c', n'⟩, -, X', hS', hg', ⟨Lc, hQ, l1, y1, z1⟩, r⟩ := X.virtualBackS hx (y := y) (z := z) hown (mvT hZ' w1) (mvT hZ' w2) nf (mvT hZ' w3) (mvT hZ' w4) hy (hM.back (s := s.setVm vm0) (W := W) hZ' w5 wz hf hl (Vm.MethodsKnown.alikeC hS.1.alike hTK) (Vm.FramesKnown.alikeC hS.1.alike hBelow)) q1 q3 (g := mkF m pc Ls st) rfl hsize (Steps.refl _) (argsL := argsL) (rest := rest) (lenOf hde hlen) hst (by show 2 * 0 + _ ≤ _; omega) hd (fun _ _ => ⟨rfl, eT, hc, hs⟩)
  dsimp only [Pt.U, Pt.locs, Pt.cells, Pt.slots] at X' l1 y1 z1 r hQ hS' hg'
  subst l1 y1 z1
  have hS2 : s.Since T'.vm T'.heap.size := hS.trans hS' (Nat.le_trans hk (by rw [← eT]; exact hg'))
  exact (k v T' _ Lc T'.vm _ X' rfl hQ hS2 (Nat.le_refl _) (State.Warmed39.trans (t := s.setVm vm0) hZ hS'.1) (by rw [hS'.1.alike.findClass]; exact hown)).tr r
end Own
section Own2
variable {p : Program} {l : Launch} {e : Env} {R : Room} {s : State} {m : MethodId} {args : Array Value} {below : List Frame} {meth : Method} {c : Code} {T : State} {locs : List Loc} {cells slots : Nat} {Z : State} {a0 : Array Value} {h h' h0 : Heap} {K : Outcome → State → Prop} {pc pc' : Nat} {Ls : Array Slot} {st : List Value} {own : String} {ws ws' : List Addr} {L L' : List Loc}
/-- what is asked of Throwable and of the subclass rc -/
def tAt (rc : String) : List Jvm.Cond := [.native Bundle.tFill0, .initialized Bundle.tN, .superclass Bundle.tN "java/lang/Object", .instanceMethod Bundle.tFill, .codeSync Bundle.tFill LibCode.Throwable.Fill.code 1 (some (.object Bundle.tN)), .instanceMethod Bundle.tFill0,
  .instanceMethod Bundle.oInit, .code Bundle.oInit ⟨#[0xb1]⟩ 1 none, .methodLink Bundle.tN 1 Bundle.oInit, .methodLink Bundle.tN 27 Bundle.tFill, .methodLink Bundle.tN 202 Bundle.tFill0,
  .fieldLink Bundle.tN 7 Bundle.tN "cause" Jvm.Free.Exc.thD, .lays rc Bundle.tN "cause" Jvm.Free.Exc.thD, .fieldLink Bundle.tN 17 Bundle.tN "stackTrace" Bundle.steD, .lays rc Bundle.tN "stackTrace" Bundle.steD, .fieldLink Bundle.tN 24 Bundle.tN "suppressedExceptions" Bundle.listD, .lays rc Bundle.tN "suppressedExceptions" Bundle.listD,
  .fieldLink Bundle.tN 13 Bundle.tN "UNASSIGNED_STACK" Bundle.steD, .laysStatic Bundle.tN "UNASSIGNED_STACK" Bundle.steD, .fieldLink Bundle.tN 20 Bundle.tN "SUPPRESSED_SENTINEL" Bundle.listD, .laysStatic Bundle.tN "SUPPRESSED_SENTINEL" Bundle.listD,
  .lays rc Bundle.tN "detailMessage" Jvm.Free.Exc.msgD, .selects rc Bundle.tFill0 Bundle.tFill0, .fieldLink Bundle.tN 198 Bundle.tN "backtrace" Jvm.Free.Exc.obD, .lays rc Bundle.tN "backtrace" Jvm.Free.Exc.obD, .arrayOver (.object "java/lang/Object"), .soleField Bundle.tN "backtrace", .soleField Bundle.tN "depth", .lays rc Bundle.tN "depth" "I",
  .declares Bundle.tFill, .selects rc Bundle.tFill Bundle.tFill]
theorem tOk {rc : String} : (tAt rc).all xOk = true := rfl
theorem tLinks {rc : String} {pl : Platform} (o1 : pl.frameOwnsMonitors = true) (o2 : pl.finalization = false) (o3 : pl.magicAccessors = ({} : Platform).magicAccessors) (w0 : ∀ c ∈ tAt rc, c.before args s = true) :
    ∃ T : ThrowableC, T.Links pl s ∧ s.vm.findClass Bundle.tN = some T.cT ∧ s.methodNamed? Bundle.tFill = some T.fill ∧ s.methodNamed? Bundle.tFill0 = some T.fill0 ∧ s.fieldFound? Bundle.tN "stackTrace" Bundle.steD = some (T.cT, T.kT, T.i17, T.fStack) ∧ s.fieldFound? Bundle.tN "UNASSIGNED_STACK" Bundle.steD = some (T.cT, T.kT, T.i13, T.fUnassigned) ∧ T.fStack.type = .array (.object "java/lang/StackTraceElement") := by
  have w : ∀ (k : Nat) {d : Jvm.Cond}, (tAt rc)[k]? = some d → d.holds args s none s [] = true := fun k d q => w0 d (List.mem_of_getElem? q)
  obtain ⟨⟨c, j0⟩, f0, a1, a2, a3, a4, a5, a6⟩ := Cond.native_spec (w 0 rfl)
  have hc : s.vm.findClass Bundle.tN = some c := findClass_of_methodNamed a1
  obtain ⟨k, hk, hnm⟩ := Vm.findClass_spec hc
  obtain ⟨_, k1, _, _, b3, _, _, b4, _, b5⟩ := Cond.superclass_spec hc (w 2 rfl)
  cases hk.symm.trans b3
  obtain ⟨jF, fF, c1, c2, c3, c4, c5, -, -⟩ := Cond.ownMethod (x := Bundle.tFill) hc hk (w 3 rfl)
  obtain ⟨fF', kF, d1, d2, d3, d4, d5, d6, -, d8⟩ := Cond.codeSync_spec c1 (w 4 rfl)
  cases c2.symm.trans d1
  obtain ⟨j0', f0', e1, e2, e3, e4, e5, e6, e7⟩ := Cond.ownMethod (x := Bundle.tFill0) hc hk (w 5 rfl)
  cases a1.symm.trans e1
  cases a2.symm.trans e2
  obtain ⟨mO, fO, i1, i2, i3, i4⟩ := Cond.instanceMethod_spec (w 6 rfl)
  obtain ⟨fO', kO', j1, j2, j3, j4, -, j6, -, j8⟩ := Cond.code_spec i1 (w 7 rfl)
  cases i2.symm.trans j1
  obtain ⟨kC, l1, l2⟩ := Vm.findClass_spec (findClass_of_methodNamed i1)
  obtain ⟨l3, l4⟩ := name_of_methodNamed i1 i2
  obtain ⟨u1, v1, cf, m1, m2, m3, m4⟩ := Cond.linkedMethod hc hk i1 (w 8 rfl) pl o3
  obtain ⟨u27, v27, cf2, m5, m6, m7, m8⟩ := Cond.linkedMethod hc hk c1 (w 9 rfl) pl o3
  cases m3.symm.trans m7
  obtain ⟨u202, v202, cf3, m9, m10, m11, m12⟩ := Cond.linkedMethod hc hk a1 (w 10 rfl) pl o3
  cases m3.symm.trans m11
  obtain ⟨u7, n7, F7, p1, p2, p3, p4, p5, p6, -, p8⟩ := Cond.ownField (C' := rc) (t := .object Bundle.tN) hc hk (by decide +kernel) (w 11 rfl) (w 12 rfl) pl o3
  obtain ⟨u17, n17, F17, q1, q2, q3, q4, q5, q6, q7, q8⟩ := Cond.ownField (C' := rc) (t := .array (.object "java/lang/StackTraceElement")) hc hk (by decide +kernel) (w 13 rfl) (w 14 rfl) pl o3
  obtain ⟨u24, n24, F24, r1, r2, r3, r4, r5, r6, -, r8⟩ := Cond.ownField (C' := rc) (t := .object "java/util/List") hc hk (by decide +kernel) (w 15 rfl) (w 16 rfl) pl o3
  obtain ⟨u13, n13, F13, aS, _, s1, s2, s3, s4, -, -, s7, -, -, -, -, s12⟩ := Cond.ownStatic (t := .array (.object "java/lang/StackTraceElement")) hc hk (by decide +kernel) (w 17 rfl) (w 18 rfl) pl o3
  obtain ⟨u20, n20, F20, _, _, t1, t2, t3, t4, -⟩ := Cond.ownStatic (t := .object "java/util/List") hc hk (by decide +kernel) (w 19 rfl) (w 20 rfl) pl o3
  obtain ⟨cX, kX, _, _, _, fM, x1, x2, _, x4, x5, _⟩ := Cond.lays_spec (w 21 rfl)
  obtain ⟨-, dS, y1, y2⟩ := Cond.laysAt x1 x2 q8 (w 14 rfl)
  obtain ⟨-, dP, y3, y4⟩ := Cond.laysAt x1 x2 r8 (w 16 rfl)
  have hap := Cond.laysApart y1 y3 y2 y4 (by rw [q6, r6]; decide)
  have pF : fF.sig.parameters = [] := by rw [← Option.some.inj ((show parseMethodDescriptor Bundle.tFill.desc = some ⟨[], some (.object Bundle.tN)⟩ from by decide +kernel).symm.trans d8)]
  have p0 : f0.sig.parameters = [.int] := by rw [← Option.some.inj ((show parseMethodDescriptor Bundle.tFill0.desc = some ⟨[.int], some (.object Bundle.tN)⟩ from by decide +kernel).symm.trans a6)]
  have pO : fO.sig.parameters.length = 0 := by rw [← Option.some.inj ((show parseMethodDescriptor Bundle.oInit.desc = some ⟨[], none⟩ from by decide +kernel).symm.trans j8)]; rfl
  exact ⟨{ cT := c, kT := k, cO := c, aS := aS, fillIdx := jF, fill0Idx := j0, initSIdx := j0, obj := mO, kObj := kC, methFill := fF, methFill0 := f0, methInitS := f0, methObj := fO, codeFill := kF, codeInitS := kF, codeObj := kO', fBack := F7, fDepth := F7, fStack := F17, fCause := F7, fSupp := F24, fMsg := fM, fUnassigned := F13, fSentinel := F20, cfT := cf, ci1 := u1, n1 := v1, ci27 := u27, n27 := v27, ci202 := u202, n202 := v202, ci7 := u7, i7 := n7, ci13 := u13, i13 := n13, ci17 := u17, i17 := n17, ci20 := u20, i20 := n20, ci24 := u24, i24 := n24 },
    { owns := o1, noFinalization := o2, cls := hk, name := hnm, boot := Vm.findClass_boot hc hk, notInterface := b5, initialized := Cond.initialized_spec hc hk (w 1 rfl), statics := s7, fillAt := c3, fillCode := d2, fillBytes := d3, fillLocals := d4, fillLocks := d6, fillStatic := c4, fillAbstract := c5, fillReturns := d5, fillParams := pF,
      fill0At := e3, fill0Name := e6, fill0Desc := e7, fill0Params := p0, fill0Static := e4, fill0Native := a3, fill0Code := a4, fill0Locks := a5, fill0Abstract := e5, stackInstance := q4, stackNotFinal := q5, unassignedStatic := s4, objClass := l1, objClassName := l2, objMethod := i2, objName := l3, objStatic := i3, objAbstract := i4,
      objFound := by rw [l4]; exact lookupSpecial_of_named i1 i2 i3, objParams := pO, objCode := j2, objBytes := j3, objLocks := j6, causeInstance := p4, causeNotFinal := p5, sentinelStatic := t4, suppInstance := r4, suppNotFinal := r5, msgInstance := x4, msgNotFinal := x5, stackApartSupp := hap, file := m3, mlink1 := m1, mright1 := m2, pool1 := m4, mlink27 := m5, mright27 := m6, pool27 := m8, mlink202 := m9, mright202 := m10, pool202 := m12,
      link7 := p1, right7 := p2, at7 := p3, link13 := s1, right13 := s2, at13 := s3, link17 := q1, right17 := q2, at17 := q3, link20 := t1, right20 := t2, at20 := t3, link24 := r1, right24 := r2, at24 := r3 }, hc, c1, a1, q8, s12, q7⟩
/-- what a Stand says of the cells of its start -/
theorem oprStand (X : Stand p l e R s m args below meth c T locs cells slots) (hs : s.heap = h0) (hL : ∀ y ∈ locs, y.base ∈ ws) (hst : ∀ x ∈ ws, ∀ cl : Cell, h0[x]? = some cl → cl.vm.isStatics = false) : OPr h0 ws T.heap locs := by
  subst hs
  obtain ⟨-, q2, -, -, -, q6⟩ := X.same
  have other : ∀ (x : Addr) (cl : Cell), s.heap[x]? = some cl → x ∉ ws → T.heap[x]? = some cl := fun x cl r ne => by
    obtain ⟨c', z1, z2, z3, z4⟩ := q6 x cl r
    have : c'.slots = cl.slots := Array.ext_getElem? fun i => z4 i fun hm => ne (hL _ hm)
    exact z1.trans (by rw [z2, this])
  refine ⟨⟨q2, other, fun x cl r => ?_⟩, fun x cl r1 r2 => other x cl r1 fun hm => ?_, fun y hy => Or.inl (hL y hy)⟩
  · obtain ⟨c', z1, z2, z3, z4⟩ := q6 x cl r
    exact ⟨c', z1, by rw [z2], by rw [z2], z3⟩
  · have := hst x hm cl r1; rw [r2] at this; cases this
theorem g_fill (X : Stand p l e R s m args below meth c T locs cells slots) (hx : p.tables.exec = Jvm.exec) (hl : l.stackTraces = true) (hZ : Z.Warmed39 s.vm) (hown : s.vm.findClass Bundle.tN = some m.cls) {rc : String} {n : Nat} (wA : ∀ d ∈ tAt rc, d.before a0 Z = true) (wi : (Jvm.Cond.instantiable rc n).before a0 Z = true)
    (hT0 : ThS Z s.heap) (hs : s.heap = h0) (hTK : s.vm.MethodsKnown) (hBelow : s.vm.FramesKnown below) (eT : T.heap = h) {a : Addr} (E0 : Exa Z h0 a rc) (N0 : Unt h0 a) (hlo : ∀ y ∈ locs, y.base ∈ [a]) (E : Exa Z h a rc) (N : Unt h a) {u : Value} (hu : u.isRef = true) (FS : Fld Z h a Bundle.tN "stackTrace" Bundle.steD u) (SU : Sta Z h Bundle.tN "UNASSIGNED_STACK" Bundle.steD u) (FB : Fld Z h a Bundle.tN "backtrace" Jvm.Free.Exc.obD .null)
    (hsize : Ls.size = c.maxLocals) (hd : decode c.code pc = .ok (.invokevirtual 27, 3)) (hp : pc + 3 = pc') {W : Nat} (hW : (st.map fun v => v.category).sum ≤ W) (hf : 3 ≤ R.frames) (hlc : W + 42 ≤ R.locals) (hc : cells + 1 ≤ R.cells) (hsl : slots + 2752 ≤ R.slots)
    (k : ∀ T' h' L, Stand p l e R s m args below meth c T' (locs ++ L) (cells + 1) (slots + 2752) → T'.heap = h' → OPr h0 [a] h' (locs ++ L) → (∃ v, Fld Z h' a Bundle.tN "detailMessage" Jvm.Free.Exc.msgD v) → OGo p e below K T' (mkF m pc' Ls (.ref a :: st))) : OGo p e below K T (mkF m pc Ls (.ref a :: st)) := by
  subst hp eT
  have W1 : ∀ d ∈ tAt rc, d.before args s = true := fun d hd => mvX hT0 hZ (List.all_eq_true.mp tOk d hd) (wA d hd)
  have w : ∀ (k : Nat) {d : Jvm.Cond}, (tAt rc)[k]? = some d → d.before args s = true := fun k d q => W1 d (List.mem_of_getElem? q)
  have htr : e.platform.stackTraces = true := by rw [X.admits.platform]; exact hl
  have o3 : e.platform.magicAccessors = ({} : Platform).magicAccessors := by rw [X.admits.platform]
  obtain ⟨Tc, L, y1, y2, y3, y4, y5, y6⟩ := tLinks (by rw [X.admits.platform]) (by rw [X.admits.platform]) o3 W1
  obtain ⟨cell, hcell, hvm, hmon⟩ := N
  obtain ⟨cE, kZ, e1, e2, e3, -, e5⟩ := E
  cases e1.symm.trans hcell
  have hfound : s.vm.findClass rc = some cell.cls := by rw [hZ.alike.findClass]; exact e2
  obtain ⟨cX, kX, x1, x2, x3, -⟩ := Cond.instantiable_spec (mv hZ wi : (Jvm.Cond.instantiable rc n).before args s = true)
  cases hfound.symm.trans x1
  obtain ⟨k', z1, z2⟩ := hZ.alike.2.2 _ _ e3
  cases x2.symm.trans z1
  have hsz : cell.slots.size = kX.instanceTypes.size := by
    have e5' : kZ.kind = .ordinary → cell.slots.size = kZ.instanceTypes.size := e5
    rw [z2] at x3 ⊢; exact e5' x3
  have tk : ∀ {f : Field} {v : Value}, kX.instanceTypes[f.slot]? = some f.type → fits f.type v = true → Jvm.Takes s cell f v := fun {f v} h1 h2 => by
    obtain ⟨q1, q2⟩ := Takes.of_laid (v := v) x2 x3 h1 h2
    exact ⟨by rw [hsz]; simpa using q1, by rw [hvm]; exact q2⟩
  obtain ⟨cS, _, kS, iS, fS, s1, s2, -, -, -, -, s7⟩ := FS
  cases s1.symm.trans hcell
  obtain ⟨k2, g1, -⟩ := State.fieldFound?_setVm hZ.alike s2
  cases (show s.fieldFound? Bundle.tN "stackTrace" Bundle.steD = _ from g1).symm.trans y4
  obtain ⟨cB, _, kB, iB, fB, b1, b2, b3, -, -, -, b7⟩ := FB
  cases b1.symm.trans hcell
  obtain ⟨k3, g2, -⟩ := State.fieldFound?_setVm hZ.alike b2
  have g2' : s.fieldFound? Bundle.tN "backtrace" Jvm.Free.Exc.obD = _ := g2
  obtain ⟨_, _, kU, fU, sa, cellS, u1, -, -, u4, u5, u6, u7⟩ := SU
  obtain ⟨k4, g3, h4⟩ := State.fieldFound?_setVm hZ.alike u1
  cases (show s.fieldFound? Bundle.tN "UNASSIGNED_STACK" Bundle.steD = _ from g3).symm.trans y5
  cases (show Tc.kT.statics = some sa by rw [h4]; exact u4).symm.trans L.statics
  have hneS : Tc.aS ≠ a := fun q => by rw [q, hcell] at u5; cases Option.some.inj u5; rw [hvm] at u6; cases u6
  have hsel0 : selectMethod e.platform s.vm cell.cls Tc.fill0 = .method Tc.fill0 := by
    obtain ⟨c2, r2, m2, q1, q2, q3, q4, -⟩ := Cond.selects_spec (w 22 rfl)
    cases hfound.symm.trans q1
    cases (State.methodFound?_of_named y3 (by decide)).symm.trans q2
    cases y3.symm.trans q3
    rw [Launch.admits_selectMethod X.admits]; exact q4
  obtain ⟨ci198, j198, fB', l1, l2, l3, l4, -, l6, l7, l8⟩ := Cond.ownField (C' := rc) (t := .object "java/lang/Object") y1 L.cls (by decide +kernel) (w 23 rfl) (w 24 rfl) e.platform o3
  cases g2'.symm.trans l8
  obtain ⟨-, -, _, kD, iD, fD, -, -, d1, d2, -, -, -, -⟩ := Cond.lays_spec (w 28 rfl)
  cases (Cond.lays_declared (w 28 rfl) d1).symm.trans y1
  obtain ⟨d3, d4⟩ := State.fieldFound?_spec d1
  cases d3.symm.trans L.cls
  obtain ⟨d5, d6⟩ := State.fieldFound?_type d1 (t := .int) (by decide +kernel)
  have hfb := Cond.soleField_find y1 L.cls (w 26 rfl) l3 l6 l4
  have hfd := Cond.soleField_find y1 L.cls (w 27 rfl) d4 d5 d2
  obtain ⟨comp, cO, kO, -, -, hkO, hkindO, hO⟩ := Cond.arrayOver_spec (w 25 rfl)
  obtain ⟨tyS, -⟩ := Cond.laysAt hfound x2 y4 (w 14 rfl)
  obtain ⟨tyB, -⟩ := Cond.laysAt hfound x2 l8 (w 24 rfl)
  obtain ⟨tyD, -⟩ := Cond.laysAt hfound x2 d1 (w 28 rfl)
  have hSE : (Jvm.Cond.selects rc Bundle.tFill Bundle.tFill).before args s = true := w 30 rfl
  obtain ⟨v6, vm6, ⟨T6, L6, c6, n6⟩, -, X6, ⟨hv6, C6, nn, hn, -, -, -, -, -, hL6, hc6, hn6⟩, r⟩ := X.virtualBack hx (own := Bundle.tN) (C := rc) (index := 27) (y := Bundle.tFill) (z := Bundle.tFill) hown (w 9 rfl) (w 29 rfl) (notFace_of_selects hSE) hSE (w 3 rfl) (by decide)
    (Jvm.Free.Exc.fillPaysAny (l := l) (R := R) (sargs := args) (len := 3) (W := W) hx htr Tc L y2 (u0 := ⟨u, hu⟩) (self := a) (cell := cell) (cellS := cellS) (fun _ => by rw [hvm]; simp) (by rw [hvm]; simp) (by rw [hmon]) (by rw [hmon]) s7 hsel0 hneS (fun q => by rw [q] at u6; cases u6) u7 (tk tyS (by rw [y6]; exact fits_refV_array _ ⟨u, hu⟩))
      ⟨⟨ci198, _, fB⟩, ⟨l1, l2, l3, l4⟩, b7⟩ hTK hBelow y1 hO hkO hkindO hfb hfd (fun x => tk tyB (by rw [l7]; rfl)) (fun x => tk tyD (by rw [d6]; rfl)) (by omega) (by omega))
    (b := a) (cB := cell.cls) hfound ⟨cell, hcell, rfl, by rw [hvm]; rfl⟩ (g := mkF m pc Ls (.ref a :: st)) rfl hsize (Steps.refl _) (argsL := []) (rest := st)
    (fun sig h => by rw [show parseMethodDescriptor Bundle.tFill.desc = some ⟨[], some (.object Bundle.tN)⟩ from by decide +kernel] at h; rw [← Option.some.inj h]; rfl) rfl (by show 2 * 0 + _ ≤ _; omega) hd
    (fun vmx hWx => ⟨rfl, hc, hsl, hcell, u5⟩)
  dsimp only [Pt.U, Pt.locs, Pt.cells, Pt.slots] at X6 hL6 hc6 hn6 r
  subst hv6 hL6 hc6 hn6
  have P6 : OPr h0 [a] T6.heap (locs ++ [⟨a, fB.slot⟩, ⟨a, fD.slot⟩, ⟨a, Tc.fStack.slot⟩]) := oprStand X6 hs (fun y hy => by
    rcases List.mem_append.mp hy with q | q
    · exact hlo y q
    · simp only [List.mem_cons, List.not_mem_nil, or_false] at q
      rcases q with rfl | rfl | rfl <;> exact List.mem_singleton_self a) (fun x hx' cl r => by cases List.mem_singleton.mp hx'; exact N0.nostat cl r)
  obtain ⟨c0, n1, n2, -⟩ := N0
  obtain ⟨c1, n3, -, n5, -⟩ := P6.1.2.2 a c0 n1
  have FM := fld_laid (O := Bundle.tN) (n := "detailMessage") (d := Jvm.Free.Exc.msgD) (exaP E0 P6) ⟨c1, n3, by rw [n5, n2]; simp⟩ wi (Or.inl (wA _ (List.mem_of_getElem? (i := 21) rfl)))
  exact (k T6 _ _ (X6.more (Nat.le_refl _) (Nat.add_le_add_left hn _)) rfl P6 FM).tr r
end Own2
theorem capNe {len : Int64} (hp : 0 < len) : (if 2147483647 < len then 2147483647 else len : Int64) ≠ 0 := by
  split
  · decide
  · intro r; rw [r] at hp; exact absurd hp (by decide)
theorem strA {Z : State} {a0 : Array Value} (hw : ∀ d ∈ tables_1, d.before a0 Z = true) : ∀ a ∈ Bundle.stringAtoms, a.before a0 Z = true := fun a ha => hw a (subOf (by decide +kernel) a ha)
theorem tTab {Z : State} {a0 : Array Value} (hw : ∀ d ∈ tables_1, d.before a0 Z = true) : ∀ d ∈ tAt "java/io/IOException", d.before a0 Z = true := fun d hd => hw d (subOf (by decide +kernel) d hd)
theorem d3_0 : decode jdk_68_method_2_code 0 = .ok (.aload_n 0, 1) := by decide +kernel
theorem d3_1 : decode jdk_68_method_2_code 1 = .ok (.invokespecial 3, 3) := by decide +kernel
theorem d3_4 : decode jdk_68_method_2_code 4 = .ok (.getstatic 18, 3) := by decide +kernel
theorem d3_7 : decode jdk_68_method_2_code 7 = .ok (.ifCond .eq 18, 3) := by decide +kernel
theorem d3_10 : decode jdk_68_method_2_code 10 = .ok (.aload_n 0, 1) := by decide +kernel
theorem d3_11 : decode jdk_68_method_2_code 11 = .ok (.iload_n 1, 1) := by decide +kernel
theorem d3_12 : decode jdk_68_method_2_code 12 = .ok (.newarray .byte, 2) := by decide +kernel
theorem d3_14 : decode jdk_68_method_2_code 14 = .ok (.putfield 15, 3) := by decide +kernel
theorem d3_17 : decode jdk_68_method_2_code 17 = .ok (.aload_n 0, 1) := by decide +kernel
theorem d3_18 : decode jdk_68_method_2_code 18 = .ok (.iconst 0, 1) := by decide +kernel
theorem d3_19 : decode jdk_68_method_2_code 19 = .ok (.putfield 22, 3) := by decide +kernel
theorem d3_22 : decode jdk_68_method_2_code 22 = .ok (.goto 16, 3) := by decide +kernel
theorem d3_38 : decode jdk_68_method_2_code 38 = .ok (.return_, 1) := by decide +kernel
theorem pn_rm_ab : plainFor (⟨"java/lang/AbstractStringBuilder", "<init>", "(I)V"⟩ : MethodName) = true := by first | exact plainFor_of_name (by first | (simp [plainName, overriddenIn]; done) | decide +kernel) | decide +kernel
set_option maxRecDepth 65536 in
set_option maxHeartbeats 40000000 in
theorem rm_ab {l : Launch} {Z : State} {a0 : Array Value} (hw : ∀ d ∈ tables_1, d.before a0 Z = true) (a : Addr) (cs : Int32) {h0 : Heap} (I0 : Exa Z h0 a "java/lang/StringBuilder") (I1 : Fld Z h0 a "java/lang/AbstractStringBuilder" "value" "[B" .null) (I2 : Fld Z h0 a "java/lang/AbstractStringBuilder" "coder" "B" (.int (0 : Int32))) (I3 : Sta Z h0 "java/lang/String" "COMPACT_STRINGS" "Z" (.int cs)) (hcs : ¬ cs = 0) :
    OMet l (⟨"java/lang/AbstractStringBuilder", "<init>", "(I)V"⟩ : MethodName) jdk_68_method_2_code 2 (Option.none : Option Jvm.ClassFile.FieldType) ({ frames := 1, cells := 1, slots := 16, locals := 12 } : Room) #[(.ref a), (.int (16 : Int32))] Z h0 (fun vR hR LR => vR = none ∧ OPr h0 [a] hR LR) := by
  refine OMet.body pn_rm_ab (Ls := #[.val (.ref a), .val (.int (16 : Int32))]) (fun m => by first | (simp [entryFrame, mkF, argsToLocals, Value.category]; done) | rfl) ?_
  intro p e s m below meth c T0 K hK X0 hx hby hml hown hnm hret hlk hZ eh0
  have P0 := OPr.refl h0 [a]
  refine g_aloadN X0 hx (hb hby d3_0) (rfl : 0 + 1 = 1) rfl rfl ?_
  refine g_inito X0 hx hZ hown (wd hw 22 rfl) (wd hw 8 rfl) (wd hw 9 rfl) eh0 (by rw [hml]; rfl) (hb hby d3_1) (rfl : 1 + 3 = 4) (by decide) (W := 0) (Nat.le_of_eq rfl) (by decide) fun T1 X1 eh1 => ?_
  refine g_gets X1 hx hZ hown (host := "") (Or.inl (wd hw 23 rfl)) Via.refl eh1 I3 (hb hby d3_4) (rfl : 4 + 3 = 7) fun T2 X2 eh2 => ?_
  refine g_ifN X2 hx (hb hby d3_7) (XT.i0_eq_f hcs) (rfl : 7 + 3 = 10) ?_
  refine g_aloadN X2 hx (hb hby d3_10) (rfl : 10 + 1 = 11) rfl rfl ?_
  refine g_iloadN X2 hx (hb hby d3_11) (rfl : 11 + 1 = 12) rfl ?_
  refine g_newarray X2 hx hZ (ad := "[B") (by decide) (wd hw 25 rfl) eh2 (vs := [(.int (0 : Int32)), (.int (0 : Int32)), (.int (0 : Int32)), (.int (0 : Int32)), (.int (0 : Int32)), (.int (0 : Int32)), (.int (0 : Int32)), (.int (0 : Int32)), (.int (0 : Int32)), (.int (0 : Int32)), (.int (0 : Int32)), (.int (0 : Int32)), (.int (0 : Int32)), (.int (0 : Int32)), (.int (0 : Int32)), (.int (0 : Int32))]) (by decide) (by rfl) (cap := 16) (by decide) (by decide) P0 (hb hby d3_12) (rfl : 12 + 2 = 14) (by decide) (by decide) fun T3 hh3 a3 k3 q3 g3 X3 eh3 E3 P3 A3 B3 => ?_
  have F4 := (I1.ext E3)
  have F5 := (I0.ext E3)
  refine g_putf X3 hx hZ hown (host := "") (Or.inl (wd hw 26 rfl)) Via.refl eh3 F4 F5 (Or.inl (wd hw 27 rfl)) (wd hw 11 rfl) (ty := (.array .byte)) (by decide) rfl rfl P3 (Or.inl (List.mem_of_getElem? (i := 0) rfl)) (hb hby d3_14) (rfl : 14 + 3 = 17) fun T6 hh6 X6 eh6 W6 P6 F6 => ?_
  refine g_aloadN X6 hx (hb hby d3_17) (rfl : 17 + 1 = 18) rfl rfl ?_
  refine g_iconst X6 hx (0 : Int32) (hb hby d3_18) (rfl : 18 + 1 = 19) (by decide) ?_
  have F7 := ((I2.ext E3).other W6 (Or.inr (slot_ne (Or.inl (wd hw 29 rfl)) (Or.inl (wd hw 27 rfl)) (by decide) (t := .byte) (by decide) (t' := (.array .byte)) (by decide))))
  have F8 := (F5.wr W6)
  refine g_putf X6 hx hZ hown (host := "") (Or.inl (wd hw 28 rfl)) Via.refl eh6 F7 F8 (Or.inl (wd hw 29 rfl)) (wd hw 11 rfl) (ty := .byte) (by decide) (by decide) (by decide) P6 (Or.inl (List.mem_of_getElem? (i := 0) rfl)) (hb hby d3_19) (rfl : 19 + 3 = 22) fun T9 hh9 X9 eh9 W9 P9 F9 => ?_
  refine g_goto X9 hx (hb hby d3_22) (by decide) (pc' := 38) (by decide) ?_
  exact g_ret0 X9 hx hret hlk (hb hby d3_38) (by decide) (by decide) eh9 hK ⟨rfl, P9⟩
theorem d2_0 : decode jdk_67_method_1_code 0 = .ok (.aload_n 0, 1) := by decide +kernel
theorem d2_1 : decode jdk_67_method_1_code 1 = .ok (.bipush 16, 2) := by decide +kernel
theorem d2_3 : decode jdk_67_method_1_code 3 = .ok (.invokespecial 1, 3) := by decide +kernel
theorem d2_6 : decode jdk_67_method_1_code 6 = .ok (.return_, 1) := by decide +kernel
theorem pn_rm_sb : plainFor (⟨"java/lang/StringBuilder", "<init>", "()V"⟩ : MethodName) = true := by first | exact plainFor_of_name (by first | (simp [plainName, overriddenIn]; done) | decide +kernel) | decide +kernel
set_option maxRecDepth 65536 in
set_option maxHeartbeats 40000000 in
theorem rm_sb {l : Launch} {Z : State} {a0 : Array Value} (hw : ∀ d ∈ tables_1, d.before a0 Z = true) (a : Addr) (cs : Int32) {h0 : Heap} (I0 : Exa Z h0 a "java/lang/StringBuilder") (I1 : Fld Z h0 a "java/lang/AbstractStringBuilder" "value" "[B" .null) (I2 : Fld Z h0 a "java/lang/AbstractStringBuilder" "coder" "B" (.int (0 : Int32))) (I3 : Sta Z h0 "java/lang/String" "COMPACT_STRINGS" "Z" (.int cs)) (hcs : ¬ cs = 0) :
    OMet l (⟨"java/lang/StringBuilder", "<init>", "()V"⟩ : MethodName) jdk_67_method_1_code 1 (Option.none : Option Jvm.ClassFile.FieldType) ({ frames := 2, cells := 1, slots := 16, locals := 25 } : Room) #[(.ref a)] Z h0 (fun vR hR LR => vR = none ∧ OPr h0 [a] hR LR) := by
  refine OMet.body pn_rm_sb (Ls := #[.val (.ref a)]) (fun m => by first | (simp [entryFrame, mkF, argsToLocals, Value.category]; done) | rfl) ?_
  intro p e s m below meth c T0 K hK X0 hx hby hml hown hnm hret hlk hZ eh0
  have P0 := OPr.refl h0 [a]
  refine g_aloadN X0 hx (hb hby d2_0) (rfl : 0 + 1 = 1) rfl rfl ?_
  refine g_bipush X0 hx (16 : Int32) (hb hby d2_1) (rfl : 1 + 2 = 3) (by decide) ?_
  refine g_special X0 hx hZ hown eh0 (rm_ab hw a cs I0 I1 I2 I3 hcs) rfl (wd hw 16 rfl) (wd hw 17 rfl) (wd hw 21 rfl) (wd hw 20 rfl) (by decide) (a := a) (argsL := [(.int (16 : Int32))]) (rest := []) rfl rfl (ps := [.int]) (by decide) rfl (W := 0) (Nat.le_of_eq rfl) (by decide) (by decide) (by decide) (by decide) (by rw [hml]; rfl) (hb hby d2_3) (rfl : 3 + 3 = 6) fun v1 T1 hh1 L1 X1 eh1 Q1 => ?_
  obtain ⟨rfl, Pc1⟩ := Q1
  have P1 := P0.call Pc1 (allS (Or.inl (List.mem_of_getElem? (i := 0) rfl)) all0)
  show OGo p e below K T1 (mkF m 6 #[.val (.ref a)] [])
  exact g_ret0 X1 hx hret hlk (hb hby d2_6) (by decide) (by decide) eh1 hK ⟨rfl, P1⟩
theorem d0_0 : decode prog_12_method_1_code 0 = .ok (.aload_n 0, 1) := by decide +kernel
theorem d0_1 : decode prog_12_method_1_code 1 = .ok (.invokespecial 1, 3) := by decide +kernel
theorem d0_4 : decode prog_12_method_1_code 4 = .ok (.aload_n 0, 1) := by decide +kernel
theorem d0_5 : decode prog_12_method_1_code 5 = .ok (.new 7, 3) := by decide +kernel
theorem d0_8 : decode prog_12_method_1_code 8 = .ok (.dup, 1) := by decide +kernel
theorem d0_9 : decode prog_12_method_1_code 9 = .ok (.invokespecial 9, 3) := by decide +kernel
theorem d0_12 : decode prog_12_method_1_code 12 = .ok (.putfield 10, 3) := by decide +kernel
theorem d0_15 : decode prog_12_method_1_code 15 = .ok (.aload_n 0, 1) := by decide +kernel
theorem d0_16 : decode prog_12_method_1_code 16 = .ok (.lload_n 1, 1) := by decide +kernel
theorem d0_17 : decode prog_12_method_1_code 17 = .ok (.ldc2_w 18, 3) := by decide +kernel
theorem d0_20 : decode prog_12_method_1_code 20 = .ok (.lcmp, 1) := by decide +kernel
theorem d0_21 : decode prog_12_method_1_code 21 = .ok (.ifCond .ne 7, 3) := by decide +kernel
theorem d0_24 : decode prog_12_method_1_code 24 = .ok (.iconst 1, 1) := by decide +kernel
theorem d0_25 : decode prog_12_method_1_code 25 = .ok (.goto 4, 3) := by decide +kernel
theorem d0_28 : decode prog_12_method_1_code 28 = .ok (.iconst 0, 1) := by decide +kernel
theorem d0_29 : decode prog_12_method_1_code 29 = .ok (.putfield 20, 3) := by decide +kernel
theorem d0_32 : decode prog_12_method_1_code 32 = .ok (.aload_n 0, 1) := by decide +kernel
theorem d0_33 : decode prog_12_method_1_code 33 = .ok (.aload_n 0, 1) := by decide +kernel
theorem d0_34 : decode prog_12_method_1_code 34 = .ok (.getfield 20, 3) := by decide +kernel
theorem d0_37 : decode prog_12_method_1_code 37 = .ok (.ifCond .eq 9, 3) := by decide +kernel
theorem d0_40 : decode prog_12_method_1_code 40 = .ok (.ldc2_w 18, 3) := by decide +kernel
theorem d0_43 : decode prog_12_method_1_code 43 = .ok (.goto 4, 3) := by decide +kernel
theorem d0_46 : decode prog_12_method_1_code 46 = .ok (.lload_n 1, 1) := by decide +kernel
theorem d0_47 : decode prog_12_method_1_code 47 = .ok (.putfield 24, 3) := by decide +kernel
theorem d0_50 : decode prog_12_method_1_code 50 = .ok (.aload_n 0, 1) := by decide +kernel
theorem d0_51 : decode prog_12_method_1_code 51 = .ok (.lload_n 1, 1) := by decide +kernel
theorem d0_52 : decode prog_12_method_1_code 52 = .ok (.lconst 0, 1) := by decide +kernel
theorem d0_53 : decode prog_12_method_1_code 53 = .ok (.lcmp, 1) := by decide +kernel
theorem d0_54 : decode prog_12_method_1_code 54 = .ok (.ifCond .ne 7, 3) := by decide +kernel
theorem d0_57 : decode prog_12_method_1_code 57 = .ok (.iconst 1, 1) := by decide +kernel
theorem d0_58 : decode prog_12_method_1_code 58 = .ok (.goto 4, 3) := by decide +kernel
theorem d0_61 : decode prog_12_method_1_code 61 = .ok (.iconst 0, 1) := by decide +kernel
theorem d0_62 : decode prog_12_method_1_code 62 = .ok (.putfield 28, 3) := by decide +kernel
theorem d0_65 : decode prog_12_method_1_code 65 = .ok (.return_, 1) := by decide +kernel
theorem pn_rm_br : plainFor (⟨"com/example/twofold/twofold/io/http/BodyReader", "<init>", "(J)V"⟩ : MethodName) = true := by first | exact plainFor_of_name (by first | (simp [plainName, overriddenIn]; done) | decide +kernel) | decide +kernel
set_option maxRecDepth 65536 in
set_option maxHeartbeats 40000000 in
theorem rm_br {l : Launch} {Z : State} {a0 : Array Value} (hw : ∀ d ∈ tables_1, d.before a0 Z = true) (a : Addr) (len : Int64) (cs : Int32) {h0 : Heap} (I0 : Exa Z h0 a "com/example/twofold/twofold/io/http/BodyReader") (I1 : Fld Z h0 a "com/example/twofold/twofold/io/http/BodyReader" "chunked" "Z" (.int (0 : Int32))) (I2 : Fld Z h0 a "com/example/twofold/twofold/io/http/BodyReader" "remaining" "J" (.long (0 : Int64))) (I3 : Fld Z h0 a "com/example/twofold/twofold/io/http/BodyReader" "ended" "Z" (.int (0 : Int32))) (I4 : Fld Z h0 a "com/example/twofold/twofold/io/http/BodyReader" "failure" "Ljava/io/IOException;" .null) (I5 : Fld Z h0 a "com/example/twofold/twofold/io/http/BodyReader" "sizeLine" "Ljava/lang/StringBuilder;" .null) (I6 : Sta Z h0 "java/lang/String" "COMPACT_STRINGS" "Z" (.int cs)) (I7 : Fld Z h0 a "com/example/twofold/twofold/io/http/BodyReader" "lineEnd" "I" (.int (0 : Int32))) (hcs : ¬ cs = 0) :
    OMet l (⟨"com/example/twofold/twofold/io/http/BodyReader", "<init>", "(J)V"⟩ : MethodName) prog_12_method_1_code 3 (Option.none : Option Jvm.ClassFile.FieldType) ({ frames := 3, cells := 2, slots := 20, locals := 39 } : Room) #[(.ref a), (.long len)] Z h0 (fun vR hR LR => vR = none ∧ OPr h0 [a] hR LR ∧ Fld Z hR a "com/example/twofold/twofold/io/http/BodyReader" "chunked" "Z" (.int (if len = -1 then 1 else 0 : Int32)) ∧ Fld Z hR a "com/example/twofold/twofold/io/http/BodyReader" "remaining" "J" (.long len) ∧ Fld Z hR a "com/example/twofold/twofold/io/http/BodyReader" "ended" "Z" (.int (if len = 0 then 1 else 0 : Int32)) ∧ Fld Z hR a "com/example/twofold/twofold/io/http/BodyReader" "failure" "Ljava/io/IOException;" .null ∧ Fld Z hR a "com/example/twofold/twofold/io/http/BodyReader" "lineEnd" "I" (.int (0 : Int32))) := by
  refine OMet.body pn_rm_br (Ls := #[.val (.ref a), .val (.long len), .second]) (fun m => by first | (simp [entryFrame, mkF, argsToLocals, Value.category]; done) | rfl) ?_
  intro p e s m below meth c T0 K hK X0 hx hby hml hown hnm hret hlk hZ eh0
  have P0 := OPr.refl h0 [a]
  refine g_aloadN X0 hx (hb hby d0_0) (rfl : 0 + 1 = 1) rfl rfl ?_
  refine g_inito X0 hx hZ hown (wd hw 7 rfl) (wd hw 8 rfl) (wd hw 9 rfl) eh0 (by rw [hml]; rfl) (hb hby d0_1) (rfl : 1 + 3 = 4) (by decide) (W := 0) (Nat.le_of_eq rfl) (by decide) fun T1 X1 eh1 => ?_
  refine g_aloadN X1 hx (hb hby d0_4) (rfl : 4 + 1 = 5) rfl rfl ?_
  refine g_new X1 hx hZ hown (wd hw 10 rfl) (wd hw 11 rfl) (wd hw 12 rfl) eh1 P0 (hb hby d0_5) (rfl : 5 + 3 = 8) (by decide) (by decide) fun T2 hh2 a2 q2 g2 X2 eh2 E2 P2 A2 D2 => ?_
  have f3 : Fld Z hh2 a2 "java/lang/AbstractStringBuilder" "value" "[B" .null := D2 (Or.inl (wd hw 27 rfl)) (ty := (.array .byte)) (by decide)
  have f4 : Fld Z hh2 a2 "java/lang/AbstractStringBuilder" "coder" "B" (.int (0 : Int32)) := D2 (Or.inl (wd hw 29 rfl)) (ty := .byte) (by decide)
  refine g_dup X2 hx (hb hby d0_8) (rfl : 8 + 1 = 9) rfl ?_
  have F6 := (I6.ext E2)
  refine g_special X2 hx hZ hown eh2 (rm_sb hw a2 cs A2 f3 f4 F6 hcs) rfl (wd hw 13 rfl) (wd hw 14 rfl) (wd hw 15 rfl) (wd hw 12 rfl) (by decide) (a := a2) (argsL := []) (rest := [(.ref a2), (.ref a)]) rfl rfl (ps := []) (by decide) rfl (W := 2) (Nat.le_of_eq rfl) (by decide) (by decide) (by decide) (by decide) (by rw [hml]; rfl) (hb hby d0_9) (rfl : 9 + 3 = 12) fun v5 T5 hh5 L5 X5 eh5 Q5 => ?_
  obtain ⟨rfl, Pc5⟩ := Q5
  have P5 := P2.call Pc5 (allS (Or.inr g2) all0)
  show OGo p e below K T5 (mkF m 12 #[.val (.ref a), .val (.long len), .second] [(.ref a2), (.ref a)])
  have ne7 : a ≠ a2 := Nat.ne_of_lt (Nat.lt_of_lt_of_le I0.lt (Nat.le_of_eq q2.symm))
  have F8 := (fldP (I5.ext E2) Pc5 (ninS ne7 nin0))
  have F9 := (exaP I0 P5)
  refine g_putf X5 hx hZ hown (host := "") (Or.inl (wd hw 30 rfl)) Via.refl eh5 F8 F9 (Or.inr ⟨(wd hw 31 rfl), rfl, hnm⟩) (wd hw 2 rfl) (ty := (.object "java/lang/StringBuilder")) (by decide) rfl rfl P5 (Or.inl (List.mem_of_getElem? (i := 0) rfl)) (hb hby d0_12) (rfl : 12 + 3 = 15) fun T10 hh10 X10 eh10 W10 P10 F10 => ?_
  refine g_aloadN X10 hx (hb hby d0_15) (rfl : 15 + 1 = 16) rfl rfl ?_
  refine g_lloadN X10 hx (hb hby d0_16) (rfl : 16 + 1 = 17) rfl ?_
  refine g_ldc2J X10 hx hZ hown (wd hw 32 rfl) (hb hby d0_17) (rfl : 17 + 3 = 20) ?_
  refine g_lcmp X10 hx (hb hby d0_20) (rfl : 20 + 1 = 21) ?_
  by_cases hm : len = (-1 : Int64)
  · refine g_ifN X10 hx (hb hby d0_21) (XT.ll_ne_f hm) (rfl : 21 + 3 = 24) ?_
    refine g_iconst X10 hx (1 : Int32) (hb hby d0_24) (rfl : 24 + 1 = 25) (by decide) ?_
    refine g_goto X10 hx (hb hby d0_25) (by decide) (pc' := 29) (by decide) ?_
    have F11 := ((fldP (I1.ext E2) Pc5 (ninS ne7 nin0)).other W10 (Or.inr (slot_ne (Or.inr (wd hw 34 rfl)) (Or.inr (wd hw 31 rfl)) (by decide) (t := .boolean) (by decide) (t' := (.object "java/lang/StringBuilder")) (by decide))))
    have F12 := (F9.wr W10)
    refine g_putf X10 hx hZ hown (host := "") (Or.inl (wd hw 33 rfl)) Via.refl eh10 F11 F12 (Or.inr ⟨(wd hw 34 rfl), rfl, hnm⟩) (wd hw 2 rfl) (ty := .boolean) (by decide) (by decide) (by decide) P10 (Or.inl (List.mem_of_getElem? (i := 0) rfl)) (hb hby d0_29) (rfl : 29 + 3 = 32) fun T13 hh13 X13 eh13 W13 P13 F13 => ?_
    refine g_aloadN X13 hx (hb hby d0_32) (rfl : 32 + 1 = 33) rfl rfl ?_
    refine g_aloadN X13 hx (hb hby d0_33) (rfl : 33 + 1 = 34) rfl rfl ?_
    refine g_getf X13 hx hZ hown (host := "") (Or.inl (wd hw 33 rfl)) Via.refl eh13 F13 (hb hby d0_34) (rfl : 34 + 3 = 37) fun T14 X14 eh14 => ?_
    refine g_ifN X14 hx (hb hby d0_37) (XT.i0_eq_f (by decide)) (rfl : 37 + 3 = 40) ?_
    refine g_ldc2J X14 hx hZ hown (wd hw 32 rfl) (hb hby d0_40) (rfl : 40 + 3 = 43) ?_
    refine g_goto X14 hx (hb hby d0_43) (by decide) (pc' := 47) (by decide) ?_
    have F15 := (((fldP (I2.ext E2) Pc5 (ninS ne7 nin0)).other W10 (Or.inr (slot_ne (Or.inl (wd hw 36 rfl)) (Or.inr (wd hw 31 rfl)) (by decide) (t := .long) (by decide) (t' := (.object "java/lang/StringBuilder")) (by decide)))).other W13 (Or.inr (slot_ne (Or.inl (wd hw 36 rfl)) (Or.inr (wd hw 34 rfl)) (by decide) (t := .long) (by decide) (t' := .boolean) (by decide))))
    have F16 := (F12.wr W13)
    refine g_putf X14 hx hZ hown (host := "") (Or.inl (wd hw 35 rfl)) Via.refl eh14 F15 F16 (Or.inl (wd hw 36 rfl)) (wd hw 2 rfl) (ty := .long) (by decide) rfl rfl P13 (Or.inl (List.mem_of_getElem? (i := 0) rfl)) (hb hby d0_47) (rfl : 47 + 3 = 50) fun T17 hh17 X17 eh17 W17 P17 F17 => ?_
    refine g_aloadN X17 hx (hb hby d0_50) (rfl : 50 + 1 = 51) rfl rfl ?_
    refine g_lloadN X17 hx (hb hby d0_51) (rfl : 51 + 1 = 52) rfl ?_
    refine g_lconst X17 hx (0 : Int64) (hb hby d0_52) (rfl : 52 + 1 = 53) (by decide) ?_
    refine g_lcmp X17 hx (hb hby d0_53) (rfl : 53 + 1 = 54) ?_
    by_cases hz : len = (0 : Int64)
    · refine g_ifN X17 hx (hb hby d0_54) (XT.ll_ne_f hz) (rfl : 54 + 3 = 57) ?_
      refine g_iconst X17 hx (1 : Int32) (hb hby d0_57) (rfl : 57 + 1 = 58) (by decide) ?_
      refine g_goto X17 hx (hb hby d0_58) (by decide) (pc' := 62) (by decide) ?_
      have F18 := ((((fldP (I3.ext E2) Pc5 (ninS ne7 nin0)).other W10 (Or.inr (slot_ne (Or.inl (wd hw 38 rfl)) (Or.inr (wd hw 31 rfl)) (by decide) (t := .boolean) (by decide) (t' := (.object "java/lang/StringBuilder")) (by decide)))).other W13 (Or.inr (slot_ne (Or.inl (wd hw 38 rfl)) (Or.inr (wd hw 34 rfl)) (by decide) (t := .boolean) (by decide) (t' := .boolean) (by decide)))).other W17 (Or.inr (slot_ne (Or.inl (wd hw 38 rfl)) (Or.inl (wd hw 36 rfl)) (by decide) (t := .boolean) (by decide) (t' := .long) (by decide))))
      have F19 := (F16.wr W17)
      refine g_putf X17 hx hZ hown (host := "") (Or.inl (wd hw 37 rfl)) Via.refl eh17 F18 F19 (Or.inl (wd hw 38 rfl)) (wd hw 2 rfl) (ty := .boolean) (by decide) (by decide) (by decide) P17 (Or.inl (List.mem_of_getElem? (i := 0) rfl)) (hb hby d0_62) (rfl : 62 + 3 = 65) fun T20 hh20 X20 eh20 W20 P20 F20 => ?_
      have F21 := ((F13.other W17 (Or.inr (slot_ne (Or.inr (wd hw 34 rfl)) (Or.inl (wd hw 36 rfl)) (by decide) (t := .boolean) (by decide) (t' := .long) (by decide)))).other W20 (Or.inr (slot_ne (Or.inr (wd hw 34 rfl)) (Or.inl (wd hw 38 rfl)) (by decide) (t := .boolean) (by decide) (t' := .boolean) (by decide))))
      have F22 := (F17.other W20 (Or.inr (slot_ne (Or.inl (wd hw 36 rfl)) (Or.inl (wd hw 38 rfl)) (by decide) (t := .long) (by decide) (t' := .boolean) (by decide))))
      have F23 := (((((fldP (I4.ext E2) Pc5 (ninS ne7 nin0)).other W10 (Or.inr (slot_ne (Or.inl (wd hw 45 rfl)) (Or.inr (wd hw 31 rfl)) (by decide) (t := (.object "java/io/IOException")) (by decide) (t' := (.object "java/lang/StringBuilder")) (by decide)))).other W13 (Or.inr (slot_ne (Or.inl (wd hw 45 rfl)) (Or.inr (wd hw 34 rfl)) (by decide) (t := (.object "java/io/IOException")) (by decide) (t' := .boolean) (by decide)))).other W17 (Or.inr (slot_ne (Or.inl (wd hw 45 rfl)) (Or.inl (wd hw 36 rfl)) (by decide) (t := (.object "java/io/IOException")) (by decide) (t' := .long) (by decide)))).other W20 (Or.inr (slot_ne (Or.inl (wd hw 45 rfl)) (Or.inl (wd hw 38 rfl)) (by decide) (t := (.object "java/io/IOException")) (by decide) (t' := .boolean) (by decide))))
      have F24 := (((((fldP (I7.ext E2) Pc5 (ninS ne7 nin0)).other W10 (Or.inr (slot_ne (Or.inl (wd hw 124 rfl)) (Or.inr (wd hw 31 rfl)) (by decide) (t := .int) (by decide) (t' := (.object "java/lang/StringBuilder")) (by decide)))).other W13 (Or.inr (slot_ne (Or.inl (wd hw 124 rfl)) (Or.inr (wd hw 34 rfl)) (by decide) (t := .int) (by decide) (t' := .boolean) (by decide)))).other W17 (Or.inr (slot_ne (Or.inl (wd hw 124 rfl)) (Or.inl (wd hw 36 rfl)) (by decide) (t := .int) (by decide) (t' := .long) (by decide)))).other W20 (Or.inr (slot_ne (Or.inl (wd hw 124 rfl)) (Or.inl (wd hw 38 rfl)) (by decide) (t := .int) (by decide) (t' := .boolean) (by decide))))
      exact g_ret0 X20 hx hret hlk (hb hby d0_65) (by decide) (by decide) eh20 hK ⟨rfl, P20, (by rw [if_pos hm]; exact F21), (by rw [hm]; exact F22), (by rw [if_pos hz]; exact F20), F23, F24⟩
    · refine g_ifY X17 hx (hb hby d0_54) (XT.ll_ne_t hz) (by decide) (pc' := 61) (by decide) ?_
      refine g_iconst X17 hx (0 : Int32) (hb hby d0_61) (rfl : 61 + 1 = 62) (by decide) ?_
      have F25 := ((((fldP (I3.ext E2) Pc5 (ninS ne7 nin0)).other W10 (Or.inr (slot_ne (Or.inl (wd hw 38 rfl)) (Or.inr (wd hw 31 rfl)) (by decide) (t := .boolean) (by decide) (t' := (.object "java/lang/StringBuilder")) (by decide)))).other W13 (Or.inr (slot_ne (Or.inl (wd hw 38 rfl)) (Or.inr (wd hw 34 rfl)) (by decide) (t := .boolean) (by decide) (t' := .boolean) (by decide)))).other W17 (Or.inr (slot_ne (Or.inl (wd hw 38 rfl)) (Or.inl (wd hw 36 rfl)) (by decide) (t := .boolean) (by decide) (t' := .long) (by decide))))
      have F26 := (F16.wr W17)
      refine g_putf X17 hx hZ hown (host := "") (Or.inl (wd hw 37 rfl)) Via.refl eh17 F25 F26 (Or.inl (wd hw 38 rfl)) (wd hw 2 rfl) (ty := .boolean) (by decide) (by decide) (by decide) P17 (Or.inl (List.mem_of_getElem? (i := 0) rfl)) (hb hby d0_62) (rfl : 62 + 3 = 65) fun T27 hh27 X27 eh27 W27 P27 F27 => ?_
      have F28 := ((F13.other W17 (Or.inr (slot_ne (Or.inr (wd hw 34 rfl)) (Or.inl (wd hw 36 rfl)) (by decide) (t := .boolean) (by decide) (t' := .long) (by decide)))).other W27 (Or.inr (slot_ne (Or.inr (wd hw 34 rfl)) (Or.inl (wd hw 38 rfl)) (by decide) (t := .boolean) (by decide) (t' := .boolean) (by decide))))
      have F29 := (F17.other W27 (Or.inr (slot_ne (Or.inl (wd hw 36 rfl)) (Or.inl (wd hw 38 rfl)) (by decide) (t := .long) (by decide) (t' := .boolean) (by decide))))
      have F30 := (((((fldP (I4.ext E2) Pc5 (ninS ne7 nin0)).other W10 (Or.inr (slot_ne (Or.inl (wd hw 45 rfl)) (Or.inr (wd hw 31 rfl)) (by decide) (t := (.object "java/io/IOException")) (by decide) (t' := (.object "java/lang/StringBuilder")) (by decide)))).other W13 (Or.inr (slot_ne (Or.inl (wd hw 45 rfl)) (Or.inr (wd hw 34 rfl)) (by decide) (t := (.object "java/io/IOException")) (by decide) (t' := .boolean) (by decide)))).other W17 (Or.inr (slot_ne (Or.inl (wd hw 45 rfl)) (Or.inl (wd hw 36 rfl)) (by decide) (t := (.object "java/io/IOException")) (by decide) (t' := .long) (by decide)))).other W27 (Or.inr (slot_ne (Or.inl (wd hw 45 rfl)) (Or.inl (wd hw 38 rfl)) (by decide) (t := (.object "java/io/IOException")) (by decide) (t' := .boolean) (by decide))))
      have F31 := (((((fldP (I7.ext E2) Pc5 (ninS ne7 nin0)).other W10 (Or.inr (slot_ne (Or.inl (wd hw 124 rfl)) (Or.inr (wd hw 31 rfl)) (by decide) (t := .int) (by decide) (t' := (.object "java/lang/StringBuilder")) (by decide)))).other W13 (Or.inr (slot_ne (Or.inl (wd hw 124 rfl)) (Or.inr (wd hw 34 rfl)) (by decide) (t := .int) (by decide) (t' := .boolean) (by decide)))).other W17 (Or.inr (slot_ne (Or.inl (wd hw 124 rfl)) (Or.inl (wd hw 36 rfl)) (by decide) (t := .int) (by decide) (t' := .long) (by decide)))).other W27 (Or.inr (slot_ne (Or.inl (wd hw 124 rfl)) (Or.inl (wd hw 38 rfl)) (by decide) (t := .int) (by decide) (t' := .boolean) (by decide))))
      exact g_ret0 X27 hx hret hlk (hb hby d0_65) (by decide) (by decide) eh27 hK ⟨rfl, P27, (by rw [if_pos hm]; exact F28), (by rw [hm]; exact F29), (by rw [if_neg hz]; exact F27), F30, F31⟩
  · refine g_ifY X10 hx (hb hby d0_21) (XT.ll_ne_t hm) (by decide) (pc' := 28) (by decide) ?_
    refine g_iconst X10 hx (0 : Int32) (hb hby d0_28) (rfl : 28 + 1 = 29) (by decide) ?_
    have F32 := ((fldP (I1.ext E2) Pc5 (ninS ne7 nin0)).other W10 (Or.inr (slot_ne (Or.inr (wd hw 34 rfl)) (Or.inr (wd hw 31 rfl)) (by decide) (t := .boolean) (by decide) (t' := (.object "java/lang/StringBuilder")) (by decide))))
    have F33 := (F9.wr W10)
    refine g_putf X10 hx hZ hown (host := "") (Or.inl (wd hw 33 rfl)) Via.refl eh10 F32 F33 (Or.inr ⟨(wd hw 34 rfl), rfl, hnm⟩) (wd hw 2 rfl) (ty := .boolean) (by decide) (by decide) (by decide) P10 (Or.inl (List.mem_of_getElem? (i := 0) rfl)) (hb hby d0_29) (rfl : 29 + 3 = 32) fun T34 hh34 X34 eh34 W34 P34 F34 => ?_
    refine g_aloadN X34 hx (hb hby d0_32) (rfl : 32 + 1 = 33) rfl rfl ?_
    refine g_aloadN X34 hx (hb hby d0_33) (rfl : 33 + 1 = 34) rfl rfl ?_
    refine g_getf X34 hx hZ hown (host := "") (Or.inl (wd hw 33 rfl)) Via.refl eh34 F34 (hb hby d0_34) (rfl : 34 + 3 = 37) fun T35 X35 eh35 => ?_
    refine g_ifY X35 hx (hb hby d0_37) (XT.i0_eq_t (by decide)) (by decide) (pc' := 46) (by decide) ?_
    refine g_lloadN X35 hx (hb hby d0_46) (rfl : 46 + 1 = 47) rfl ?_
    have F36 := (((fldP (I2.ext E2) Pc5 (ninS ne7 nin0)).other W10 (Or.inr (slot_ne (Or.inl (wd hw 36 rfl)) (Or.inr (wd hw 31 rfl)) (by decide) (t := .long) (by decide) (t' := (.object "java/lang/StringBuilder")) (by decide)))).other W34 (Or.inr (slot_ne (Or.inl (wd hw 36 rfl)) (Or.inr (wd hw 34 rfl)) (by decide) (t := .long) (by decide) (t' := .boolean) (by decide))))
    have F37 := (F33.wr W34)
    refine g_putf X35 hx hZ hown (host := "") (Or.inl (wd hw 35 rfl)) Via.refl eh35 F36 F37 (Or.inl (wd hw 36 rfl)) (wd hw 2 rfl) (ty := .long) (by decide) rfl rfl P34 (Or.inl (List.mem_of_getElem? (i := 0) rfl)) (hb hby d0_47) (rfl : 47 + 3 = 50) fun T38 hh38 X38 eh38 W38 P38 F38 => ?_
    refine g_aloadN X38 hx (hb hby d0_50) (rfl : 50 + 1 = 51) rfl rfl ?_
    refine g_lloadN X38 hx (hb hby d0_51) (rfl : 51 + 1 = 52) rfl ?_
    refine g_lconst X38 hx (0 : Int64) (hb hby d0_52) (rfl : 52 + 1 = 53) (by decide) ?_
    refine g_lcmp X38 hx (hb hby d0_53) (rfl : 53 + 1 = 54) ?_
    by_cases hz : len = (0 : Int64)
    · refine g_ifN X38 hx (hb hby d0_54) (XT.ll_ne_f hz) (rfl : 54 + 3 = 57) ?_
      refine g_iconst X38 hx (1 : Int32) (hb hby d0_57) (rfl : 57 + 1 = 58) (by decide) ?_
      refine g_goto X38 hx (hb hby d0_58) (by decide) (pc' := 62) (by decide) ?_
      have F39 := ((((fldP (I3.ext E2) Pc5 (ninS ne7 nin0)).other W10 (Or.inr (slot_ne (Or.inl (wd hw 38 rfl)) (Or.inr (wd hw 31 rfl)) (by decide) (t := .boolean) (by decide) (t' := (.object "java/lang/StringBuilder")) (by decide)))).other W34 (Or.inr (slot_ne (Or.inl (wd hw 38 rfl)) (Or.inr (wd hw 34 rfl)) (by decide) (t := .boolean) (by decide) (t' := .boolean) (by decide)))).other W38 (Or.inr (slot_ne (Or.inl (wd hw 38 rfl)) (Or.inl (wd hw 36 rfl)) (by decide) (t := .boolean) (by decide) (t' := .long) (by decide))))
      have F40 := (F37.wr W38)
      refine g_putf X38 hx hZ hown (host := "") (Or.inl (wd hw 37 rfl)) Via.refl eh38 F39 F40 (Or.inl (wd hw 38 rfl)) (wd hw 2 rfl) (ty := .boolean) (by decide) (by decide) (by decide) P38 (Or.inl (List.mem_of_getElem? (i := 0) rfl)) (hb hby d0_62) (rfl : 62 + 3 = 65) fun T41 hh41 X41 eh41 W41 P41 F41 => ?_
      have F42 := ((F34.other W38 (Or.inr (slot_ne (Or.inr (wd hw 34 rfl)) (Or.inl (wd hw 36 rfl)) (by decide) (t := .boolean) (by decide) (t' := .long) (by decide)))).other W41 (Or.inr (slot_ne (Or.inr (wd hw 34 rfl)) (Or.inl (wd hw 38 rfl)) (by decide) (t := .boolean) (by decide) (t' := .boolean) (by decide))))
      have F43 := (F38.other W41 (Or.inr (slot_ne (Or.inl (wd hw 36 rfl)) (Or.inl (wd hw 38 rfl)) (by decide) (t := .long) (by decide) (t' := .boolean) (by decide))))
      have F44 := (((((fldP (I4.ext E2) Pc5 (ninS ne7 nin0)).other W10 (Or.inr (slot_ne (Or.inl (wd hw 45 rfl)) (Or.inr (wd hw 31 rfl)) (by decide) (t := (.object "java/io/IOException")) (by decide) (t' := (.object "java/lang/StringBuilder")) (by decide)))).other W34 (Or.inr (slot_ne (Or.inl (wd hw 45 rfl)) (Or.inr (wd hw 34 rfl)) (by decide) (t := (.object "java/io/IOException")) (by decide) (t' := .boolean) (by decide)))).other W38 (Or.inr (slot_ne (Or.inl (wd hw 45 rfl)) (Or.inl (wd hw 36 rfl)) (by decide) (t := (.object "java/io/IOException")) (by decide) (t' := .long) (by decide)))).other W41 (Or.inr (slot_ne (Or.inl (wd hw 45 rfl)) (Or.inl (wd hw 38 rfl)) (by decide) (t := (.object "java/io/IOException")) (by decide) (t' := .boolean) (by decide))))
      have F45 := (((((fldP (I7.ext E2) Pc5 (ninS ne7 nin0)).other W10 (Or.inr (slot_ne (Or.inl (wd hw 124 rfl)) (Or.inr (wd hw 31 rfl)) (by decide) (t := .int) (by decide) (t' := (.object "java/lang/StringBuilder")) (by decide)))).other W34 (Or.inr (slot_ne (Or.inl (wd hw 124 rfl)) (Or.inr (wd hw 34 rfl)) (by decide) (t := .int) (by decide) (t' := .boolean) (by decide)))).other W38 (Or.inr (slot_ne (Or.inl (wd hw 124 rfl)) (Or.inl (wd hw 36 rfl)) (by decide) (t := .int) (by decide) (t' := .long) (by decide)))).other W41 (Or.inr (slot_ne (Or.inl (wd hw 124 rfl)) (Or.inl (wd hw 38 rfl)) (by decide) (t := .int) (by decide) (t' := .boolean) (by decide))))
      exact g_ret0 X41 hx hret hlk (hb hby d0_65) (by decide) (by decide) eh41 hK ⟨rfl, P41, (by rw [if_neg hm]; exact F42), F43, (by rw [if_pos hz]; exact F41), F44, F45⟩
    · refine g_ifY X38 hx (hb hby d0_54) (XT.ll_ne_t hz) (by decide) (pc' := 61) (by decide) ?_
      refine g_iconst X38 hx (0 : Int32) (hb hby d0_61) (rfl : 61 + 1 = 62) (by decide) ?_
      have F46 := ((((fldP (I3.ext E2) Pc5 (ninS ne7 nin0)).other W10 (Or.inr (slot_ne (Or.inl (wd hw 38 rfl)) (Or.inr (wd hw 31 rfl)) (by decide) (t := .boolean) (by decide) (t' := (.object "java/lang/StringBuilder")) (by decide)))).other W34 (Or.inr (slot_ne (Or.inl (wd hw 38 rfl)) (Or.inr (wd hw 34 rfl)) (by decide) (t := .boolean) (by decide) (t' := .boolean) (by decide)))).other W38 (Or.inr (slot_ne (Or.inl (wd hw 38 rfl)) (Or.inl (wd hw 36 rfl)) (by decide) (t := .boolean) (by decide) (t' := .long) (by decide))))
      have F47 := (F37.wr W38)
      refine g_putf X38 hx hZ hown (host := "") (Or.inl (wd hw 37 rfl)) Via.refl eh38 F46 F47 (Or.inl (wd hw 38 rfl)) (wd hw 2 rfl) (ty := .boolean) (by decide) (by decide) (by decide) P38 (Or.inl (List.mem_of_getElem? (i := 0) rfl)) (hb hby d0_62) (rfl : 62 + 3 = 65) fun T48 hh48 X48 eh48 W48 P48 F48 => ?_
      have F49 := ((F34.other W38 (Or.inr (slot_ne (Or.inr (wd hw 34 rfl)) (Or.inl (wd hw 36 rfl)) (by decide) (t := .boolean) (by decide) (t' := .long) (by decide)))).other W48 (Or.inr (slot_ne (Or.inr (wd hw 34 rfl)) (Or.inl (wd hw 38 rfl)) (by decide) (t := .boolean) (by decide) (t' := .boolean) (by decide))))
      have F50 := (F38.other W48 (Or.inr (slot_ne (Or.inl (wd hw 36 rfl)) (Or.inl (wd hw 38 rfl)) (by decide) (t := .long) (by decide) (t' := .boolean) (by decide))))
      have F51 := (((((fldP (I4.ext E2) Pc5 (ninS ne7 nin0)).other W10 (Or.inr (slot_ne (Or.inl (wd hw 45 rfl)) (Or.inr (wd hw 31 rfl)) (by decide) (t := (.object "java/io/IOException")) (by decide) (t' := (.object "java/lang/StringBuilder")) (by decide)))).other W34 (Or.inr (slot_ne (Or.inl (wd hw 45 rfl)) (Or.inr (wd hw 34 rfl)) (by decide) (t := (.object "java/io/IOException")) (by decide) (t' := .boolean) (by decide)))).other W38 (Or.inr (slot_ne (Or.inl (wd hw 45 rfl)) (Or.inl (wd hw 36 rfl)) (by decide) (t := (.object "java/io/IOException")) (by decide) (t' := .long) (by decide)))).other W48 (Or.inr (slot_ne (Or.inl (wd hw 45 rfl)) (Or.inl (wd hw 38 rfl)) (by decide) (t := (.object "java/io/IOException")) (by decide) (t' := .boolean) (by decide))))
      have F52 := (((((fldP (I7.ext E2) Pc5 (ninS ne7 nin0)).other W10 (Or.inr (slot_ne (Or.inl (wd hw 124 rfl)) (Or.inr (wd hw 31 rfl)) (by decide) (t := .int) (by decide) (t' := (.object "java/lang/StringBuilder")) (by decide)))).other W34 (Or.inr (slot_ne (Or.inl (wd hw 124 rfl)) (Or.inr (wd hw 34 rfl)) (by decide) (t := .int) (by decide) (t' := .boolean) (by decide)))).other W38 (Or.inr (slot_ne (Or.inl (wd hw 124 rfl)) (Or.inl (wd hw 36 rfl)) (by decide) (t := .int) (by decide) (t' := .long) (by decide)))).other W48 (Or.inr (slot_ne (Or.inl (wd hw 124 rfl)) (Or.inl (wd hw 38 rfl)) (by decide) (t := .int) (by decide) (t' := .boolean) (by decide))))
      exact g_ret0 X48 hx hret hlk (hb hby d0_65) (by decide) (by decide) eh48 hK ⟨rfl, P48, (by rw [if_neg hm]; exact F49), F50, (by rw [if_neg hz]; exact F48), F51, F52⟩
theorem d4_0 : decode prog_12_method_4_code 0 = .ok (.aload_n 0, 1) := by decide +kernel
theorem d4_1 : decode prog_12_method_4_code 1 = .ok (.getfield 28, 3) := by decide +kernel
theorem d4_4 : decode prog_12_method_4_code 4 = .ok (.ifCond .ne 10, 3) := by decide +kernel
theorem d4_7 : decode prog_12_method_4_code 7 = .ok (.aload_n 0, 1) := by decide +kernel
theorem d4_8 : decode prog_12_method_4_code 8 = .ok (.getfield 31, 3) := by decide +kernel
theorem d4_11 : decode prog_12_method_4_code 11 = .ok (.ifnull 7, 3) := by decide +kernel
theorem d4_14 : decode prog_12_method_4_code 14 = .ok (.iconst 1, 1) := by decide +kernel
theorem d4_15 : decode prog_12_method_4_code 15 = .ok (.goto 4, 3) := by decide +kernel
theorem d4_18 : decode prog_12_method_4_code 18 = .ok (.iconst 0, 1) := by decide +kernel
theorem d4_19 : decode prog_12_method_4_code 19 = .ok (.ireturn, 1) := by decide +kernel
theorem pn_rm_over : plainFor (⟨"com/example/twofold/twofold/io/http/BodyReader", "over", "()Z"⟩ : MethodName) = true := by first | exact plainFor_of_name (by first | (simp [plainName, overriddenIn]; done) | decide +kernel) | decide +kernel
set_option maxRecDepth 65536 in
set_option maxHeartbeats 40000000 in
theorem rm_over {l : Launch} {Z : State} {a0 : Array Value} (hw : ∀ d ∈ tables_1, d.before a0 Z = true) (a : Addr) (en : Int32) (vv : Value) {h0 : Heap} (I0 : Fld Z h0 a "com/example/twofold/twofold/io/http/BodyReader" "ended" "Z" (.int en)) (I1 : Fld Z h0 a "com/example/twofold/twofold/io/http/BodyReader" "failure" "Ljava/io/IOException;" vv) (hv : vv.isRef = true) :
    OMet l (⟨"com/example/twofold/twofold/io/http/BodyReader", "over", "()Z"⟩ : MethodName) prog_12_method_4_code 1 (Option.some Jvm.ClassFile.FieldType.boolean) ({ frames := 0, cells := 0, slots := 0, locals := 0 } : Room) #[(.ref a)] Z h0 (fun vR hR LR => vR = some (.int (if en = 0 ∧ (vv : Value) = .null then 0 else 1 : Int32)) ∧ OPr h0 [] hR LR) := by
  refine OMet.body pn_rm_over (Ls := #[.val (.ref a)]) (fun m => by first | (simp [entryFrame, mkF, argsToLocals, Value.category]; done) | rfl) ?_
  intro p e s m below meth c T0 K hK X0 hx hby hml hown hnm hret hlk hZ eh0
  have P0 := OPr.refl h0 []
  refine g_aloadN X0 hx (hb hby d4_0) (rfl : 0 + 1 = 1) rfl rfl ?_
  refine g_getf X0 hx hZ hown (host := "") (Or.inl (wd hw 37 rfl)) Via.refl eh0 I0 (hb hby d4_1) (rfl : 1 + 3 = 4) fun T1 X1 eh1 => ?_
  by_cases h0 : en = (0 : Int32)
  · refine g_ifN X1 hx (hb hby d4_4) (XT.i0_ne_f h0) (rfl : 4 + 3 = 7) ?_
    refine g_aloadN X1 hx (hb hby d4_7) (rfl : 7 + 1 = 8) rfl rfl ?_
    refine g_getf X1 hx hZ hown (host := "") (Or.inl (wd hw 44 rfl)) Via.refl eh1 I1 (hb hby d4_8) (rfl : 8 + 3 = 11) fun T2 X2 eh2 => ?_
    rcases ref_cases hv with rfl | ⟨b, rfl⟩
    · refine g_nullY X2 hx (hb hby d4_11) (by decide) (pc' := 18) (by decide) ?_
      refine g_iconst X2 hx (0 : Int32) (hb hby d4_18) (rfl : 18 + 1 = 19) (by decide) ?_
      exact g_ret X2 hx hret hlk rfl (Or.inl ⟨rfl, Or.inr (Or.inl rfl), _, rfl⟩) (hb hby d4_19) (by decide) (by decide) eh2 hK ⟨(by simp [h0]), P0⟩
    · refine g_nullN X2 hx (hb hby d4_11) (rfl : 11 + 3 = 14) ?_
      refine g_iconst X2 hx (1 : Int32) (hb hby d4_14) (rfl : 14 + 1 = 15) (by decide) ?_
      refine g_goto X2 hx (hb hby d4_15) (by decide) (pc' := 19) (by decide) ?_
      exact g_ret X2 hx hret hlk rfl (Or.inl ⟨rfl, Or.inr (Or.inl rfl), _, rfl⟩) (hb hby d4_19) (by decide) (by decide) eh2 hK ⟨(by simp), P0⟩
  · refine g_ifY X1 hx (hb hby d4_4) (XT.i0_ne_t h0) (by decide) (pc' := 14) (by decide) ?_
    refine g_iconst X1 hx (1 : Int32) (hb hby d4_14) (rfl : 14 + 1 = 15) (by decide) ?_
    refine g_goto X1 hx (hb hby d4_15) (by decide) (pc' := 19) (by decide) ?_
    exact g_ret X1 hx hret hlk rfl (Or.inl ⟨rfl, Or.inr (Or.inl rfl), _, rfl⟩) (hb hby d4_19) (by decide) (by decide) eh1 hK ⟨(by simp [h0]), P0⟩
theorem d5_0 : decode jdk_29_method_70_code 0 = .ok (.lload_n 0, 1) := by decide +kernel
theorem d5_1 : decode jdk_29_method_70_code 1 = .ok (.lload_n 2, 1) := by decide +kernel
theorem d5_2 : decode jdk_29_method_70_code 2 = .ok (.lcmp, 1) := by decide +kernel
theorem d5_3 : decode jdk_29_method_70_code 3 = .ok (.ifCond .gt 7, 3) := by decide +kernel
theorem d5_6 : decode jdk_29_method_70_code 6 = .ok (.lload_n 0, 1) := by decide +kernel
theorem d5_7 : decode jdk_29_method_70_code 7 = .ok (.goto 4, 3) := by decide +kernel
theorem d5_10 : decode jdk_29_method_70_code 10 = .ok (.lload_n 2, 1) := by decide +kernel
theorem d5_11 : decode jdk_29_method_70_code 11 = .ok (.lreturn, 1) := by decide +kernel
theorem pn_rm_min : plainFor (⟨"java/lang/Math", "min", "(JJ)J"⟩ : MethodName) = true := by first | exact plainFor_of_name (by first | (simp [plainName, overriddenIn]; done) | decide +kernel) | exact Jvm.Free.JP.mathPlain rfl (by decide) | decide +kernel
set_option maxRecDepth 65536 in
set_option maxHeartbeats 40000000 in
theorem rm_min {l : Launch} {Z : State} {a0 : Array Value} (hw : ∀ d ∈ tables_1, d.before a0 Z = true) (x : Int64) (y : Int64) {h0 : Heap}   :
    OMet l (⟨"java/lang/Math", "min", "(JJ)J"⟩ : MethodName) jdk_29_method_70_code 4 (Option.some Jvm.ClassFile.FieldType.long) ({ frames := 0, cells := 0, slots := 0, locals := 0 } : Room) #[(.long x), (.long y)] Z h0 (fun vR hR LR => vR = some (.long (if y < x then y else x : Int64)) ∧ OPr h0 [] hR LR) := by
  refine OMet.body pn_rm_min (Ls := #[.val (.long x), .second, .val (.long y), .second]) (fun m => by first | (simp [entryFrame, mkF, argsToLocals, Value.category]; done) | rfl) ?_
  intro p e s m below meth c T0 K hK X0 hx hby hml hown hnm hret hlk hZ eh0
  have P0 := OPr.refl h0 []
  refine g_lloadN X0 hx (hb hby d5_0) (rfl : 0 + 1 = 1) rfl ?_
  refine g_lloadN X0 hx (hb hby d5_1) (rfl : 1 + 1 = 2) rfl ?_
  refine g_lcmp X0 hx (hb hby d5_2) (rfl : 2 + 1 = 3) ?_
  by_cases h : y < x
  · refine g_ifY X0 hx (hb hby d5_3) (XT.ll_gt_t h) (by decide) (pc' := 10) (by decide) ?_
    refine g_lloadN X0 hx (hb hby d5_10) (rfl : 10 + 1 = 11) rfl ?_
    exact g_ret X0 hx hret hlk rfl (Or.inr (Or.inl ⟨rfl, rfl, _, rfl⟩)) (hb hby d5_11) (by decide) (by decide) eh0 hK ⟨(by rw [if_pos h]), P0⟩
  · refine g_ifN X0 hx (hb hby d5_3) (XT.ll_gt_f h) (rfl : 3 + 3 = 6) ?_
    refine g_lloadN X0 hx (hb hby d5_6) (rfl : 6 + 1 = 7) rfl ?_
    refine g_goto X0 hx (hb hby d5_7) (by decide) (pc' := 11) (by decide) ?_
    exact g_ret X0 hx hret hlk rfl (Or.inr (Or.inl ⟨rfl, rfl, _, rfl⟩)) (hb hby d5_11) (by decide) (by decide) eh0 hK ⟨(by rw [if_neg h]), P0⟩
theorem d6_0 : decode prog_12_method_3_code 0 = .ok (.aload_n 0, 1) := by decide +kernel
theorem d6_1 : decode prog_12_method_3_code 1 = .ok (.dup, 1) := by decide +kernel
theorem d6_2 : decode prog_12_method_3_code 2 = .ok (.getfield 24, 3) := by decide +kernel
theorem d6_5 : decode prog_12_method_3_code 5 = .ok (.iload_n 1, 1) := by decide +kernel
theorem d6_6 : decode prog_12_method_3_code 6 = .ok (.i2l, 1) := by decide +kernel
theorem d6_7 : decode prog_12_method_3_code 7 = .ok (.lsub, 1) := by decide +kernel
theorem d6_8 : decode prog_12_method_3_code 8 = .ok (.putfield 24, 3) := by decide +kernel
theorem d6_11 : decode prog_12_method_3_code 11 = .ok (.aload_n 0, 1) := by decide +kernel
theorem d6_12 : decode prog_12_method_3_code 12 = .ok (.getfield 24, 3) := by decide +kernel
theorem d6_15 : decode prog_12_method_3_code 15 = .ok (.lconst 0, 1) := by decide +kernel
theorem d6_16 : decode prog_12_method_3_code 16 = .ok (.lcmp, 1) := by decide +kernel
theorem d6_17 : decode prog_12_method_3_code 17 = .ok (.ifCond .ne 23, 3) := by decide +kernel
theorem d6_20 : decode prog_12_method_3_code 20 = .ok (.aload_n 0, 1) := by decide +kernel
theorem d6_21 : decode prog_12_method_3_code 21 = .ok (.getfield 20, 3) := by decide +kernel
theorem d6_24 : decode prog_12_method_3_code 24 = .ok (.ifCond .eq 11, 3) := by decide +kernel
theorem d6_35 : decode prog_12_method_3_code 35 = .ok (.aload_n 0, 1) := by decide +kernel
theorem d6_36 : decode prog_12_method_3_code 36 = .ok (.iconst 1, 1) := by decide +kernel
theorem d6_37 : decode prog_12_method_3_code 37 = .ok (.putfield 28, 3) := by decide +kernel
theorem d6_40 : decode prog_12_method_3_code 40 = .ok (.return_, 1) := by decide +kernel
theorem pn_rm_taken : plainFor (⟨"com/example/twofold/twofold/io/http/BodyReader", "taken", "(I)V"⟩ : MethodName) = true := by first | exact plainFor_of_name (by first | (simp [plainName, overriddenIn]; done) | decide +kernel) | decide +kernel
set_option maxRecDepth 65536 in
set_option maxHeartbeats 40000000 in
theorem rm_taken {l : Launch} {Z : State} {a0 : Array Value} (hw : ∀ d ∈ tables_1, d.before a0 Z = true) (a : Addr) (rem : Int64) (en : Int32) (k : Int32) (fa : Value) (le : Int32) {h0 : Heap} (I0 : Exa Z h0 a "com/example/twofold/twofold/io/http/BodyReader") (I1 : Fld Z h0 a "com/example/twofold/twofold/io/http/BodyReader" "chunked" "Z" (.int (0 : Int32))) (I2 : Fld Z h0 a "com/example/twofold/twofold/io/http/BodyReader" "remaining" "J" (.long rem)) (I3 : Fld Z h0 a "com/example/twofold/twofold/io/http/BodyReader" "ended" "Z" (.int en)) (I4 : Fld Z h0 a "com/example/twofold/twofold/io/http/BodyReader" "failure" "Ljava/io/IOException;" fa) (I5 : Fld Z h0 a "com/example/twofold/twofold/io/http/BodyReader" "lineEnd" "I" (.int le)) (hfa : fa.isRef = true) :
    OMet l (⟨"com/example/twofold/twofold/io/http/BodyReader", "taken", "(I)V"⟩ : MethodName) prog_12_method_3_code 2 (Option.none : Option Jvm.ClassFile.FieldType) ({ frames := 0, cells := 0, slots := 0, locals := 0 } : Room) #[(.ref a), (.int k)] Z h0 (fun vR hR LR => vR = none ∧ OPr h0 [a] hR LR ∧ Fld Z hR a "com/example/twofold/twofold/io/http/BodyReader" "chunked" "Z" (.int (0 : Int32)) ∧ Fld Z hR a "com/example/twofold/twofold/io/http/BodyReader" "remaining" "J" (.long (rem - k.toInt64)) ∧ Fld Z hR a "com/example/twofold/twofold/io/http/BodyReader" "ended" "Z" (.int (if rem - k.toInt64 = 0 then 1 else en : Int32)) ∧ Fld Z hR a "com/example/twofold/twofold/io/http/BodyReader" "failure" "Ljava/io/IOException;" fa ∧ Fld Z hR a "com/example/twofold/twofold/io/http/BodyReader" "lineEnd" "I" (.int le)) := by
  refine OMet.body pn_rm_taken (Ls := #[.val (.ref a), .val (.int k)]) (fun m => by first | (simp [entryFrame, mkF, argsToLocals, Value.category]; done) | rfl) ?_
  intro p e s m below meth c T0 K hK X0 hx hby hml hown hnm hret hlk hZ eh0
  have P0 := OPr.refl h0 [a]
  refine g_aloadN X0 hx (hb hby d6_0) (rfl : 0 + 1 = 1) rfl rfl ?_
  refine g_dup X0 hx (hb hby d6_1) (rfl : 1 + 1 = 2) rfl ?_
  refine g_getf X0 hx hZ hown (host := "") (Or.inl (wd hw 35 rfl)) Via.refl eh0 I2 (hb hby d6_2) (rfl : 2 + 3 = 5) fun T1 X1 eh1 => ?_
  refine g_iloadN X1 hx (hb hby d6_5) (rfl : 5 + 1 = 6) rfl ?_
  refine g_i2l X1 hx (hb hby d6_6) (rfl : 6 + 1 = 7) ?_
  refine g_lsub X1 hx (hb hby d6_7) (rfl : 7 + 1 = 8) (z := (rem - (k).toInt64)) rfl ?_
  refine g_putf X1 hx hZ hown (host := "") (Or.inl (wd hw 35 rfl)) Via.refl eh1 I2 I0 (Or.inl (wd hw 36 rfl)) (wd hw 2 rfl) (ty := .long) (by decide) rfl rfl P0 (Or.inl (List.mem_of_getElem? (i := 0) rfl)) (hb hby d6_8) (rfl : 8 + 3 = 11) fun T2 hh2 X2 eh2 W2 P2 F2 => ?_
  refine g_aloadN X2 hx (hb hby d6_11) (rfl : 11 + 1 = 12) rfl rfl ?_
  refine g_getf X2 hx hZ hown (host := "") (Or.inl (wd hw 35 rfl)) Via.refl eh2 F2 (hb hby d6_12) (rfl : 12 + 3 = 15) fun T3 X3 eh3 => ?_
  refine g_lconst X3 hx (0 : Int64) (hb hby d6_15) (rfl : 15 + 1 = 16) (by decide) ?_
  refine g_lcmp X3 hx (hb hby d6_16) (rfl : 16 + 1 = 17) ?_
  by_cases hr : (rem - (k).toInt64) = (0 : Int64)
  · refine g_ifN X3 hx (hb hby d6_17) (XT.ll_ne_f hr) (rfl : 17 + 3 = 20) ?_
    refine g_aloadN X3 hx (hb hby d6_20) (rfl : 20 + 1 = 21) rfl rfl ?_
    have F4 := (I1.other W2 (Or.inr (slot_ne (Or.inr (wd hw 34 rfl)) (Or.inl (wd hw 36 rfl)) (by decide) (t := .boolean) (by decide) (t' := .long) (by decide))))
    refine g_getf X3 hx hZ hown (host := "") (Or.inl (wd hw 33 rfl)) Via.refl eh3 F4 (hb hby d6_21) (rfl : 21 + 3 = 24) fun T5 X5 eh5 => ?_
    refine g_ifY X5 hx (hb hby d6_24) (XT.i0_eq_t (by decide)) (by decide) (pc' := 35) (by decide) ?_
    refine g_aloadN X5 hx (hb hby d6_35) (rfl : 35 + 1 = 36) rfl rfl ?_
    refine g_iconst X5 hx (1 : Int32) (hb hby d6_36) (rfl : 36 + 1 = 37) (by decide) ?_
    have F6 := (I3.other W2 (Or.inr (slot_ne (Or.inl (wd hw 38 rfl)) (Or.inl (wd hw 36 rfl)) (by decide) (t := .boolean) (by decide) (t' := .long) (by decide))))
    have F7 := (I0.wr W2)
    refine g_putf X5 hx hZ hown (host := "") (Or.inl (wd hw 37 rfl)) Via.refl eh5 F6 F7 (Or.inl (wd hw 38 rfl)) (wd hw 2 rfl) (ty := .boolean) (by decide) (by decide) (by decide) P2 (Or.inl (List.mem_of_getElem? (i := 0) rfl)) (hb hby d6_37) (rfl : 37 + 3 = 40) fun T8 hh8 X8 eh8 W8 P8 F8 => ?_
    have F9 := (F4.other W8 (Or.inr (slot_ne (Or.inr (wd hw 34 rfl)) (Or.inl (wd hw 38 rfl)) (by decide) (t := .boolean) (by decide) (t' := .boolean) (by decide))))
    have F10 := (F2.other W8 (Or.inr (slot_ne (Or.inl (wd hw 36 rfl)) (Or.inl (wd hw 38 rfl)) (by decide) (t := .long) (by decide) (t' := .boolean) (by decide))))
    have F11 := ((I4.other W2 (Or.inr (slot_ne (Or.inl (wd hw 45 rfl)) (Or.inl (wd hw 36 rfl)) (by decide) (t := (.object "java/io/IOException")) (by decide) (t' := .long) (by decide)))).other W8 (Or.inr (slot_ne (Or.inl (wd hw 45 rfl)) (Or.inl (wd hw 38 rfl)) (by decide) (t := (.object "java/io/IOException")) (by decide) (t' := .boolean) (by decide))))
    have F12 := ((I5.other W2 (Or.inr (slot_ne (Or.inl (wd hw 124 rfl)) (Or.inl (wd hw 36 rfl)) (by decide) (t := .int) (by decide) (t' := .long) (by decide)))).other W8 (Or.inr (slot_ne (Or.inl (wd hw 124 rfl)) (Or.inl (wd hw 38 rfl)) (by decide) (t := .int) (by decide) (t' := .boolean) (by decide))))
    exact g_ret0 X8 hx hret hlk (hb hby d6_40) (by decide) (by decide) eh8 hK ⟨rfl, P8, F9, F10, (by rw [if_pos hr]; exact F8), F11, F12⟩
  · refine g_ifY X3 hx (hb hby d6_17) (XT.ll_ne_t hr) (by decide) (pc' := 40) (by decide) ?_
    have F13 := (I1.other W2 (Or.inr (slot_ne (Or.inr (wd hw 34 rfl)) (Or.inl (wd hw 36 rfl)) (by decide) (t := .boolean) (by decide) (t' := .long) (by decide))))
    have F14 := (I3.other W2 (Or.inr (slot_ne (Or.inl (wd hw 38 rfl)) (Or.inl (wd hw 36 rfl)) (by decide) (t := .boolean) (by decide) (t' := .long) (by decide))))
    have F15 := (I4.other W2 (Or.inr (slot_ne (Or.inl (wd hw 45 rfl)) (Or.inl (wd hw 36 rfl)) (by decide) (t := (.object "java/io/IOException")) (by decide) (t' := .long) (by decide))))
    have F16 := (I5.other W2 (Or.inr (slot_ne (Or.inl (wd hw 124 rfl)) (Or.inl (wd hw 36 rfl)) (by decide) (t := .int) (by decide) (t' := .long) (by decide))))
    exact g_ret0 X3 hx hret hlk (hb hby d6_40) (by decide) (by decide) eh3 hK ⟨rfl, P2, F13, F2, (by rw [if_neg hr]; exact F14), F15, F16⟩
theorem d10_0 : decode jdk_78_method_2_code 0 = .ok (.aload_n 0, 1) := by decide +kernel
theorem d10_1 : decode jdk_78_method_2_code 1 = .ok (.invokespecial 1, 3) := by decide +kernel
theorem d10_4 : decode jdk_78_method_2_code 4 = .ok (.aload_n 0, 1) := by decide +kernel
theorem d10_5 : decode jdk_78_method_2_code 5 = .ok (.aload_n 0, 1) := by decide +kernel
theorem d10_6 : decode jdk_78_method_2_code 6 = .ok (.putfield 7, 3) := by decide +kernel
theorem d10_9 : decode jdk_78_method_2_code 9 = .ok (.aload_n 0, 1) := by decide +kernel
theorem d10_10 : decode jdk_78_method_2_code 10 = .ok (.getstatic 13, 3) := by decide +kernel
theorem d10_13 : decode jdk_78_method_2_code 13 = .ok (.putfield 17, 3) := by decide +kernel
theorem d10_16 : decode jdk_78_method_2_code 16 = .ok (.aload_n 0, 1) := by decide +kernel
theorem d10_17 : decode jdk_78_method_2_code 17 = .ok (.getstatic 20, 3) := by decide +kernel
theorem d10_20 : decode jdk_78_method_2_code 20 = .ok (.putfield 24, 3) := by decide +kernel
theorem d10_23 : decode jdk_78_method_2_code 23 = .ok (.aload_n 0, 1) := by decide +kernel
theorem d10_24 : decode jdk_78_method_2_code 24 = .ok (.invokevirtual 27, 3) := by decide +kernel
theorem d10_27 : decode jdk_78_method_2_code 27 = .ok (.pop, 1) := by decide +kernel
theorem d10_28 : decode jdk_78_method_2_code 28 = .ok (.aload_n 0, 1) := by decide +kernel
theorem d10_29 : decode jdk_78_method_2_code 29 = .ok (.aload_n 1, 1) := by decide +kernel
theorem d10_30 : decode jdk_78_method_2_code 30 = .ok (.putfield 31, 3) := by decide +kernel
theorem d10_33 : decode jdk_78_method_2_code 33 = .ok (.return_, 1) := by decide +kernel
theorem pn_rm_thr : plainFor (⟨"java/lang/Throwable", "<init>", "(Ljava/lang/String;)V"⟩ : MethodName) = true := by first | exact plainFor_of_name (by first | (simp [plainName, overriddenIn]; done) | decide +kernel) | decide +kernel
set_option maxRecDepth 65536 in
set_option maxHeartbeats 40000000 in
theorem rm_thr {l : Launch} {Z : State} {a0 : Array Value} (hw : ∀ d ∈ tables_1, d.before a0 Z = true) (a : Addr) (g : Addr) (un : Value) (se : Value) {h0 : Heap} (I0 : Exa Z h0 a "java/io/IOException") (I1 : Fld Z h0 a "java/lang/Throwable" "cause" "Ljava/lang/Throwable;" .null) (I2 : Fld Z h0 a "java/lang/Throwable" "stackTrace" "[Ljava/lang/StackTraceElement;" .null) (I3 : Fld Z h0 a "java/lang/Throwable" "suppressedExceptions" "Ljava/util/List;" .null) (I4 : Fld Z h0 a "java/lang/Throwable" "backtrace" "Ljava/lang/Object;" .null) (I5 : Fld Z h0 a "java/lang/Throwable" "detailMessage" "Ljava/lang/String;" .null) (I6 : Sta Z h0 "java/lang/Throwable" "UNASSIGNED_STACK" "[Ljava/lang/StackTraceElement;" un) (I7 : Sta Z h0 "java/lang/Throwable" "SUPPRESSED_SENTINEL" "Ljava/util/List;" se) (hun : un.isRef = true) (hse : se.isRef = true) (hl : l.stackTraces = true) (hT : ThS Z h0) (hN : Unt h0 a) :
    OMetW l (⟨"java/lang/Throwable", "<init>", "(Ljava/lang/String;)V"⟩ : MethodName) jdk_78_method_2_code 2 (Option.none : Option Jvm.ClassFile.FieldType) ({ frames := 3, cells := 1, slots := 2752, locals := 42 } : Room) #[(.ref a), (.ref g)] Z h0 (fun vR hR LR => vR = none ∧ OPr h0 [a] hR LR) := by
  refine OMetW.body pn_rm_thr (Ls := #[.val (.ref a), .val (.ref g)]) (fun m => by first | (simp [entryFrame, mkF, argsToLocals, Value.category]; done) | rfl) ?_
  intro p e s m below meth c T0 K hK X0 hx hby hml hown hnm hret hlk hZ eh0 es hTK hBl
  have P0 := OPr.refl h0 [a]
  refine g_aloadN X0 hx (hb hby d10_0) (rfl : 0 + 1 = 1) rfl rfl ?_
  refine g_inito X0 hx hZ hown (wd hw 85 rfl) (wd hw 8 rfl) (wd hw 9 rfl) eh0 (by rw [hml]; rfl) (hb hby d10_1) (rfl : 1 + 3 = 4) (by decide) (W := 0) (Nat.le_of_eq rfl) (by decide) fun T1 X1 eh1 => ?_
  refine g_aloadN X1 hx (hb hby d10_4) (rfl : 4 + 1 = 5) rfl rfl ?_
  refine g_aloadN X1 hx (hb hby d10_5) (rfl : 5 + 1 = 6) rfl rfl ?_
  refine g_putf X1 hx hZ hown (host := "") (Or.inl (wd hw 86 rfl)) Via.refl eh1 I1 I0 (Or.inl (wd hw 87 rfl)) (wd hw 62 rfl) (ty := (.object "java/lang/Throwable")) (by decide) rfl rfl P0 (Or.inl (List.mem_of_getElem? (i := 0) rfl)) (hb hby d10_6) (rfl : 6 + 3 = 9) fun T2 hh2 X2 eh2 W2 P2 F2 => ?_
  refine g_aloadN X2 hx (hb hby d10_9) (rfl : 9 + 1 = 10) rfl rfl ?_
  have F3 := (I6.wr W2)
  refine g_gets X2 hx hZ hown (host := "") (Or.inl (wd hw 88 rfl)) Via.refl eh2 F3 (hb hby d10_10) (rfl : 10 + 3 = 13) fun T4 X4 eh4 => ?_
  have F5 := (I2.other W2 (Or.inr (slot_ne (Or.inl (wd hw 90 rfl)) (Or.inl (wd hw 87 rfl)) (by decide) (t := (.array (.object "java/lang/StackTraceElement"))) (by decide) (t' := (.object "java/lang/Throwable")) (by decide))))
  have F6 := (I0.wr W2)
  refine g_putf X4 hx hZ hown (host := "") (Or.inl (wd hw 89 rfl)) Via.refl eh4 F5 F6 (Or.inl (wd hw 90 rfl)) (wd hw 62 rfl) (ty := (.array (.object "java/lang/StackTraceElement"))) (by decide) (narR hun) (fitR hun rfl) P2 (Or.inl (List.mem_of_getElem? (i := 0) rfl)) (hb hby d10_13) (rfl : 13 + 3 = 16) fun T7 hh7 X7 eh7 W7 P7 F7 => ?_
  refine g_aloadN X7 hx (hb hby d10_16) (rfl : 16 + 1 = 17) rfl rfl ?_
  have F8 := (staP I7 P7)
  refine g_gets X7 hx hZ hown (host := "") (Or.inl (wd hw 91 rfl)) Via.refl eh7 F8 (hb hby d10_17) (rfl : 17 + 3 = 20) fun T9 X9 eh9 => ?_
  have F10 := ((I3.other W2 (Or.inr (slot_ne (Or.inl (wd hw 93 rfl)) (Or.inl (wd hw 87 rfl)) (by decide) (t := (.object "java/util/List")) (by decide) (t' := (.object "java/lang/Throwable")) (by decide)))).other W7 (Or.inr (slot_ne (Or.inl (wd hw 93 rfl)) (Or.inl (wd hw 90 rfl)) (by decide) (t := (.object "java/util/List")) (by decide) (t' := (.array (.object "java/lang/StackTraceElement"))) (by decide))))
  have F11 := (F6.wr W7)
  refine g_putf X9 hx hZ hown (host := "") (Or.inl (wd hw 92 rfl)) Via.refl eh9 F10 F11 (Or.inl (wd hw 93 rfl)) (wd hw 62 rfl) (ty := (.object "java/util/List")) (by decide) (narR hse) (fitR hse rfl) P7 (Or.inl (List.mem_of_getElem? (i := 0) rfl)) (hb hby d10_20) (rfl : 20 + 3 = 23) fun T12 hh12 X12 eh12 W12 P12 F12 => ?_
  refine g_aloadN X12 hx (hb hby d10_23) (rfl : 23 + 1 = 24) rfl rfl ?_
  have F14 := (F11.wr W12)
  have F15 := (F7.other W12 (Or.inr (slot_ne (Or.inl (wd hw 90 rfl)) (Or.inl (wd hw 93 rfl)) (by decide) (t := (.array (.object "java/lang/StackTraceElement"))) (by decide) (t' := (.object "java/util/List")) (by decide))))
  have F16 := ((F3.wr W7).wr W12)
  have F17 := (((I4.other W2 (Or.inr (slot_ne (Or.inl (wd hw 118 rfl)) (Or.inl (wd hw 87 rfl)) (by decide) (t := (.object "java/lang/Object")) (by decide) (t' := (.object "java/lang/Throwable")) (by decide)))).other W7 (Or.inr (slot_ne (Or.inl (wd hw 118 rfl)) (Or.inl (wd hw 90 rfl)) (by decide) (t := (.object "java/lang/Object")) (by decide) (t' := (.array (.object "java/lang/StackTraceElement"))) (by decide)))).other W12 (Or.inr (slot_ne (Or.inl (wd hw 118 rfl)) (Or.inl (wd hw 93 rfl)) (by decide) (t := (.object "java/lang/Object")) (by decide) (t' := (.object "java/util/List")) (by decide))))
  refine g_fill X12 hx hl hZ hown (rc := "java/io/IOException") (tTab hw) (wd hw 62 rfl) (by show ThS Z s.heap; rw [← es, eh0]; exact hT) (es.symm.trans eh0) (Vm.MethodsKnown.alikeC (sinceR s).1.alike hTK) (Vm.FramesKnown.alikeC (sinceR s).1.alike hBl) eh12 I0 hN (by simp) F14 (Unt.wr W12 (Unt.wr W7 (Unt.wr W2 hN))) hun F15 F16 F17 (by rw [hml]; rfl) (hb hby d10_24) (rfl : 24 + 3 = 27) (W := 0) (Nat.le_of_eq rfl) (by decide) (by decide) (by decide) (by decide) fun T13 hh13 L13 X13 eh13 P13 FM13 => ?_
  obtain ⟨vM13, F13⟩ := FM13
  refine g_pop X13 hx (hb hby d10_27) (rfl : 27 + 1 = 28) rfl ?_
  refine g_aloadN X13 hx (hb hby d10_28) (rfl : 28 + 1 = 29) rfl rfl ?_
  refine g_aloadN X13 hx (hb hby d10_29) (rfl : 29 + 1 = 30) rfl rfl ?_
  have F18 := (exaP I0 P13)
  refine g_putf X13 hx hZ hown (host := "") (Or.inl (wd hw 121 rfl)) Via.refl eh13 F13 F18 (Or.inl (wd hw 117 rfl)) (wd hw 62 rfl) (ty := (.object "java/lang/String")) (by decide) rfl rfl P13 (Or.inl (List.mem_of_getElem? (i := 0) rfl)) (hb hby d10_30) (rfl : 30 + 3 = 33) fun T19 hh19 X19 eh19 W19 P19 F19 => ?_
  exact g_ret0W (s := s) X19 hx hret hlk (sinceR s) (Nat.zero_le _) (hb hby d10_33) (by decide) (by decide) eh19 hK ⟨rfl, P19⟩
theorem d9_0 : decode jdk_59_method_2_code 0 = .ok (.aload_n 0, 1) := by decide +kernel
theorem d9_1 : decode jdk_59_method_2_code 1 = .ok (.aload_n 1, 1) := by decide +kernel
theorem d9_2 : decode jdk_59_method_2_code 2 = .ok (.invokespecial 7, 3) := by decide +kernel
theorem d9_5 : decode jdk_59_method_2_code 5 = .ok (.return_, 1) := by decide +kernel
theorem pn_rm_exn : plainFor (⟨"java/lang/Exception", "<init>", "(Ljava/lang/String;)V"⟩ : MethodName) = true := by first | exact plainFor_of_name (by first | (simp [plainName, overriddenIn]; done) | decide +kernel) | decide +kernel
set_option maxRecDepth 65536 in
set_option maxHeartbeats 40000000 in
theorem rm_exn {l : Launch} {Z : State} {a0 : Array Value} (hw : ∀ d ∈ tables_1, d.before a0 Z = true) (a : Addr) (g : Addr) (un : Value) (se : Value) {h0 : Heap} (I0 : Exa Z h0 a "java/io/IOException") (I1 : Fld Z h0 a "java/lang/Throwable" "cause" "Ljava/lang/Throwable;" .null) (I2 : Fld Z h0 a "java/lang/Throwable" "stackTrace" "[Ljava/lang/StackTraceElement;" .null) (I3 : Fld Z h0 a "java/lang/Throwable" "suppressedExceptions" "Ljava/util/List;" .null) (I4 : Fld Z h0 a "java/lang/Throwable" "backtrace" "Ljava/lang/Object;" .null) (I5 : Fld Z h0 a "java/lang/Throwable" "detailMessage" "Ljava/lang/String;" .null) (I6 : Sta Z h0 "java/lang/Throwable" "UNASSIGNED_STACK" "[Ljava/lang/StackTraceElement;" un) (I7 : Sta Z h0 "java/lang/Throwable" "SUPPRESSED_SENTINEL" "Ljava/util/List;" se) (hun : un.isRef = true) (hse : se.isRef = true) (hl : l.stackTraces = true) (hT : ThS Z h0) (hN : Unt h0 a) :
    OMetW l (⟨"java/lang/Exception", "<init>", "(Ljava/lang/String;)V"⟩ : MethodName) jdk_59_method_2_code 2 (Option.none : Option Jvm.ClassFile.FieldType) ({ frames := 4, cells := 1, slots := 2752, locals := 55 } : Room) #[(.ref a), (.ref g)] Z h0 (fun vR hR LR => vR = none ∧ OPr h0 [a] hR LR) := by
  refine OMetW.body pn_rm_exn (Ls := #[.val (.ref a), .val (.ref g)]) (fun m => by first | (simp [entryFrame, mkF, argsToLocals, Value.category]; done) | rfl) ?_
  intro p e s m below meth c T0 K hK X0 hx hby hml hown hnm hret hlk hZ eh0 es hTK hBl
  have P0 := OPr.refl h0 [a]
  refine g_aloadN X0 hx (hb hby d9_0) (rfl : 0 + 1 = 1) rfl rfl ?_
  refine g_aloadN X0 hx (hb hby d9_1) (rfl : 1 + 1 = 2) rfl rfl ?_
  refine g_specialW (s := s) X0 hx hZ hown eh0 (sinceR s) (Nat.zero_le _) hTK hBl (rm_thr hw a g un se I0 I1 I2 I3 I4 I5 I6 I7 hun hse hl hT hN) rfl (wd hw 79 rfl) (wd hw 80 rfl) (wd hw 84 rfl) (wd hw 83 rfl) (by decide) (a := a) (argsL := [(.ref g)]) (rest := []) rfl rfl (ps := [(.object "java/lang/String")]) (by decide) rfl (W := 0) (Nat.le_of_eq rfl) (by decide) (by decide) (by decide) (by decide) (by rw [hml]; rfl) (hb hby d9_2) (rfl : 2 + 3 = 5) fun v1 T1 hh1 L1 vm1 n1 X1 eh1 Q1 hS1 hk1 hZ1 ho1 => ?_
  obtain ⟨rfl, Pc1⟩ := Q1
  have P1 := P0.call Pc1 (allS (Or.inl (List.mem_of_getElem? (i := 0) rfl)) all0)
  show OGo p e below K T1 (mkF m 5 #[.val (.ref a), .val (.ref g)] [])
  exact g_ret0W (s := s) X1 hx hret hlk hS1 hk1 (hb hby d9_5) (by decide) (by decide) eh1 hK ⟨rfl, P1⟩
theorem d8_0 : decode jdk_131_method_2_code 0 = .ok (.aload_n 0, 1) := by decide +kernel
theorem d8_1 : decode jdk_131_method_2_code 1 = .ok (.aload_n 1, 1) := by decide +kernel
theorem d8_2 : decode jdk_131_method_2_code 2 = .ok (.invokespecial 7, 3) := by decide +kernel
theorem d8_5 : decode jdk_131_method_2_code 5 = .ok (.return_, 1) := by decide +kernel
theorem pn_rm_ioe : plainFor (⟨"java/io/IOException", "<init>", "(Ljava/lang/String;)V"⟩ : MethodName) = true := by first | exact plainFor_of_name (by first | (simp [plainName, overriddenIn]; done) | decide +kernel) | decide +kernel
set_option maxRecDepth 65536 in
set_option maxHeartbeats 40000000 in
theorem rm_ioe {l : Launch} {Z : State} {a0 : Array Value} (hw : ∀ d ∈ tables_1, d.before a0 Z = true) (a : Addr) (g : Addr) (un : Value) (se : Value) {h0 : Heap} (I0 : Exa Z h0 a "java/io/IOException") (I1 : Fld Z h0 a "java/lang/Throwable" "cause" "Ljava/lang/Throwable;" .null) (I2 : Fld Z h0 a "java/lang/Throwable" "stackTrace" "[Ljava/lang/StackTraceElement;" .null) (I3 : Fld Z h0 a "java/lang/Throwable" "suppressedExceptions" "Ljava/util/List;" .null) (I4 : Fld Z h0 a "java/lang/Throwable" "backtrace" "Ljava/lang/Object;" .null) (I5 : Fld Z h0 a "java/lang/Throwable" "detailMessage" "Ljava/lang/String;" .null) (I6 : Sta Z h0 "java/lang/Throwable" "UNASSIGNED_STACK" "[Ljava/lang/StackTraceElement;" un) (I7 : Sta Z h0 "java/lang/Throwable" "SUPPRESSED_SENTINEL" "Ljava/util/List;" se) (hun : un.isRef = true) (hse : se.isRef = true) (hl : l.stackTraces = true) (hT : ThS Z h0) (hN : Unt h0 a) :
    OMetW l (⟨"java/io/IOException", "<init>", "(Ljava/lang/String;)V"⟩ : MethodName) jdk_131_method_2_code 2 (Option.none : Option Jvm.ClassFile.FieldType) ({ frames := 5, cells := 1, slots := 2752, locals := 68 } : Room) #[(.ref a), (.ref g)] Z h0 (fun vR hR LR => vR = none ∧ OPr h0 [a] hR LR) := by
  refine OMetW.body pn_rm_ioe (Ls := #[.val (.ref a), .val (.ref g)]) (fun m => by first | (simp [entryFrame, mkF, argsToLocals, Value.category]; done) | rfl) ?_
  intro p e s m below meth c T0 K hK X0 hx hby hml hown hnm hret hlk hZ eh0 es hTK hBl
  have P0 := OPr.refl h0 [a]
  refine g_aloadN X0 hx (hb hby d8_0) (rfl : 0 + 1 = 1) rfl rfl ?_
  refine g_aloadN X0 hx (hb hby d8_1) (rfl : 1 + 1 = 2) rfl rfl ?_
  refine g_specialW (s := s) X0 hx hZ hown eh0 (sinceR s) (Nat.zero_le _) hTK hBl (rm_exn hw a g un se I0 I1 I2 I3 I4 I5 I6 I7 hun hse hl hT hN) rfl (wd hw 73 rfl) (wd hw 74 rfl) (wd hw 78 rfl) (wd hw 77 rfl) (by decide) (a := a) (argsL := [(.ref g)]) (rest := []) rfl rfl (ps := [(.object "java/lang/String")]) (by decide) rfl (W := 0) (Nat.le_of_eq rfl) (by decide) (by decide) (by decide) (by decide) (by rw [hml]; rfl) (hb hby d8_2) (rfl : 2 + 3 = 5) fun v1 T1 hh1 L1 vm1 n1 X1 eh1 Q1 hS1 hk1 hZ1 ho1 => ?_
  obtain ⟨rfl, Pc1⟩ := Q1
  have P1 := P0.call Pc1 (allS (Or.inl (List.mem_of_getElem? (i := 0) rfl)) all0)
  show OGo p e below K T1 (mkF m 5 #[.val (.ref a), .val (.ref g)] [])
  exact g_ret0W (s := s) X1 hx hret hlk hS1 hk1 (hb hby d8_5) (by decide) (by decide) eh1 hK ⟨rfl, P1⟩
theorem d7_0 : decode prog_12_method_5_code 0 = .ok (.aload_n 0, 1) := by decide +kernel
theorem d7_1 : decode prog_12_method_5_code 1 = .ok (.getfield 31, 3) := by decide +kernel
theorem d7_4 : decode prog_12_method_5_code 4 = .ok (.ifnonnull 44, 3) := by decide +kernel
theorem d7_7 : decode prog_12_method_5_code 7 = .ok (.aload_n 0, 1) := by decide +kernel
theorem d7_8 : decode prog_12_method_5_code 8 = .ok (.new 49, 3) := by decide +kernel
theorem d7_11 : decode prog_12_method_5_code 11 = .ok (.dup, 1) := by decide +kernel
theorem d7_12 : decode prog_12_method_5_code 12 = .ok (.aload_n 0, 1) := by decide +kernel
theorem d7_13 : decode prog_12_method_5_code 13 = .ok (.getfield 20, 3) := by decide +kernel
theorem d7_16 : decode prog_12_method_5_code 16 = .ok (.ifCond .eq 24, 3) := by decide +kernel
theorem d7_19 : decode prog_12_method_5_code 19 = .ok (.aload_n 0, 1) := by decide +kernel
theorem d7_20 : decode prog_12_method_5_code 20 = .ok (.getfield 24, 3) := by decide +kernel
theorem d7_23 : decode prog_12_method_5_code 23 = .ok (.lconst 0, 1) := by decide +kernel
theorem d7_24 : decode prog_12_method_5_code 24 = .ok (.lcmp, 1) := by decide +kernel
theorem d7_25 : decode prog_12_method_5_code 25 = .ok (.ifCond .ge 15, 3) := by decide +kernel
theorem d7_28 : decode prog_12_method_5_code 28 = .ok (.aload_n 0, 1) := by decide +kernel
theorem d7_29 : decode prog_12_method_5_code 29 = .ok (.getfield 60, 3) := by decide +kernel
theorem d7_32 : decode prog_12_method_5_code 32 = .ok (.ifCond .ne 8, 3) := by decide +kernel
theorem d7_35 : decode prog_12_method_5_code 35 = .ok (.ldc 64, 2) := by decide +kernel
theorem d7_37 : decode prog_12_method_5_code 37 = .ok (.goto 5, 3) := by decide +kernel
theorem d7_40 : decode prog_12_method_5_code 40 = .ok (.ldc 66, 2) := by decide +kernel
theorem d7_42 : decode prog_12_method_5_code 42 = .ok (.invokespecial 68, 3) := by decide +kernel
theorem d7_45 : decode prog_12_method_5_code 45 = .ok (.putfield 31, 3) := by decide +kernel
theorem d7_48 : decode prog_12_method_5_code 48 = .ok (.aload_n 0, 1) := by decide +kernel
theorem d7_49 : decode prog_12_method_5_code 49 = .ok (.getfield 31, 3) := by decide +kernel
theorem d7_52 : decode prog_12_method_5_code 52 = .ok (.areturn, 1) := by decide +kernel
theorem pn_rm_cut : plainFor (⟨"com/example/twofold/twofold/io/http/BodyReader", "cutOff", "()Ljava/io/IOException;"⟩ : MethodName) = true := by first | exact plainFor_of_name (by first | (simp [plainName, overriddenIn]; done) | decide +kernel) | decide +kernel
set_option maxRecDepth 65536 in
set_option maxHeartbeats 40000000 in
theorem rm_cut {l : Launch} {Z : State} {a0 : Array Value} (hw : ∀ d ∈ tables_1, d.before a0 Z = true) (a : Addr) (ch : Int32) (rem : Int64) (en : Int32) (le : Int32) (un : Value) (se : Value) {h0 : Heap} (I0 : Exa Z h0 a "com/example/twofold/twofold/io/http/BodyReader") (I1 : Fld Z h0 a "com/example/twofold/twofold/io/http/BodyReader" "chunked" "Z" (.int ch)) (I2 : Fld Z h0 a "com/example/twofold/twofold/io/http/BodyReader" "remaining" "J" (.long rem)) (I3 : Fld Z h0 a "com/example/twofold/twofold/io/http/BodyReader" "ended" "Z" (.int en)) (I4 : Fld Z h0 a "com/example/twofold/twofold/io/http/BodyReader" "failure" "Ljava/io/IOException;" .null) (I5 : Fld Z h0 a "com/example/twofold/twofold/io/http/BodyReader" "lineEnd" "I" (.int le)) (I6 : Sta Z h0 "java/lang/Throwable" "UNASSIGNED_STACK" "[Ljava/lang/StackTraceElement;" un) (I7 : Sta Z h0 "java/lang/Throwable" "SUPPRESSED_SENTINEL" "Ljava/util/List;" se) (hun : un.isRef = true) (hse : se.isRef = true) (hl : l.stackTraces = true) (hT : ThS Z h0) :
    OMetW l (⟨"com/example/twofold/twofold/io/http/BodyReader", "cutOff", "()Ljava/io/IOException;"⟩ : MethodName) prog_12_method_5_code 1 (Option.some (Jvm.ClassFile.FieldType.object "java/io/IOException")) ({ frames := 6, cells := 4, slots := 2930, locals := 83 } : Room) #[(.ref a)] Z h0 (fun vR hR LR => ∃ x : Addr, vR = some (.ref x) ∧ OPr h0 [a] hR LR ∧ Exa Z hR a "com/example/twofold/twofold/io/http/BodyReader" ∧ Fld Z hR a "com/example/twofold/twofold/io/http/BodyReader" "ended" "Z" (.int en) ∧ Fld Z hR a "com/example/twofold/twofold/io/http/BodyReader" "failure" "Ljava/io/IOException;" (.ref x)) := by
  refine OMetW.body pn_rm_cut (Ls := #[.val (.ref a)]) (fun m => by first | (simp [entryFrame, mkF, argsToLocals, Value.category]; done) | rfl) ?_
  intro p e s m below meth c T0 K hK X0 hx hby hml hown hnm hret hlk hZ eh0 es hTK hBl
  have P0 := OPr.refl h0 [a]
  refine g_aloadN X0 hx (hb hby d7_0) (rfl : 0 + 1 = 1) rfl rfl ?_
  refine g_getf X0 hx hZ hown (host := "") (Or.inl (wd hw 44 rfl)) Via.refl eh0 I4 (hb hby d7_1) (rfl : 1 + 3 = 4) fun T1 X1 eh1 => ?_
  refine g_nonnullN X1 hx (hb hby d7_4) (rfl : 4 + 3 = 7) ?_
  refine g_aloadN X1 hx (hb hby d7_7) (rfl : 7 + 1 = 8) rfl rfl ?_
  refine g_newU X1 hx hZ hown (wd hw 61 rfl) (wd hw 62 rfl) (wd hw 63 rfl) eh1 P0 (hb hby d7_8) (rfl : 8 + 3 = 11) (by decide) (by decide) fun T2 hh2 a2 q2 g2 X2 eh2 E2 P2 A2 D2 N2 => ?_
  have f3 : Fld Z hh2 a2 "java/lang/Throwable" "cause" "Ljava/lang/Throwable;" .null := D2 (Or.inl (wd hw 87 rfl)) (ty := (.object "java/lang/Throwable")) (by decide)
  have f4 : Fld Z hh2 a2 "java/lang/Throwable" "stackTrace" "[Ljava/lang/StackTraceElement;" .null := D2 (Or.inl (wd hw 90 rfl)) (ty := (.array (.object "java/lang/StackTraceElement"))) (by decide)
  have f5 : Fld Z hh2 a2 "java/lang/Throwable" "suppressedExceptions" "Ljava/util/List;" .null := D2 (Or.inl (wd hw 93 rfl)) (ty := (.object "java/util/List")) (by decide)
  have f6 : Fld Z hh2 a2 "java/lang/Throwable" "detailMessage" "Ljava/lang/String;" .null := D2 (Or.inl (wd hw 117 rfl)) (ty := (.object "java/lang/String")) (by decide)
  have f7 : Fld Z hh2 a2 "java/lang/Throwable" "backtrace" "Ljava/lang/Object;" .null := D2 (Or.inl (wd hw 118 rfl)) (ty := (.object "java/lang/Object")) (by decide)
  have f8 : Fld Z hh2 a2 "java/lang/Throwable" "depth" "I" (.int (0 : Int32)) := D2 (Or.inl (wd hw 119 rfl)) (ty := .int) (by decide)
  refine g_dup X2 hx (hb hby d7_11) (rfl : 11 + 1 = 12) rfl ?_
  refine g_aloadN X2 hx (hb hby d7_12) (rfl : 12 + 1 = 13) rfl rfl ?_
  have F9 := (I1.ext E2)
  refine g_getf X2 hx hZ hown (host := "") (Or.inl (wd hw 33 rfl)) Via.refl eh2 F9 (hb hby d7_13) (rfl : 13 + 3 = 16) fun T10 X10 eh10 => ?_
  by_cases h1 : ch = (0 : Int32)
  · refine g_ifY X10 hx (hb hby d7_16) (XT.i0_eq_t h1) (by decide) (pc' := 40) (by decide) ?_
    refine g_ldcS (s := s) X10 hx hZ hown (wd hw 64 rfl) (strA hw) eh10 (sinceR s) (Nat.zero_le _) P2 (hb hby d7_40) (rfl : 40 + 2 = 42) (n := 168) (by decide +kernel) (by decide) (by decide) (by decide) fun a11 T11 hh11 vm11 n11 X11 eh11 E11 P11 hS11 hk11 hZ11 ho11 => ?_
    have F13 := (A2.ext E11)
    have F14 := (f3.ext E11)
    have F15 := (f4.ext E11)
    have F16 := (f5.ext E11)
    have F17 := (f7.ext E11)
    have F18 := (f6.ext E11)
    have F19 := (staP I6 P11)
    have F20 := (staP I7 P11)
    refine g_specialW (s := s) X11 hx hZ11 ho11 eh11 hS11 hk11 hTK hBl (rm_ioe hw a2 a11 un se F13 F14 F15 F16 F17 F18 F19 F20 hun hse hl (ThS.pr hT P11) (Unt.ext E11 N2)) rfl (wd hw 70 rfl) (wd hw 71 rfl) (wd hw 72 rfl) (wd hw 63 rfl) (by decide) (a := a2) (argsL := [(.ref a11)]) (rest := [(.ref a2), (.ref a)]) rfl rfl (ps := [(.object "java/lang/String")]) (by decide) rfl (W := 2) (Nat.le_of_eq rfl) (by decide) (by decide) (by decide) (by decide) (by rw [hml]; rfl) (hb hby d7_42) (rfl : 42 + 3 = 45) fun v12 T12 hh12 L12 vm12 n12 X12 eh12 Q12 hS12 hk12 hZ12 ho12 => ?_
    obtain ⟨rfl, Pc12⟩ := Q12
    have P12 := P11.call Pc12 (allS (Or.inr g2) all0)
    show OGo p e below K T12 (mkF m 45 #[.val (.ref a)] [(.ref a2), (.ref a)])
    have ne21 : a ≠ a2 := Nat.ne_of_lt (Nat.lt_of_lt_of_le I0.lt (Nat.le_of_eq q2.symm))
    have F22 := (fldP ((I4.ext E2).ext E11) Pc12 (ninS ne21 nin0))
    have F23 := (exaP I0 P12)
    refine g_putf X12 hx hZ12 ho12 (host := "") (Or.inl (wd hw 44 rfl)) Via.refl eh12 F22 F23 (Or.inl (wd hw 45 rfl)) (wd hw 2 rfl) (ty := (.object "java/io/IOException")) (by decide) rfl rfl P12 (Or.inl (List.mem_of_getElem? (i := 0) rfl)) (hb hby d7_45) (rfl : 45 + 3 = 48) fun T24 hh24 X24 eh24 W24 P24 F24 => ?_
    refine g_aloadN X24 hx (hb hby d7_48) (rfl : 48 + 1 = 49) rfl rfl ?_
    refine g_getf X24 hx hZ12 ho12 (host := "") (Or.inl (wd hw 44 rfl)) Via.refl eh24 F24 (hb hby d7_49) (rfl : 49 + 3 = 52) fun T25 X25 eh25 => ?_
    have F26 := (F23.wr W24)
    have F27 := ((fldP ((I3.ext E2).ext E11) Pc12 (ninS ne21 nin0)).other W24 (Or.inr (slot_ne (Or.inl (wd hw 38 rfl)) (Or.inl (wd hw 45 rfl)) (by decide) (t := .boolean) (by decide) (t' := (.object "java/io/IOException")) (by decide))))
    exact g_retW (s := s) X25 hx hret hlk hS12 (Nat.le_trans hk12 (wrSz W24)) rfl (Or.inr (Or.inr (Or.inr (Or.inr ⟨rfl, rfl, rfl⟩)))) (hb hby d7_52) (by decide) (by decide) eh25 hK ⟨a2, rfl, P24, F26, F27, F24⟩
  · refine g_ifN X10 hx (hb hby d7_16) (XT.i0_eq_f h1) (rfl : 16 + 3 = 19) ?_
    refine g_aloadN X10 hx (hb hby d7_19) (rfl : 19 + 1 = 20) rfl rfl ?_
    have F28 := (I2.ext E2)
    refine g_getf X10 hx hZ hown (host := "") (Or.inl (wd hw 35 rfl)) Via.refl eh10 F28 (hb hby d7_20) (rfl : 20 + 3 = 23) fun T29 X29 eh29 => ?_
    refine g_lconst X29 hx (0 : Int64) (hb hby d7_23) (rfl : 23 + 1 = 24) (by decide) ?_
    refine g_lcmp X29 hx (hb hby d7_24) (rfl : 24 + 1 = 25) ?_
    by_cases h2 : rem < (0 : Int64)
    · refine g_ifN X29 hx (hb hby d7_25) (XT.ll_ge_f h2) (rfl : 25 + 3 = 28) ?_
      refine g_aloadN X29 hx (hb hby d7_28) (rfl : 28 + 1 = 29) rfl rfl ?_
      have F30 := (I5.ext E2)
      refine g_getf X29 hx hZ hown (host := "") (Or.inl (wd hw 123 rfl)) Via.refl eh29 F30 (hb hby d7_29) (rfl : 29 + 3 = 32) fun T31 X31 eh31 => ?_
      by_cases h3 : le = (0 : Int32)
      · refine g_ifN X31 hx (hb hby d7_32) (XT.i0_ne_f h3) (rfl : 32 + 3 = 35) ?_
        refine g_ldcS (s := s) X31 hx hZ hown (wd hw 125 rfl) (strA hw) eh31 (sinceR s) (Nat.zero_le _) P2 (hb hby d7_35) (rfl : 35 + 2 = 37) (n := 136) (by decide +kernel) (by decide) (by decide) (by decide) fun a32 T32 hh32 vm32 n32 X32 eh32 E32 P32 hS32 hk32 hZ32 ho32 => ?_
        refine g_goto X32 hx (hb hby d7_37) (by decide) (pc' := 42) (by decide) ?_
        have F34 := (A2.ext E32)
        have F35 := (f3.ext E32)
        have F36 := (f4.ext E32)
        have F37 := (f5.ext E32)
        have F38 := (f7.ext E32)
        have F39 := (f6.ext E32)
        have F40 := (staP I6 P32)
        have F41 := (staP I7 P32)
        refine g_specialW (s := s) X32 hx hZ32 ho32 eh32 hS32 hk32 hTK hBl (rm_ioe hw a2 a32 un se F34 F35 F36 F37 F38 F39 F40 F41 hun hse hl (ThS.pr hT P32) (Unt.ext E32 N2)) rfl (wd hw 70 rfl) (wd hw 71 rfl) (wd hw 72 rfl) (wd hw 63 rfl) (by decide) (a := a2) (argsL := [(.ref a32)]) (rest := [(.ref a2), (.ref a)]) rfl rfl (ps := [(.object "java/lang/String")]) (by decide) rfl (W := 2) (Nat.le_of_eq rfl) (by decide) (by decide) (by decide) (by decide) (by rw [hml]; rfl) (hb hby d7_42) (rfl : 42 + 3 = 45) fun v33 T33 hh33 L33 vm33 n33 X33 eh33 Q33 hS33 hk33 hZ33 ho33 => ?_
        obtain ⟨rfl, Pc33⟩ := Q33
        have P33 := P32.call Pc33 (allS (Or.inr g2) all0)
        show OGo p e below K T33 (mkF m 45 #[.val (.ref a)] [(.ref a2), (.ref a)])
        have ne42 : a ≠ a2 := Nat.ne_of_lt (Nat.lt_of_lt_of_le I0.lt (Nat.le_of_eq q2.symm))
        have F43 := (fldP ((I4.ext E2).ext E32) Pc33 (ninS ne42 nin0))
        have F44 := (exaP I0 P33)
        refine g_putf X33 hx hZ33 ho33 (host := "") (Or.inl (wd hw 44 rfl)) Via.refl eh33 F43 F44 (Or.inl (wd hw 45 rfl)) (wd hw 2 rfl) (ty := (.object "java/io/IOException")) (by decide) rfl rfl P33 (Or.inl (List.mem_of_getElem? (i := 0) rfl)) (hb hby d7_45) (rfl : 45 + 3 = 48) fun T45 hh45 X45 eh45 W45 P45 F45 => ?_
        refine g_aloadN X45 hx (hb hby d7_48) (rfl : 48 + 1 = 49) rfl rfl ?_
        refine g_getf X45 hx hZ33 ho33 (host := "") (Or.inl (wd hw 44 rfl)) Via.refl eh45 F45 (hb hby d7_49) (rfl : 49 + 3 = 52) fun T46 X46 eh46 => ?_
        have F47 := (F44.wr W45)
        have F48 := ((fldP ((I3.ext E2).ext E32) Pc33 (ninS ne42 nin0)).other W45 (Or.inr (slot_ne (Or.inl (wd hw 38 rfl)) (Or.inl (wd hw 45 rfl)) (by decide) (t := .boolean) (by decide) (t' := (.object "java/io/IOException")) (by decide))))
        exact g_retW (s := s) X46 hx hret hlk hS33 (Nat.le_trans hk33 (wrSz W45)) rfl (Or.inr (Or.inr (Or.inr (Or.inr ⟨rfl, rfl, rfl⟩)))) (hb hby d7_52) (by decide) (by decide) eh46 hK ⟨a2, rfl, P45, F47, F48, F45⟩
      · refine g_ifY X31 hx (hb hby d7_32) (XT.i0_ne_t h3) (by decide) (pc' := 40) (by decide) ?_
        refine g_ldcS (s := s) X31 hx hZ hown (wd hw 64 rfl) (strA hw) eh31 (sinceR s) (Nat.zero_le _) P2 (hb hby d7_40) (rfl : 40 + 2 = 42) (n := 168) (by decide +kernel) (by decide) (by decide) (by decide) fun a49 T49 hh49 vm49 n49 X49 eh49 E49 P49 hS49 hk49 hZ49 ho49 => ?_
        have F51 := (A2.ext E49)
        have F52 := (f3.ext E49)
        have F53 := (f4.ext E49)
        have F54 := (f5.ext E49)
        have F55 := (f7.ext E49)
        have F56 := (f6.ext E49)
        have F57 := (staP I6 P49)
        have F58 := (staP I7 P49)
        refine g_specialW (s := s) X49 hx hZ49 ho49 eh49 hS49 hk49 hTK hBl (rm_ioe hw a2 a49 un se F51 F52 F53 F54 F55 F56 F57 F58 hun hse hl (ThS.pr hT P49) (Unt.ext E49 N2)) rfl (wd hw 70 rfl) (wd hw 71 rfl) (wd hw 72 rfl) (wd hw 63 rfl) (by decide) (a := a2) (argsL := [(.ref a49)]) (rest := [(.ref a2), (.ref a)]) rfl rfl (ps := [(.object "java/lang/String")]) (by decide) rfl (W := 2) (Nat.le_of_eq rfl) (by decide) (by decide) (by decide) (by decide) (by rw [hml]; rfl) (hb hby d7_42) (rfl : 42 + 3 = 45) fun v50 T50 hh50 L50 vm50 n50 X50 eh50 Q50 hS50 hk50 hZ50 ho50 => ?_
        obtain ⟨rfl, Pc50⟩ := Q50
        have P50 := P49.call Pc50 (allS (Or.inr g2) all0)
        show OGo p e below K T50 (mkF m 45 #[.val (.ref a)] [(.ref a2), (.ref a)])
        have ne59 : a ≠ a2 := Nat.ne_of_lt (Nat.lt_of_lt_of_le I0.lt (Nat.le_of_eq q2.symm))
        have F60 := (fldP ((I4.ext E2).ext E49) Pc50 (ninS ne59 nin0))
        have F61 := (exaP I0 P50)
        refine g_putf X50 hx hZ50 ho50 (host := "") (Or.inl (wd hw 44 rfl)) Via.refl eh50 F60 F61 (Or.inl (wd hw 45 rfl)) (wd hw 2 rfl) (ty := (.object "java/io/IOException")) (by decide) rfl rfl P50 (Or.inl (List.mem_of_getElem? (i := 0) rfl)) (hb hby d7_45) (rfl : 45 + 3 = 48) fun T62 hh62 X62 eh62 W62 P62 F62 => ?_
        refine g_aloadN X62 hx (hb hby d7_48) (rfl : 48 + 1 = 49) rfl rfl ?_
        refine g_getf X62 hx hZ50 ho50 (host := "") (Or.inl (wd hw 44 rfl)) Via.refl eh62 F62 (hb hby d7_49) (rfl : 49 + 3 = 52) fun T63 X63 eh63 => ?_
        have F64 := (F61.wr W62)
        have F65 := ((fldP ((I3.ext E2).ext E49) Pc50 (ninS ne59 nin0)).other W62 (Or.inr (slot_ne (Or.inl (wd hw 38 rfl)) (Or.inl (wd hw 45 rfl)) (by decide) (t := .boolean) (by decide) (t' := (.object "java/io/IOException")) (by decide))))
        exact g_retW (s := s) X63 hx hret hlk hS50 (Nat.le_trans hk50 (wrSz W62)) rfl (Or.inr (Or.inr (Or.inr (Or.inr ⟨rfl, rfl, rfl⟩)))) (hb hby d7_52) (by decide) (by decide) eh63 hK ⟨a2, rfl, P62, F64, F65, F62⟩
    · refine g_ifY X29 hx (hb hby d7_25) (XT.ll_ge_t h2) (by decide) (pc' := 40) (by decide) ?_
      refine g_ldcS (s := s) X29 hx hZ hown (wd hw 64 rfl) (strA hw) eh29 (sinceR s) (Nat.zero_le _) P2 (hb hby d7_40) (rfl : 40 + 2 = 42) (n := 168) (by decide +kernel) (by decide) (by decide) (by decide) fun a66 T66 hh66 vm66 n66 X66 eh66 E66 P66 hS66 hk66 hZ66 ho66 => ?_
      have F68 := (A2.ext E66)
      have F69 := (f3.ext E66)
      have F70 := (f4.ext E66)
      have F71 := (f5.ext E66)
      have F72 := (f7.ext E66)
      have F73 := (f6.ext E66)
      have F74 := (staP I6 P66)
      have F75 := (staP I7 P66)
      refine g_specialW (s := s) X66 hx hZ66 ho66 eh66 hS66 hk66 hTK hBl (rm_ioe hw a2 a66 un se F68 F69 F70 F71 F72 F73 F74 F75 hun hse hl (ThS.pr hT P66) (Unt.ext E66 N2)) rfl (wd hw 70 rfl) (wd hw 71 rfl) (wd hw 72 rfl) (wd hw 63 rfl) (by decide) (a := a2) (argsL := [(.ref a66)]) (rest := [(.ref a2), (.ref a)]) rfl rfl (ps := [(.object "java/lang/String")]) (by decide) rfl (W := 2) (Nat.le_of_eq rfl) (by decide) (by decide) (by decide) (by decide) (by rw [hml]; rfl) (hb hby d7_42) (rfl : 42 + 3 = 45) fun v67 T67 hh67 L67 vm67 n67 X67 eh67 Q67 hS67 hk67 hZ67 ho67 => ?_
      obtain ⟨rfl, Pc67⟩ := Q67
      have P67 := P66.call Pc67 (allS (Or.inr g2) all0)
      show OGo p e below K T67 (mkF m 45 #[.val (.ref a)] [(.ref a2), (.ref a)])
      have ne76 : a ≠ a2 := Nat.ne_of_lt (Nat.lt_of_lt_of_le I0.lt (Nat.le_of_eq q2.symm))
      have F77 := (fldP ((I4.ext E2).ext E66) Pc67 (ninS ne76 nin0))
      have F78 := (exaP I0 P67)
      refine g_putf X67 hx hZ67 ho67 (host := "") (Or.inl (wd hw 44 rfl)) Via.refl eh67 F77 F78 (Or.inl (wd hw 45 rfl)) (wd hw 2 rfl) (ty := (.object "java/io/IOException")) (by decide) rfl rfl P67 (Or.inl (List.mem_of_getElem? (i := 0) rfl)) (hb hby d7_45) (rfl : 45 + 3 = 48) fun T79 hh79 X79 eh79 W79 P79 F79 => ?_
      refine g_aloadN X79 hx (hb hby d7_48) (rfl : 48 + 1 = 49) rfl rfl ?_
      refine g_getf X79 hx hZ67 ho67 (host := "") (Or.inl (wd hw 44 rfl)) Via.refl eh79 F79 (hb hby d7_49) (rfl : 49 + 3 = 52) fun T80 X80 eh80 => ?_
      have F81 := (F78.wr W79)
      have F82 := ((fldP ((I3.ext E2).ext E66) Pc67 (ninS ne76 nin0)).other W79 (Or.inr (slot_ne (Or.inl (wd hw 38 rfl)) (Or.inl (wd hw 45 rfl)) (by decide) (t := .boolean) (by decide) (t' := (.object "java/io/IOException")) (by decide))))
      exact g_retW (s := s) X80 hx hret hlk hS67 (Nat.le_trans hk67 (wrSz W79)) rfl (Or.inr (Or.inr (Or.inr (Or.inr ⟨rfl, rfl, rfl⟩)))) (hb hby d7_52) (by decide) (by decide) eh80 hK ⟨a2, rfl, P79, F81, F82, F79⟩
theorem pn_rm0 : plainFor x = true := by first | exact plainFor_of_name (by first | (simp [plainName, overriddenIn]; done) | decide +kernel) | decide +kernel
set_option maxRecDepth 65536 in
set_option maxHeartbeats 40000000 in
theorem rm0 {l : Launch} {Z : State} {a0 : Array Value} (hw : ∀ d ∈ tables_1, d.before a0 Z = true) (p1 : Int64) (p2 : Int64) (p3 : Int64) (p4 : Int32) (cs : Int32) (un : Value) (se : Value) {h0 : Heap} (I0 : Sta Z h0 "java/lang/String" "COMPACT_STRINGS" "Z" (.int cs)) (I1 : Sta Z h0 "java/lang/Throwable" "UNASSIGNED_STACK" "[Ljava/lang/StackTraceElement;" un) (I2 : Sta Z h0 "java/lang/Throwable" "SUPPRESSED_SENTINEL" "Ljava/util/List;" se) (hcs : ¬ cs = 0) (hun : un.isRef = true) (hse : se.isRef = true) (hl : l.stackTraces = true) (hT : ThS Z h0) :
    OMetW l x code maxLocals ret room_1 #[(.long p1), (.long p2), (.long p3), (.int p4)] Z h0 (fun vR hR LR => vR = some (.int (1 : Int32)) ∧ OPr h0 [] hR LR) := by
  refine OMetW.body pn_rm0 (Ls := #[.val (.long p1), .second, .val (.long p2), .second, .val (.long p3), .second, .val (.int p4), .unset, .unset, .unset, .unset, .unset, .unset, .unset, .unset, .unset, .unset, .unset, .unset]) (fun m => by first | (simp [entryFrame, mkF, argsToLocals, Value.category, maxLocals]; done) | rfl) ?_
  intro p e s m below meth c T0 K hK X0 hx hby hml hown hnm hret hlk hZ eh0 es hTK hBl
  have P0 := OPr.refl h0 []
  refine g_lloadN X0 hx (hb hby at_0) (rfl : 0 + 1 = 1) rfl ?_
  refine g_ldc2J X0 hx hZ hown (wd hw 0 rfl) (hb hby at_1) (rfl : 1 + 3 = 4) ?_
  refine g_lcmp X0 hx (hb hby at_4) (rfl : 4 + 1 = 5) ?_
  have key : ∀ (len : Int64), OGo p e below K T0 (mkF m 17 #[.val (.long p1), .second, .val (.long p2), .second, .val (.long p3), .second, .val (.int p4), .unset, .unset, .unset, .unset, .unset, .unset, .unset, .unset, .unset, .unset, .unset, .unset] [(.long len)]) := by
    intro len
    refine g_lstore X0 hx (hb hby at_17) (rfl : 17 + 2 = 19) (Ls' := #[.val (.long p1), .second, .val (.long p2), .second, .val (.long p3), .second, .val (.int p4), .val (.long len), .second, .unset, .unset, .unset, .unset, .unset, .unset, .unset, .unset, .unset, .unset]) rfl ?_
    refine g_new X0 hx hZ hown (wd hw 1 rfl) (wd hw 2 rfl) (wd hw 3 rfl) eh0 P0 (hb hby at_19) (rfl : 19 + 3 = 22) (by decide) (by decide) fun T1 hh1 a1 q1 g1 X1 eh1 E1 P1 A1 D1 => ?_
    have f2 : Fld Z hh1 a1 "com/example/twofold/twofold/io/http/BodyReader" "sizeLine" "Ljava/lang/StringBuilder;" .null := D1 (Or.inr (wd hw 31 rfl)) (ty := (.object "java/lang/StringBuilder")) (by decide)
    have f3 : Fld Z hh1 a1 "com/example/twofold/twofold/io/http/BodyReader" "chunked" "Z" (.int (0 : Int32)) := D1 (Or.inr (wd hw 34 rfl)) (ty := .boolean) (by decide)
    have f4 : Fld Z hh1 a1 "com/example/twofold/twofold/io/http/BodyReader" "remaining" "J" (.long (0 : Int64)) := D1 (Or.inl (wd hw 36 rfl)) (ty := .long) (by decide)
    have f5 : Fld Z hh1 a1 "com/example/twofold/twofold/io/http/BodyReader" "ended" "Z" (.int (0 : Int32)) := D1 (Or.inl (wd hw 38 rfl)) (ty := .boolean) (by decide)
    have f6 : Fld Z hh1 a1 "com/example/twofold/twofold/io/http/BodyReader" "failure" "Ljava/io/IOException;" .null := D1 (Or.inl (wd hw 45 rfl)) (ty := (.object "java/io/IOException")) (by decide)
    have f7 : Fld Z hh1 a1 "com/example/twofold/twofold/io/http/BodyReader" "lineEnd" "I" (.int (0 : Int32)) := D1 (Or.inl (wd hw 124 rfl)) (ty := .int) (by decide)
    refine g_dup X1 hx (hb hby at_22) (rfl : 22 + 1 = 23) rfl ?_
    refine g_lload X1 hx (hb hby at_23) (rfl : 23 + 2 = 25) rfl ?_
    have F9 := (I0.ext E1)
    refine g_special X1 hx hZ hown eh1 (rm_br hw a1 len cs A1 f3 f4 f5 f6 f2 F9 f7 hcs) rfl (wd hw 4 rfl) (wd hw 5 rfl) (wd hw 6 rfl) (wd hw 3 rfl) (by decide) (a := a1) (argsL := [(.long len)]) (rest := [(.ref a1)]) rfl rfl (ps := [.long]) (by decide) rfl (W := 1) (Nat.le_of_eq rfl) (by decide) (by decide) (by decide) (by decide) (by rw [hml]; rfl) (hb hby at_25) (rfl : 25 + 3 = 28) fun v8 T8 hh8 L8 X8 eh8 Q8 => ?_
    obtain ⟨rfl, Pc8, G8_0, G8_1, G8_2, G8_3, G8_4⟩ := Q8
    have P8 := P1.call Pc8 (allS (Or.inr g1) all0)
    show OGo p e below K T8 (mkF m 28 #[.val (.long p1), .second, .val (.long p2), .second, .val (.long p3), .second, .val (.int p4), .val (.long len), .second, .unset, .unset, .unset, .unset, .unset, .unset, .unset, .unset, .unset, .unset] [(.ref a1)])
    refine g_astore X8 hx (hb hby at_28) (rfl : 28 + 2 = 30) rfl (Ls' := #[.val (.long p1), .second, .val (.long p2), .second, .val (.long p3), .second, .val (.int p4), .val (.long len), .second, .val (.ref a1), .unset, .unset, .unset, .unset, .unset, .unset, .unset, .unset, .unset]) rfl ?_
    refine g_aload X8 hx (hb hby at_30) (rfl : 30 + 2 = 32) rfl rfl ?_
    have F11 := (exaP A1 Pc8)
    refine g_virtual X8 hx hZ hown eh8 (rm_over hw a1 (if len = 0 then 1 else 0 : Int32) .null G8_2 G8_3 rfl) (C := "com/example/twofold/twofold/io/http/BodyReader") (wd hw 39 rfl) (wd hw 40 rfl) (notFace_of_selects (args := #[]) (mvT hZ (wd hw 42 rfl))) (wd hw 42 rfl) (wd hw 41 rfl) (wd hw 43 rfl) (wd hw 3 rfl) (by decide) (a := a1) F11 (argsL := []) (rest := []) rfl rfl (ps := []) (rt := (some .boolean)) (by decide) rfl (W := 0) (Nat.le_of_eq rfl) (by decide) (by decide) (by decide) (by decide) (by rw [hml]; rfl) (hb hby at_32) (rfl : 32 + 3 = 35) fun v10 T10 hh10 L10 X10 eh10 Q10 => ?_
    obtain ⟨rfl, Pc10⟩ := Q10
    have P10 := P8.call Pc10 all0
    show OGo p e below K T10 (mkF m 35 #[.val (.long p1), .second, .val (.long p2), .second, .val (.long p3), .second, .val (.int p4), .val (.long len), .second, .val (.ref a1), .unset, .unset, .unset, .unset, .unset, .unset, .unset, .unset, .unset] [(.int (if (if len = 0 then 1 else 0 : Int32) = 0 ∧ (.null : Value) = .null then 0 else 1 : Int32))])
    refine g_lload X10 hx (hb hby at_35) (rfl : 35 + 2 = 37) rfl ?_
    refine g_lconst X10 hx (0 : Int64) (hb hby at_37) (rfl : 37 + 1 = 38) (by decide) ?_
    refine g_lcmp X10 hx (hb hby at_38) (rfl : 38 + 1 = 39) ?_
    by_cases hz : len = (0 : Int64)
    · refine g_ifN X10 hx (hb hby at_39) (XT.ll_ne_f hz) (rfl : 39 + 3 = 42) ?_
      refine g_iconst X10 hx (1 : Int32) (hb hby at_42) (rfl : 42 + 1 = 43) (by decide) ?_
      refine g_goto X10 hx (hb hby at_43) (by decide) (pc' := 47) (by decide) ?_
      refine g_icmpN X10 hx (hb hby at_47) (XT.ii_ne_f (by rw [if_pos hz]; simp)) (rfl : 47 + 3 = 50) ?_
      refine g_iconst X10 hx (1 : Int32) (hb hby at_50) (rfl : 50 + 1 = 51) (by decide) ?_
      refine g_goto X10 hx (hb hby at_51) (by decide) (pc' := 55) (by decide) ?_
      refine g_istore X10 hx (hb hby at_55) (rfl : 55 + 2 = 57) (Ls' := #[.val (.long p1), .second, .val (.long p2), .second, .val (.long p3), .second, .val (.int p4), .val (.long len), .second, .val (.ref a1), .val (.int (1 : Int32)), .unset, .unset, .unset, .unset, .unset, .unset, .unset, .unset]) rfl ?_
      refine g_lload X10 hx (hb hby at_57) (rfl : 57 + 2 = 59) rfl ?_
      refine g_lconst X10 hx (0 : Int64) (hb hby at_59) (rfl : 59 + 1 = 60) (by decide) ?_
      refine g_lcmp X10 hx (hb hby at_60) (rfl : 60 + 1 = 61) ?_
      refine g_ifY X10 hx (hb hby at_61) (XT.ll_le_t (by rw [hz]; decide)) (by decide) (pc' := 232) (by decide) ?_
      refine g_iload X10 hx (hb hby at_232) (rfl : 232 + 2 = 234) rfl ?_
      refine g_iconst X10 hx (2 : Int32) (hb hby at_234) (rfl : 234 + 1 = 235) (by decide) ?_
      refine g_iand X10 hx (hb hby at_235) (rfl : 235 + 1 = 236) (z := (p4 &&& (2 : Int32))) rfl ?_
      by_cases hf2 : (p4 &&& (2 : Int32)) = (0 : Int32)
      · refine g_ifY X10 hx (hb hby at_236) (XT.i0_eq_t hf2) (by decide) (pc' := 265) (by decide) ?_
        refine g_iload X10 hx (hb hby at_265) (rfl : 265 + 2 = 267) rfl ?_
        exact g_retW (s := s) X10 hx hret hlk (sinceR s) (Nat.zero_le _) rfl (Or.inl ⟨rfl, Or.inr (Or.inl rfl), _, rfl⟩) (hb hby at_267) (by decide) (by decide) eh10 hK ⟨rfl, P10⟩
      · refine g_ifN X10 hx (hb hby at_236) (XT.i0_eq_f hf2) (rfl : 236 + 3 = 239) ?_
        refine g_aload X10 hx (hb hby at_239) (rfl : 239 + 2 = 241) rfl rfl ?_
        have F13 := (exaP F11 Pc10)
        have F14 := (fldP G8_0 Pc10 nin0)
        have F15 := (fldP G8_1 Pc10 nin0)
        have F16 := (fldP G8_2 Pc10 nin0)
        have F17 := (fldP G8_3 Pc10 nin0)
        have F18 := (fldP G8_4 Pc10 nin0)
        have F19 := (staP I1 P10)
        have F20 := (staP I2 P10)
        refine g_virtualW (s := s) X10 hx hZ hown eh10 (sinceR s) (Nat.zero_le _) hTK hBl (rm_cut hw a1 (if len = -1 then 1 else 0 : Int32) len (if len = 0 then 1 else 0 : Int32) (0 : Int32) un se F13 F14 F15 F16 F17 F18 F19 F20 hun hse hl (ThS.pr hT P10)) (C := "com/example/twofold/twofold/io/http/BodyReader") (wd hw 56 rfl) (wd hw 57 rfl) (notFace_of_selects (args := #[]) (mvT hZ (wd hw 59 rfl))) (wd hw 59 rfl) (wd hw 58 rfl) (wd hw 60 rfl) (wd hw 3 rfl) (by decide) (a := a1) F13 (argsL := []) (rest := []) rfl rfl (ps := []) (rt := (some (.object "java/io/IOException"))) (by decide) rfl (W := 0) (Nat.le_of_eq rfl) (by decide) (by decide) (by decide) (by decide) (by rw [hml]; rfl) (hb hby at_241) (rfl : 241 + 3 = 244) fun v12 T12 hh12 L12 vm12 n12 X12 eh12 Q12 hS12 hk12 hZ12 ho12 => ?_
        obtain ⟨x_12, rfl, Pc12, G12_0, G12_1, G12_2⟩ := Q12
        have P12 := P10.call Pc12 (allS (Or.inr g1) all0)
        show OGo p e below K T12 (mkF m 244 #[.val (.long p1), .second, .val (.long p2), .second, .val (.long p3), .second, .val (.int p4), .val (.long len), .second, .val (.ref a1), .val (.int (1 : Int32)), .unset, .unset, .unset, .unset, .unset, .unset, .unset, .unset] [(.ref x_12)])
        refine g_pop X12 hx (hb hby at_244) (rfl : 244 + 1 = 245) rfl ?_
        refine g_iload X12 hx (hb hby at_245) (rfl : 245 + 2 = 247) rfl ?_
        refine g_ifN X12 hx (hb hby at_247) (XT.i0_eq_f (by decide)) (rfl : 247 + 3 = 250) ?_
        refine g_aload X12 hx (hb hby at_250) (rfl : 250 + 2 = 252) rfl rfl ?_
        refine g_virtual X12 hx hZ12 ho12 eh12 (rm_over hw a1 (if len = 0 then 1 else 0 : Int32) (.ref x_12) G12_1 G12_2 rfl) (C := "com/example/twofold/twofold/io/http/BodyReader") (wd hw 39 rfl) (wd hw 40 rfl) (notFace_of_selects (args := #[]) (mvT hZ12 (wd hw 42 rfl))) (wd hw 42 rfl) (wd hw 41 rfl) (wd hw 43 rfl) (wd hw 3 rfl) (by decide) (a := a1) G12_0 (argsL := []) (rest := []) rfl rfl (ps := []) (rt := (some .boolean)) (by decide) rfl (W := 0) (Nat.le_of_eq rfl) (by decide) (by decide) (by decide) (by decide) (by rw [hml]; rfl) (hb hby at_252) (rfl : 252 + 3 = 255) fun v21 T21 hh21 L21 X21 eh21 Q21 => ?_
        obtain ⟨rfl, Pc21⟩ := Q21
        have P21 := P12.call Pc21 all0
        show OGo p e below K T21 (mkF m 255 #[.val (.long p1), .second, .val (.long p2), .second, .val (.long p3), .second, .val (.int p4), .val (.long len), .second, .val (.ref a1), .val (.int (1 : Int32)), .unset, .unset, .unset, .unset, .unset, .unset, .unset, .unset] [(.int (if (if len = 0 then 1 else 0 : Int32) = 0 ∧ ((.ref x_12) : Value) = .null then 0 else 1 : Int32))])
        refine g_ifN X21 hx (hb hby at_255) (XT.i0_eq_f (by simp)) (rfl : 255 + 3 = 258) ?_
        refine g_iconst X21 hx (1 : Int32) (hb hby at_258) (rfl : 258 + 1 = 259) (by decide) ?_
        refine g_goto X21 hx (hb hby at_259) (by decide) (pc' := 263) (by decide) ?_
        refine g_istore X21 hx (hb hby at_263) (rfl : 263 + 2 = 265) (Ls' := #[.val (.long p1), .second, .val (.long p2), .second, .val (.long p3), .second, .val (.int p4), .val (.long len), .second, .val (.ref a1), .val (.int (1 : Int32)), .unset, .unset, .unset, .unset, .unset, .unset, .unset, .unset]) rfl ?_
        refine g_iload X21 hx (hb hby at_265) (rfl : 265 + 2 = 267) rfl ?_
        exact g_retW (s := s) X21 hx hret hlk hS12 (Nat.le_trans hk12 Pc21.size) rfl (Or.inl ⟨rfl, Or.inr (Or.inl rfl), _, rfl⟩) (hb hby at_267) (by decide) (by decide) eh21 hK ⟨rfl, P21⟩
    · refine g_ifY X10 hx (hb hby at_39) (XT.ll_ne_t hz) (by decide) (pc' := 46) (by decide) ?_
      refine g_iconst X10 hx (0 : Int32) (hb hby at_46) (rfl : 46 + 1 = 47) (by decide) ?_
      refine g_icmpN X10 hx (hb hby at_47) (XT.ii_ne_f (by rw [if_neg hz]; simp)) (rfl : 47 + 3 = 50) ?_
      refine g_iconst X10 hx (1 : Int32) (hb hby at_50) (rfl : 50 + 1 = 51) (by decide) ?_
      refine g_goto X10 hx (hb hby at_51) (by decide) (pc' := 55) (by decide) ?_
      refine g_istore X10 hx (hb hby at_55) (rfl : 55 + 2 = 57) (Ls' := #[.val (.long p1), .second, .val (.long p2), .second, .val (.long p3), .second, .val (.int p4), .val (.long len), .second, .val (.ref a1), .val (.int (1 : Int32)), .unset, .unset, .unset, .unset, .unset, .unset, .unset, .unset]) rfl ?_
      refine g_lload X10 hx (hb hby at_57) (rfl : 57 + 2 = 59) rfl ?_
      refine g_lconst X10 hx (0 : Int64) (hb hby at_59) (rfl : 59 + 1 = 60) (by decide) ?_
      refine g_lcmp X10 hx (hb hby at_60) (rfl : 60 + 1 = 61) ?_
      by_cases hp : (0 : Int64) < len
      · refine g_ifN X10 hx (hb hby at_61) (XT.ll_le_f hp) (rfl : 61 + 3 = 64) ?_
        have hm : ¬ len = -1 := fun r => by rw [r] at hp; exact absurd hp (by decide)
        have F22 := (fldP G8_0 Pc10 nin0)
        have F23 := F22
        rw [if_neg hm] at F23
        have F24 := (fldP G8_2 Pc10 nin0)
        have F25 := F24
        rw [if_neg hz] at F25
        refine g_lload X10 hx (hb hby at_64) (rfl : 64 + 2 = 66) rfl ?_
        refine g_ldc2J X10 hx hZ hown (wd hw 46 rfl) (hb hby at_66) (rfl : 66 + 3 = 69) ?_
        refine g_static X10 hx hZ hown eh10 (rm_min hw len (2147483647 : Int64)) (wd hw 47 rfl) (wd hw 48 rfl) (wd hw 50 rfl) (wd hw 49 rfl) (by decide) (argsL := [(.long len), (.long (2147483647 : Int64))]) (rest := []) rfl rfl (ps := [.long, .long]) (rt := (some .long)) (by decide) rfl (W := 0) (Nat.le_of_eq rfl) (by decide) (by decide) (by decide) (by decide) (by rw [hml]; rfl) (hb hby at_69) (rfl : 69 + 3 = 72) fun v26 T26 hh26 L26 X26 eh26 Q26 => ?_
        obtain ⟨rfl, Pc26⟩ := Q26
        have P26 := P10.call Pc26 all0
        show OGo p e below K T26 (mkF m 72 #[.val (.long p1), .second, .val (.long p2), .second, .val (.long p3), .second, .val (.int p4), .val (.long len), .second, .val (.ref a1), .val (.int (1 : Int32)), .unset, .unset, .unset, .unset, .unset, .unset, .unset, .unset] [(.long (if (2147483647 : Int64) < len then (2147483647 : Int64) else len : Int64))])
        refine g_lstore X26 hx (hb hby at_72) (rfl : 72 + 2 = 74) (Ls' := #[.val (.long p1), .second, .val (.long p2), .second, .val (.long p3), .second, .val (.int p4), .val (.long len), .second, .val (.ref a1), .val (.int (1 : Int32)), .val (.long (if (2147483647 : Int64) < len then (2147483647 : Int64) else len : Int64)), .second, .unset, .unset, .unset, .unset, .unset, .unset]) rfl ?_
        refine g_lconst X26 hx (1 : Int64) (hb hby at_74) (rfl : 74 + 1 = 75) (by decide) ?_
        refine g_lloadN X26 hx (hb hby at_75) (rfl : 75 + 1 = 76) rfl ?_
        refine g_ldc2J X26 hx hZ hown (wd hw 46 rfl) (hb hby at_76) (rfl : 76 + 3 = 79) ?_
        refine g_land X26 hx (hb hby at_79) (rfl : 79 + 1 = 80) (z := (p2 &&& (2147483647 : Int64))) rfl ?_
        refine g_lload X26 hx (hb hby at_80) (rfl : 80 + 2 = 82) rfl ?_
        refine g_lrem X26 hx (hb hby at_82) (rfl : 82 + 1 = 83) (capNe hp) ?_
        refine g_ladd X26 hx (hb hby at_83) (rfl : 83 + 1 = 84) (z := ((1 : Int64) + ((p2 &&& (2147483647 : Int64)) % (if (2147483647 : Int64) < len then (2147483647 : Int64) else len : Int64)))) rfl ?_
        refine g_l2i X26 hx (hb hby at_84) (rfl : 84 + 1 = 85) ?_
        obtain ⟨ka, hka⟩ : ∃ z : Int32, z = (((1 : Int64) + ((p2 &&& (2147483647 : Int64)) % (if (2147483647 : Int64) < len then (2147483647 : Int64) else len : Int64)))).toInt32 := ⟨_, rfl⟩
        rw [← hka]
        refine g_istore X26 hx (hb hby at_85) (rfl : 85 + 2 = 87) (Ls' := #[.val (.long p1), .second, .val (.long p2), .second, .val (.long p3), .second, .val (.int p4), .val (.long len), .second, .val (.ref a1), .val (.int (1 : Int32)), .val (.long (if (2147483647 : Int64) < len then (2147483647 : Int64) else len : Int64)), .second, .val (.int ka), .unset, .unset, .unset, .unset, .unset]) rfl ?_
        refine g_aload X26 hx (hb hby at_87) (rfl : 87 + 2 = 89) rfl rfl ?_
        refine g_iload X26 hx (hb hby at_89) (rfl : 89 + 2 = 91) rfl ?_
        have F28 := (exaP (exaP F11 Pc10) Pc26)
        have F29 := (fldP F23 Pc26 nin0)
        have F30 := (fldP (fldP G8_1 Pc10 nin0) Pc26 nin0)
        have F31 := (fldP F25 Pc26 nin0)
        have F32 := (fldP (fldP G8_3 Pc10 nin0) Pc26 nin0)
        have F33 := (fldP (fldP G8_4 Pc10 nin0) Pc26 nin0)
        refine g_virtual X26 hx hZ hown eh26 (rm_taken hw a1 len (0 : Int32) ka .null (0 : Int32) F28 F29 F30 F31 F32 F33 rfl) (C := "com/example/twofold/twofold/io/http/BodyReader") (wd hw 51 rfl) (wd hw 52 rfl) (notFace_of_selects (args := #[]) (mvT hZ (wd hw 54 rfl))) (wd hw 54 rfl) (wd hw 53 rfl) (wd hw 55 rfl) (wd hw 3 rfl) (by decide) (a := a1) F28 (argsL := [(.int ka)]) (rest := []) rfl rfl (ps := [.int]) (rt := none) (by decide) rfl (W := 0) (Nat.le_of_eq rfl) (by decide) (by decide) (by decide) (by decide) (by rw [hml]; rfl) (hb hby at_91) (rfl : 91 + 3 = 94) fun v27 T27 hh27 L27 X27 eh27 Q27 => ?_
        obtain ⟨rfl, Pc27, G27_0, G27_1, G27_2, G27_3, G27_4⟩ := Q27
        have P27 := P26.call Pc27 (allS (Or.inr g1) all0)
        show OGo p e below K T27 (mkF m 94 #[.val (.long p1), .second, .val (.long p2), .second, .val (.long p3), .second, .val (.int p4), .val (.long len), .second, .val (.ref a1), .val (.int (1 : Int32)), .val (.long (if (2147483647 : Int64) < len then (2147483647 : Int64) else len : Int64)), .second, .val (.int ka), .unset, .unset, .unset, .unset, .unset] [])
        refine g_lload X27 hx (hb hby at_94) (rfl : 94 + 2 = 96) rfl ?_
        refine g_iload X27 hx (hb hby at_96) (rfl : 96 + 2 = 98) rfl ?_
        refine g_i2l X27 hx (hb hby at_98) (rfl : 98 + 1 = 99) ?_
        refine g_lsub X27 hx (hb hby at_99) (rfl : 99 + 1 = 100) (z := (len - (ka).toInt64)) rfl ?_
        refine g_lstore X27 hx (hb hby at_100) (rfl : 100 + 2 = 102) (Ls' := #[.val (.long p1), .second, .val (.long p2), .second, .val (.long p3), .second, .val (.int p4), .val (.long len), .second, .val (.ref a1), .val (.int (1 : Int32)), .val (.long (if (2147483647 : Int64) < len then (2147483647 : Int64) else len : Int64)), .second, .val (.int ka), .val (.long (len - (ka).toInt64)), .second, .unset, .unset, .unset]) rfl ?_
        refine g_iload X27 hx (hb hby at_102) (rfl : 102 + 2 = 104) rfl ?_
        refine g_ifN X27 hx (hb hby at_104) (XT.i0_eq_f (by decide)) (rfl : 104 + 3 = 107) ?_
        refine g_aload X27 hx (hb hby at_107) (rfl : 107 + 2 = 109) rfl rfl ?_
        have F35 := (exaP F28 Pc27)
        refine g_virtual X27 hx hZ hown eh27 (rm_over hw a1 (if len - ka.toInt64 = 0 then 1 else (0 : Int32) : Int32) .null G27_2 G27_3 rfl) (C := "com/example/twofold/twofold/io/http/BodyReader") (wd hw 39 rfl) (wd hw 40 rfl) (notFace_of_selects (args := #[]) (mvT hZ (wd hw 42 rfl))) (wd hw 42 rfl) (wd hw 41 rfl) (wd hw 43 rfl) (wd hw 3 rfl) (by decide) (a := a1) F35 (argsL := []) (rest := []) rfl rfl (ps := []) (rt := (some .boolean)) (by decide) rfl (W := 0) (Nat.le_of_eq rfl) (by decide) (by decide) (by decide) (by decide) (by rw [hml]; rfl) (hb hby at_109) (rfl : 109 + 3 = 112) fun v34 T34 hh34 L34 X34 eh34 Q34 => ?_
        obtain ⟨rfl, Pc34⟩ := Q34
        have P34 := P27.call Pc34 all0
        show OGo p e below K T34 (mkF m 112 #[.val (.long p1), .second, .val (.long p2), .second, .val (.long p3), .second, .val (.int p4), .val (.long len), .second, .val (.ref a1), .val (.int (1 : Int32)), .val (.long (if (2147483647 : Int64) < len then (2147483647 : Int64) else len : Int64)), .second, .val (.int ka), .val (.long (len - (ka).toInt64)), .second, .unset, .unset, .unset] [(.int (if (if len - ka.toInt64 = 0 then 1 else (0 : Int32) : Int32) = 0 ∧ (.null : Value) = .null then 0 else 1 : Int32))])
        refine g_lload X34 hx (hb hby at_112) (rfl : 112 + 2 = 114) rfl ?_
        refine g_lconst X34 hx (0 : Int64) (hb hby at_114) (rfl : 114 + 1 = 115) (by decide) ?_
        refine g_lcmp X34 hx (hb hby at_115) (rfl : 115 + 1 = 116) ?_
        by_cases hr : (len - (ka).toInt64) = (0 : Int64)
        · refine g_ifN X34 hx (hb hby at_116) (XT.ll_ne_f hr) (rfl : 116 + 3 = 119) ?_
          refine g_iconst X34 hx (1 : Int32) (hb hby at_119) (rfl : 119 + 1 = 120) (by decide) ?_
          refine g_goto X34 hx (hb hby at_120) (by decide) (pc' := 124) (by decide) ?_
          refine g_icmpN X34 hx (hb hby at_124) (XT.ii_ne_f (by rw [if_pos hr]; simp)) (rfl : 124 + 3 = 127) ?_
          refine g_iconst X34 hx (1 : Int32) (hb hby at_127) (rfl : 127 + 1 = 128) (by decide) ?_
          refine g_goto X34 hx (hb hby at_128) (by decide) (pc' := 132) (by decide) ?_
          refine g_istore X34 hx (hb hby at_132) (rfl : 132 + 2 = 134) (Ls' := #[.val (.long p1), .second, .val (.long p2), .second, .val (.long p3), .second, .val (.int p4), .val (.long len), .second, .val (.ref a1), .val (.int (1 : Int32)), .val (.long (if (2147483647 : Int64) < len then (2147483647 : Int64) else len : Int64)), .second, .val (.int ka), .val (.long (len - (ka).toInt64)), .second, .unset, .unset, .unset]) rfl ?_
          refine g_lload X34 hx (hb hby at_134) (rfl : 134 + 2 = 136) rfl ?_
          refine g_lconst X34 hx (0 : Int64) (hb hby at_136) (rfl : 136 + 1 = 137) (by decide) ?_
          refine g_lcmp X34 hx (hb hby at_137) (rfl : 137 + 1 = 138) ?_
          refine g_ifY X34 hx (hb hby at_138) (XT.ll_le_t (by rw [hr]; decide)) (by decide) (pc' := 232) (by decide) ?_
          refine g_iload X34 hx (hb hby at_232) (rfl : 232 + 2 = 234) rfl ?_
          refine g_iconst X34 hx (2 : Int32) (hb hby at_234) (rfl : 234 + 1 = 235) (by decide) ?_
          refine g_iand X34 hx (hb hby at_235) (rfl : 235 + 1 = 236) (z := (p4 &&& (2 : Int32))) rfl ?_
          by_cases hf2 : (p4 &&& (2 : Int32)) = (0 : Int32)
          · refine g_ifY X34 hx (hb hby at_236) (XT.i0_eq_t hf2) (by decide) (pc' := 265) (by decide) ?_
            refine g_iload X34 hx (hb hby at_265) (rfl : 265 + 2 = 267) rfl ?_
            exact g_retW (s := s) X34 hx hret hlk (sinceR s) (Nat.zero_le _) rfl (Or.inl ⟨rfl, Or.inr (Or.inl rfl), _, rfl⟩) (hb hby at_267) (by decide) (by decide) eh34 hK ⟨rfl, P34⟩
          · refine g_ifN X34 hx (hb hby at_236) (XT.i0_eq_f hf2) (rfl : 236 + 3 = 239) ?_
            refine g_aload X34 hx (hb hby at_239) (rfl : 239 + 2 = 241) rfl rfl ?_
            have F37 := (exaP F35 Pc34)
            have F38 := (fldP G27_0 Pc34 nin0)
            have F39 := (fldP G27_1 Pc34 nin0)
            have F40 := (fldP G27_2 Pc34 nin0)
            have F41 := (fldP G27_3 Pc34 nin0)
            have F42 := (fldP G27_4 Pc34 nin0)
            have F43 := (staP I1 P34)
            have F44 := (staP I2 P34)
            refine g_virtualW (s := s) X34 hx hZ hown eh34 (sinceR s) (Nat.zero_le _) hTK hBl (rm_cut hw a1 (0 : Int32) (len - ka.toInt64) (if len - ka.toInt64 = 0 then 1 else (0 : Int32) : Int32) (0 : Int32) un se F37 F38 F39 F40 F41 F42 F43 F44 hun hse hl (ThS.pr hT P34)) (C := "com/example/twofold/twofold/io/http/BodyReader") (wd hw 56 rfl) (wd hw 57 rfl) (notFace_of_selects (args := #[]) (mvT hZ (wd hw 59 rfl))) (wd hw 59 rfl) (wd hw 58 rfl) (wd hw 60 rfl) (wd hw 3 rfl) (by decide) (a := a1) F37 (argsL := []) (rest := []) rfl rfl (ps := []) (rt := (some (.object "java/io/IOException"))) (by decide) rfl (W := 0) (Nat.le_of_eq rfl) (by decide) (by decide) (by decide) (by decide) (by rw [hml]; rfl) (hb hby at_241) (rfl : 241 + 3 = 244) fun v36 T36 hh36 L36 vm36 n36 X36 eh36 Q36 hS36 hk36 hZ36 ho36 => ?_
            obtain ⟨x_36, rfl, Pc36, G36_0, G36_1, G36_2⟩ := Q36
            have P36 := P34.call Pc36 (allS (Or.inr g1) all0)
            show OGo p e below K T36 (mkF m 244 #[.val (.long p1), .second, .val (.long p2), .second, .val (.long p3), .second, .val (.int p4), .val (.long len), .second, .val (.ref a1), .val (.int (1 : Int32)), .val (.long (if (2147483647 : Int64) < len then (2147483647 : Int64) else len : Int64)), .second, .val (.int ka), .val (.long (len - (ka).toInt64)), .second, .unset, .unset, .unset] [(.ref x_36)])
            refine g_pop X36 hx (hb hby at_244) (rfl : 244 + 1 = 245) rfl ?_
            refine g_iload X36 hx (hb hby at_245) (rfl : 245 + 2 = 247) rfl ?_
            refine g_ifN X36 hx (hb hby at_247) (XT.i0_eq_f (by decide)) (rfl : 247 + 3 = 250) ?_
            refine g_aload X36 hx (hb hby at_250) (rfl : 250 + 2 = 252) rfl rfl ?_
            refine g_virtual X36 hx hZ36 ho36 eh36 (rm_over hw a1 (if len - ka.toInt64 = 0 then 1 else (0 : Int32) : Int32) (.ref x_36) G36_1 G36_2 rfl) (C := "com/example/twofold/twofold/io/http/BodyReader") (wd hw 39 rfl) (wd hw 40 rfl) (notFace_of_selects (args := #[]) (mvT hZ36 (wd hw 42 rfl))) (wd hw 42 rfl) (wd hw 41 rfl) (wd hw 43 rfl) (wd hw 3 rfl) (by decide) (a := a1) G36_0 (argsL := []) (rest := []) rfl rfl (ps := []) (rt := (some .boolean)) (by decide) rfl (W := 0) (Nat.le_of_eq rfl) (by decide) (by decide) (by decide) (by decide) (by rw [hml]; rfl) (hb hby at_252) (rfl : 252 + 3 = 255) fun v45 T45 hh45 L45 X45 eh45 Q45 => ?_
            obtain ⟨rfl, Pc45⟩ := Q45
            have P45 := P36.call Pc45 all0
            show OGo p e below K T45 (mkF m 255 #[.val (.long p1), .second, .val (.long p2), .second, .val (.long p3), .second, .val (.int p4), .val (.long len), .second, .val (.ref a1), .val (.int (1 : Int32)), .val (.long (if (2147483647 : Int64) < len then (2147483647 : Int64) else len : Int64)), .second, .val (.int ka), .val (.long (len - (ka).toInt64)), .second, .unset, .unset, .unset] [(.int (if (if len - ka.toInt64 = 0 then 1 else (0 : Int32) : Int32) = 0 ∧ ((.ref x_36) : Value) = .null then 0 else 1 : Int32))])
            refine g_ifN X45 hx (hb hby at_255) (XT.i0_eq_f (by simp)) (rfl : 255 + 3 = 258) ?_
            refine g_iconst X45 hx (1 : Int32) (hb hby at_258) (rfl : 258 + 1 = 259) (by decide) ?_
            refine g_goto X45 hx (hb hby at_259) (by decide) (pc' := 263) (by decide) ?_
            refine g_istore X45 hx (hb hby at_263) (rfl : 263 + 2 = 265) (Ls' := #[.val (.long p1), .second, .val (.long p2), .second, .val (.long p3), .second, .val (.int p4), .val (.long len), .second, .val (.ref a1), .val (.int (1 : Int32)), .val (.long (if (2147483647 : Int64) < len then (2147483647 : Int64) else len : Int64)), .second, .val (.int ka), .val (.long (len - (ka).toInt64)), .second, .unset, .unset, .unset]) rfl ?_
            refine g_iload X45 hx (hb hby at_265) (rfl : 265 + 2 = 267) rfl ?_
            exact g_retW (s := s) X45 hx hret hlk hS36 (Nat.le_trans hk36 Pc45.size) rfl (Or.inl ⟨rfl, Or.inr (Or.inl rfl), _, rfl⟩) (hb hby at_267) (by decide) (by decide) eh45 hK ⟨rfl, P45⟩
        · refine g_ifY X34 hx (hb hby at_116) (XT.ll_ne_t hr) (by decide) (pc' := 123) (by decide) ?_
          refine g_iconst X34 hx (0 : Int32) (hb hby at_123) (rfl : 123 + 1 = 124) (by decide) ?_
          refine g_icmpN X34 hx (hb hby at_124) (XT.ii_ne_f (by rw [if_neg hr]; simp)) (rfl : 124 + 3 = 127) ?_
          refine g_iconst X34 hx (1 : Int32) (hb hby at_127) (rfl : 127 + 1 = 128) (by decide) ?_
          refine g_goto X34 hx (hb hby at_128) (by decide) (pc' := 132) (by decide) ?_
          refine g_istore X34 hx (hb hby at_132) (rfl : 132 + 2 = 134) (Ls' := #[.val (.long p1), .second, .val (.long p2), .second, .val (.long p3), .second, .val (.int p4), .val (.long len), .second, .val (.ref a1), .val (.int (1 : Int32)), .val (.long (if (2147483647 : Int64) < len then (2147483647 : Int64) else len : Int64)), .second, .val (.int ka), .val (.long (len - (ka).toInt64)), .second, .unset, .unset, .unset]) rfl ?_
          refine g_lload X34 hx (hb hby at_134) (rfl : 134 + 2 = 136) rfl ?_
          refine g_lconst X34 hx (0 : Int64) (hb hby at_136) (rfl : 136 + 1 = 137) (by decide) ?_
          refine g_lcmp X34 hx (hb hby at_137) (rfl : 137 + 1 = 138) ?_
          by_cases hq : (0 : Int64) < (len - (ka).toInt64)
          · refine g_ifN X34 hx (hb hby at_138) (XT.ll_le_f hq) (rfl : 138 + 3 = 141) ?_
            have F46 := (fldP G27_2 Pc34 nin0)
            have F47 := F46
            rw [if_neg hr] at F47
            refine g_iload X34 hx (hb hby at_141) (rfl : 141 + 2 = 143) rfl ?_
            refine g_iconst X34 hx (1 : Int32) (hb hby at_143) (rfl : 143 + 1 = 144) (by decide) ?_
            refine g_iand X34 hx (hb hby at_144) (rfl : 144 + 1 = 145) (z := (p4 &&& (1 : Int32))) rfl ?_
            by_cases hg : (p4 &&& (1 : Int32)) = (0 : Int32)
            · refine g_ifY X34 hx (hb hby at_145) (XT.i0_eq_t hg) (by decide) (pc' := 165) (by decide) ?_
              refine g_lload X34 hx (hb hby at_165) (rfl : 165 + 2 = 167) rfl ?_
              refine g_ldc2J X34 hx hZ hown (wd hw 46 rfl) (hb hby at_167) (rfl : 167 + 3 = 170) ?_
              refine g_static X34 hx hZ hown eh34 (rm_min hw (len - (ka).toInt64) (2147483647 : Int64)) (wd hw 47 rfl) (wd hw 48 rfl) (wd hw 50 rfl) (wd hw 49 rfl) (by decide) (argsL := [(.long (len - (ka).toInt64)), (.long (2147483647 : Int64))]) (rest := []) rfl rfl (ps := [.long, .long]) (rt := (some .long)) (by decide) rfl (W := 0) (Nat.le_of_eq rfl) (by decide) (by decide) (by decide) (by decide) (by rw [hml]; rfl) (hb hby at_170) (rfl : 170 + 3 = 173) fun v48 T48 hh48 L48 X48 eh48 Q48 => ?_
              obtain ⟨rfl, Pc48⟩ := Q48
              have P48 := P34.call Pc48 all0
              show OGo p e below K T48 (mkF m 173 #[.val (.long p1), .second, .val (.long p2), .second, .val (.long p3), .second, .val (.int p4), .val (.long len), .second, .val (.ref a1), .val (.int (1 : Int32)), .val (.long (if (2147483647 : Int64) < len then (2147483647 : Int64) else len : Int64)), .second, .val (.int ka), .val (.long (len - (ka).toInt64)), .second, .unset, .unset, .unset] [(.long (if (2147483647 : Int64) < (len - (ka).toInt64) then (2147483647 : Int64) else (len - (ka).toInt64) : Int64))])
              refine g_lstore X48 hx (hb hby at_173) (rfl : 173 + 2 = 175) (Ls' := #[.val (.long p1), .second, .val (.long p2), .second, .val (.long p3), .second, .val (.int p4), .val (.long len), .second, .val (.ref a1), .val (.int (1 : Int32)), .val (.long (if (2147483647 : Int64) < len then (2147483647 : Int64) else len : Int64)), .second, .val (.int ka), .val (.long (len - (ka).toInt64)), .second, .unset, .val (.long (if (2147483647 : Int64) < (len - (ka).toInt64) then (2147483647 : Int64) else (len - (ka).toInt64) : Int64)), .second]) rfl ?_
              refine g_lconst X48 hx (1 : Int64) (hb hby at_175) (rfl : 175 + 1 = 176) (by decide) ?_
              refine g_lload X48 hx (hb hby at_176) (rfl : 176 + 2 = 178) rfl ?_
              refine g_ldc2J X48 hx hZ hown (wd hw 46 rfl) (hb hby at_178) (rfl : 178 + 3 = 181) ?_
              refine g_land X48 hx (hb hby at_181) (rfl : 181 + 1 = 182) (z := (p3 &&& (2147483647 : Int64))) rfl ?_
              refine g_lload X48 hx (hb hby at_182) (rfl : 182 + 2 = 184) rfl ?_
              refine g_lrem X48 hx (hb hby at_184) (rfl : 184 + 1 = 185) (capNe hq) ?_
              refine g_ladd X48 hx (hb hby at_185) (rfl : 185 + 1 = 186) (z := ((1 : Int64) + ((p3 &&& (2147483647 : Int64)) % (if (2147483647 : Int64) < (len - (ka).toInt64) then (2147483647 : Int64) else (len - (ka).toInt64) : Int64)))) rfl ?_
              refine g_l2i X48 hx (hb hby at_186) (rfl : 186 + 1 = 187) ?_
              obtain ⟨kb, hkb⟩ : ∃ z : Int32, z = (((1 : Int64) + ((p3 &&& (2147483647 : Int64)) % (if (2147483647 : Int64) < (len - (ka).toInt64) then (2147483647 : Int64) else (len - (ka).toInt64) : Int64)))).toInt32 := ⟨_, rfl⟩
              rw [← hkb]
              refine g_istore X48 hx (hb hby at_187) (rfl : 187 + 2 = 189) (Ls' := #[.val (.long p1), .second, .val (.long p2), .second, .val (.long p3), .second, .val (.int p4), .val (.long len), .second, .val (.ref a1), .val (.int (1 : Int32)), .val (.long (if (2147483647 : Int64) < len then (2147483647 : Int64) else len : Int64)), .second, .val (.int ka), .val (.long (len - (ka).toInt64)), .second, .val (.int kb), .val (.long (if (2147483647 : Int64) < (len - (ka).toInt64) then (2147483647 : Int64) else (len - (ka).toInt64) : Int64)), .second]) rfl ?_
              refine g_aload X48 hx (hb hby at_189) (rfl : 189 + 2 = 191) rfl rfl ?_
              refine g_iload X48 hx (hb hby at_191) (rfl : 191 + 2 = 193) rfl ?_
              have F50 := (exaP (exaP F35 Pc34) Pc48)
              have F51 := (fldP (fldP G27_0 Pc34 nin0) Pc48 nin0)
              have F52 := (fldP (fldP G27_1 Pc34 nin0) Pc48 nin0)
              have F53 := (fldP F47 Pc48 nin0)
              have F54 := (fldP (fldP G27_3 Pc34 nin0) Pc48 nin0)
              have F55 := (fldP (fldP G27_4 Pc34 nin0) Pc48 nin0)
              refine g_virtual X48 hx hZ hown eh48 (rm_taken hw a1 (len - ka.toInt64) (0 : Int32) kb .null (0 : Int32) F50 F51 F52 F53 F54 F55 rfl) (C := "com/example/twofold/twofold/io/http/BodyReader") (wd hw 51 rfl) (wd hw 52 rfl) (notFace_of_selects (args := #[]) (mvT hZ (wd hw 54 rfl))) (wd hw 54 rfl) (wd hw 53 rfl) (wd hw 55 rfl) (wd hw 3 rfl) (by decide) (a := a1) F50 (argsL := [(.int kb)]) (rest := []) rfl rfl (ps := [.int]) (rt := none) (by decide) rfl (W := 0) (Nat.le_of_eq rfl) (by decide) (by decide) (by decide) (by decide) (by rw [hml]; rfl) (hb hby at_193) (rfl : 193 + 3 = 196) fun v49 T49 hh49 L49 X49 eh49 Q49 => ?_
              obtain ⟨rfl, Pc49, G49_0, G49_1, G49_2, G49_3, G49_4⟩ := Q49
              have P49 := P48.call Pc49 (allS (Or.inr g1) all0)
              show OGo p e below K T49 (mkF m 196 #[.val (.long p1), .second, .val (.long p2), .second, .val (.long p3), .second, .val (.int p4), .val (.long len), .second, .val (.ref a1), .val (.int (1 : Int32)), .val (.long (if (2147483647 : Int64) < len then (2147483647 : Int64) else len : Int64)), .second, .val (.int ka), .val (.long (len - (ka).toInt64)), .second, .val (.int kb), .val (.long (if (2147483647 : Int64) < (len - (ka).toInt64) then (2147483647 : Int64) else (len - (ka).toInt64) : Int64)), .second] [])
              refine g_iload X49 hx (hb hby at_196) (rfl : 196 + 2 = 198) rfl ?_
              refine g_ifN X49 hx (hb hby at_198) (XT.i0_eq_f (by decide)) (rfl : 198 + 3 = 201) ?_
              refine g_aload X49 hx (hb hby at_201) (rfl : 201 + 2 = 203) rfl rfl ?_
              have F57 := (exaP F50 Pc49)
              refine g_virtual X49 hx hZ hown eh49 (rm_over hw a1 (if (len - ka.toInt64) - kb.toInt64 = 0 then 1 else (0 : Int32) : Int32) .null G49_2 G49_3 rfl) (C := "com/example/twofold/twofold/io/http/BodyReader") (wd hw 39 rfl) (wd hw 40 rfl) (notFace_of_selects (args := #[]) (mvT hZ (wd hw 42 rfl))) (wd hw 42 rfl) (wd hw 41 rfl) (wd hw 43 rfl) (wd hw 3 rfl) (by decide) (a := a1) F57 (argsL := []) (rest := []) rfl rfl (ps := []) (rt := (some .boolean)) (by decide) rfl (W := 0) (Nat.le_of_eq rfl) (by decide) (by decide) (by decide) (by decide) (by rw [hml]; rfl) (hb hby at_203) (rfl : 203 + 3 = 206) fun v56 T56 hh56 L56 X56 eh56 Q56 => ?_
              obtain ⟨rfl, Pc56⟩ := Q56
              have P56 := P49.call Pc56 all0
              show OGo p e below K T56 (mkF m 206 #[.val (.long p1), .second, .val (.long p2), .second, .val (.long p3), .second, .val (.int p4), .val (.long len), .second, .val (.ref a1), .val (.int (1 : Int32)), .val (.long (if (2147483647 : Int64) < len then (2147483647 : Int64) else len : Int64)), .second, .val (.int ka), .val (.long (len - (ka).toInt64)), .second, .val (.int kb), .val (.long (if (2147483647 : Int64) < (len - (ka).toInt64) then (2147483647 : Int64) else (len - (ka).toInt64) : Int64)), .second] [(.int (if (if (len - ka.toInt64) - kb.toInt64 = 0 then 1 else (0 : Int32) : Int32) = 0 ∧ (.null : Value) = .null then 0 else 1 : Int32))])
              refine g_lload X56 hx (hb hby at_206) (rfl : 206 + 2 = 208) rfl ?_
              refine g_iload X56 hx (hb hby at_208) (rfl : 208 + 2 = 210) rfl ?_
              refine g_i2l X56 hx (hb hby at_210) (rfl : 210 + 1 = 211) ?_
              refine g_lsub X56 hx (hb hby at_211) (rfl : 211 + 1 = 212) (z := ((len - (ka).toInt64) - (kb).toInt64)) rfl ?_
              refine g_lconst X56 hx (0 : Int64) (hb hby at_212) (rfl : 212 + 1 = 213) (by decide) ?_
              refine g_lcmp X56 hx (hb hby at_213) (rfl : 213 + 1 = 214) ?_
              by_cases hs : ((len - (ka).toInt64) - (kb).toInt64) = (0 : Int64)
              · refine g_ifN X56 hx (hb hby at_214) (XT.ll_ne_f hs) (rfl : 214 + 3 = 217) ?_
                refine g_iconst X56 hx (1 : Int32) (hb hby at_217) (rfl : 217 + 1 = 218) (by decide) ?_
                refine g_goto X56 hx (hb hby at_218) (by decide) (pc' := 222) (by decide) ?_
                refine g_icmpN X56 hx (hb hby at_222) (XT.ii_ne_f (by rw [if_pos hs]; simp)) (rfl : 222 + 3 = 225) ?_
                refine g_iconst X56 hx (1 : Int32) (hb hby at_225) (rfl : 225 + 1 = 226) (by decide) ?_
                refine g_goto X56 hx (hb hby at_226) (by decide) (pc' := 230) (by decide) ?_
                refine g_istore X56 hx (hb hby at_230) (rfl : 230 + 2 = 232) (Ls' := #[.val (.long p1), .second, .val (.long p2), .second, .val (.long p3), .second, .val (.int p4), .val (.long len), .second, .val (.ref a1), .val (.int (1 : Int32)), .val (.long (if (2147483647 : Int64) < len then (2147483647 : Int64) else len : Int64)), .second, .val (.int ka), .val (.long (len - (ka).toInt64)), .second, .val (.int kb), .val (.long (if (2147483647 : Int64) < (len - (ka).toInt64) then (2147483647 : Int64) else (len - (ka).toInt64) : Int64)), .second]) rfl ?_
                refine g_iload X56 hx (hb hby at_232) (rfl : 232 + 2 = 234) rfl ?_
                refine g_iconst X56 hx (2 : Int32) (hb hby at_234) (rfl : 234 + 1 = 235) (by decide) ?_
                refine g_iand X56 hx (hb hby at_235) (rfl : 235 + 1 = 236) (z := (p4 &&& (2 : Int32))) rfl ?_
                by_cases hf2 : (p4 &&& (2 : Int32)) = (0 : Int32)
                · refine g_ifY X56 hx (hb hby at_236) (XT.i0_eq_t hf2) (by decide) (pc' := 265) (by decide) ?_
                  refine g_iload X56 hx (hb hby at_265) (rfl : 265 + 2 = 267) rfl ?_
                  exact g_retW (s := s) X56 hx hret hlk (sinceR s) (Nat.zero_le _) rfl (Or.inl ⟨rfl, Or.inr (Or.inl rfl), _, rfl⟩) (hb hby at_267) (by decide) (by decide) eh56 hK ⟨rfl, P56⟩
                · refine g_ifN X56 hx (hb hby at_236) (XT.i0_eq_f hf2) (rfl : 236 + 3 = 239) ?_
                  refine g_aload X56 hx (hb hby at_239) (rfl : 239 + 2 = 241) rfl rfl ?_
                  have F59 := (exaP F57 Pc56)
                  have F60 := (fldP G49_0 Pc56 nin0)
                  have F61 := (fldP G49_1 Pc56 nin0)
                  have F62 := (fldP G49_2 Pc56 nin0)
                  have F63 := (fldP G49_3 Pc56 nin0)
                  have F64 := (fldP G49_4 Pc56 nin0)
                  have F65 := (staP I1 P56)
                  have F66 := (staP I2 P56)
                  refine g_virtualW (s := s) X56 hx hZ hown eh56 (sinceR s) (Nat.zero_le _) hTK hBl (rm_cut hw a1 (0 : Int32) ((len - ka.toInt64) - kb.toInt64) (if (len - ka.toInt64) - kb.toInt64 = 0 then 1 else (0 : Int32) : Int32) (0 : Int32) un se F59 F60 F61 F62 F63 F64 F65 F66 hun hse hl (ThS.pr hT P56)) (C := "com/example/twofold/twofold/io/http/BodyReader") (wd hw 56 rfl) (wd hw 57 rfl) (notFace_of_selects (args := #[]) (mvT hZ (wd hw 59 rfl))) (wd hw 59 rfl) (wd hw 58 rfl) (wd hw 60 rfl) (wd hw 3 rfl) (by decide) (a := a1) F59 (argsL := []) (rest := []) rfl rfl (ps := []) (rt := (some (.object "java/io/IOException"))) (by decide) rfl (W := 0) (Nat.le_of_eq rfl) (by decide) (by decide) (by decide) (by decide) (by rw [hml]; rfl) (hb hby at_241) (rfl : 241 + 3 = 244) fun v58 T58 hh58 L58 vm58 n58 X58 eh58 Q58 hS58 hk58 hZ58 ho58 => ?_
                  obtain ⟨x_58, rfl, Pc58, G58_0, G58_1, G58_2⟩ := Q58
                  have P58 := P56.call Pc58 (allS (Or.inr g1) all0)
                  show OGo p e below K T58 (mkF m 244 #[.val (.long p1), .second, .val (.long p2), .second, .val (.long p3), .second, .val (.int p4), .val (.long len), .second, .val (.ref a1), .val (.int (1 : Int32)), .val (.long (if (2147483647 : Int64) < len then (2147483647 : Int64) else len : Int64)), .second, .val (.int ka), .val (.long (len - (ka).toInt64)), .second, .val (.int kb), .val (.long (if (2147483647 : Int64) < (len - (ka).toInt64) then (2147483647 : Int64) else (len - (ka).toInt64) : Int64)), .second] [(.ref x_58)])
                  refine g_pop X58 hx (hb hby at_244) (rfl : 244 + 1 = 245) rfl ?_
                  refine g_iload X58 hx (hb hby at_245) (rfl : 245 + 2 = 247) rfl ?_
                  refine g_ifN X58 hx (hb hby at_247) (XT.i0_eq_f (by decide)) (rfl : 247 + 3 = 250) ?_
                  refine g_aload X58 hx (hb hby at_250) (rfl : 250 + 2 = 252) rfl rfl ?_
                  refine g_virtual X58 hx hZ58 ho58 eh58 (rm_over hw a1 (if (len - ka.toInt64) - kb.toInt64 = 0 then 1 else (0 : Int32) : Int32) (.ref x_58) G58_1 G58_2 rfl) (C := "com/example/twofold/twofold/io/http/BodyReader") (wd hw 39 rfl) (wd hw 40 rfl) (notFace_of_selects (args := #[]) (mvT hZ58 (wd hw 42 rfl))) (wd hw 42 rfl) (wd hw 41 rfl) (wd hw 43 rfl) (wd hw 3 rfl) (by decide) (a := a1) G58_0 (argsL := []) (rest := []) rfl rfl (ps := []) (rt := (some .boolean)) (by decide) rfl (W := 0) (Nat.le_of_eq rfl) (by decide) (by decide) (by decide) (by decide) (by rw [hml]; rfl) (hb hby at_252) (rfl : 252 + 3 = 255) fun v67 T67 hh67 L67 X67 eh67 Q67 => ?_
                  obtain ⟨rfl, Pc67⟩ := Q67
                  have P67 := P58.call Pc67 all0
                  show OGo p e below K T67 (mkF m 255 #[.val (.long p1), .second, .val (.long p2), .second, .val (.long p3), .second, .val (.int p4), .val (.long len), .second, .val (.ref a1), .val (.int (1 : Int32)), .val (.long (if (2147483647 : Int64) < len then (2147483647 : Int64) else len : Int64)), .second, .val (.int ka), .val (.long (len - (ka).toInt64)), .second, .val (.int kb), .val (.long (if (2147483647 : Int64) < (len - (ka).toInt64) then (2147483647 : Int64) else (len - (ka).toInt64) : Int64)), .second] [(.int (if (if (len - ka.toInt64) - kb.toInt64 = 0 then 1 else (0 : Int32) : Int32) = 0 ∧ ((.ref x_58) : Value) = .null then 0 else 1 : Int32))])
                  refine g_ifN X67 hx (hb hby at_255) (XT.i0_eq_f (by simp)) (rfl : 255 + 3 = 258) ?_
                  refine g_iconst X67 hx (1 : Int32) (hb hby at_258) (rfl : 258 + 1 = 259) (by decide) ?_
                  refine g_goto X67 hx (hb hby at_259) (by decide) (pc' := 263) (by decide) ?_
                  refine g_istore X67 hx (hb hby at_263) (rfl : 263 + 2 = 265) (Ls' := #[.val (.long p1), .second, .val (.long p2), .second, .val (.long p3), .second, .val (.int p4), .val (.long len), .second, .val (.ref a1), .val (.int (1 : Int32)), .val (.long (if (2147483647 : Int64) < len then (2147483647 : Int64) else len : Int64)), .second, .val (.int ka), .val (.long (len - (ka).toInt64)), .second, .val (.int kb), .val (.long (if (2147483647 : Int64) < (len - (ka).toInt64) then (2147483647 : Int64) else (len - (ka).toInt64) : Int64)), .second]) rfl ?_
                  refine g_iload X67 hx (hb hby at_265) (rfl : 265 + 2 = 267) rfl ?_
                  exact g_retW (s := s) X67 hx hret hlk hS58 (Nat.le_trans hk58 Pc67.size) rfl (Or.inl ⟨rfl, Or.inr (Or.inl rfl), _, rfl⟩) (hb hby at_267) (by decide) (by decide) eh67 hK ⟨rfl, P67⟩
              · refine g_ifY X56 hx (hb hby at_214) (XT.ll_ne_t hs) (by decide) (pc' := 221) (by decide) ?_
                refine g_iconst X56 hx (0 : Int32) (hb hby at_221) (rfl : 221 + 1 = 222) (by decide) ?_
                refine g_icmpN X56 hx (hb hby at_222) (XT.ii_ne_f (by rw [if_neg hs]; simp)) (rfl : 222 + 3 = 225) ?_
                refine g_iconst X56 hx (1 : Int32) (hb hby at_225) (rfl : 225 + 1 = 226) (by decide) ?_
                refine g_goto X56 hx (hb hby at_226) (by decide) (pc' := 230) (by decide) ?_
                refine g_istore X56 hx (hb hby at_230) (rfl : 230 + 2 = 232) (Ls' := #[.val (.long p1), .second, .val (.long p2), .second, .val (.long p3), .second, .val (.int p4), .val (.long len), .second, .val (.ref a1), .val (.int (1 : Int32)), .val (.long (if (2147483647 : Int64) < len then (2147483647 : Int64) else len : Int64)), .second, .val (.int ka), .val (.long (len - (ka).toInt64)), .second, .val (.int kb), .val (.long (if (2147483647 : Int64) < (len - (ka).toInt64) then (2147483647 : Int64) else (len - (ka).toInt64) : Int64)), .second]) rfl ?_
                refine g_iload X56 hx (hb hby at_232) (rfl : 232 + 2 = 234) rfl ?_
                refine g_iconst X56 hx (2 : Int32) (hb hby at_234) (rfl : 234 + 1 = 235) (by decide) ?_
                refine g_iand X56 hx (hb hby at_235) (rfl : 235 + 1 = 236) (z := (p4 &&& (2 : Int32))) rfl ?_
                by_cases hf2 : (p4 &&& (2 : Int32)) = (0 : Int32)
                · refine g_ifY X56 hx (hb hby at_236) (XT.i0_eq_t hf2) (by decide) (pc' := 265) (by decide) ?_
                  refine g_iload X56 hx (hb hby at_265) (rfl : 265 + 2 = 267) rfl ?_
                  exact g_retW (s := s) X56 hx hret hlk (sinceR s) (Nat.zero_le _) rfl (Or.inl ⟨rfl, Or.inr (Or.inl rfl), _, rfl⟩) (hb hby at_267) (by decide) (by decide) eh56 hK ⟨rfl, P56⟩
                · refine g_ifN X56 hx (hb hby at_236) (XT.i0_eq_f hf2) (rfl : 236 + 3 = 239) ?_
                  refine g_aload X56 hx (hb hby at_239) (rfl : 239 + 2 = 241) rfl rfl ?_
                  have F69 := (exaP F57 Pc56)
                  have F70 := (fldP G49_0 Pc56 nin0)
                  have F71 := (fldP G49_1 Pc56 nin0)
                  have F72 := (fldP G49_2 Pc56 nin0)
                  have F73 := (fldP G49_3 Pc56 nin0)
                  have F74 := (fldP G49_4 Pc56 nin0)
                  have F75 := (staP I1 P56)
                  have F76 := (staP I2 P56)
                  refine g_virtualW (s := s) X56 hx hZ hown eh56 (sinceR s) (Nat.zero_le _) hTK hBl (rm_cut hw a1 (0 : Int32) ((len - ka.toInt64) - kb.toInt64) (if (len - ka.toInt64) - kb.toInt64 = 0 then 1 else (0 : Int32) : Int32) (0 : Int32) un se F69 F70 F71 F72 F73 F74 F75 F76 hun hse hl (ThS.pr hT P56)) (C := "com/example/twofold/twofold/io/http/BodyReader") (wd hw 56 rfl) (wd hw 57 rfl) (notFace_of_selects (args := #[]) (mvT hZ (wd hw 59 rfl))) (wd hw 59 rfl) (wd hw 58 rfl) (wd hw 60 rfl) (wd hw 3 rfl) (by decide) (a := a1) F69 (argsL := []) (rest := []) rfl rfl (ps := []) (rt := (some (.object "java/io/IOException"))) (by decide) rfl (W := 0) (Nat.le_of_eq rfl) (by decide) (by decide) (by decide) (by decide) (by rw [hml]; rfl) (hb hby at_241) (rfl : 241 + 3 = 244) fun v68 T68 hh68 L68 vm68 n68 X68 eh68 Q68 hS68 hk68 hZ68 ho68 => ?_
                  obtain ⟨x_68, rfl, Pc68, G68_0, G68_1, G68_2⟩ := Q68
                  have P68 := P56.call Pc68 (allS (Or.inr g1) all0)
                  show OGo p e below K T68 (mkF m 244 #[.val (.long p1), .second, .val (.long p2), .second, .val (.long p3), .second, .val (.int p4), .val (.long len), .second, .val (.ref a1), .val (.int (1 : Int32)), .val (.long (if (2147483647 : Int64) < len then (2147483647 : Int64) else len : Int64)), .second, .val (.int ka), .val (.long (len - (ka).toInt64)), .second, .val (.int kb), .val (.long (if (2147483647 : Int64) < (len - (ka).toInt64) then (2147483647 : Int64) else (len - (ka).toInt64) : Int64)), .second] [(.ref x_68)])
                  refine g_pop X68 hx (hb hby at_244) (rfl : 244 + 1 = 245) rfl ?_
                  refine g_iload X68 hx (hb hby at_245) (rfl : 245 + 2 = 247) rfl ?_
                  refine g_ifN X68 hx (hb hby at_247) (XT.i0_eq_f (by decide)) (rfl : 247 + 3 = 250) ?_
                  refine g_aload X68 hx (hb hby at_250) (rfl : 250 + 2 = 252) rfl rfl ?_
                  refine g_virtual X68 hx hZ68 ho68 eh68 (rm_over hw a1 (if (len - ka.toInt64) - kb.toInt64 = 0 then 1 else (0 : Int32) : Int32) (.ref x_68) G68_1 G68_2 rfl) (C := "com/example/twofold/twofold/io/http/BodyReader") (wd hw 39 rfl) (wd hw 40 rfl) (notFace_of_selects (args := #[]) (mvT hZ68 (wd hw 42 rfl))) (wd hw 42 rfl) (wd hw 41 rfl) (wd hw 43 rfl) (wd hw 3 rfl) (by decide) (a := a1) G68_0 (argsL := []) (rest := []) rfl rfl (ps := []) (rt := (some .boolean)) (by decide) rfl (W := 0) (Nat.le_of_eq rfl) (by decide) (by decide) (by decide) (by decide) (by rw [hml]; rfl) (hb hby at_252) (rfl : 252 + 3 = 255) fun v77 T77 hh77 L77 X77 eh77 Q77 => ?_
                  obtain ⟨rfl, Pc77⟩ := Q77
                  have P77 := P68.call Pc77 all0
                  show OGo p e below K T77 (mkF m 255 #[.val (.long p1), .second, .val (.long p2), .second, .val (.long p3), .second, .val (.int p4), .val (.long len), .second, .val (.ref a1), .val (.int (1 : Int32)), .val (.long (if (2147483647 : Int64) < len then (2147483647 : Int64) else len : Int64)), .second, .val (.int ka), .val (.long (len - (ka).toInt64)), .second, .val (.int kb), .val (.long (if (2147483647 : Int64) < (len - (ka).toInt64) then (2147483647 : Int64) else (len - (ka).toInt64) : Int64)), .second] [(.int (if (if (len - ka.toInt64) - kb.toInt64 = 0 then 1 else (0 : Int32) : Int32) = 0 ∧ ((.ref x_68) : Value) = .null then 0 else 1 : Int32))])
                  refine g_ifN X77 hx (hb hby at_255) (XT.i0_eq_f (by simp)) (rfl : 255 + 3 = 258) ?_
                  refine g_iconst X77 hx (1 : Int32) (hb hby at_258) (rfl : 258 + 1 = 259) (by decide) ?_
                  refine g_goto X77 hx (hb hby at_259) (by decide) (pc' := 263) (by decide) ?_
                  refine g_istore X77 hx (hb hby at_263) (rfl : 263 + 2 = 265) (Ls' := #[.val (.long p1), .second, .val (.long p2), .second, .val (.long p3), .second, .val (.int p4), .val (.long len), .second, .val (.ref a1), .val (.int (1 : Int32)), .val (.long (if (2147483647 : Int64) < len then (2147483647 : Int64) else len : Int64)), .second, .val (.int ka), .val (.long (len - (ka).toInt64)), .second, .val (.int kb), .val (.long (if (2147483647 : Int64) < (len - (ka).toInt64) then (2147483647 : Int64) else (len - (ka).toInt64) : Int64)), .second]) rfl ?_
                  refine g_iload X77 hx (hb hby at_265) (rfl : 265 + 2 = 267) rfl ?_
                  exact g_retW (s := s) X77 hx hret hlk hS68 (Nat.le_trans hk68 Pc77.size) rfl (Or.inl ⟨rfl, Or.inr (Or.inl rfl), _, rfl⟩) (hb hby at_267) (by decide) (by decide) eh77 hK ⟨rfl, P77⟩
            · refine g_ifN X34 hx (hb hby at_145) (XT.i0_eq_f hg) (rfl : 145 + 3 = 148) ?_
              refine g_lload X34 hx (hb hby at_148) (rfl : 148 + 2 = 150) rfl ?_
              refine g_ldc2J X34 hx hZ hown (wd hw 46 rfl) (hb hby at_150) (rfl : 150 + 3 = 153) ?_
              refine g_lcmp X34 hx (hb hby at_153) (rfl : 153 + 1 = 154) ?_
              by_cases hh : (2147483647 : Int64) < (len - (ka).toInt64)
              · refine g_ifY X34 hx (hb hby at_154) (XT.ll_gt_t hh) (by decide) (pc' := 165) (by decide) ?_
                refine g_lload X34 hx (hb hby at_165) (rfl : 165 + 2 = 167) rfl ?_
                refine g_ldc2J X34 hx hZ hown (wd hw 46 rfl) (hb hby at_167) (rfl : 167 + 3 = 170) ?_
                refine g_static X34 hx hZ hown eh34 (rm_min hw (len - (ka).toInt64) (2147483647 : Int64)) (wd hw 47 rfl) (wd hw 48 rfl) (wd hw 50 rfl) (wd hw 49 rfl) (by decide) (argsL := [(.long (len - (ka).toInt64)), (.long (2147483647 : Int64))]) (rest := []) rfl rfl (ps := [.long, .long]) (rt := (some .long)) (by decide) rfl (W := 0) (Nat.le_of_eq rfl) (by decide) (by decide) (by decide) (by decide) (by rw [hml]; rfl) (hb hby at_170) (rfl : 170 + 3 = 173) fun v78 T78 hh78 L78 X78 eh78 Q78 => ?_
                obtain ⟨rfl, Pc78⟩ := Q78
                have P78 := P34.call Pc78 all0
                show OGo p e below K T78 (mkF m 173 #[.val (.long p1), .second, .val (.long p2), .second, .val (.long p3), .second, .val (.int p4), .val (.long len), .second, .val (.ref a1), .val (.int (1 : Int32)), .val (.long (if (2147483647 : Int64) < len then (2147483647 : Int64) else len : Int64)), .second, .val (.int ka), .val (.long (len - (ka).toInt64)), .second, .unset, .unset, .unset] [(.long (if (2147483647 : Int64) < (len - (ka).toInt64) then (2147483647 : Int64) else (len - (ka).toInt64) : Int64))])
                refine g_lstore X78 hx (hb hby at_173) (rfl : 173 + 2 = 175) (Ls' := #[.val (.long p1), .second, .val (.long p2), .second, .val (.long p3), .second, .val (.int p4), .val (.long len), .second, .val (.ref a1), .val (.int (1 : Int32)), .val (.long (if (2147483647 : Int64) < len then (2147483647 : Int64) else len : Int64)), .second, .val (.int ka), .val (.long (len - (ka).toInt64)), .second, .unset, .val (.long (if (2147483647 : Int64) < (len - (ka).toInt64) then (2147483647 : Int64) else (len - (ka).toInt64) : Int64)), .second]) rfl ?_
                refine g_lconst X78 hx (1 : Int64) (hb hby at_175) (rfl : 175 + 1 = 176) (by decide) ?_
                refine g_lload X78 hx (hb hby at_176) (rfl : 176 + 2 = 178) rfl ?_
                refine g_ldc2J X78 hx hZ hown (wd hw 46 rfl) (hb hby at_178) (rfl : 178 + 3 = 181) ?_
                refine g_land X78 hx (hb hby at_181) (rfl : 181 + 1 = 182) (z := (p3 &&& (2147483647 : Int64))) rfl ?_
                refine g_lload X78 hx (hb hby at_182) (rfl : 182 + 2 = 184) rfl ?_
                refine g_lrem X78 hx (hb hby at_184) (rfl : 184 + 1 = 185) (capNe hq) ?_
                refine g_ladd X78 hx (hb hby at_185) (rfl : 185 + 1 = 186) (z := ((1 : Int64) + ((p3 &&& (2147483647 : Int64)) % (if (2147483647 : Int64) < (len - (ka).toInt64) then (2147483647 : Int64) else (len - (ka).toInt64) : Int64)))) rfl ?_
                refine g_l2i X78 hx (hb hby at_186) (rfl : 186 + 1 = 187) ?_
                obtain ⟨kb, hkb⟩ : ∃ z : Int32, z = (((1 : Int64) + ((p3 &&& (2147483647 : Int64)) % (if (2147483647 : Int64) < (len - (ka).toInt64) then (2147483647 : Int64) else (len - (ka).toInt64) : Int64)))).toInt32 := ⟨_, rfl⟩
                rw [← hkb]
                refine g_istore X78 hx (hb hby at_187) (rfl : 187 + 2 = 189) (Ls' := #[.val (.long p1), .second, .val (.long p2), .second, .val (.long p3), .second, .val (.int p4), .val (.long len), .second, .val (.ref a1), .val (.int (1 : Int32)), .val (.long (if (2147483647 : Int64) < len then (2147483647 : Int64) else len : Int64)), .second, .val (.int ka), .val (.long (len - (ka).toInt64)), .second, .val (.int kb), .val (.long (if (2147483647 : Int64) < (len - (ka).toInt64) then (2147483647 : Int64) else (len - (ka).toInt64) : Int64)), .second]) rfl ?_
                refine g_aload X78 hx (hb hby at_189) (rfl : 189 + 2 = 191) rfl rfl ?_
                refine g_iload X78 hx (hb hby at_191) (rfl : 191 + 2 = 193) rfl ?_
                have F80 := (exaP (exaP F35 Pc34) Pc78)
                have F81 := (fldP (fldP G27_0 Pc34 nin0) Pc78 nin0)
                have F82 := (fldP (fldP G27_1 Pc34 nin0) Pc78 nin0)
                have F83 := (fldP F47 Pc78 nin0)
                have F84 := (fldP (fldP G27_3 Pc34 nin0) Pc78 nin0)
                have F85 := (fldP (fldP G27_4 Pc34 nin0) Pc78 nin0)
                refine g_virtual X78 hx hZ hown eh78 (rm_taken hw a1 (len - ka.toInt64) (0 : Int32) kb .null (0 : Int32) F80 F81 F82 F83 F84 F85 rfl) (C := "com/example/twofold/twofold/io/http/BodyReader") (wd hw 51 rfl) (wd hw 52 rfl) (notFace_of_selects (args := #[]) (mvT hZ (wd hw 54 rfl))) (wd hw 54 rfl) (wd hw 53 rfl) (wd hw 55 rfl) (wd hw 3 rfl) (by decide) (a := a1) F80 (argsL := [(.int kb)]) (rest := []) rfl rfl (ps := [.int]) (rt := none) (by decide) rfl (W := 0) (Nat.le_of_eq rfl) (by decide) (by decide) (by decide) (by decide) (by rw [hml]; rfl) (hb hby at_193) (rfl : 193 + 3 = 196) fun v79 T79 hh79 L79 X79 eh79 Q79 => ?_
                obtain ⟨rfl, Pc79, G79_0, G79_1, G79_2, G79_3, G79_4⟩ := Q79
                have P79 := P78.call Pc79 (allS (Or.inr g1) all0)
                show OGo p e below K T79 (mkF m 196 #[.val (.long p1), .second, .val (.long p2), .second, .val (.long p3), .second, .val (.int p4), .val (.long len), .second, .val (.ref a1), .val (.int (1 : Int32)), .val (.long (if (2147483647 : Int64) < len then (2147483647 : Int64) else len : Int64)), .second, .val (.int ka), .val (.long (len - (ka).toInt64)), .second, .val (.int kb), .val (.long (if (2147483647 : Int64) < (len - (ka).toInt64) then (2147483647 : Int64) else (len - (ka).toInt64) : Int64)), .second] [])
                refine g_iload X79 hx (hb hby at_196) (rfl : 196 + 2 = 198) rfl ?_
                refine g_ifN X79 hx (hb hby at_198) (XT.i0_eq_f (by decide)) (rfl : 198 + 3 = 201) ?_
                refine g_aload X79 hx (hb hby at_201) (rfl : 201 + 2 = 203) rfl rfl ?_
                have F87 := (exaP F80 Pc79)
                refine g_virtual X79 hx hZ hown eh79 (rm_over hw a1 (if (len - ka.toInt64) - kb.toInt64 = 0 then 1 else (0 : Int32) : Int32) .null G79_2 G79_3 rfl) (C := "com/example/twofold/twofold/io/http/BodyReader") (wd hw 39 rfl) (wd hw 40 rfl) (notFace_of_selects (args := #[]) (mvT hZ (wd hw 42 rfl))) (wd hw 42 rfl) (wd hw 41 rfl) (wd hw 43 rfl) (wd hw 3 rfl) (by decide) (a := a1) F87 (argsL := []) (rest := []) rfl rfl (ps := []) (rt := (some .boolean)) (by decide) rfl (W := 0) (Nat.le_of_eq rfl) (by decide) (by decide) (by decide) (by decide) (by rw [hml]; rfl) (hb hby at_203) (rfl : 203 + 3 = 206) fun v86 T86 hh86 L86 X86 eh86 Q86 => ?_
                obtain ⟨rfl, Pc86⟩ := Q86
                have P86 := P79.call Pc86 all0
                show OGo p e below K T86 (mkF m 206 #[.val (.long p1), .second, .val (.long p2), .second, .val (.long p3), .second, .val (.int p4), .val (.long len), .second, .val (.ref a1), .val (.int (1 : Int32)), .val (.long (if (2147483647 : Int64) < len then (2147483647 : Int64) else len : Int64)), .second, .val (.int ka), .val (.long (len - (ka).toInt64)), .second, .val (.int kb), .val (.long (if (2147483647 : Int64) < (len - (ka).toInt64) then (2147483647 : Int64) else (len - (ka).toInt64) : Int64)), .second] [(.int (if (if (len - ka.toInt64) - kb.toInt64 = 0 then 1 else (0 : Int32) : Int32) = 0 ∧ (.null : Value) = .null then 0 else 1 : Int32))])
                refine g_lload X86 hx (hb hby at_206) (rfl : 206 + 2 = 208) rfl ?_
                refine g_iload X86 hx (hb hby at_208) (rfl : 208 + 2 = 210) rfl ?_
                refine g_i2l X86 hx (hb hby at_210) (rfl : 210 + 1 = 211) ?_
                refine g_lsub X86 hx (hb hby at_211) (rfl : 211 + 1 = 212) (z := ((len - (ka).toInt64) - (kb).toInt64)) rfl ?_
                refine g_lconst X86 hx (0 : Int64) (hb hby at_212) (rfl : 212 + 1 = 213) (by decide) ?_
                refine g_lcmp X86 hx (hb hby at_213) (rfl : 213 + 1 = 214) ?_
                by_cases hs : ((len - (ka).toInt64) - (kb).toInt64) = (0 : Int64)
                · refine g_ifN X86 hx (hb hby at_214) (XT.ll_ne_f hs) (rfl : 214 + 3 = 217) ?_
                  refine g_iconst X86 hx (1 : Int32) (hb hby at_217) (rfl : 217 + 1 = 218) (by decide) ?_
                  refine g_goto X86 hx (hb hby at_218) (by decide) (pc' := 222) (by decide) ?_
                  refine g_icmpN X86 hx (hb hby at_222) (XT.ii_ne_f (by rw [if_pos hs]; simp)) (rfl : 222 + 3 = 225) ?_
                  refine g_iconst X86 hx (1 : Int32) (hb hby at_225) (rfl : 225 + 1 = 226) (by decide) ?_
                  refine g_goto X86 hx (hb hby at_226) (by decide) (pc' := 230) (by decide) ?_
                  refine g_istore X86 hx (hb hby at_230) (rfl : 230 + 2 = 232) (Ls' := #[.val (.long p1), .second, .val (.long p2), .second, .val (.long p3), .second, .val (.int p4), .val (.long len), .second, .val (.ref a1), .val (.int (1 : Int32)), .val (.long (if (2147483647 : Int64) < len then (2147483647 : Int64) else len : Int64)), .second, .val (.int ka), .val (.long (len - (ka).toInt64)), .second, .val (.int kb), .val (.long (if (2147483647 : Int64) < (len - (ka).toInt64) then (2147483647 : Int64) else (len - (ka).toInt64) : Int64)), .second]) rfl ?_
                  refine g_iload X86 hx (hb hby at_232) (rfl : 232 + 2 = 234) rfl ?_
                  refine g_iconst X86 hx (2 : Int32) (hb hby at_234) (rfl : 234 + 1 = 235) (by decide) ?_
                  refine g_iand X86 hx (hb hby at_235) (rfl : 235 + 1 = 236) (z := (p4 &&& (2 : Int32))) rfl ?_
                  by_cases hf2 : (p4 &&& (2 : Int32)) = (0 : Int32)
                  · refine g_ifY X86 hx (hb hby at_236) (XT.i0_eq_t hf2) (by decide) (pc' := 265) (by decide) ?_
                    refine g_iload X86 hx (hb hby at_265) (rfl : 265 + 2 = 267) rfl ?_
                    exact g_retW (s := s) X86 hx hret hlk (sinceR s) (Nat.zero_le _) rfl (Or.inl ⟨rfl, Or.inr (Or.inl rfl), _, rfl⟩) (hb hby at_267) (by decide) (by decide) eh86 hK ⟨rfl, P86⟩
                  · refine g_ifN X86 hx (hb hby at_236) (XT.i0_eq_f hf2) (rfl : 236 + 3 = 239) ?_
                    refine g_aload X86 hx (hb hby at_239) (rfl : 239 + 2 = 241) rfl rfl ?_
                    have F89 := (exaP F87 Pc86)
                    have F90 := (fldP G79_0 Pc86 nin0)
                    have F91 := (fldP G79_1 Pc86 nin0)
                    have F92 := (fldP G79_2 Pc86 nin0)
                    have F93 := (fldP G79_3 Pc86 nin0)
                    have F94 := (fldP G79_4 Pc86 nin0)
                    have F95 := (staP I1 P86)
                    have F96 := (staP I2 P86)
                    refine g_virtualW (s := s) X86 hx hZ hown eh86 (sinceR s) (Nat.zero_le _) hTK hBl (rm_cut hw a1 (0 : Int32) ((len - ka.toInt64) - kb.toInt64) (if (len - ka.toInt64) - kb.toInt64 = 0 then 1 else (0 : Int32) : Int32) (0 : Int32) un se F89 F90 F91 F92 F93 F94 F95 F96 hun hse hl (ThS.pr hT P86)) (C := "com/example/twofold/twofold/io/http/BodyReader") (wd hw 56 rfl) (wd hw 57 rfl) (notFace_of_selects (args := #[]) (mvT hZ (wd hw 59 rfl))) (wd hw 59 rfl) (wd hw 58 rfl) (wd hw 60 rfl) (wd hw 3 rfl) (by decide) (a := a1) F89 (argsL := []) (rest := []) rfl rfl (ps := []) (rt := (some (.object "java/io/IOException"))) (by decide) rfl (W := 0) (Nat.le_of_eq rfl) (by decide) (by decide) (by decide) (by decide) (by rw [hml]; rfl) (hb hby at_241) (rfl : 241 + 3 = 244) fun v88 T88 hh88 L88 vm88 n88 X88 eh88 Q88 hS88 hk88 hZ88 ho88 => ?_
                    obtain ⟨x_88, rfl, Pc88, G88_0, G88_1, G88_2⟩ := Q88
                    have P88 := P86.call Pc88 (allS (Or.inr g1) all0)
                    show OGo p e below K T88 (mkF m 244 #[.val (.long p1), .second, .val (.long p2), .second, .val (.long p3), .second, .val (.int p4), .val (.long len), .second, .val (.ref a1), .val (.int (1 : Int32)), .val (.long (if (2147483647 : Int64) < len then (2147483647 : Int64) else len : Int64)), .second, .val (.int ka), .val (.long (len - (ka).toInt64)), .second, .val (.int kb), .val (.long (if (2147483647 : Int64) < (len - (ka).toInt64) then (2147483647 : Int64) else (len - (ka).toInt64) : Int64)), .second] [(.ref x_88)])
                    refine g_pop X88 hx (hb hby at_244) (rfl : 244 + 1 = 245) rfl ?_
                    refine g_iload X88 hx (hb hby at_245) (rfl : 245 + 2 = 247) rfl ?_
                    refine g_ifN X88 hx (hb hby at_247) (XT.i0_eq_f (by decide)) (rfl : 247 + 3 = 250) ?_
                    refine g_aload X88 hx (hb hby at_250) (rfl : 250 + 2 = 252) rfl rfl ?_
                    refine g_virtual X88 hx hZ88 ho88 eh88 (rm_over hw a1 (if (len - ka.toInt64) - kb.toInt64 = 0 then 1 else (0 : Int32) : Int32) (.ref x_88) G88_1 G88_2 rfl) (C := "com/example/twofold/twofold/io/http/BodyReader") (wd hw 39 rfl) (wd hw 40 rfl) (notFace_of_selects (args := #[]) (mvT hZ88 (wd hw 42 rfl))) (wd hw 42 rfl) (wd hw 41 rfl) (wd hw 43 rfl) (wd hw 3 rfl) (by decide) (a := a1) G88_0 (argsL := []) (rest := []) rfl rfl (ps := []) (rt := (some .boolean)) (by decide) rfl (W := 0) (Nat.le_of_eq rfl) (by decide) (by decide) (by decide) (by decide) (by rw [hml]; rfl) (hb hby at_252) (rfl : 252 + 3 = 255) fun v97 T97 hh97 L97 X97 eh97 Q97 => ?_
                    obtain ⟨rfl, Pc97⟩ := Q97
                    have P97 := P88.call Pc97 all0
                    show OGo p e below K T97 (mkF m 255 #[.val (.long p1), .second, .val (.long p2), .second, .val (.long p3), .second, .val (.int p4), .val (.long len), .second, .val (.ref a1), .val (.int (1 : Int32)), .val (.long (if (2147483647 : Int64) < len then (2147483647 : Int64) else len : Int64)), .second, .val (.int ka), .val (.long (len - (ka).toInt64)), .second, .val (.int kb), .val (.long (if (2147483647 : Int64) < (len - (ka).toInt64) then (2147483647 : Int64) else (len - (ka).toInt64) : Int64)), .second] [(.int (if (if (len - ka.toInt64) - kb.toInt64 = 0 then 1 else (0 : Int32) : Int32) = 0 ∧ ((.ref x_88) : Value) = .null then 0 else 1 : Int32))])
                    refine g_ifN X97 hx (hb hby at_255) (XT.i0_eq_f (by simp)) (rfl : 255 + 3 = 258) ?_
                    refine g_iconst X97 hx (1 : Int32) (hb hby at_258) (rfl : 258 + 1 = 259) (by decide) ?_
                    refine g_goto X97 hx (hb hby at_259) (by decide) (pc' := 263) (by decide) ?_
                    refine g_istore X97 hx (hb hby at_263) (rfl : 263 + 2 = 265) (Ls' := #[.val (.long p1), .second, .val (.long p2), .second, .val (.long p3), .second, .val (.int p4), .val (.long len), .second, .val (.ref a1), .val (.int (1 : Int32)), .val (.long (if (2147483647 : Int64) < len then (2147483647 : Int64) else len : Int64)), .second, .val (.int ka), .val (.long (len - (ka).toInt64)), .second, .val (.int kb), .val (.long (if (2147483647 : Int64) < (len - (ka).toInt64) then (2147483647 : Int64) else (len - (ka).toInt64) : Int64)), .second]) rfl ?_
                    refine g_iload X97 hx (hb hby at_265) (rfl : 265 + 2 = 267) rfl ?_
                    exact g_retW (s := s) X97 hx hret hlk hS88 (Nat.le_trans hk88 Pc97.size) rfl (Or.inl ⟨rfl, Or.inr (Or.inl rfl), _, rfl⟩) (hb hby at_267) (by decide) (by decide) eh97 hK ⟨rfl, P97⟩
                · refine g_ifY X86 hx (hb hby at_214) (XT.ll_ne_t hs) (by decide) (pc' := 221) (by decide) ?_
                  refine g_iconst X86 hx (0 : Int32) (hb hby at_221) (rfl : 221 + 1 = 222) (by decide) ?_
                  refine g_icmpN X86 hx (hb hby at_222) (XT.ii_ne_f (by rw [if_neg hs]; simp)) (rfl : 222 + 3 = 225) ?_
                  refine g_iconst X86 hx (1 : Int32) (hb hby at_225) (rfl : 225 + 1 = 226) (by decide) ?_
                  refine g_goto X86 hx (hb hby at_226) (by decide) (pc' := 230) (by decide) ?_
                  refine g_istore X86 hx (hb hby at_230) (rfl : 230 + 2 = 232) (Ls' := #[.val (.long p1), .second, .val (.long p2), .second, .val (.long p3), .second, .val (.int p4), .val (.long len), .second, .val (.ref a1), .val (.int (1 : Int32)), .val (.long (if (2147483647 : Int64) < len then (2147483647 : Int64) else len : Int64)), .second, .val (.int ka), .val (.long (len - (ka).toInt64)), .second, .val (.int kb), .val (.long (if (2147483647 : Int64) < (len - (ka).toInt64) then (2147483647 : Int64) else (len - (ka).toInt64) : Int64)), .second]) rfl ?_
                  refine g_iload X86 hx (hb hby at_232) (rfl : 232 + 2 = 234) rfl ?_
                  refine g_iconst X86 hx (2 : Int32) (hb hby at_234) (rfl : 234 + 1 = 235) (by decide) ?_
                  refine g_iand X86 hx (hb hby at_235) (rfl : 235 + 1 = 236) (z := (p4 &&& (2 : Int32))) rfl ?_
                  by_cases hf2 : (p4 &&& (2 : Int32)) = (0 : Int32)
                  · refine g_ifY X86 hx (hb hby at_236) (XT.i0_eq_t hf2) (by decide) (pc' := 265) (by decide) ?_
                    refine g_iload X86 hx (hb hby at_265) (rfl : 265 + 2 = 267) rfl ?_
                    exact g_retW (s := s) X86 hx hret hlk (sinceR s) (Nat.zero_le _) rfl (Or.inl ⟨rfl, Or.inr (Or.inl rfl), _, rfl⟩) (hb hby at_267) (by decide) (by decide) eh86 hK ⟨rfl, P86⟩
                  · refine g_ifN X86 hx (hb hby at_236) (XT.i0_eq_f hf2) (rfl : 236 + 3 = 239) ?_
                    refine g_aload X86 hx (hb hby at_239) (rfl : 239 + 2 = 241) rfl rfl ?_
                    have F99 := (exaP F87 Pc86)
                    have F100 := (fldP G79_0 Pc86 nin0)
                    have F101 := (fldP G79_1 Pc86 nin0)
                    have F102 := (fldP G79_2 Pc86 nin0)
                    have F103 := (fldP G79_3 Pc86 nin0)
                    have F104 := (fldP G79_4 Pc86 nin0)
                    have F105 := (staP I1 P86)
                    have F106 := (staP I2 P86)
                    refine g_virtualW (s := s) X86 hx hZ hown eh86 (sinceR s) (Nat.zero_le _) hTK hBl (rm_cut hw a1 (0 : Int32) ((len - ka.toInt64) - kb.toInt64) (if (len - ka.toInt64) - kb.toInt64 = 0 then 1 else (0 : Int32) : Int32) (0 : Int32) un se F99 F100 F101 F102 F103 F104 F105 F106 hun hse hl (ThS.pr hT P86)) (C := "com/example/twofold/twofold/io/http/BodyReader") (wd hw 56 rfl) (wd hw 57 rfl) (notFace_of_selects (args := #[]) (mvT hZ (wd hw 59 rfl))) (wd hw 59 rfl) (wd hw 58 rfl) (wd hw 60 rfl) (wd hw 3 rfl) (by decide) (a := a1) F99 (argsL := []) (rest := []) rfl rfl (ps := []) (rt := (some (.object "java/io/IOException"))) (by decide) rfl (W := 0) (Nat.le_of_eq rfl) (by decide) (by decide) (by decide) (by decide) (by rw [hml]; rfl) (hb hby at_241) (rfl : 241 + 3 = 244) fun v98 T98 hh98 L98 vm98 n98 X98 eh98 Q98 hS98 hk98 hZ98 ho98 => ?_
                    obtain ⟨x_98, rfl, Pc98, G98_0, G98_1, G98_2⟩ := Q98
                    have P98 := P86.call Pc98 (allS (Or.inr g1) all0)
                    show OGo p e below K T98 (mkF m 244 #[.val (.long p1), .second, .val (.long p2), .second, .val (.long p3), .second, .val (.int p4), .val (.long len), .second, .val (.ref a1), .val (.int (1 : Int32)), .val (.long (if (2147483647 : Int64) < len then (2147483647 : Int64) else len : Int64)), .second, .val (.int ka), .val (.long (len - (ka).toInt64)), .second, .val (.int kb), .val (.long (if (2147483647 : Int64) < (len - (ka).toInt64) then (2147483647 : Int64) else (len - (ka).toInt64) : Int64)), .second] [(.ref x_98)])
                    refine g_pop X98 hx (hb hby at_244) (rfl : 244 + 1 = 245) rfl ?_
                    refine g_iload X98 hx (hb hby at_245) (rfl : 245 + 2 = 247) rfl ?_
                    refine g_ifN X98 hx (hb hby at_247) (XT.i0_eq_f (by decide)) (rfl : 247 + 3 = 250) ?_
                    refine g_aload X98 hx (hb hby at_250) (rfl : 250 + 2 = 252) rfl rfl ?_
                    refine g_virtual X98 hx hZ98 ho98 eh98 (rm_over hw a1 (if (len - ka.toInt64) - kb.toInt64 = 0 then 1 else (0 : Int32) : Int32) (.ref x_98) G98_1 G98_2 rfl) (C := "com/example/twofold/twofold/io/http/BodyReader") (wd hw 39 rfl) (wd hw 40 rfl) (notFace_of_selects (args := #[]) (mvT hZ98 (wd hw 42 rfl))) (wd hw 42 rfl) (wd hw 41 rfl) (wd hw 43 rfl) (wd hw 3 rfl) (by decide) (a := a1) G98_0 (argsL := []) (rest := []) rfl rfl (ps := []) (rt := (some .boolean)) (by decide) rfl (W := 0) (Nat.le_of_eq rfl) (by decide) (by decide) (by decide) (by decide) (by rw [hml]; rfl) (hb hby at_252) (rfl : 252 + 3 = 255) fun v107 T107 hh107 L107 X107 eh107 Q107 => ?_
                    obtain ⟨rfl, Pc107⟩ := Q107
                    have P107 := P98.call Pc107 all0
                    show OGo p e below K T107 (mkF m 255 #[.val (.long p1), .second, .val (.long p2), .second, .val (.long p3), .second, .val (.int p4), .val (.long len), .second, .val (.ref a1), .val (.int (1 : Int32)), .val (.long (if (2147483647 : Int64) < len then (2147483647 : Int64) else len : Int64)), .second, .val (.int ka), .val (.long (len - (ka).toInt64)), .second, .val (.int kb), .val (.long (if (2147483647 : Int64) < (len - (ka).toInt64) then (2147483647 : Int64) else (len - (ka).toInt64) : Int64)), .second] [(.int (if (if (len - ka.toInt64) - kb.toInt64 = 0 then 1 else (0 : Int32) : Int32) = 0 ∧ ((.ref x_98) : Value) = .null then 0 else 1 : Int32))])
                    refine g_ifN X107 hx (hb hby at_255) (XT.i0_eq_f (by simp)) (rfl : 255 + 3 = 258) ?_
                    refine g_iconst X107 hx (1 : Int32) (hb hby at_258) (rfl : 258 + 1 = 259) (by decide) ?_
                    refine g_goto X107 hx (hb hby at_259) (by decide) (pc' := 263) (by decide) ?_
                    refine g_istore X107 hx (hb hby at_263) (rfl : 263 + 2 = 265) (Ls' := #[.val (.long p1), .second, .val (.long p2), .second, .val (.long p3), .second, .val (.int p4), .val (.long len), .second, .val (.ref a1), .val (.int (1 : Int32)), .val (.long (if (2147483647 : Int64) < len then (2147483647 : Int64) else len : Int64)), .second, .val (.int ka), .val (.long (len - (ka).toInt64)), .second, .val (.int kb), .val (.long (if (2147483647 : Int64) < (len - (ka).toInt64) then (2147483647 : Int64) else (len - (ka).toInt64) : Int64)), .second]) rfl ?_
                    refine g_iload X107 hx (hb hby at_265) (rfl : 265 + 2 = 267) rfl ?_
                    exact g_retW (s := s) X107 hx hret hlk hS98 (Nat.le_trans hk98 Pc107.size) rfl (Or.inl ⟨rfl, Or.inr (Or.inl rfl), _, rfl⟩) (hb hby at_267) (by decide) (by decide) eh107 hK ⟨rfl, P107⟩
              · refine g_ifN X34 hx (hb hby at_154) (XT.ll_gt_f hh) (rfl : 154 + 3 = 157) ?_
                refine g_lload X34 hx (hb hby at_157) (rfl : 157 + 2 = 159) rfl ?_
                refine g_l2i X34 hx (hb hby at_159) (rfl : 159 + 1 = 160) ?_
                obtain ⟨kb, hkb⟩ : ∃ z : Int32, z = ((len - (ka).toInt64)).toInt32 := ⟨_, rfl⟩
                rw [← hkb]
                refine g_istore X34 hx (hb hby at_160) (rfl : 160 + 2 = 162) (Ls' := #[.val (.long p1), .second, .val (.long p2), .second, .val (.long p3), .second, .val (.int p4), .val (.long len), .second, .val (.ref a1), .val (.int (1 : Int32)), .val (.long (if (2147483647 : Int64) < len then (2147483647 : Int64) else len : Int64)), .second, .val (.int ka), .val (.long (len - (ka).toInt64)), .second, .val (.int kb), .unset, .unset]) rfl ?_
                refine g_goto X34 hx (hb hby at_162) (by decide) (pc' := 189) (by decide) ?_
                refine g_aload X34 hx (hb hby at_189) (rfl : 189 + 2 = 191) rfl rfl ?_
                refine g_iload X34 hx (hb hby at_191) (rfl : 191 + 2 = 193) rfl ?_
                have F109 := (exaP F35 Pc34)
                have F110 := (fldP G27_0 Pc34 nin0)
                have F111 := (fldP G27_1 Pc34 nin0)
                have F112 := (fldP G27_3 Pc34 nin0)
                have F113 := (fldP G27_4 Pc34 nin0)
                refine g_virtual X34 hx hZ hown eh34 (rm_taken hw a1 (len - ka.toInt64) (0 : Int32) kb .null (0 : Int32) F109 F110 F111 F47 F112 F113 rfl) (C := "com/example/twofold/twofold/io/http/BodyReader") (wd hw 51 rfl) (wd hw 52 rfl) (notFace_of_selects (args := #[]) (mvT hZ (wd hw 54 rfl))) (wd hw 54 rfl) (wd hw 53 rfl) (wd hw 55 rfl) (wd hw 3 rfl) (by decide) (a := a1) F109 (argsL := [(.int kb)]) (rest := []) rfl rfl (ps := [.int]) (rt := none) (by decide) rfl (W := 0) (Nat.le_of_eq rfl) (by decide) (by decide) (by decide) (by decide) (by rw [hml]; rfl) (hb hby at_193) (rfl : 193 + 3 = 196) fun v108 T108 hh108 L108 X108 eh108 Q108 => ?_
                obtain ⟨rfl, Pc108, G108_0, G108_1, G108_2, G108_3, G108_4⟩ := Q108
                have P108 := P34.call Pc108 (allS (Or.inr g1) all0)
                show OGo p e below K T108 (mkF m 196 #[.val (.long p1), .second, .val (.long p2), .second, .val (.long p3), .second, .val (.int p4), .val (.long len), .second, .val (.ref a1), .val (.int (1 : Int32)), .val (.long (if (2147483647 : Int64) < len then (2147483647 : Int64) else len : Int64)), .second, .val (.int ka), .val (.long (len - (ka).toInt64)), .second, .val (.int kb), .unset, .unset] [])
                refine g_iload X108 hx (hb hby at_196) (rfl : 196 + 2 = 198) rfl ?_
                refine g_ifN X108 hx (hb hby at_198) (XT.i0_eq_f (by decide)) (rfl : 198 + 3 = 201) ?_
                refine g_aload X108 hx (hb hby at_201) (rfl : 201 + 2 = 203) rfl rfl ?_
                have F115 := (exaP F109 Pc108)
                refine g_virtual X108 hx hZ hown eh108 (rm_over hw a1 (if (len - ka.toInt64) - kb.toInt64 = 0 then 1 else (0 : Int32) : Int32) .null G108_2 G108_3 rfl) (C := "com/example/twofold/twofold/io/http/BodyReader") (wd hw 39 rfl) (wd hw 40 rfl) (notFace_of_selects (args := #[]) (mvT hZ (wd hw 42 rfl))) (wd hw 42 rfl) (wd hw 41 rfl) (wd hw 43 rfl) (wd hw 3 rfl) (by decide) (a := a1) F115 (argsL := []) (rest := []) rfl rfl (ps := []) (rt := (some .boolean)) (by decide) rfl (W := 0) (Nat.le_of_eq rfl) (by decide) (by decide) (by decide) (by decide) (by rw [hml]; rfl) (hb hby at_203) (rfl : 203 + 3 = 206) fun v114 T114 hh114 L114 X114 eh114 Q114 => ?_
                obtain ⟨rfl, Pc114⟩ := Q114
                have P114 := P108.call Pc114 all0
                show OGo p e below K T114 (mkF m 206 #[.val (.long p1), .second, .val (.long p2), .second, .val (.long p3), .second, .val (.int p4), .val (.long len), .second, .val (.ref a1), .val (.int (1 : Int32)), .val (.long (if (2147483647 : Int64) < len then (2147483647 : Int64) else len : Int64)), .second, .val (.int ka), .val (.long (len - (ka).toInt64)), .second, .val (.int kb), .unset, .unset] [(.int (if (if (len - ka.toInt64) - kb.toInt64 = 0 then 1 else (0 : Int32) : Int32) = 0 ∧ (.null : Value) = .null then 0 else 1 : Int32))])
                refine g_lload X114 hx (hb hby at_206) (rfl : 206 + 2 = 208) rfl ?_
                refine g_iload X114 hx (hb hby at_208) (rfl : 208 + 2 = 210) rfl ?_
                refine g_i2l X114 hx (hb hby at_210) (rfl : 210 + 1 = 211) ?_
                refine g_lsub X114 hx (hb hby at_211) (rfl : 211 + 1 = 212) (z := ((len - (ka).toInt64) - (kb).toInt64)) rfl ?_
                refine g_lconst X114 hx (0 : Int64) (hb hby at_212) (rfl : 212 + 1 = 213) (by decide) ?_
                refine g_lcmp X114 hx (hb hby at_213) (rfl : 213 + 1 = 214) ?_
                by_cases hs : ((len - (ka).toInt64) - (kb).toInt64) = (0 : Int64)
                · refine g_ifN X114 hx (hb hby at_214) (XT.ll_ne_f hs) (rfl : 214 + 3 = 217) ?_
                  refine g_iconst X114 hx (1 : Int32) (hb hby at_217) (rfl : 217 + 1 = 218) (by decide) ?_
                  refine g_goto X114 hx (hb hby at_218) (by decide) (pc' := 222) (by decide) ?_
                  refine g_icmpN X114 hx (hb hby at_222) (XT.ii_ne_f (by rw [if_pos hs]; simp)) (rfl : 222 + 3 = 225) ?_
                  refine g_iconst X114 hx (1 : Int32) (hb hby at_225) (rfl : 225 + 1 = 226) (by decide) ?_
                  refine g_goto X114 hx (hb hby at_226) (by decide) (pc' := 230) (by decide) ?_
                  refine g_istore X114 hx (hb hby at_230) (rfl : 230 + 2 = 232) (Ls' := #[.val (.long p1), .second, .val (.long p2), .second, .val (.long p3), .second, .val (.int p4), .val (.long len), .second, .val (.ref a1), .val (.int (1 : Int32)), .val (.long (if (2147483647 : Int64) < len then (2147483647 : Int64) else len : Int64)), .second, .val (.int ka), .val (.long (len - (ka).toInt64)), .second, .val (.int kb), .unset, .unset]) rfl ?_
                  refine g_iload X114 hx (hb hby at_232) (rfl : 232 + 2 = 234) rfl ?_
                  refine g_iconst X114 hx (2 : Int32) (hb hby at_234) (rfl : 234 + 1 = 235) (by decide) ?_
                  refine g_iand X114 hx (hb hby at_235) (rfl : 235 + 1 = 236) (z := (p4 &&& (2 : Int32))) rfl ?_
                  by_cases hf2 : (p4 &&& (2 : Int32)) = (0 : Int32)
                  · refine g_ifY X114 hx (hb hby at_236) (XT.i0_eq_t hf2) (by decide) (pc' := 265) (by decide) ?_
                    refine g_iload X114 hx (hb hby at_265) (rfl : 265 + 2 = 267) rfl ?_
                    exact g_retW (s := s) X114 hx hret hlk (sinceR s) (Nat.zero_le _) rfl (Or.inl ⟨rfl, Or.inr (Or.inl rfl), _, rfl⟩) (hb hby at_267) (by decide) (by decide) eh114 hK ⟨rfl, P114⟩
                  · refine g_ifN X114 hx (hb hby at_236) (XT.i0_eq_f hf2) (rfl : 236 + 3 = 239) ?_
                    refine g_aload X114 hx (hb hby at_239) (rfl : 239 + 2 = 241) rfl rfl ?_
                    have F117 := (exaP F115 Pc114)
                    have F118 := (fldP G108_0 Pc114 nin0)
                    have F119 := (fldP G108_1 Pc114 nin0)
                    have F120 := (fldP G108_2 Pc114 nin0)
                    have F121 := (fldP G108_3 Pc114 nin0)
                    have F122 := (fldP G108_4 Pc114 nin0)
                    have F123 := (staP I1 P114)
                    have F124 := (staP I2 P114)
                    refine g_virtualW (s := s) X114 hx hZ hown eh114 (sinceR s) (Nat.zero_le _) hTK hBl (rm_cut hw a1 (0 : Int32) ((len - ka.toInt64) - kb.toInt64) (if (len - ka.toInt64) - kb.toInt64 = 0 then 1 else (0 : Int32) : Int32) (0 : Int32) un se F117 F118 F119 F120 F121 F122 F123 F124 hun hse hl (ThS.pr hT P114)) (C := "com/example/twofold/twofold/io/http/BodyReader") (wd hw 56 rfl) (wd hw 57 rfl) (notFace_of_selects (args := #[]) (mvT hZ (wd hw 59 rfl))) (wd hw 59 rfl) (wd hw 58 rfl) (wd hw 60 rfl) (wd hw 3 rfl) (by decide) (a := a1) F117 (argsL := []) (rest := []) rfl rfl (ps := []) (rt := (some (.object "java/io/IOException"))) (by decide) rfl (W := 0) (Nat.le_of_eq rfl) (by decide) (by decide) (by decide) (by decide) (by rw [hml]; rfl) (hb hby at_241) (rfl : 241 + 3 = 244) fun v116 T116 hh116 L116 vm116 n116 X116 eh116 Q116 hS116 hk116 hZ116 ho116 => ?_
                    obtain ⟨x_116, rfl, Pc116, G116_0, G116_1, G116_2⟩ := Q116
                    have P116 := P114.call Pc116 (allS (Or.inr g1) all0)
                    show OGo p e below K T116 (mkF m 244 #[.val (.long p1), .second, .val (.long p2), .second, .val (.long p3), .second, .val (.int p4), .val (.long len), .second, .val (.ref a1), .val (.int (1 : Int32)), .val (.long (if (2147483647 : Int64) < len then (2147483647 : Int64) else len : Int64)), .second, .val (.int ka), .val (.long (len - (ka).toInt64)), .second, .val (.int kb), .unset, .unset] [(.ref x_116)])
                    refine g_pop X116 hx (hb hby at_244) (rfl : 244 + 1 = 245) rfl ?_
                    refine g_iload X116 hx (hb hby at_245) (rfl : 245 + 2 = 247) rfl ?_
                    refine g_ifN X116 hx (hb hby at_247) (XT.i0_eq_f (by decide)) (rfl : 247 + 3 = 250) ?_
                    refine g_aload X116 hx (hb hby at_250) (rfl : 250 + 2 = 252) rfl rfl ?_
                    refine g_virtual X116 hx hZ116 ho116 eh116 (rm_over hw a1 (if (len - ka.toInt64) - kb.toInt64 = 0 then 1 else (0 : Int32) : Int32) (.ref x_116) G116_1 G116_2 rfl) (C := "com/example/twofold/twofold/io/http/BodyReader") (wd hw 39 rfl) (wd hw 40 rfl) (notFace_of_selects (args := #[]) (mvT hZ116 (wd hw 42 rfl))) (wd hw 42 rfl) (wd hw 41 rfl) (wd hw 43 rfl) (wd hw 3 rfl) (by decide) (a := a1) G116_0 (argsL := []) (rest := []) rfl rfl (ps := []) (rt := (some .boolean)) (by decide) rfl (W := 0) (Nat.le_of_eq rfl) (by decide) (by decide) (by decide) (by decide) (by rw [hml]; rfl) (hb hby at_252) (rfl : 252 + 3 = 255) fun v125 T125 hh125 L125 X125 eh125 Q125 => ?_
                    obtain ⟨rfl, Pc125⟩ := Q125
                    have P125 := P116.call Pc125 all0
                    show OGo p e below K T125 (mkF m 255 #[.val (.long p1), .second, .val (.long p2), .second, .val (.long p3), .second, .val (.int p4), .val (.long len), .second, .val (.ref a1), .val (.int (1 : Int32)), .val (.long (if (2147483647 : Int64) < len then (2147483647 : Int64) else len : Int64)), .second, .val (.int ka), .val (.long (len - (ka).toInt64)), .second, .val (.int kb), .unset, .unset] [(.int (if (if (len - ka.toInt64) - kb.toInt64 = 0 then 1 else (0 : Int32) : Int32) = 0 ∧ ((.ref x_116) : Value) = .null then 0 else 1 : Int32))])
                    refine g_ifN X125 hx (hb hby at_255) (XT.i0_eq_f (by simp)) (rfl : 255 + 3 = 258) ?_
                    refine g_iconst X125 hx (1 : Int32) (hb hby at_258) (rfl : 258 + 1 = 259) (by decide) ?_
                    refine g_goto X125 hx (hb hby at_259) (by decide) (pc' := 263) (by decide) ?_
                    refine g_istore X125 hx (hb hby at_263) (rfl : 263 + 2 = 265) (Ls' := #[.val (.long p1), .second, .val (.long p2), .second, .val (.long p3), .second, .val (.int p4), .val (.long len), .second, .val (.ref a1), .val (.int (1 : Int32)), .val (.long (if (2147483647 : Int64) < len then (2147483647 : Int64) else len : Int64)), .second, .val (.int ka), .val (.long (len - (ka).toInt64)), .second, .val (.int kb), .unset, .unset]) rfl ?_
                    refine g_iload X125 hx (hb hby at_265) (rfl : 265 + 2 = 267) rfl ?_
                    exact g_retW (s := s) X125 hx hret hlk hS116 (Nat.le_trans hk116 Pc125.size) rfl (Or.inl ⟨rfl, Or.inr (Or.inl rfl), _, rfl⟩) (hb hby at_267) (by decide) (by decide) eh125 hK ⟨rfl, P125⟩
                · refine g_ifY X114 hx (hb hby at_214) (XT.ll_ne_t hs) (by decide) (pc' := 221) (by decide) ?_
                  refine g_iconst X114 hx (0 : Int32) (hb hby at_221) (rfl : 221 + 1 = 222) (by decide) ?_
                  refine g_icmpN X114 hx (hb hby at_222) (XT.ii_ne_f (by rw [if_neg hs]; simp)) (rfl : 222 + 3 = 225) ?_
                  refine g_iconst X114 hx (1 : Int32) (hb hby at_225) (rfl : 225 + 1 = 226) (by decide) ?_
                  refine g_goto X114 hx (hb hby at_226) (by decide) (pc' := 230) (by decide) ?_
                  refine g_istore X114 hx (hb hby at_230) (rfl : 230 + 2 = 232) (Ls' := #[.val (.long p1), .second, .val (.long p2), .second, .val (.long p3), .second, .val (.int p4), .val (.long len), .second, .val (.ref a1), .val (.int (1 : Int32)), .val (.long (if (2147483647 : Int64) < len then (2147483647 : Int64) else len : Int64)), .second, .val (.int ka), .val (.long (len - (ka).toInt64)), .second, .val (.int kb), .unset, .unset]) rfl ?_
                  refine g_iload X114 hx (hb hby at_232) (rfl : 232 + 2 = 234) rfl ?_
                  refine g_iconst X114 hx (2 : Int32) (hb hby at_234) (rfl : 234 + 1 = 235) (by decide) ?_
                  refine g_iand X114 hx (hb hby at_235) (rfl : 235 + 1 = 236) (z := (p4 &&& (2 : Int32))) rfl ?_
                  by_cases hf2 : (p4 &&& (2 : Int32)) = (0 : Int32)
                  · refine g_ifY X114 hx (hb hby at_236) (XT.i0_eq_t hf2) (by decide) (pc' := 265) (by decide) ?_
                    refine g_iload X114 hx (hb hby at_265) (rfl : 265 + 2 = 267) rfl ?_
                    exact g_retW (s := s) X114 hx hret hlk (sinceR s) (Nat.zero_le _) rfl (Or.inl ⟨rfl, Or.inr (Or.inl rfl), _, rfl⟩) (hb hby at_267) (by decide) (by decide) eh114 hK ⟨rfl, P114⟩
                  · refine g_ifN X114 hx (hb hby at_236) (XT.i0_eq_f hf2) (rfl : 236 + 3 = 239) ?_
                    refine g_aload X114 hx (hb hby at_239) (rfl : 239 + 2 = 241) rfl rfl ?_
                    have F127 := (exaP F115 Pc114)
                    have F128 := (fldP G108_0 Pc114 nin0)
                    have F129 := (fldP G108_1 Pc114 nin0)
                    have F130 := (fldP G108_2 Pc114 nin0)
                    have F131 := (fldP G108_3 Pc114 nin0)
                    have F132 := (fldP G108_4 Pc114 nin0)
                    have F133 := (staP I1 P114)
                    have F134 := (staP I2 P114)
                    refine g_virtualW (s := s) X114 hx hZ hown eh114 (sinceR s) (Nat.zero_le _) hTK hBl (rm_cut hw a1 (0 : Int32) ((len - ka.toInt64) - kb.toInt64) (if (len - ka.toInt64) - kb.toInt64 = 0 then 1 else (0 : Int32) : Int32) (0 : Int32) un se F127 F128 F129 F130 F131 F132 F133 F134 hun hse hl (ThS.pr hT P114)) (C := "com/example/twofold/twofold/io/http/BodyReader") (wd hw 56 rfl) (wd hw 57 rfl) (notFace_of_selects (args := #[]) (mvT hZ (wd hw 59 rfl))) (wd hw 59 rfl) (wd hw 58 rfl) (wd hw 60 rfl) (wd hw 3 rfl) (by decide) (a := a1) F127 (argsL := []) (rest := []) rfl rfl (ps := []) (rt := (some (.object "java/io/IOException"))) (by decide) rfl (W := 0) (Nat.le_of_eq rfl) (by decide) (by decide) (by decide) (by decide) (by rw [hml]; rfl) (hb hby at_241) (rfl : 241 + 3 = 244) fun v126 T126 hh126 L126 vm126 n126 X126 eh126 Q126 hS126 hk126 hZ126 ho126 => ?_
                    obtain ⟨x_126, rfl, Pc126, G126_0, G126_1, G126_2⟩ := Q126
                    have P126 := P114.call Pc126 (allS (Or.inr g1) all0)
                    show OGo p e below K T126 (mkF m 244 #[.val (.long p1), .second, .val (.long p2), .second, .val (.long p3), .second, .val (.int p4), .val (.long len), .second, .val (.ref a1), .val (.int (1 : Int32)), .val (.long (if (2147483647 : Int64) < len then (2147483647 : Int64) else len : Int64)), .second, .val (.int ka), .val (.long (len - (ka).toInt64)), .second, .val (.int kb), .unset, .unset] [(.ref x_126)])
                    refine g_pop X126 hx (hb hby at_244) (rfl : 244 + 1 = 245) rfl ?_
                    refine g_iload X126 hx (hb hby at_245) (rfl : 245 + 2 = 247) rfl ?_
                    refine g_ifN X126 hx (hb hby at_247) (XT.i0_eq_f (by decide)) (rfl : 247 + 3 = 250) ?_
                    refine g_aload X126 hx (hb hby at_250) (rfl : 250 + 2 = 252) rfl rfl ?_
                    refine g_virtual X126 hx hZ126 ho126 eh126 (rm_over hw a1 (if (len - ka.toInt64) - kb.toInt64 = 0 then 1 else (0 : Int32) : Int32) (.ref x_126) G126_1 G126_2 rfl) (C := "com/example/twofold/twofold/io/http/BodyReader") (wd hw 39 rfl) (wd hw 40 rfl) (notFace_of_selects (args := #[]) (mvT hZ126 (wd hw 42 rfl))) (wd hw 42 rfl) (wd hw 41 rfl) (wd hw 43 rfl) (wd hw 3 rfl) (by decide) (a := a1) G126_0 (argsL := []) (rest := []) rfl rfl (ps := []) (rt := (some .boolean)) (by decide) rfl (W := 0) (Nat.le_of_eq rfl) (by decide) (by decide) (by decide) (by decide) (by rw [hml]; rfl) (hb hby at_252) (rfl : 252 + 3 = 255) fun v135 T135 hh135 L135 X135 eh135 Q135 => ?_
                    obtain ⟨rfl, Pc135⟩ := Q135
                    have P135 := P126.call Pc135 all0
                    show OGo p e below K T135 (mkF m 255 #[.val (.long p1), .second, .val (.long p2), .second, .val (.long p3), .second, .val (.int p4), .val (.long len), .second, .val (.ref a1), .val (.int (1 : Int32)), .val (.long (if (2147483647 : Int64) < len then (2147483647 : Int64) else len : Int64)), .second, .val (.int ka), .val (.long (len - (ka).toInt64)), .second, .val (.int kb), .unset, .unset] [(.int (if (if (len - ka.toInt64) - kb.toInt64 = 0 then 1 else (0 : Int32) : Int32) = 0 ∧ ((.ref x_126) : Value) = .null then 0 else 1 : Int32))])
                    refine g_ifN X135 hx (hb hby at_255) (XT.i0_eq_f (by simp)) (rfl : 255 + 3 = 258) ?_
                    refine g_iconst X135 hx (1 : Int32) (hb hby at_258) (rfl : 258 + 1 = 259) (by decide) ?_
                    refine g_goto X135 hx (hb hby at_259) (by decide) (pc' := 263) (by decide) ?_
                    refine g_istore X135 hx (hb hby at_263) (rfl : 263 + 2 = 265) (Ls' := #[.val (.long p1), .second, .val (.long p2), .second, .val (.long p3), .second, .val (.int p4), .val (.long len), .second, .val (.ref a1), .val (.int (1 : Int32)), .val (.long (if (2147483647 : Int64) < len then (2147483647 : Int64) else len : Int64)), .second, .val (.int ka), .val (.long (len - (ka).toInt64)), .second, .val (.int kb), .unset, .unset]) rfl ?_
                    refine g_iload X135 hx (hb hby at_265) (rfl : 265 + 2 = 267) rfl ?_
                    exact g_retW (s := s) X135 hx hret hlk hS126 (Nat.le_trans hk126 Pc135.size) rfl (Or.inl ⟨rfl, Or.inr (Or.inl rfl), _, rfl⟩) (hb hby at_267) (by decide) (by decide) eh135 hK ⟨rfl, P135⟩
          · refine g_ifY X34 hx (hb hby at_138) (XT.ll_le_t hq) (by decide) (pc' := 232) (by decide) ?_
            refine g_iload X34 hx (hb hby at_232) (rfl : 232 + 2 = 234) rfl ?_
            refine g_iconst X34 hx (2 : Int32) (hb hby at_234) (rfl : 234 + 1 = 235) (by decide) ?_
            refine g_iand X34 hx (hb hby at_235) (rfl : 235 + 1 = 236) (z := (p4 &&& (2 : Int32))) rfl ?_
            by_cases hf2 : (p4 &&& (2 : Int32)) = (0 : Int32)
            · refine g_ifY X34 hx (hb hby at_236) (XT.i0_eq_t hf2) (by decide) (pc' := 265) (by decide) ?_
              refine g_iload X34 hx (hb hby at_265) (rfl : 265 + 2 = 267) rfl ?_
              exact g_retW (s := s) X34 hx hret hlk (sinceR s) (Nat.zero_le _) rfl (Or.inl ⟨rfl, Or.inr (Or.inl rfl), _, rfl⟩) (hb hby at_267) (by decide) (by decide) eh34 hK ⟨rfl, P34⟩
            · refine g_ifN X34 hx (hb hby at_236) (XT.i0_eq_f hf2) (rfl : 236 + 3 = 239) ?_
              refine g_aload X34 hx (hb hby at_239) (rfl : 239 + 2 = 241) rfl rfl ?_
              have F137 := (exaP F35 Pc34)
              have F138 := (fldP G27_0 Pc34 nin0)
              have F139 := (fldP G27_1 Pc34 nin0)
              have F140 := (fldP G27_2 Pc34 nin0)
              have F141 := (fldP G27_3 Pc34 nin0)
              have F142 := (fldP G27_4 Pc34 nin0)
              have F143 := (staP I1 P34)
              have F144 := (staP I2 P34)
              refine g_virtualW (s := s) X34 hx hZ hown eh34 (sinceR s) (Nat.zero_le _) hTK hBl (rm_cut hw a1 (0 : Int32) (len - ka.toInt64) (if len - ka.toInt64 = 0 then 1 else (0 : Int32) : Int32) (0 : Int32) un se F137 F138 F139 F140 F141 F142 F143 F144 hun hse hl (ThS.pr hT P34)) (C := "com/example/twofold/twofold/io/http/BodyReader") (wd hw 56 rfl) (wd hw 57 rfl) (notFace_of_selects (args := #[]) (mvT hZ (wd hw 59 rfl))) (wd hw 59 rfl) (wd hw 58 rfl) (wd hw 60 rfl) (wd hw 3 rfl) (by decide) (a := a1) F137 (argsL := []) (rest := []) rfl rfl (ps := []) (rt := (some (.object "java/io/IOException"))) (by decide) rfl (W := 0) (Nat.le_of_eq rfl) (by decide) (by decide) (by decide) (by decide) (by rw [hml]; rfl) (hb hby at_241) (rfl : 241 + 3 = 244) fun v136 T136 hh136 L136 vm136 n136 X136 eh136 Q136 hS136 hk136 hZ136 ho136 => ?_
              obtain ⟨x_136, rfl, Pc136, G136_0, G136_1, G136_2⟩ := Q136
              have P136 := P34.call Pc136 (allS (Or.inr g1) all0)
              show OGo p e below K T136 (mkF m 244 #[.val (.long p1), .second, .val (.long p2), .second, .val (.long p3), .second, .val (.int p4), .val (.long len), .second, .val (.ref a1), .val (.int (1 : Int32)), .val (.long (if (2147483647 : Int64) < len then (2147483647 : Int64) else len : Int64)), .second, .val (.int ka), .val (.long (len - (ka).toInt64)), .second, .unset, .unset, .unset] [(.ref x_136)])
              refine g_pop X136 hx (hb hby at_244) (rfl : 244 + 1 = 245) rfl ?_
              refine g_iload X136 hx (hb hby at_245) (rfl : 245 + 2 = 247) rfl ?_
              refine g_ifN X136 hx (hb hby at_247) (XT.i0_eq_f (by decide)) (rfl : 247 + 3 = 250) ?_
              refine g_aload X136 hx (hb hby at_250) (rfl : 250 + 2 = 252) rfl rfl ?_
              refine g_virtual X136 hx hZ136 ho136 eh136 (rm_over hw a1 (if len - ka.toInt64 = 0 then 1 else (0 : Int32) : Int32) (.ref x_136) G136_1 G136_2 rfl) (C := "com/example/twofold/twofold/io/http/BodyReader") (wd hw 39 rfl) (wd hw 40 rfl) (notFace_of_selects (args := #[]) (mvT hZ136 (wd hw 42 rfl))) (wd hw 42 rfl) (wd hw 41 rfl) (wd hw 43 rfl) (wd hw 3 rfl) (by decide) (a := a1) G136_0 (argsL := []) (rest := []) rfl rfl (ps := []) (rt := (some .boolean)) (by decide) rfl (W := 0) (Nat.le_of_eq rfl) (by decide) (by decide) (by decide) (by decide) (by rw [hml]; rfl) (hb hby at_252) (rfl : 252 + 3 = 255) fun v145 T145 hh145 L145 X145 eh145 Q145 => ?_
              obtain ⟨rfl, Pc145⟩ := Q145
              have P145 := P136.call Pc145 all0
              show OGo p e below K T145 (mkF m 255 #[.val (.long p1), .second, .val (.long p2), .second, .val (.long p3), .second, .val (.int p4), .val (.long len), .second, .val (.ref a1), .val (.int (1 : Int32)), .val (.long (if (2147483647 : Int64) < len then (2147483647 : Int64) else len : Int64)), .second, .val (.int ka), .val (.long (len - (ka).toInt64)), .second, .unset, .unset, .unset] [(.int (if (if len - ka.toInt64 = 0 then 1 else (0 : Int32) : Int32) = 0 ∧ ((.ref x_136) : Value) = .null then 0 else 1 : Int32))])
              refine g_ifN X145 hx (hb hby at_255) (XT.i0_eq_f (by simp)) (rfl : 255 + 3 = 258) ?_
              refine g_iconst X145 hx (1 : Int32) (hb hby at_258) (rfl : 258 + 1 = 259) (by decide) ?_
              refine g_goto X145 hx (hb hby at_259) (by decide) (pc' := 263) (by decide) ?_
              refine g_istore X145 hx (hb hby at_263) (rfl : 263 + 2 = 265) (Ls' := #[.val (.long p1), .second, .val (.long p2), .second, .val (.long p3), .second, .val (.int p4), .val (.long len), .second, .val (.ref a1), .val (.int (1 : Int32)), .val (.long (if (2147483647 : Int64) < len then (2147483647 : Int64) else len : Int64)), .second, .val (.int ka), .val (.long (len - (ka).toInt64)), .second, .unset, .unset, .unset]) rfl ?_
              refine g_iload X145 hx (hb hby at_265) (rfl : 265 + 2 = 267) rfl ?_
              exact g_retW (s := s) X145 hx hret hlk hS136 (Nat.le_trans hk136 Pc145.size) rfl (Or.inl ⟨rfl, Or.inr (Or.inl rfl), _, rfl⟩) (hb hby at_267) (by decide) (by decide) eh145 hK ⟨rfl, P145⟩
      · refine g_ifY X10 hx (hb hby at_61) (XT.ll_le_t hp) (by decide) (pc' := 232) (by decide) ?_
        refine g_iload X10 hx (hb hby at_232) (rfl : 232 + 2 = 234) rfl ?_
        refine g_iconst X10 hx (2 : Int32) (hb hby at_234) (rfl : 234 + 1 = 235) (by decide) ?_
        refine g_iand X10 hx (hb hby at_235) (rfl : 235 + 1 = 236) (z := (p4 &&& (2 : Int32))) rfl ?_
        by_cases hf2 : (p4 &&& (2 : Int32)) = (0 : Int32)
        · refine g_ifY X10 hx (hb hby at_236) (XT.i0_eq_t hf2) (by decide) (pc' := 265) (by decide) ?_
          refine g_iload X10 hx (hb hby at_265) (rfl : 265 + 2 = 267) rfl ?_
          exact g_retW (s := s) X10 hx hret hlk (sinceR s) (Nat.zero_le _) rfl (Or.inl ⟨rfl, Or.inr (Or.inl rfl), _, rfl⟩) (hb hby at_267) (by decide) (by decide) eh10 hK ⟨rfl, P10⟩
        · refine g_ifN X10 hx (hb hby at_236) (XT.i0_eq_f hf2) (rfl : 236 + 3 = 239) ?_
          refine g_aload X10 hx (hb hby at_239) (rfl : 239 + 2 = 241) rfl rfl ?_
          have F147 := (exaP F11 Pc10)
          have F148 := (fldP G8_0 Pc10 nin0)
          have F149 := (fldP G8_1 Pc10 nin0)
          have F150 := (fldP G8_2 Pc10 nin0)
          have F151 := (fldP G8_3 Pc10 nin0)
          have F152 := (fldP G8_4 Pc10 nin0)
          have F153 := (staP I1 P10)
          have F154 := (staP I2 P10)
          refine g_virtualW (s := s) X10 hx hZ hown eh10 (sinceR s) (Nat.zero_le _) hTK hBl (rm_cut hw a1 (if len = -1 then 1 else 0 : Int32) len (if len = 0 then 1 else 0 : Int32) (0 : Int32) un se F147 F148 F149 F150 F151 F152 F153 F154 hun hse hl (ThS.pr hT P10)) (C := "com/example/twofold/twofold/io/http/BodyReader") (wd hw 56 rfl) (wd hw 57 rfl) (notFace_of_selects (args := #[]) (mvT hZ (wd hw 59 rfl))) (wd hw 59 rfl) (wd hw 58 rfl) (wd hw 60 rfl) (wd hw 3 rfl) (by decide) (a := a1) F147 (argsL := []) (rest := []) rfl rfl (ps := []) (rt := (some (.object "java/io/IOException"))) (by decide) rfl (W := 0) (Nat.le_of_eq rfl) (by decide) (by decide) (by decide) (by decide) (by rw [hml]; rfl) (hb hby at_241) (rfl : 241 + 3 = 244) fun v146 T146 hh146 L146 vm146 n146 X146 eh146 Q146 hS146 hk146 hZ146 ho146 => ?_
          obtain ⟨x_146, rfl, Pc146, G146_0, G146_1, G146_2⟩ := Q146
          have P146 := P10.call Pc146 (allS (Or.inr g1) all0)
          show OGo p e below K T146 (mkF m 244 #[.val (.long p1), .second, .val (.long p2), .second, .val (.long p3), .second, .val (.int p4), .val (.long len), .second, .val (.ref a1), .val (.int (1 : Int32)), .unset, .unset, .unset, .unset, .unset, .unset, .unset, .unset] [(.ref x_146)])
          refine g_pop X146 hx (hb hby at_244) (rfl : 244 + 1 = 245) rfl ?_
          refine g_iload X146 hx (hb hby at_245) (rfl : 245 + 2 = 247) rfl ?_
          refine g_ifN X146 hx (hb hby at_247) (XT.i0_eq_f (by decide)) (rfl : 247 + 3 = 250) ?_
          refine g_aload X146 hx (hb hby at_250) (rfl : 250 + 2 = 252) rfl rfl ?_
          refine g_virtual X146 hx hZ146 ho146 eh146 (rm_over hw a1 (if len = 0 then 1 else 0 : Int32) (.ref x_146) G146_1 G146_2 rfl) (C := "com/example/twofold/twofold/io/http/BodyReader") (wd hw 39 rfl) (wd hw 40 rfl) (notFace_of_selects (args := #[]) (mvT hZ146 (wd hw 42 rfl))) (wd hw 42 rfl) (wd hw 41 rfl) (wd hw 43 rfl) (wd hw 3 rfl) (by decide) (a := a1) G146_0 (argsL := []) (rest := []) rfl rfl (ps := []) (rt := (some .boolean)) (by decide) rfl (W := 0) (Nat.le_of_eq rfl) (by decide) (by decide) (by decide) (by decide) (by rw [hml]; rfl) (hb hby at_252) (rfl : 252 + 3 = 255) fun v155 T155 hh155 L155 X155 eh155 Q155 => ?_
          obtain ⟨rfl, Pc155⟩ := Q155
          have P155 := P146.call Pc155 all0
          show OGo p e below K T155 (mkF m 255 #[.val (.long p1), .second, .val (.long p2), .second, .val (.long p3), .second, .val (.int p4), .val (.long len), .second, .val (.ref a1), .val (.int (1 : Int32)), .unset, .unset, .unset, .unset, .unset, .unset, .unset, .unset] [(.int (if (if len = 0 then 1 else 0 : Int32) = 0 ∧ ((.ref x_146) : Value) = .null then 0 else 1 : Int32))])
          refine g_ifN X155 hx (hb hby at_255) (XT.i0_eq_f (by simp)) (rfl : 255 + 3 = 258) ?_
          refine g_iconst X155 hx (1 : Int32) (hb hby at_258) (rfl : 258 + 1 = 259) (by decide) ?_
          refine g_goto X155 hx (hb hby at_259) (by decide) (pc' := 263) (by decide) ?_
          refine g_istore X155 hx (hb hby at_263) (rfl : 263 + 2 = 265) (Ls' := #[.val (.long p1), .second, .val (.long p2), .second, .val (.long p3), .second, .val (.int p4), .val (.long len), .second, .val (.ref a1), .val (.int (1 : Int32)), .unset, .unset, .unset, .unset, .unset, .unset, .unset, .unset]) rfl ?_
          refine g_iload X155 hx (hb hby at_265) (rfl : 265 + 2 = 267) rfl ?_
          exact g_retW (s := s) X155 hx hret hlk hS146 (Nat.le_trans hk146 Pc155.size) rfl (Or.inl ⟨rfl, Or.inr (Or.inl rfl), _, rfl⟩) (hb hby at_267) (by decide) (by decide) eh155 hK ⟨rfl, P155⟩
  by_cases hlt : p1 < (-1 : Int64)
  · refine g_ifN X0 hx (hb hby at_5) (XT.ll_ge_f hlt) (rfl : 5 + 3 = 8) ?_
    refine g_lloadN X0 hx (hb hby at_8) (rfl : 8 + 1 = 9) rfl ?_
    refine g_ldc2J X0 hx hZ hown (wd hw 122 rfl) (hb hby at_9) (rfl : 9 + 3 = 12) ?_
    refine g_land X0 hx (hb hby at_12) (rfl : 12 + 1 = 13) (z := (p1 &&& (9223372036854775807 : Int64))) rfl ?_
    refine g_goto X0 hx (hb hby at_13) (by decide) (pc' := 17) (by decide) ?_
    exact key _
  · refine g_ifY X0 hx (hb hby at_5) (XT.ll_ge_t hlt) (by decide) (pc' := 16) (by decide) ?_
    refine g_lloadN X0 hx (hb hby at_16) (rfl : 16 + 1 = 17) rfl ?_
    exact key _
set_option maxRecDepth 65536 in
set_option maxHeartbeats 40000000 in
theorem comes_1 {Post : Tables → Env → Array Value → State → Outcome → State → Prop} (hpost : ∀ tb e args s v u, (limb_1_1.after args s (.returned v) u = true ∧ limb_1_2.after args s (.returned v) u = true ∧ True) → Jvm.Pilot.@@N@@.Jvm.D.FramedW s (.returned v) u (Jvm.fieldLocs frame_1_writes args s ++ Jvm.arrayLocs frame_1_arrays args s ++ Jvm.staticLocs frame_1_statics s) 24 7744 → Post tb e args s (.returned v) u) :
    ArmFor flags0 classFile x code maxLocals ret World_1 tables_1 room_1 Calls_1 rest_1 Pre_1 Post := by
  intro l hfl _ _ p e ha hc hk s m args below hf hA hF happ hP
  obtain ⟨hcalls, hrest, hpre⟩ := hP
  obtain ⟨-, -, -, hnamed, -, -, -, hat⟩ := (Spec.applies_iff hf).mp happ
  obtain ⟨hg, hn⟩ := and_e (Cond.before_iff.mp (show (Jvm.Cond.and given_1 narrow_1).before args s = true from hpre))
  obtain ⟨h1, hgg⟩ := and_e hg
  obtain ⟨w0, w1, w2, w3, rfl⟩ : ∃ w0 w1 w2 w3 : Value, args = #[w0, w1, w2, w3] := by
    have hs : args.size = 4 := by simpa [Cond.value, given_1] using h1
    obtain ⟨L⟩ := args
    match L, hs with
    | [w0, w1, w2, w3], _ => exact ⟨w0, w1, w2, w3, rfl⟩
  have hw := fun d (hd : d ∈ tables_1) => atoms_spec (ws := Jvm.Cond.code x code maxLocals ret :: tables_1) hat d (List.mem_cons_of_mem _ hd)
  have hfit : Fit s := fun {y c} hc i hi => by
    obtain ⟨ha, rfl⟩ := Array.getElem?_eq_some_iff.mp hc
    have q := List.all_eq_true.mp ((Array.all_eq_true_iff_forall_mem.mp hF) _ (Array.getElem_mem ha)) i (List.mem_range.mpr hi)
    simpa [Array.getElem?_eq_getElem hi] using q
  obtain ⟨ga0, gb0⟩ := and_e hgg
  obtain ⟨i0, ea0⟩ := isL_v ga0
  obtain rfl : w0 = (.long i0) := Option.some.inj ea0
  obtain ⟨ga1, gb1⟩ := and_e gb0
  obtain ⟨i1, ea1⟩ := isL_v ga1
  obtain rfl : w1 = (.long i1) := Option.some.inj ea1
  obtain ⟨ga2, gb2⟩ := and_e gb1
  obtain ⟨i2, ea2⟩ := isL_v ga2
  obtain rfl : w2 = (.long i2) := Option.some.inj ea2
  obtain ⟨i3, ea3⟩ := is_v gb2
  obtain rfl : w3 = (.int i3) := Option.some.inj ea3
  obtain ⟨hsets, hown0⟩ := atoms_of _ (rest_1_c_eq ▸ (show rest_1_c.before _ s = true from hrest))
  obtain ⟨cs, ecs⟩ := is_v (Cond.before_iff.mp (hsets _ (List.mem_of_getElem? (i := 1) rfl)))
  have Scs := Sta.start ecs (Or.inl (hsets _ (List.mem_of_getElem? (i := 0) rfl)))
  have hcs : ¬ cs = 0 := by have q := not_v (Cond.before_iff.mp (hsets _ (List.mem_of_getElem? (i := 2) rfl))); rw [eqI ecs (Term.int_eval _)] at q; simpa using q
  obtain ⟨un, eun, hun⟩ := isR_v (Cond.before_iff.mp (hsets _ (List.mem_of_getElem? (i := 16) rfl)))
  have Sun := Sta.start eun (Or.inl (hsets _ (List.mem_of_getElem? (i := 15) rfl)))
  obtain ⟨se, ese, hse⟩ := isR_v (Cond.before_iff.mp (hsets _ (List.mem_of_getElem? (i := 21) rfl)))
  have Sse := Sta.start ese (Or.inl (hsets _ (List.mem_of_getElem? (i := 20) rfl)))
  have hst : l.stackTraces = true := by show (!l.flags.contains noTraceFlag) = true; rw [hfl]; decide
  obtain ⟨n, o, r1, r2, r3, _, L, rfl, ⟨rfl, Pf⟩, hq⟩ := (rm0 hw i0 i1 i2 i3 cs un se Scs Sun Sse hcs hun hse hst ThS.start) tables_1 p e ha hc hk s m _ below hf ((Spec.applies_iff_loose hf).mp happ).1 ⟨rfl, State.Warmed39.refl s, rfl⟩ ⟨MethodsKnown_of_tablesKnown hcalls.2.1, FramesKnown_of_framesKnown hcalls.1 hf⟩
  obtain ⟨z1, z2, z3, z4⟩ := hq
  refine ⟨n, _, r1, r2, r3, hpost _ _ _ _ _ _ ⟨Cond.after_iff.mpr rfl, Cond.after_iff.mpr (eq_i res_at (Term.int_eval (1)) rfl), trivial⟩ ⟨z1, z2, z3, (z4.sift fun y hy => Or.inr (Pf.fr y hy)).mono (by decide) (by decide)⟩⟩
theorem main_1_1 : Claimed_1_1 := comes_1 fun _ _ _ _ _ _ h hF => ⟨h.1, hF⟩
theorem main_1_2 : Claimed_1_2 := comes_1 fun _ _ _ _ _ _ h hF => ⟨h.2.1, hF⟩
end Jvm.Pilot.@@N@@
namespace Jvm.Pilot.@@N@@
open Jvm Jvm.ClassFile Sem Op Lib Jvm.Free Jvm.Stand Jvm.Pilot.@@N@@.Jvm.D
/-! MADE BY PROGRAM (witnessworld.py) out of the Statement's table words and the real class files: 37 classes; the members and pool entries that the words name. The judged class is class 1, her method 1. -/
namespace start1
open Jvm.ClassFile
def u (s : String) : CpInfo := .utf8 (stringToUtf16 s)
/-- a pool by its gaps: so many unusable entries, then the entry; so many at the end -/
def gap : Nat → List CpInfo → List CpInfo
  | 0, r => r
  | n + 1, r => .unusable :: gap n r
def poolList (es : List (Nat × CpInfo)) (last : Nat) : List CpInfo := es.foldr (fun e r => gap e.1 (e.2 :: r)) (gap last [])
def pool (es : List (Nat × CpInfo)) (last : Nat) : Array CpInfo := ⟨poolList es last⟩
def fileOf (pool : Array CpInfo) (this : Nat) (attrs : Array Attribute := #[]) (ms : Array MethodInfo := #[]) (fl : Nat := 33) (sup : Nat := 0) (ifs : Array Nat := #[]) (fds : Array FieldInfo := #[]) : ClassFile where
  minorVersion := 0
  majorVersion := 65
  constantPool := pool
  accessFlags := fl
  thisClass := this
  superClass := sup
  interfaces := ifs
  fields := fds
  methods := ms
  attributes := attrs
def plain (name : String) (sup : Option ClassId) : Class where
  name := name
  kind := .ordinary
  loader := none
  accessFlags := 33
  super := sup
  interfaces := #[]
  cf := none
  fields := #[]
  methods := #[]
  instanceTypes := #[]
  staticTypes := #[]
  resolved := #[]
  callSites := []
  init := .initialized
  statics := none
  mirror := none

def pool0 : Array CpInfo := pool [(5, u "<init>"), (0, u "()V"), (1, .class_ 10), (1, u "java/lang/Object")] 113

def k0c0 : Code := { maxStack := 0, maxLocals := 1, code := object_method_1_code, exceptionTable := #[], attributes := #[] }
def k0m0 : Method := { name := "<init>", desc := "()V", sig := { parameters := [], returnType := none }, accessFlags := 1, code := some k0c0 }
/-- java/lang/Object -/
def k0 : Class := { plain "java/lang/Object" none with
  accessFlags := 33
  interfaces := #[]
  cf := some (fileOf pool0 8 #[] #[{ accessFlags := 1, nameIndex := 5, descriptorIndex := 6, attributes := #[] }] 33 0 #[] #[])
  fields := #[]
  methods := #[k0m0]
  instanceTypes := #[]
  staticTypes := #[]
  resolved := Array.replicate 124 none
  statics := none }

def pool1 : Array CpInfo := pool [(2, .class_ 4), (1, u "java/lang/Object"), (0, u "<init>"), (0, u "()V"), (0, .long 18446744073709551615), (3, .long 9223372036854775807), (1, .class_ 14), (0, u "com/example/twofold/twofold/io/http/BodyReader"), (0, .methodref 13 16), (0, .nameAndType 5 17), (0, u "(J)V"), (0, .methodref 13 19), (0, .nameAndType 20 21), (0, u "over"), (0, u "()Z"), (0, .long 2147483647), (1, .methodref 25 26), (0, .class_ 27), (0, .nameAndType 28 29), (0, u "java/lang/Math"), (0, u "min"), (0, u "(JJ)J"), (0, .methodref 13 31), (0, .nameAndType 32 33), (0, u "taken"), (0, u "(I)V"), (0, .methodref 13 35), (0, .nameAndType 36 37), (0, u "cutOff"), (0, u "()Ljava/io/IOException;"), (0, .class_ 39), (0, u "com/example/twofold/twofold/io/http/BodyReaderOverPinLaw"), (2, u "law"), (0, u "(JJJI)Z")] 3

def k1m0 : Method := { name := "<init>", desc := "()V", sig := { parameters := [], returnType := none }, accessFlags := 2, code := none }
def k1c1 : Code := { maxStack := 6, maxLocals := 19, code := code, exceptionTable := #[], attributes := #[] }
def k1m1 : Method := { name := "law", desc := "(JJJI)Z", sig := { parameters := [.long, .long, .long, .int], returnType := some .boolean }, accessFlags := 9, code := some k1c1 }
/-- com/example/twofold/twofold/io/http/BodyReaderOverPinLaw -/
def k1 : Class := { plain "com/example/twofold/twofold/io/http/BodyReaderOverPinLaw" (some 0) with
  accessFlags := 49
  interfaces := #[]
  cf := some (fileOf pool1 38 #[] #[{ accessFlags := 2, nameIndex := 5, descriptorIndex := 6, attributes := #[] }, { accessFlags := 9, nameIndex := 42, descriptorIndex := 43, attributes := #[] }] 49 2 #[] #[])
  fields := #[]
  methods := #[k1m0, k1m1]
  instanceTypes := #[]
  staticTypes := #[]
  resolved := Array.replicate 47 none
  statics := none }

def pool2 : Array CpInfo := pool [(1, .methodref 2 3), (0, .class_ 4), (0, .nameAndType 5 6), (0, u "java/lang/Object"), (0, u "<init>"), (0, u "()V"), (0, .class_ 8), (0, u "java/lang/StringBuilder"), (0, .methodref 7 3), (0, .fieldref 11 12), (0, .class_ 13), (0, .nameAndType 14 15), (0, u "com/example/twofold/twofold/io/http/BodyReader"), (0, u "sizeLine"), (0, u "Ljava/lang/StringBuilder;"), (2, .long 18446744073709551615), (1, .fieldref 11 21), (0, .nameAndType 22 23), (0, u "chunked"), (0, u "Z"), (0, .fieldref 11 25), (0, .nameAndType 26 27), (0, u "remaining"), (0, u "J"), (0, .fieldref 11 29), (0, .nameAndType 30 23), (0, u "ended"), (0, .fieldref 11 32), (0, .nameAndType 33 34), (0, u "failure"), (0, u "Ljava/io/IOException;"), (5, u "()Z"), (8, .class_ 50), (0, u "java/io/IOException"), (9, .fieldref 11 61), (0, .nameAndType 62 63), (0, u "lineEnd"), (0, u "I"), (0, .string 65), (0, u "end of stream reading chunk header"), (0, .string 67), (0, u "connection closed before all data received"), (0, .methodref 49 69), (0, .nameAndType 5 70), (0, u "(Ljava/lang/String;)V"), (4, u "last"), (24, u "(I)V"), (22, u "MAX_SIZE_DIGITS"), (2, u "MAX_SIZE_LINE"), (1, u "(J)V"), (6, u "taken"), (0, u "over"), (0, u "cutOff"), (0, u "()Ljava/io/IOException;")] 2

def k2c0 : Code := { maxStack := 5, maxLocals := 3, code := prog_12_method_1_code, exceptionTable := #[], attributes := #[] }
def k2m0 : Method := { name := "<init>", desc := "(J)V", sig := { parameters := [.long], returnType := none }, accessFlags := 0, code := some k2c0 }
def k2c1 : Code := { maxStack := 5, maxLocals := 2, code := prog_12_method_3_code, exceptionTable := #[], attributes := #[] }
def k2m1 : Method := { name := "taken", desc := "(I)V", sig := { parameters := [.int], returnType := none }, accessFlags := 0, code := some k2c1 }
def k2c2 : Code := { maxStack := 1, maxLocals := 1, code := prog_12_method_4_code, exceptionTable := #[], attributes := #[] }
def k2m2 : Method := { name := "over", desc := "()Z", sig := { parameters := [], returnType := some .boolean }, accessFlags := 0, code := some k2c2 }
def k2c3 : Code := { maxStack := 7, maxLocals := 1, code := prog_12_method_5_code, exceptionTable := #[], attributes := #[] }
def k2m3 : Method := { name := "cutOff", desc := "()Ljava/io/IOException;", sig := { parameters := [], returnType := some (.object "java/io/IOException") }, accessFlags := 0, code := some k2c3 }
/-- com/example/twofold/twofold/io/http/BodyReader -/
def k2 : Class := { plain "com/example/twofold/twofold/io/http/BodyReader" (some 0) with
  accessFlags := 48
  interfaces := #[]
  cf := some (fileOf pool2 11 #[] #[{ accessFlags := 0, nameIndex := 5, descriptorIndex := 128, attributes := #[] }, { accessFlags := 0, nameIndex := 135, descriptorIndex := 100, attributes := #[] }, { accessFlags := 0, nameIndex := 136, descriptorIndex := 40, attributes := #[] }, { accessFlags := 0, nameIndex := 137, descriptorIndex := 138, attributes := #[] }] 48 2 #[] #[{ accessFlags := 26, nameIndex := 123, descriptorIndex := 63, attributes := #[] }, { accessFlags := 26, nameIndex := 126, descriptorIndex := 63, attributes := #[] }, { accessFlags := 18, nameIndex := 22, descriptorIndex := 23, attributes := #[] }, { accessFlags := 2, nameIndex := 26, descriptorIndex := 27, attributes := #[] }, { accessFlags := 18, nameIndex := 14, descriptorIndex := 15, attributes := #[] }, { accessFlags := 2, nameIndex := 62, descriptorIndex := 63, attributes := #[] }, { accessFlags := 2, nameIndex := 75, descriptorIndex := 23, attributes := #[] }, { accessFlags := 2, nameIndex := 30, descriptorIndex := 23, attributes := #[] }, { accessFlags := 2, nameIndex := 33, descriptorIndex := 34, attributes := #[] }])
  fields := #[{ name := "MAX_SIZE_DIGITS", type := .int, accessFlags := 26, slot := 0, constantValue := 0 }, { name := "MAX_SIZE_LINE", type := .int, accessFlags := 26, slot := 1, constantValue := 0 }, { name := "chunked", type := .boolean, accessFlags := 18, slot := 0, constantValue := 0 }, { name := "remaining", type := .long, accessFlags := 2, slot := 1, constantValue := 0 }, { name := "sizeLine", type := (.object "java/lang/StringBuilder"), accessFlags := 18, slot := 2, constantValue := 0 }, { name := "lineEnd", type := .int, accessFlags := 2, slot := 3, constantValue := 0 }, { name := "last", type := .boolean, accessFlags := 2, slot := 4, constantValue := 0 }, { name := "ended", type := .boolean, accessFlags := 2, slot := 5, constantValue := 0 }, { name := "failure", type := (.object "java/io/IOException"), accessFlags := 2, slot := 6, constantValue := 0 }]
  methods := #[k2m0, k2m1, k2m2, k2m3]
  instanceTypes := #[.boolean, .long, (.object "java/lang/StringBuilder"), .int, .boolean, .boolean, (.object "java/io/IOException")]
  staticTypes := #[.int, .int]
  resolved := Array.replicate 141 none
  statics := none }

def pool3 : Array CpInfo := pool [(1, .class_ 2), (0, u "java/lang/Appendable"), (0, .class_ 4), (0, u "java/lang/Object")] 9

/-- java/lang/Appendable -/
def k3 : Class := { plain "java/lang/Appendable" (some 0) with
  accessFlags := 1537
  interfaces := #[]
  cf := some (fileOf pool3 1 #[] #[] 1537 3 #[] #[])
  fields := #[]
  methods := #[]
  instanceTypes := #[]
  staticTypes := #[]
  resolved := Array.replicate 14 none
  statics := none }

def pool4 : Array CpInfo := pool [(2, .class_ 4), (1, u "java/lang/CharSequence"), (42, .class_ 48), (0, u "java/lang/CharSequence$1CodePointIterator"), (10, .class_ 60), (0, u "java/lang/CharSequence$1CharIterator"), (5, .class_ 67), (0, u "java/lang/Object")] 63

/-- java/lang/CharSequence -/
def k4 : Class := { plain "java/lang/CharSequence" (some 0) with
  accessFlags := 1537
  interfaces := #[]
  cf := some (fileOf pool4 2 #[.nestMembers #[47, 59]] #[] 1537 66 #[] #[])
  fields := #[]
  methods := #[]
  instanceTypes := #[]
  staticTypes := #[]
  resolved := Array.replicate 131 none
  statics := none }

def pool5 : Array CpInfo := pool [(1, .class_ 2), (0, u "java/lang/String"), (0, .methodref 4 5), (0, .class_ 6), (0, .nameAndType 7 8), (0, u "java/lang/Object"), (0, u "<init>"), (0, u "()V"), (1, .class_ 12), (1, u "java/lang/AbstractStringBuilder"), (0, u "EMPTYVALUE"), (0, u "[B"), (0, .fieldref 10 16), (0, .nameAndType 17 14), (0, u "value"), (0, .fieldref 1 19), (0, .nameAndType 20 21), (0, u "COMPACT_STRINGS"), (0, u "Z"), (0, .fieldref 10 23), (0, .nameAndType 24 25), (0, u "coder"), (0, u "B"), (22, .class_ 49), (0, u "java/lang/CharSequence"), (25, u "maybeLatin1"), (5, u "count"), (0, u "I"), (20, u "(I)V"), (340, .class_ 445), (0, u "java/lang/Appendable")] 163

def k5m0 : Method := { name := "<init>", desc := "()V", sig := { parameters := [], returnType := none }, accessFlags := 0, code := none }
def k5c1 : Code := { maxStack := 2, maxLocals := 2, code := jdk_68_method_2_code, exceptionTable := #[], attributes := #[] }
def k5m1 : Method := { name := "<init>", desc := "(I)V", sig := { parameters := [.int], returnType := none }, accessFlags := 0, code := some k5c1 }
/-- java/lang/AbstractStringBuilder -/
def k5 : Class := { plain "java/lang/AbstractStringBuilder" (some 0) with
  accessFlags := 1056
  interfaces := #[3, 4]
  cf := some (fileOf pool5 10 #[] #[{ accessFlags := 0, nameIndex := 7, descriptorIndex := 8, attributes := #[] }, { accessFlags := 0, nameIndex := 7, descriptorIndex := 103, attributes := #[] }] 1056 4 #[444, 48] #[{ accessFlags := 0, nameIndex := 17, descriptorIndex := 14, attributes := #[] }, { accessFlags := 0, nameIndex := 24, descriptorIndex := 25, attributes := #[] }, { accessFlags := 0, nameIndex := 75, descriptorIndex := 21, attributes := #[] }, { accessFlags := 0, nameIndex := 81, descriptorIndex := 82, attributes := #[] }, { accessFlags := 26, nameIndex := 13, descriptorIndex := 14, attributes := #[] }])
  fields := #[{ name := "value", type := (.array .byte), accessFlags := 0, slot := 0, constantValue := 0 }, { name := "coder", type := .byte, accessFlags := 0, slot := 1, constantValue := 0 }, { name := "maybeLatin1", type := .boolean, accessFlags := 0, slot := 2, constantValue := 0 }, { name := "count", type := .int, accessFlags := 0, slot := 3, constantValue := 0 }, { name := "EMPTYVALUE", type := (.array .byte), accessFlags := 26, slot := 0, constantValue := 0 }]
  methods := #[k5m0, k5m1]
  instanceTypes := #[(.array .byte), .byte, .boolean, .int]
  staticTypes := #[(.array .byte)]
  resolved := Array.replicate 609 none
  statics := none }

def pool6 : Array CpInfo := pool [(1, .class_ 2), (0, u "java/io/Serializable"), (0, .class_ 4), (0, u "java/lang/Object")] 2

/-- java/io/Serializable -/
def k6 : Class := { plain "java/io/Serializable" (some 0) with
  accessFlags := 1537
  interfaces := #[]
  cf := some (fileOf pool6 1 #[] #[] 1537 3 #[] #[])
  fields := #[]
  methods := #[]
  instanceTypes := #[]
  staticTypes := #[]
  resolved := Array.replicate 7 none
  statics := none }

def pool7 : Array CpInfo := pool [(1, .class_ 2), (0, u "java/lang/Comparable"), (0, .class_ 4), (0, u "java/lang/Object")] 7

/-- java/lang/Comparable -/
def k7 : Class := { plain "java/lang/Comparable" (some 0) with
  accessFlags := 1537
  interfaces := #[]
  cf := some (fileOf pool7 1 #[] #[] 1537 3 #[] #[])
  fields := #[]
  methods := #[]
  instanceTypes := #[]
  staticTypes := #[]
  resolved := Array.replicate 12 none
  statics := none }

def pool8 : Array CpInfo := pool [(1, .methodref 2 3), (0, .class_ 4), (0, .nameAndType 5 6), (0, u "java/lang/AbstractStringBuilder"), (0, u "<init>"), (0, u "(I)V"), (17, .class_ 26), (1, u "java/lang/StringBuilder"), (118, u "()V"), (203, .class_ 350), (0, u "java/lang/Appendable"), (0, .class_ 352), (0, u "java/io/Serializable"), (0, .class_ 354), (0, u "java/lang/Comparable"), (0, .class_ 356), (0, u "java/lang/CharSequence"), (0, u "serialVersionUID"), (0, u "J")] 63

def k8c0 : Code := { maxStack := 2, maxLocals := 1, code := jdk_67_method_1_code, exceptionTable := #[], attributes := #[] }
def k8m0 : Method := { name := "<init>", desc := "()V", sig := { parameters := [], returnType := none }, accessFlags := 1, code := some k8c0 }
/-- java/lang/StringBuilder -/
def k8 : Class := { plain "java/lang/StringBuilder" (some 5) with
  accessFlags := 49
  interfaces := #[3, 6, 7, 4]
  cf := some (fileOf pool8 24 #[] #[{ accessFlags := 1, nameIndex := 5, descriptorIndex := 145, attributes := #[] }] 49 2 #[349, 351, 353, 355] #[{ accessFlags := 24, nameIndex := 357, descriptorIndex := 358, attributes := #[] }])
  fields := #[{ name := "serialVersionUID", type := .long, accessFlags := 24, slot := 0, constantValue := 0 }]
  methods := #[k8m0]
  instanceTypes := #[(.array .byte), .byte, .boolean, .int]
  staticTypes := #[.long]
  resolved := Array.replicate 422 none
  statics := none }

def pool9 : Array CpInfo := pool [(1, .class_ 2), (0, u "java/lang/constant/Constable"), (0, .class_ 4), (0, u "java/lang/Object")] 6

/-- java/lang/constant/Constable -/
def k9 : Class := { plain "java/lang/constant/Constable" (some 0) with
  accessFlags := 1537
  interfaces := #[]
  cf := some (fileOf pool9 1 #[] #[] 1537 3 #[] #[])
  fields := #[]
  methods := #[]
  instanceTypes := #[]
  staticTypes := #[]
  resolved := Array.replicate 11 none
  statics := none }

def pool10 : Array CpInfo := pool [(1, .class_ 2), (0, u "java/lang/constant/ConstantDesc"), (0, .class_ 4), (0, u "java/lang/Object")] 32

/-- java/lang/constant/ConstantDesc -/
def k10 : Class := { plain "java/lang/constant/ConstantDesc" (some 0) with
  accessFlags := 1537
  interfaces := #[]
  cf := some (fileOf pool10 1 #[] #[] 1537 3 #[] #[])
  fields := #[]
  methods := #[]
  instanceTypes := #[]
  staticTypes := #[]
  resolved := Array.replicate 37 none
  statics := none }

def pool11 : Array CpInfo := pool [(2, .class_ 4), (1, u "java/lang/Object"), (0, u "<init>"), (0, u "()V"), (3, .class_ 12), (1, u "java/lang/String"), (0, u "value"), (0, u "[B"), (2, u "coder"), (0, u "B"), (2, u "hash"), (0, u "I"), (2, u "hashIsZero"), (0, u "Z"), (13, u "COMPACT_STRINGS"), (534, .class_ 576), (0, u "java/lang/CharSequence"), (22, u "CASE_INSENSITIVE_ORDER"), (0, u "Ljava/util/Comparator;"), (500, u "serialPersistentFields"), (0, u "[Ljava/io/ObjectStreamField;"), (0, .class_ 1104), (0, u "java/lang/String$CaseInsensitiveComparator"), (1, .class_ 1107), (0, u "java/io/Serializable"), (0, .class_ 1109), (0, u "java/lang/Comparable"), (0, .class_ 1111), (0, u "java/lang/constant/Constable"), (0, .class_ 1113), (0, u "java/lang/constant/ConstantDesc"), (2, u "serialVersionUID"), (0, u "J"), (3, u "REPL"), (0, u "C"), (2, u "LATIN1"), (1, u "UTF16")] 323

def k11m0 : Method := { name := "<init>", desc := "()V", sig := { parameters := [], returnType := none }, accessFlags := 1, code := none }
/-- java/lang/String -/
def k11 : Class := { plain "java/lang/String" (some 0) with
  accessFlags := 49
  interfaces := #[6, 7, 4, 9, 10]
  cf := some (fileOf pool11 10 #[.nestMembers #[1103]] #[{ accessFlags := 1, nameIndex := 5, descriptorIndex := 6, attributes := #[] }] 49 2 #[1106, 1108, 575, 1110, 1112] #[{ accessFlags := 18, nameIndex := 13, descriptorIndex := 14, attributes := #[] }, { accessFlags := 18, nameIndex := 17, descriptorIndex := 18, attributes := #[] }, { accessFlags := 2, nameIndex := 21, descriptorIndex := 22, attributes := #[] }, { accessFlags := 2, nameIndex := 25, descriptorIndex := 26, attributes := #[] }, { accessFlags := 26, nameIndex := 1116, descriptorIndex := 1117, attributes := #[] }, { accessFlags := 24, nameIndex := 40, descriptorIndex := 26, attributes := #[] }, { accessFlags := 26, nameIndex := 1101, descriptorIndex := 1102, attributes := #[] }, { accessFlags := 26, nameIndex := 1121, descriptorIndex := 1122, attributes := #[] }, { accessFlags := 25, nameIndex := 599, descriptorIndex := 600, attributes := #[] }, { accessFlags := 24, nameIndex := 1125, descriptorIndex := 18, attributes := #[] }, { accessFlags := 24, nameIndex := 1127, descriptorIndex := 18, attributes := #[] }])
  fields := #[{ name := "value", type := (.array .byte), accessFlags := 18, slot := 0, constantValue := 0 }, { name := "coder", type := .byte, accessFlags := 18, slot := 1, constantValue := 0 }, { name := "hash", type := .int, accessFlags := 2, slot := 2, constantValue := 0 }, { name := "hashIsZero", type := .boolean, accessFlags := 2, slot := 3, constantValue := 0 }, { name := "serialVersionUID", type := .long, accessFlags := 26, slot := 0, constantValue := 0 }, { name := "COMPACT_STRINGS", type := .boolean, accessFlags := 24, slot := 1, constantValue := 0 }, { name := "serialPersistentFields", type := (.array (.object "java/io/ObjectStreamField")), accessFlags := 26, slot := 2, constantValue := 0 }, { name := "REPL", type := .char, accessFlags := 26, slot := 3, constantValue := 0 }, { name := "CASE_INSENSITIVE_ORDER", type := (.object "java/util/Comparator"), accessFlags := 25, slot := 4, constantValue := 0 }, { name := "LATIN1", type := .byte, accessFlags := 24, slot := 5, constantValue := 0 }, { name := "UTF16", type := .byte, accessFlags := 24, slot := 6, constantValue := 0 }]
  methods := #[k11m0]
  instanceTypes := #[(.array .byte), .byte, .int, .boolean]
  staticTypes := #[.long, .boolean, (.array (.object "java/io/ObjectStreamField")), .char, (.object "java/util/Comparator"), .byte, .byte]
  resolved := Array.replicate 1451 none
  statics := some 0 }

def pool12 : Array CpInfo := pool [(1, .class_ 2), (0, u "java/lang/Math"), (1, .class_ 6), (1, u "java/lang/Object"), (0, u "<init>"), (0, u "()V"), (89, .class_ 100), (1, u "java/lang/Math$RandomNumberGeneratorHolder"), (20, u "(JJ)J"), (50, u "negativeZeroFloatBits"), (0, u "J"), (2, u "negativeZeroDoubleBits"), (24, u "min"), (43, u "$assertionsDisabled"), (0, u "Z"), (91, u "twoToTheDoubleScaleDown"), (0, u "D"), (4, u "twoToTheDoubleScaleUp"), (9, u "E"), (3, u "PI"), (2, u "TAU"), (2, u "DEGREES_TO_RADIANS"), (0, u "RADIANS_TO_DEGREES")] 94

def k12m0 : Method := { name := "<init>", desc := "()V", sig := { parameters := [], returnType := none }, accessFlags := 2, code := none }
def k12c1 : Code := { maxStack := 4, maxLocals := 4, code := jdk_29_method_70_code, exceptionTable := #[], attributes := #[] }
def k12m1 : Method := { name := "min", desc := "(JJ)J", sig := { parameters := [.long, .long], returnType := some .long }, accessFlags := 9, code := some k12c1 }
/-- java/lang/Math -/
def k12 : Class := { plain "java/lang/Math" (some 0) with
  accessFlags := 49
  interfaces := #[]
  cf := some (fileOf pool12 1 #[.nestMembers #[98]] #[{ accessFlags := 2, nameIndex := 7, descriptorIndex := 8, attributes := #[] }, { accessFlags := 9, nameIndex := 201, descriptorIndex := 121, attributes := #[] }] 49 4 #[] #[{ accessFlags := 25, nameIndex := 354, descriptorIndex := 339, attributes := #[] }, { accessFlags := 25, nameIndex := 358, descriptorIndex := 339, attributes := #[] }, { accessFlags := 25, nameIndex := 361, descriptorIndex := 339, attributes := #[] }, { accessFlags := 26, nameIndex := 364, descriptorIndex := 339, attributes := #[] }, { accessFlags := 26, nameIndex := 365, descriptorIndex := 339, attributes := #[] }, { accessFlags := 26, nameIndex := 172, descriptorIndex := 173, attributes := #[] }, { accessFlags := 26, nameIndex := 176, descriptorIndex := 173, attributes := #[] }, { accessFlags := 8, nameIndex := 344, descriptorIndex := 339, attributes := #[] }, { accessFlags := 8, nameIndex := 338, descriptorIndex := 339, attributes := #[] }, { accessFlags := 4120, nameIndex := 245, descriptorIndex := 246, attributes := #[] }])
  fields := #[{ name := "E", type := .double, accessFlags := 25, slot := 0, constantValue := 0 }, { name := "PI", type := .double, accessFlags := 25, slot := 1, constantValue := 0 }, { name := "TAU", type := .double, accessFlags := 25, slot := 2, constantValue := 0 }, { name := "DEGREES_TO_RADIANS", type := .double, accessFlags := 26, slot := 3, constantValue := 0 }, { name := "RADIANS_TO_DEGREES", type := .double, accessFlags := 26, slot := 4, constantValue := 0 }, { name := "negativeZeroFloatBits", type := .long, accessFlags := 26, slot := 5, constantValue := 0 }, { name := "negativeZeroDoubleBits", type := .long, accessFlags := 26, slot := 6, constantValue := 0 }, { name := "twoToTheDoubleScaleUp", type := .double, accessFlags := 8, slot := 7, constantValue := 0 }, { name := "twoToTheDoubleScaleDown", type := .double, accessFlags := 8, slot := 8, constantValue := 0 }, { name := "$assertionsDisabled", type := .boolean, accessFlags := 4120, slot := 9, constantValue := 0 }]
  methods := #[k12m0, k12m1]
  instanceTypes := #[]
  staticTypes := #[.double, .double, .double, .double, .double, .long, .long, .double, .double, .boolean]
  resolved := Array.replicate 460 none
  statics := none }

def pool13 : Array CpInfo := pool [(1, .methodref 2 3), (0, .class_ 4), (0, .nameAndType 5 6), (0, u "java/lang/Object"), (0, u "<init>"), (0, u "()V"), (0, .fieldref 8 9), (0, .class_ 10), (0, .nameAndType 11 12), (0, u "java/lang/Throwable"), (0, u "cause"), (0, u "Ljava/lang/Throwable;"), (0, .fieldref 8 14), (0, .nameAndType 15 16), (0, u "UNASSIGNED_STACK"), (0, u "[Ljava/lang/StackTraceElement;"), (0, .fieldref 8 18), (0, .nameAndType 19 16), (0, u "stackTrace"), (0, .fieldref 8 21), (0, .nameAndType 22 23), (0, u "SUPPRESSED_SENTINEL"), (0, u "Ljava/util/List;"), (0, .fieldref 8 25), (0, .nameAndType 26 23), (0, u "suppressedExceptions"), (0, .methodref 8 28), (0, .nameAndType 29 30), (0, u "fillInStackTrace"), (0, u "()Ljava/lang/Throwable;"), (0, .fieldref 8 32), (0, .nameAndType 33 34), (0, u "detailMessage"), (0, u "Ljava/lang/String;"), (58, .class_ 94), (0, u "java/lang/Throwable$WrappedPrintStream"), (6, .class_ 103), (1, u "java/lang/Throwable$PrintStreamOrWriter"), (61, u "$assertionsDisabled"), (0, u "Z"), (26, .class_ 194), (0, u "java/lang/Throwable$WrappedPrintWriter"), (3, .fieldref 8 199), (0, .nameAndType 200 201), (0, u "backtrace"), (0, u "Ljava/lang/Object;"), (0, .methodref 8 203), (0, .nameAndType 29 204), (0, u "(I)Ljava/lang/Throwable;"), (6, u "depth"), (0, u "I"), (10, u "(Ljava/lang/String;)V"), (45, .class_ 271), (1, u "java/lang/Throwable$SentinelHolder"), (32, u "EMPTY_THROWABLE_ARRAY"), (0, u "[Ljava/lang/Throwable;"), (12, .class_ 319), (0, u "java/io/Serializable"), (0, u "serialVersionUID"), (0, u "J"), (5, u "NULL_CAUSE_MESSAGE"), (0, u "SELF_SUPPRESSION_MESSAGE"), (0, u "CAUSE_CAPTION"), (0, u "SUPPRESSED_CAPTION")] 73

def k13c0 : Code := { maxStack := 2, maxLocals := 1, code := jdk_78_method_1_code, exceptionTable := #[], attributes := #[] }
def k13m0 : Method := { name := "<init>", desc := "()V", sig := { parameters := [], returnType := none }, accessFlags := 1, code := some k13c0 }
def k13c1 : Code := { maxStack := 2, maxLocals := 2, code := jdk_78_method_2_code, exceptionTable := #[], attributes := #[] }
def k13m1 : Method := { name := "<init>", desc := "(Ljava/lang/String;)V", sig := { parameters := [(.object "java/lang/String")], returnType := none }, accessFlags := 1, code := some k13c1 }
def k13c2 : Code := { maxStack := 2, maxLocals := 1, code := ⟨#[0x2a, 0xb4, 0x00, 0x11, 0xc7, 0x00, 0x0a, 0x2a, 0xb4, 0x00, 0xc6, 0xc6, 0x00, 0x10, 0x2a, 0x03, 0xb6, 0x00, 0xca, 0x57, 0x2a, 0xb2, 0x00, 0x0d, 0xb5, 0x00, 0x11, 0x2a, 0xb0]⟩, exceptionTable := #[], attributes := #[] }
def k13m2 : Method := { name := "fillInStackTrace", desc := "()Ljava/lang/Throwable;", sig := { parameters := [], returnType := some (.object "java/lang/Throwable") }, accessFlags := 33, code := some k13c2 }
def k13m3 : Method := { name := "fillInStackTrace", desc := "(I)Ljava/lang/Throwable;", sig := { parameters := [.int], returnType := some (.object "java/lang/Throwable") }, accessFlags := 258, code := none }
/-- java/lang/Throwable -/
def k13 : Class := { plain "java/lang/Throwable" (some 0) with
  accessFlags := 33
  interfaces := #[6]
  cf := some (fileOf pool13 8 #[.nestMembers #[193, 93, 101, 269]] #[{ accessFlags := 1, nameIndex := 5, descriptorIndex := 6, attributes := #[] }, { accessFlags := 1, nameIndex := 5, descriptorIndex := 223, attributes := #[] }, { accessFlags := 33, nameIndex := 29, descriptorIndex := 30, attributes := #[] }, { accessFlags := 258, nameIndex := 29, descriptorIndex := 204, attributes := #[] }] 33 2 #[318] #[{ accessFlags := 26, nameIndex := 320, descriptorIndex := 321, attributes := #[] }, { accessFlags := 130, nameIndex := 200, descriptorIndex := 201, attributes := #[] }, { accessFlags := 2, nameIndex := 33, descriptorIndex := 34, attributes := #[] }, { accessFlags := 26, nameIndex := 15, descriptorIndex := 16, attributes := #[] }, { accessFlags := 2, nameIndex := 11, descriptorIndex := 12, attributes := #[] }, { accessFlags := 2, nameIndex := 19, descriptorIndex := 16, attributes := #[] }, { accessFlags := 130, nameIndex := 211, descriptorIndex := 212, attributes := #[] }, { accessFlags := 26, nameIndex := 22, descriptorIndex := 23, attributes := #[] }, { accessFlags := 2, nameIndex := 26, descriptorIndex := 23, attributes := #[] }, { accessFlags := 26, nameIndex := 327, descriptorIndex := 34, attributes := #[] }, { accessFlags := 26, nameIndex := 328, descriptorIndex := 34, attributes := #[] }, { accessFlags := 26, nameIndex := 329, descriptorIndex := 34, attributes := #[] }, { accessFlags := 26, nameIndex := 330, descriptorIndex := 34, attributes := #[] }, { accessFlags := 26, nameIndex := 304, descriptorIndex := 305, attributes := #[] }, { accessFlags := 4120, nameIndex := 165, descriptorIndex := 166, attributes := #[] }])
  fields := #[{ name := "serialVersionUID", type := .long, accessFlags := 26, slot := 0, constantValue := 0 }, { name := "backtrace", type := (.object "java/lang/Object"), accessFlags := 130, slot := 0, constantValue := 0 }, { name := "detailMessage", type := (.object "java/lang/String"), accessFlags := 2, slot := 1, constantValue := 0 }, { name := "UNASSIGNED_STACK", type := (.array (.object "java/lang/StackTraceElement")), accessFlags := 26, slot := 1, constantValue := 0 }, { name := "cause", type := (.object "java/lang/Throwable"), accessFlags := 2, slot := 2, constantValue := 0 }, { name := "stackTrace", type := (.array (.object "java/lang/StackTraceElement")), accessFlags := 2, slot := 3, constantValue := 0 }, { name := "depth", type := .int, accessFlags := 130, slot := 4, constantValue := 0 }, { name := "SUPPRESSED_SENTINEL", type := (.object "java/util/List"), accessFlags := 26, slot := 2, constantValue := 0 }, { name := "suppressedExceptions", type := (.object "java/util/List"), accessFlags := 2, slot := 5, constantValue := 0 }, { name := "NULL_CAUSE_MESSAGE", type := (.object "java/lang/String"), accessFlags := 26, slot := 3, constantValue := 0 }, { name := "SELF_SUPPRESSION_MESSAGE", type := (.object "java/lang/String"), accessFlags := 26, slot := 4, constantValue := 0 }, { name := "CAUSE_CAPTION", type := (.object "java/lang/String"), accessFlags := 26, slot := 5, constantValue := 0 }, { name := "SUPPRESSED_CAPTION", type := (.object "java/lang/String"), accessFlags := 26, slot := 6, constantValue := 0 }, { name := "EMPTY_THROWABLE_ARRAY", type := (.array (.object "java/lang/Throwable")), accessFlags := 26, slot := 7, constantValue := 0 }, { name := "$assertionsDisabled", type := .boolean, accessFlags := 4120, slot := 8, constantValue := 0 }]
  methods := #[k13m0, k13m1, k13m2, k13m3]
  instanceTypes := #[(.object "java/lang/Object"), (.object "java/lang/String"), (.object "java/lang/Throwable"), (.array (.object "java/lang/StackTraceElement")), .int, (.object "java/util/List")]
  staticTypes := #[.long, (.array (.object "java/lang/StackTraceElement")), (.object "java/util/List"), (.object "java/lang/String"), (.object "java/lang/String"), (.object "java/lang/String"), (.object "java/lang/String"), (.array (.object "java/lang/Throwable")), .boolean]
  resolved := Array.replicate 404 none
  statics := some 1 }

def pool14 : Array CpInfo := pool [(2, .class_ 4), (1, u "java/lang/Throwable"), (0, u "<init>"), (0, u "()V"), (0, .methodref 2 8), (0, .nameAndType 5 9), (0, u "(Ljava/lang/String;)V"), (9, .class_ 20), (0, u "java/lang/Exception"), (0, u "serialVersionUID"), (0, u "J")] 17

def k14m0 : Method := { name := "<init>", desc := "()V", sig := { parameters := [], returnType := none }, accessFlags := 1, code := none }
def k14c1 : Code := { maxStack := 2, maxLocals := 2, code := jdk_59_method_2_code, exceptionTable := #[], attributes := #[] }
def k14m1 : Method := { name := "<init>", desc := "(Ljava/lang/String;)V", sig := { parameters := [(.object "java/lang/String")], returnType := none }, accessFlags := 1, code := some k14c1 }
/-- java/lang/Exception -/
def k14 : Class := { plain "java/lang/Exception" (some 13) with
  accessFlags := 33
  interfaces := #[]
  cf := some (fileOf pool14 19 #[] #[{ accessFlags := 1, nameIndex := 5, descriptorIndex := 6, attributes := #[] }, { accessFlags := 1, nameIndex := 5, descriptorIndex := 9, attributes := #[] }] 33 2 #[] #[{ accessFlags := 24, nameIndex := 21, descriptorIndex := 22, attributes := #[] }])
  fields := #[{ name := "serialVersionUID", type := .long, accessFlags := 24, slot := 0, constantValue := 0 }]
  methods := #[k14m0, k14m1]
  instanceTypes := #[(.object "java/lang/Object"), (.object "java/lang/String"), (.object "java/lang/Throwable"), (.array (.object "java/lang/StackTraceElement")), .int, (.object "java/util/List")]
  staticTypes := #[.long]
  resolved := Array.replicate 40 none
  statics := none }

def pool15 : Array CpInfo := pool [(2, .class_ 4), (1, u "java/lang/Exception"), (0, u "<init>"), (0, u "()V"), (0, .methodref 2 8), (0, .nameAndType 5 9), (0, u "(Ljava/lang/String;)V"), (6, .class_ 17), (0, u "java/io/IOException"), (0, u "serialVersionUID"), (0, u "J")] 14

def k15m0 : Method := { name := "<init>", desc := "()V", sig := { parameters := [], returnType := none }, accessFlags := 1, code := none }
def k15c1 : Code := { maxStack := 2, maxLocals := 2, code := jdk_131_method_2_code, exceptionTable := #[], attributes := #[] }
def k15m1 : Method := { name := "<init>", desc := "(Ljava/lang/String;)V", sig := { parameters := [(.object "java/lang/String")], returnType := none }, accessFlags := 1, code := some k15c1 }
/-- java/io/IOException -/
def k15 : Class := { plain "java/io/IOException" (some 14) with
  accessFlags := 33
  interfaces := #[]
  cf := some (fileOf pool15 16 #[] #[{ accessFlags := 1, nameIndex := 5, descriptorIndex := 6, attributes := #[] }, { accessFlags := 1, nameIndex := 5, descriptorIndex := 9, attributes := #[] }] 33 2 #[] #[{ accessFlags := 24, nameIndex := 18, descriptorIndex := 19, attributes := #[] }])
  fields := #[{ name := "serialVersionUID", type := .long, accessFlags := 24, slot := 0, constantValue := 0 }]
  methods := #[k15m0, k15m1]
  instanceTypes := #[(.object "java/lang/Object"), (.object "java/lang/String"), (.object "java/lang/Throwable"), (.array (.object "java/lang/StackTraceElement")), .int, (.object "java/util/List")]
  staticTypes := #[.long]
  resolved := Array.replicate 34 none
  statics := none }

def pool16 : Array CpInfo := pool [(4, .class_ 6), (1, u "java/lang/Object"), (0, u "<init>"), (0, u "()V"), (5, .class_ 16), (1, u "java/lang/StringLatin1"), (104, u "$assertionsDisabled"), (0, u "Z"), (98, .class_ 223), (1, u "java/lang/StringLatin1$LinesSpliterator"), (166, .class_ 391), (0, u "java/lang/StringLatin1$CharsSpliterator")] 3

def k16m0 : Method := { name := "<init>", desc := "()V", sig := { parameters := [], returnType := none }, accessFlags := 0, code := none }
/-- java/lang/StringLatin1 -/
def k16 : Class := { plain "java/lang/StringLatin1" (some 0) with
  accessFlags := 48
  interfaces := #[]
  cf := some (fileOf pool16 14 #[.nestMembers #[390, 221]] #[{ accessFlags := 0, nameIndex := 7, descriptorIndex := 8, attributes := #[] }] 48 4 #[] #[{ accessFlags := 4120, nameIndex := 121, descriptorIndex := 122, attributes := #[] }])
  fields := #[{ name := "$assertionsDisabled", type := .boolean, accessFlags := 4120, slot := 0, constantValue := 0 }]
  methods := #[k16m0]
  instanceTypes := #[]
  staticTypes := #[.boolean]
  resolved := Array.replicate 395 none
  statics := none }

def pool17 : Array CpInfo := pool [(2, .class_ 4), (1, u "java/lang/Object"), (0, u "<init>"), (0, u "()V"), (17, .class_ 26), (1, u "jdk/internal/util/Preconditions"), (28, .class_ 56), (0, u "jdk/internal/util/Preconditions$4"), (57, .class_ 115), (0, u "jdk/internal/util/Preconditions$1"), (7, u "SIOOBE_FORMATTER"), (0, u "Ljava/util/function/BiFunction;"), (0, .class_ 126), (0, u "jdk/internal/util/Preconditions$2"), (3, u "AIOOBE_FORMATTER"), (0, .class_ 132), (0, u "jdk/internal/util/Preconditions$3"), (3, u "IOOBE_FORMATTER")] 57

def k17m0 : Method := { name := "<init>", desc := "()V", sig := { parameters := [], returnType := none }, accessFlags := 1, code := none }
/-- jdk/internal/util/Preconditions -/
def k17 : Class := { plain "jdk/internal/util/Preconditions" (some 0) with
  accessFlags := 33
  interfaces := #[]
  cf := some (fileOf pool17 24 #[.nestMembers #[55, 131, 125, 114]] #[{ accessFlags := 1, nameIndex := 5, descriptorIndex := 6, attributes := #[] }] 33 2 #[] #[{ accessFlags := 25, nameIndex := 123, descriptorIndex := 124, attributes := #[] }, { accessFlags := 25, nameIndex := 130, descriptorIndex := 124, attributes := #[] }, { accessFlags := 25, nameIndex := 136, descriptorIndex := 124, attributes := #[] }])
  fields := #[{ name := "SIOOBE_FORMATTER", type := (.object "java/util/function/BiFunction"), accessFlags := 25, slot := 0, constantValue := 0 }, { name := "AIOOBE_FORMATTER", type := (.object "java/util/function/BiFunction"), accessFlags := 25, slot := 1, constantValue := 0 }, { name := "IOOBE_FORMATTER", type := (.object "java/util/function/BiFunction"), accessFlags := 25, slot := 2, constantValue := 0 }]
  methods := #[k17m0]
  instanceTypes := #[]
  staticTypes := #[(.object "java/util/function/BiFunction"), (.object "java/util/function/BiFunction"), (.object "java/util/function/BiFunction")]
  resolved := Array.replicate 194 none
  statics := some 2 }

def pool18 : Array CpInfo := pool [(9, u "<init>"), (6, .class_ 18), (1, u "java/lang/Object"), (0, u "()V"), (1, .class_ 23), (1, u "jdk/internal/util/ArraysSupport"), (0, u "LOG2_ARRAY_LONG_INDEX_SCALE"), (0, u "I"), (2, u "U"), (0, u "Ljdk/internal/misc/Unsafe;"), (8, u "BIG_ENDIAN"), (0, u "Z"), (8, u "LOG2_BYTE_BIT_SIZE"), (4, u "LOG2_ARRAY_INT_INDEX_SCALE"), (54, u "JLA"), (0, u "Ljdk/internal/access/JavaLangAccess;"), (11, u "LOG2_ARRAY_BOOLEAN_INDEX_SCALE"), (9, u "LOG2_ARRAY_BYTE_INDEX_SCALE"), (5, u "LOG2_ARRAY_CHAR_INDEX_SCALE"), (5, u "LOG2_ARRAY_SHORT_INDEX_SCALE"), (18, u "LOG2_ARRAY_FLOAT_INDEX_SCALE"), (24, u "LOG2_ARRAY_DOUBLE_INDEX_SCALE"), (89, u "T_BOOLEAN"), (2, u "T_CHAR"), (1, u "T_FLOAT"), (1, u "T_DOUBLE"), (1, u "T_BYTE"), (1, u "T_SHORT"), (1, u "T_INT"), (1, u "T_LONG"), (1, u "SOFT_MAX_ARRAY_LENGTH")] 83

def k18m0 : Method := { name := "<init>", desc := "()V", sig := { parameters := [], returnType := none }, accessFlags := 2, code := none }
/-- jdk/internal/util/ArraysSupport -/
def k18 : Class := { plain "jdk/internal/util/ArraysSupport" (some 0) with
  accessFlags := 33
  interfaces := #[]
  cf := some (fileOf pool18 21 #[] #[{ accessFlags := 2, nameIndex := 9, descriptorIndex := 19, attributes := #[] }] 33 16 #[] #[{ accessFlags := 24, nameIndex := 28, descriptorIndex := 29, attributes := #[] }, { accessFlags := 26, nameIndex := 38, descriptorIndex := 39, attributes := #[] }, { accessFlags := 25, nameIndex := 121, descriptorIndex := 25, attributes := #[] }, { accessFlags := 25, nameIndex := 131, descriptorIndex := 25, attributes := #[] }, { accessFlags := 25, nameIndex := 137, descriptorIndex := 25, attributes := #[] }, { accessFlags := 25, nameIndex := 143, descriptorIndex := 25, attributes := #[] }, { accessFlags := 25, nameIndex := 53, descriptorIndex := 25, attributes := #[] }, { accessFlags := 25, nameIndex := 24, descriptorIndex := 25, attributes := #[] }, { accessFlags := 25, nameIndex := 162, descriptorIndex := 25, attributes := #[] }, { accessFlags := 25, nameIndex := 187, descriptorIndex := 25, attributes := #[] }, { accessFlags := 26, nameIndex := 48, descriptorIndex := 25, attributes := #[] }, { accessFlags := 25, nameIndex := 277, descriptorIndex := 25, attributes := #[] }, { accessFlags := 25, nameIndex := 280, descriptorIndex := 25, attributes := #[] }, { accessFlags := 25, nameIndex := 282, descriptorIndex := 25, attributes := #[] }, { accessFlags := 25, nameIndex := 284, descriptorIndex := 25, attributes := #[] }, { accessFlags := 25, nameIndex := 286, descriptorIndex := 25, attributes := #[] }, { accessFlags := 25, nameIndex := 288, descriptorIndex := 25, attributes := #[] }, { accessFlags := 25, nameIndex := 290, descriptorIndex := 25, attributes := #[] }, { accessFlags := 25, nameIndex := 292, descriptorIndex := 25, attributes := #[] }, { accessFlags := 26, nameIndex := 108, descriptorIndex := 109, attributes := #[] }, { accessFlags := 25, nameIndex := 294, descriptorIndex := 25, attributes := #[] }])
  fields := #[{ name := "U", type := (.object "jdk/internal/misc/Unsafe"), accessFlags := 24, slot := 0, constantValue := 0 }, { name := "BIG_ENDIAN", type := .boolean, accessFlags := 26, slot := 1, constantValue := 0 }, { name := "LOG2_ARRAY_BOOLEAN_INDEX_SCALE", type := .int, accessFlags := 25, slot := 2, constantValue := 0 }, { name := "LOG2_ARRAY_BYTE_INDEX_SCALE", type := .int, accessFlags := 25, slot := 3, constantValue := 0 }, { name := "LOG2_ARRAY_CHAR_INDEX_SCALE", type := .int, accessFlags := 25, slot := 4, constantValue := 0 }, { name := "LOG2_ARRAY_SHORT_INDEX_SCALE", type := .int, accessFlags := 25, slot := 5, constantValue := 0 }, { name := "LOG2_ARRAY_INT_INDEX_SCALE", type := .int, accessFlags := 25, slot := 6, constantValue := 0 }, { name := "LOG2_ARRAY_LONG_INDEX_SCALE", type := .int, accessFlags := 25, slot := 7, constantValue := 0 }, { name := "LOG2_ARRAY_FLOAT_INDEX_SCALE", type := .int, accessFlags := 25, slot := 8, constantValue := 0 }, { name := "LOG2_ARRAY_DOUBLE_INDEX_SCALE", type := .int, accessFlags := 25, slot := 9, constantValue := 0 }, { name := "LOG2_BYTE_BIT_SIZE", type := .int, accessFlags := 26, slot := 10, constantValue := 0 }, { name := "T_BOOLEAN", type := .int, accessFlags := 25, slot := 11, constantValue := 0 }, { name := "T_CHAR", type := .int, accessFlags := 25, slot := 12, constantValue := 0 }, { name := "T_FLOAT", type := .int, accessFlags := 25, slot := 13, constantValue := 0 }, { name := "T_DOUBLE", type := .int, accessFlags := 25, slot := 14, constantValue := 0 }, { name := "T_BYTE", type := .int, accessFlags := 25, slot := 15, constantValue := 0 }, { name := "T_SHORT", type := .int, accessFlags := 25, slot := 16, constantValue := 0 }, { name := "T_INT", type := .int, accessFlags := 25, slot := 17, constantValue := 0 }, { name := "T_LONG", type := .int, accessFlags := 25, slot := 18, constantValue := 0 }, { name := "JLA", type := (.object "jdk/internal/access/JavaLangAccess"), accessFlags := 26, slot := 19, constantValue := 0 }, { name := "SOFT_MAX_ARRAY_LENGTH", type := .int, accessFlags := 25, slot := 20, constantValue := 0 }]
  methods := #[k18m0]
  instanceTypes := #[]
  staticTypes := #[(.object "jdk/internal/misc/Unsafe"), .boolean, .int, .int, .int, .int, .int, .int, .int, .int, .int, .int, .int, .int, .int, .int, .int, .int, .int, (.object "jdk/internal/access/JavaLangAccess"), .int]
  resolved := Array.replicate 378 none
  statics := none }

def pool19 : Array CpInfo := pool [(2, .class_ 4), (1, u "java/lang/Object"), (0, u "<init>"), (0, u "()V"), (12, .class_ 20), (0, u "java/util/Collections"), (63, u "r"), (0, u "Ljava/util/Random;"), (80, .class_ 167), (0, u "java/util/Collections$UnmodifiableCollection"), (6, .class_ 175), (0, u "java/util/Collections$UnmodifiableSequencedCollection"), (6, .class_ 183), (0, u "java/util/Collections$UnmodifiableSet"), (6, .class_ 191), (0, u "java/util/Collections$UnmodifiableSequencedSet"), (6, .class_ 199), (0, u "java/util/Collections$UnmodifiableSortedSet"), (6, .class_ 207), (0, u "java/util/Collections$UnmodifiableNavigableSet"), (4, .class_ 213), (0, u "java/util/Collections$UnmodifiableList"), (1, .class_ 216), (0, u "java/util/Collections$UnmodifiableRandomAccessList"), (6, .class_ 224), (0, u "java/util/Collections$UnmodifiableMap"), (6, .class_ 232), (0, u "java/util/Collections$UnmodifiableSequencedMap"), (4, .class_ 238), (0, u "java/util/Collections$UnmodifiableSortedMap"), (6, .class_ 246), (0, u "java/util/Collections$UnmodifiableNavigableMap"), (3, .class_ 251), (0, u "java/util/Collections$SynchronizedCollection"), (4, .class_ 257), (0, u "java/util/Collections$SynchronizedSet"), (4, .class_ 263), (0, u "java/util/Collections$SynchronizedSortedSet"), (1, .class_ 266), (0, u "java/util/Collections$SynchronizedNavigableSet"), (1, .class_ 269), (0, u "java/util/Collections$SynchronizedRandomAccessList"), (1, .class_ 272), (0, u "java/util/Collections$SynchronizedList"), (5, .class_ 279), (0, u "java/util/Collections$SynchronizedMap"), (1, .class_ 282), (0, u "java/util/Collections$SynchronizedSortedMap"), (1, .class_ 285), (0, u "java/util/Collections$SynchronizedNavigableMap"), (1, .class_ 288), (0, u "java/util/Collections$CheckedCollection"), (11, .class_ 301), (0, u "java/util/Collections$CheckedQueue"), (3, .class_ 306), (0, u "java/util/Collections$CheckedSet"), (3, .class_ 311), (0, u "java/util/Collections$CheckedSortedSet"), (3, .class_ 316), (0, u "java/util/Collections$CheckedNavigableSet"), (3, .class_ 321), (0, u "java/util/Collections$CheckedRandomAccessList"), (3, .class_ 326), (0, u "java/util/Collections$CheckedList"), (1, .class_ 329), (0, u "java/util/Collections$CheckedMap"), (3, .class_ 334), (0, u "java/util/Collections$CheckedSortedMap"), (3, .class_ 339), (0, u "java/util/Collections$CheckedNavigableMap"), (4, .class_ 346), (1, u "java/util/Collections$EmptyIterator"), (3, .class_ 352), (1, u "java/util/Collections$EmptyListIterator"), (2, .class_ 357), (1, u "java/util/Collections$EmptyEnumeration"), (4, u "EMPTY_SET"), (0, u "Ljava/util/Set;"), (6, u "EMPTY_LIST"), (0, u "Ljava/util/List;"), (2, u "EMPTY_MAP"), (0, u "Ljava/util/Map;"), (4, .class_ 381), (0, u "java/util/Collections$SingletonSet"), (2, .class_ 385), (0, u "java/util/Collections$1"), (1, .class_ 388), (0, u "java/util/Collections$2"), (1, .class_ 391), (0, u "java/util/Collections$SingletonList"), (1, .class_ 394), (0, u "java/util/Collections$SingletonMap"), (22, .class_ 418), (0, u "java/util/Collections$CopiesList"), (4, .class_ 425), (1, u "java/util/Collections$ReverseComparator"), (8, .class_ 435), (0, u "java/util/Collections$ReverseComparator2"), (6, .class_ 443), (0, u "java/util/Collections$3"), (25, .class_ 470), (0, u "java/util/Collections$SetFromMap"), (2, .class_ 474), (0, u "java/util/Collections$SequencedSetFromMap"), (3, .class_ 479), (0, u "java/util/Collections$AsLIFOQueue"), (11, .class_ 492), (0, u "java/util/Collections$EmptySet"), (1, .class_ 495), (0, u "java/util/Collections$EmptyList"), (1, .class_ 498), (0, u "java/util/Collections$EmptyMap"), (1, u "BINARYSEARCH_THRESHOLD"), (0, u "I"), (2, u "REVERSE_THRESHOLD"), (1, u "SHUFFLE_THRESHOLD"), (1, u "FILL_THRESHOLD"), (1, u "ROTATE_THRESHOLD"), (1, u "COPY_THRESHOLD"), (1, u "REPLACEALL_THRESHOLD"), (1, u "INDEXOFSUBLIST_THRESHOLD"), (333, .class_ 851), (0, u "java/util/Collections$CheckedMap$CheckedEntrySet"), (0, .class_ 853), (0, u "java/util/Collections$CheckedMap$CheckedEntrySet$CheckedEntry"), (0, .class_ 855), (0, u "java/util/Collections$CheckedMap$CheckedEntrySet$1"), (0, .class_ 857), (0, u "java/util/Collections$CheckedList$1"), (0, .class_ 859), (0, u "java/util/Collections$CheckedCollection$1"), (0, .class_ 861), (0, u "java/util/Collections$UnmodifiableNavigableMap$EmptyNavigableMap"), (0, .class_ 863), (0, u "java/util/Collections$UnmodifiableMap$UnmodifiableEntrySet"), (0, .class_ 865), (0, u "java/util/Collections$UnmodifiableMap$UnmodifiableEntrySet$UnmodifiableEntry"), (0, .class_ 867), (0, u "java/util/Collections$UnmodifiableMap$UnmodifiableEntrySet$UnmodifiableEntrySetSpliterator"), (0, .class_ 869), (0, u "java/util/Collections$UnmodifiableMap$UnmodifiableEntrySet$1"), (0, .class_ 871), (0, u "java/util/Collections$UnmodifiableList$1"), (0, .class_ 873), (0, u "java/util/Collections$UnmodifiableNavigableSet$EmptyNavigableSet"), (0, .class_ 875), (0, u "java/util/Collections$UnmodifiableCollection$1")] 57

def k19m0 : Method := { name := "<init>", desc := "()V", sig := { parameters := [], returnType := none }, accessFlags := 2, code := none }
/-- java/util/Collections -/
def k19 : Class := { plain "java/util/Collections" (some 0) with
  accessFlags := 33
  interfaces := #[]
  cf := some (fileOf pool19 19 #[.nestMembers #[478, 473, 469, 434, 423, 417, 393, 390, 380, 497, 494, 491, 355, 350, 344, 338, 333, 328, 850, 852, 854, 320, 325, 856, 315, 310, 305, 300, 287, 858, 284, 281, 278, 268, 271, 265, 262, 256, 250, 245, 860, 237, 231, 223, 862, 864, 866, 868, 215, 212, 870, 206, 872, 198, 190, 182, 174, 166, 874, 442, 387, 384]] #[{ accessFlags := 2, nameIndex := 5, descriptorIndex := 6, attributes := #[] }] 33 2 #[] #[{ accessFlags := 26, nameIndex := 500, descriptorIndex := 501, attributes := #[] }, { accessFlags := 26, nameIndex := 504, descriptorIndex := 501, attributes := #[] }, { accessFlags := 26, nameIndex := 506, descriptorIndex := 501, attributes := #[] }, { accessFlags := 26, nameIndex := 508, descriptorIndex := 501, attributes := #[] }, { accessFlags := 26, nameIndex := 510, descriptorIndex := 501, attributes := #[] }, { accessFlags := 26, nameIndex := 512, descriptorIndex := 501, attributes := #[] }, { accessFlags := 26, nameIndex := 514, descriptorIndex := 501, attributes := #[] }, { accessFlags := 26, nameIndex := 516, descriptorIndex := 501, attributes := #[] }, { accessFlags := 10, nameIndex := 84, descriptorIndex := 85, attributes := #[] }, { accessFlags := 25, nameIndex := 362, descriptorIndex := 363, attributes := #[] }, { accessFlags := 25, nameIndex := 370, descriptorIndex := 371, attributes := #[] }, { accessFlags := 25, nameIndex := 374, descriptorIndex := 375, attributes := #[] }])
  fields := #[{ name := "BINARYSEARCH_THRESHOLD", type := .int, accessFlags := 26, slot := 0, constantValue := 0 }, { name := "REVERSE_THRESHOLD", type := .int, accessFlags := 26, slot := 1, constantValue := 0 }, { name := "SHUFFLE_THRESHOLD", type := .int, accessFlags := 26, slot := 2, constantValue := 0 }, { name := "FILL_THRESHOLD", type := .int, accessFlags := 26, slot := 3, constantValue := 0 }, { name := "ROTATE_THRESHOLD", type := .int, accessFlags := 26, slot := 4, constantValue := 0 }, { name := "COPY_THRESHOLD", type := .int, accessFlags := 26, slot := 5, constantValue := 0 }, { name := "REPLACEALL_THRESHOLD", type := .int, accessFlags := 26, slot := 6, constantValue := 0 }, { name := "INDEXOFSUBLIST_THRESHOLD", type := .int, accessFlags := 26, slot := 7, constantValue := 0 }, { name := "r", type := (.object "java/util/Random"), accessFlags := 10, slot := 8, constantValue := 0 }, { name := "EMPTY_SET", type := (.object "java/util/Set"), accessFlags := 25, slot := 9, constantValue := 0 }, { name := "EMPTY_LIST", type := (.object "java/util/List"), accessFlags := 25, slot := 10, constantValue := 0 }, { name := "EMPTY_MAP", type := (.object "java/util/Map"), accessFlags := 25, slot := 11, constantValue := 0 }]
  methods := #[k19m0]
  instanceTypes := #[]
  staticTypes := #[.int, .int, .int, .int, .int, .int, .int, .int, (.object "java/util/Random"), (.object "java/util/Set"), (.object "java/util/List"), (.object "java/util/Map")]
  resolved := Array.replicate 933 none
  statics := some 3 }

def pool20 : Array CpInfo := pool [(8, .class_ 10), (1, u "java/lang/Iterable"), (24, .class_ 36), (0, u "java/lang/Object")] 25

/-- java/lang/Iterable -/
def k20 : Class := { plain "java/lang/Iterable" (some 0) with
  accessFlags := 1537
  interfaces := #[]
  cf := some (fileOf pool20 8 #[] #[] 1537 35 #[] #[])
  fields := #[]
  methods := #[]
  instanceTypes := #[]
  staticTypes := #[]
  resolved := Array.replicate 62 none
  statics := none }

def pool21 : Array CpInfo := pool [(10, .class_ 12), (1, u "java/util/Collection"), (47, .class_ 61), (0, u "java/lang/Object"), (0, .class_ 63), (0, u "java/lang/Iterable")] 51

/-- java/util/Collection -/
def k21 : Class := { plain "java/util/Collection" (some 0) with
  accessFlags := 1537
  interfaces := #[20]
  cf := some (fileOf pool21 10 #[] #[] 1537 60 #[62] #[])
  fields := #[]
  methods := #[]
  instanceTypes := #[]
  staticTypes := #[]
  resolved := Array.replicate 115 none
  statics := none }

def pool22 : Array CpInfo := pool [(2, .class_ 4), (1, u "java/lang/Object"), (0, u "<init>"), (0, u "()V"), (1, .class_ 10), (1, u "java/util/AbstractCollection"), (66, .class_ 78), (0, u "java/util/Collection")] 81

def k22m0 : Method := { name := "<init>", desc := "()V", sig := { parameters := [], returnType := none }, accessFlags := 4, code := none }
/-- java/util/AbstractCollection -/
def k22 : Class := { plain "java/util/AbstractCollection" (some 0) with
  accessFlags := 1057
  interfaces := #[21]
  cf := some (fileOf pool22 8 #[] #[{ accessFlags := 4, nameIndex := 5, descriptorIndex := 6, attributes := #[] }] 1057 2 #[77] #[])
  fields := #[]
  methods := #[k22m0]
  instanceTypes := #[]
  staticTypes := #[]
  resolved := Array.replicate 160 none
  statics := none }

def pool23 : Array CpInfo := pool [(8, .class_ 10), (1, u "java/util/SequencedCollection"), (15, .class_ 27), (0, u "java/lang/Object"), (0, .class_ 29), (0, u "java/util/Collection")] 27

/-- java/util/SequencedCollection -/
def k23 : Class := { plain "java/util/SequencedCollection" (some 0) with
  accessFlags := 1537
  interfaces := #[21]
  cf := some (fileOf pool23 8 #[] #[] 1537 26 #[28] #[])
  fields := #[]
  methods := #[]
  instanceTypes := #[]
  staticTypes := #[]
  resolved := Array.replicate 57 none
  statics := none }

def pool24 : Array CpInfo := pool [(8, .class_ 10), (1, u "java/util/List"), (92, .class_ 104), (0, u "java/lang/Object"), (15, .class_ 121), (0, u "java/util/SequencedCollection")] 129

/-- java/util/List -/
def k24 : Class := { plain "java/util/List" (some 0) with
  accessFlags := 1537
  interfaces := #[23]
  cf := some (fileOf pool24 8 #[] #[] 1537 103 #[120] #[])
  fields := #[]
  methods := #[]
  instanceTypes := #[]
  staticTypes := #[]
  resolved := Array.replicate 251 none
  statics := none }

def pool25 : Array CpInfo := pool [(2, .class_ 4), (1, u "java/util/AbstractCollection"), (0, u "<init>"), (0, u "()V"), (1, .class_ 10), (1, u "java/util/AbstractList"), (0, u "modCount"), (0, u "I"), (64, .class_ 78), (0, u "java/util/AbstractList$Itr"), (3, .class_ 83), (0, u "java/util/AbstractList$ListItr"), (9, .class_ 94), (0, u "java/util/AbstractList$RandomAccessSubList"), (3, .class_ 99), (0, u "java/util/AbstractList$SubList"), (33, .class_ 134), (0, u "java/util/List"), (73, .class_ 209), (0, u "java/util/AbstractList$SubList$1"), (0, .class_ 211), (0, u "java/util/AbstractList$RandomAccessSpliterator")] 6

def k25m0 : Method := { name := "<init>", desc := "()V", sig := { parameters := [], returnType := none }, accessFlags := 4, code := none }
/-- java/util/AbstractList -/
def k25 : Class := { plain "java/util/AbstractList" (some 22) with
  accessFlags := 1057
  interfaces := #[24]
  cf := some (fileOf pool25 8 #[.nestMembers #[93, 98, 208, 210, 82, 77]] #[{ accessFlags := 4, nameIndex := 5, descriptorIndex := 6, attributes := #[] }] 1057 2 #[133] #[{ accessFlags := 132, nameIndex := 11, descriptorIndex := 12, attributes := #[] }])
  fields := #[{ name := "modCount", type := .int, accessFlags := 132, slot := 0, constantValue := 0 }]
  methods := #[k25m0]
  instanceTypes := #[.int]
  staticTypes := #[]
  resolved := Array.replicate 218 none
  statics := none }

def pool26 : Array CpInfo := pool [(1, .class_ 2), (0, u "java/util/RandomAccess"), (0, .class_ 4), (0, u "java/lang/Object")] 2

/-- java/util/RandomAccess -/
def k26 : Class := { plain "java/util/RandomAccess" (some 0) with
  accessFlags := 1537
  interfaces := #[]
  cf := some (fileOf pool26 1 #[] #[] 1537 3 #[] #[])
  fields := #[]
  methods := #[]
  instanceTypes := #[]
  staticTypes := #[]
  resolved := Array.replicate 7 none
  statics := none }

def pool27 : Array CpInfo := pool [(2, .class_ 4), (1, u "java/util/AbstractList"), (0, u "<init>"), (0, u "()V"), (1, .class_ 10), (1, u "java/util/Collections"), (54, .class_ 66), (0, u "java/util/Collections$EmptyList"), (0, .class_ 68), (0, u "java/util/RandomAccess"), (0, .class_ 70), (0, u "java/io/Serializable"), (0, u "serialVersionUID"), (0, u "J")] 77

def k27m0 : Method := { name := "<init>", desc := "()V", sig := { parameters := [], returnType := none }, accessFlags := 2, code := none }
/-- java/util/Collections$EmptyList -/
def k27 : Class := { plain "java/util/Collections$EmptyList" (some 25) with
  accessFlags := 32
  interfaces := #[26, 6]
  cf := some (fileOf pool27 65 #[.nestHost 8] #[{ accessFlags := 2, nameIndex := 5, descriptorIndex := 6, attributes := #[] }] 32 2 #[67, 69] #[{ accessFlags := 26, nameIndex := 71, descriptorIndex := 72, attributes := #[] }])
  fields := #[{ name := "serialVersionUID", type := .long, accessFlags := 26, slot := 0, constantValue := 0 }]
  methods := #[k27m0]
  instanceTypes := #[.int]
  staticTypes := #[.long]
  resolved := Array.replicate 150 none
  statics := none }

def pool28 : Array CpInfo := pool [(2, .class_ 4), (1, u "java/lang/StackTraceElement"), (0, u "<init>"), (2, .class_ 10), (1, u "java/lang/Object"), (0, u "()V"), (2, u "format"), (0, u "B"), (2, u "classLoaderName"), (0, u "Ljava/lang/String;"), (2, u "moduleName"), (2, u "moduleVersion"), (12, u "declaringClass"), (4, u "methodName"), (2, u "fileName"), (2, u "lineNumber"), (0, u "I"), (65, u "declaringClassObject"), (0, u "Ljava/lang/Class;"), (33, .class_ 153), (1, u "java/lang/StackTraceElement$HashedModules"), (17, .class_ 172), (0, u "java/io/Serializable"), (0, u "NATIVE_METHOD"), (1, u "UNKNOWN_SOURCE"), (2, u "BUILTIN_CLASS_LOADER"), (1, u "JDK_NON_UPGRADEABLE_MODULE"), (1, u "serialVersionUID"), (0, u "J")] 51

def k28m0 : Method := { name := "<init>", desc := "()V", sig := { parameters := [], returnType := none }, accessFlags := 2, code := none }
/-- java/lang/StackTraceElement -/
def k28 : Class := { plain "java/lang/StackTraceElement" (some 0) with
  accessFlags := 49
  interfaces := #[6]
  cf := some (fileOf pool28 2 #[.nestMembers #[151]] #[{ accessFlags := 2, nameIndex := 5, descriptorIndex := 11, attributes := #[] }] 49 8 #[171] #[{ accessFlags := 26, nameIndex := 173, descriptorIndex := 19, attributes := #[] }, { accessFlags := 26, nameIndex := 175, descriptorIndex := 19, attributes := #[] }, { accessFlags := 130, nameIndex := 116, descriptorIndex := 117, attributes := #[] }, { accessFlags := 2, nameIndex := 18, descriptorIndex := 19, attributes := #[] }, { accessFlags := 2, nameIndex := 22, descriptorIndex := 19, attributes := #[] }, { accessFlags := 2, nameIndex := 25, descriptorIndex := 19, attributes := #[] }, { accessFlags := 2, nameIndex := 38, descriptorIndex := 19, attributes := #[] }, { accessFlags := 2, nameIndex := 43, descriptorIndex := 19, attributes := #[] }, { accessFlags := 2, nameIndex := 46, descriptorIndex := 19, attributes := #[] }, { accessFlags := 2, nameIndex := 49, descriptorIndex := 50, attributes := #[] }, { accessFlags := 2, nameIndex := 14, descriptorIndex := 15, attributes := #[] }, { accessFlags := 26, nameIndex := 178, descriptorIndex := 15, attributes := #[] }, { accessFlags := 26, nameIndex := 180, descriptorIndex := 15, attributes := #[] }, { accessFlags := 26, nameIndex := 182, descriptorIndex := 183, attributes := #[] }])
  fields := #[{ name := "NATIVE_METHOD", type := (.object "java/lang/String"), accessFlags := 26, slot := 0, constantValue := 0 }, { name := "UNKNOWN_SOURCE", type := (.object "java/lang/String"), accessFlags := 26, slot := 1, constantValue := 0 }, { name := "declaringClassObject", type := (.object "java/lang/Class"), accessFlags := 130, slot := 0, constantValue := 0 }, { name := "classLoaderName", type := (.object "java/lang/String"), accessFlags := 2, slot := 1, constantValue := 0 }, { name := "moduleName", type := (.object "java/lang/String"), accessFlags := 2, slot := 2, constantValue := 0 }, { name := "moduleVersion", type := (.object "java/lang/String"), accessFlags := 2, slot := 3, constantValue := 0 }, { name := "declaringClass", type := (.object "java/lang/String"), accessFlags := 2, slot := 4, constantValue := 0 }, { name := "methodName", type := (.object "java/lang/String"), accessFlags := 2, slot := 5, constantValue := 0 }, { name := "fileName", type := (.object "java/lang/String"), accessFlags := 2, slot := 6, constantValue := 0 }, { name := "lineNumber", type := .int, accessFlags := 2, slot := 7, constantValue := 0 }, { name := "format", type := .byte, accessFlags := 2, slot := 8, constantValue := 0 }, { name := "BUILTIN_CLASS_LOADER", type := .byte, accessFlags := 26, slot := 2, constantValue := 0 }, { name := "JDK_NON_UPGRADEABLE_MODULE", type := .byte, accessFlags := 26, slot := 3, constantValue := 0 }, { name := "serialVersionUID", type := .long, accessFlags := 26, slot := 4, constantValue := 0 }]
  methods := #[k28m0]
  instanceTypes := #[(.object "java/lang/Class"), (.object "java/lang/String"), (.object "java/lang/String"), (.object "java/lang/String"), (.object "java/lang/String"), (.object "java/lang/String"), (.object "java/lang/String"), .int, .byte]
  staticTypes := #[(.object "java/lang/String"), (.object "java/lang/String"), .byte, .byte, .long]
  resolved := Array.replicate 235 none
  statics := none }

def pool29 : Array CpInfo := pool [(1, u "java/lang/Cloneable"), (0, .class_ 1), (0, u "java/lang/Object"), (0, .class_ 3)] 3

/-- java/lang/Cloneable -/
def k29 : Class := { plain "java/lang/Cloneable" (some 0) with
  accessFlags := 1537
  interfaces := #[]
  cf := some (fileOf pool29 2 #[] #[] 1537 4 #[] #[])
  fields := #[]
  methods := #[]
  instanceTypes := #[]
  staticTypes := #[]
  resolved := Array.replicate 8 none
  statics := none }

/-- the primitive byte -/
def k30 : Class := { plain "byte" none with kind := .primitive 'B', accessFlags := 0x411 }
/-- [B -/
def k31 : Class := { plain "[B" (some 0) with kind := .array 30 .byte, interfaces := #[29, 6], accessFlags := 1041 }

/-- the primitive int -/
def k32 : Class := { plain "int" none with kind := .primitive 'I', accessFlags := 0x411 }
/-- [I -/
def k33 : Class := { plain "[I" (some 0) with kind := .array 32 .int, interfaces := #[29, 6], accessFlags := 1041 }

/-- [Ljava/lang/Object; -/
def k34 : Class := { plain "[Ljava/lang/Object;" (some 0) with kind := .array 0 (.object "java/lang/Object"), interfaces := #[29, 6], accessFlags := 1041 }

/-- [Ljava/lang/StackTraceElement; -/
def k35 : Class := { plain "[Ljava/lang/StackTraceElement;" (some 0) with kind := .array 28 (.object "java/lang/StackTraceElement"), interfaces := #[29, 6], accessFlags := 1041 }

/-- [Ljava/lang/Throwable; -/
def k36 : Class := { plain "[Ljava/lang/Throwable;" (some 0) with kind := .array 13 (.object "java/lang/Throwable"), interfaces := #[29, 6], accessFlags := 1041 }

def heap : Heap := #[{ cls := 11, slots := #[.long 0, .int 1, .null, .int 0, .null, .int 0, .int 0], vm := .statics 11 },
  { cls := 13, slots := #[.long 0, .ref 4, .ref 5, .null, .null, .null, .null, .ref 6, .int 1], vm := .statics 13 },
  { cls := 17, slots := #[.null, .null, .null], vm := .statics 17 },
  { cls := 19, slots := #[.int 0, .int 0, .int 0, .int 0, .int 0, .int 0, .int 0, .int 0, .null, .null, .ref 5, .null], vm := .statics 19 },
  { cls := 35, slots := #[], vm := .none },
  { cls := 27, slots := #[.int 0], vm := .none },
  { cls := 36, slots := #[], vm := .none }]
def classes : Array Class := #[k0, k1, k2, k3, k4, k5, k6, k7, k8, k9, k10, k11, k12, k13, k14, k15, k16, k17, k18, k19, k20, k21, k22, k23, k24, k25, k26, k27, k28, k29, k30, k31, k32, k33, k34, k35, k36]
def interned : List (Array UInt16 × Addr) := []
def slotsUsed : Nat := 32
def theMethod : MethodId := ⟨1, 1⟩
def args0 : Array Value := #[.long 5, .long 3, .long 4, .int 1]
def aboutOver (below : List Frame) : State where
  vm := { classes := classes, interned := interned.toArray }
  heap := heap
  slotsUsed := slotsUsed
  threads := #[{ frames := .invoking theMethod args0 :: below }]
def below0 : List Frame := [.native { method := ⟨0, 0⟩, args := #[] }]
def about1 : State := aboutOver below0
def p0 : Program := .bare "" "" ""
def e0 : Env := launch0.env 0 0 0
theorem w_frames : about1.frames = Frame.invoking theMethod args0 :: below0 := rfl
set_option maxRecDepth 65536 in
theorem w_args : argsFit about1.vm theMethod args0 = true := by decide +kernel
set_option maxRecDepth 65536 in
theorem w_heap : heapFits about1 = true := by decide +kernel
set_option maxRecDepth 65536 in
theorem w_runnable : about1.curStatus? = some .runnable := by decide +kernel
set_option maxRecDepth 65536 in
theorem w_alone : about1.alone = true := by decide +kernel
set_option maxRecDepth 65536 in
theorem w_named : about1.methodNamed? x = some theMethod := by decide +kernel
set_option maxRecDepth 65536 in
theorem w_hears : about1.hears theMethod below0 = true := by decide +kernel
set_option maxRecDepth 65536 in
theorem w_ripe : about1.ripe theMethod args0 below0 = true := by decide +kernel
theorem w_running : about1.status = .running := rfl
set_option maxRecDepth 65536 in
theorem w_room : about1.hasRoom e0.platform room_1 = true :=
  launch0.hasRoom_least _ room_1 (by decide +kernel) (by decide +kernel) (by decide +kernel) (by decide +kernel) (by decide +kernel) (by decide +kernel)
theorem allAtoms_all (ts : List Jvm.Cond) (a : Array Jvm.Value) (st : Jvm.State) : (allAtoms ts).before a st = ts.all (fun c => c.before a st) := by
  induction ts with
  | nil => rfl
  | cons c t ih =>
    show (Jvm.Cond.and c (allAtoms t)).before a st = _
    rw [Jvm.Cond.before_and, ih, List.all_cons]
def words1 : List Jvm.Cond := Jvm.Cond.code x code maxLocals ret :: tables_1
/-- a 'code' word, met by the world's own term for the bytes: nothing is compared byte by byte -/
theorem code_word {y : MethodName} {bytes : ByteArray} {mx : Nat} {rt : Option FieldType} {a : Array Value} {s : State} {m : MethodId} {meth : Method} {c : Code} (h1 : s.methodNamed? y = some m) (h2 : s.vm.method? m = some meth) (h3 : meth.code = some c) (h4 : c.code = bytes)
    (h5 : (c.maxLocals == mx && c.exceptionTable.isEmpty && decide (c.maxStack ≤ mostOperands) && decide (meth.sig.returnType = rt) && !meth.locks && decide (parseMethodDescriptor y.desc = some meth.sig)) = true) : (Jvm.Cond.code y bytes mx rt).before a s = true := by
  simp only [Bool.and_eq_true, beq_iff_eq, Bool.not_eq_true', decide_eq_true_eq] at h5
  obtain ⟨⟨⟨⟨⟨g1, g2⟩, g3⟩, g4⟩, g5⟩, g6⟩ := h5
  simp [Cond.before, Cond.holds, Cond.value, h1, h2, h3, h4, g1, g2, g3, g4, g5, g6]
def isCode : Jvm.Cond → Bool
  | .code _ _ _ _ => true
  | _ => false
theorem all_split {L : List Jvm.Cond} {P : Jvm.Cond → Bool} (h1 : L.all (fun c => isCode c || P c) = true) (h2 : ∀ c ∈ L.filter isCode, P c = true) : L.all P = true := by
  refine List.all_eq_true.mpr fun c hc => ?_
  have h := List.all_eq_true.mp h1 c hc
  rcases Bool.eq_false_or_eq_true (isCode c) with hi | hi
  · exact h2 c (List.mem_filter.mpr ⟨hc, hi⟩)
  · simpa [hi] using h
set_option maxRecDepth 65536 in
theorem w_c0 : (Jvm.Cond.code x code maxLocals ret).before args0 about1 = true := code_word (m := ⟨1, 1⟩) (meth := k1m1) (c := k1c1) (by decide +kernel) rfl rfl rfl (by decide +kernel)
set_option maxRecDepth 65536 in
theorem w_c1 : (Jvm.Cond.code ({ cls := "com/example/twofold/twofold/io/http/BodyReader", name := "<init>", desc := "(J)V" } : Jvm.MethodName) prog_12_method_1_code (3 : Nat) (Option.none : Option Jvm.ClassFile.FieldType)).before args0 about1 = true := code_word (m := ⟨2, 0⟩) (meth := k2m0) (c := k2c0) (by decide +kernel) rfl rfl rfl (by decide +kernel)
set_option maxRecDepth 65536 in
theorem w_c2 : (Jvm.Cond.code ({ cls := "java/lang/Object", name := "<init>", desc := "()V" } : Jvm.MethodName) object_method_1_code (1 : Nat) (Option.none : Option Jvm.ClassFile.FieldType)).before args0 about1 = true := code_word (m := ⟨0, 0⟩) (meth := k0m0) (c := k0c0) (by decide +kernel) rfl rfl rfl (by decide +kernel)
set_option maxRecDepth 65536 in
theorem w_c3 : (Jvm.Cond.code ({ cls := "java/lang/StringBuilder", name := "<init>", desc := "()V" } : Jvm.MethodName) jdk_67_method_1_code (1 : Nat) (Option.none : Option Jvm.ClassFile.FieldType)).before args0 about1 = true := code_word (m := ⟨8, 0⟩) (meth := k8m0) (c := k8c0) (by decide +kernel) rfl rfl rfl (by decide +kernel)
set_option maxRecDepth 65536 in
theorem w_c4 : (Jvm.Cond.code ({ cls := "java/lang/AbstractStringBuilder", name := "<init>", desc := "(I)V" } : Jvm.MethodName) jdk_68_method_2_code (2 : Nat) (Option.none : Option Jvm.ClassFile.FieldType)).before args0 about1 = true := code_word (m := ⟨5, 1⟩) (meth := k5m1) (c := k5c1) (by decide +kernel) rfl rfl rfl (by decide +kernel)
set_option maxRecDepth 65536 in
theorem w_c5 : (Jvm.Cond.code ({ cls := "com/example/twofold/twofold/io/http/BodyReader", name := "over", desc := "()Z" } : Jvm.MethodName) prog_12_method_4_code (1 : Nat) (Option.some Jvm.ClassFile.FieldType.boolean)).before args0 about1 = true := code_word (m := ⟨2, 2⟩) (meth := k2m2) (c := k2c2) (by decide +kernel) rfl rfl rfl (by decide +kernel)
set_option maxRecDepth 65536 in
theorem w_c6 : (Jvm.Cond.code ({ cls := "java/lang/Math", name := "min", desc := "(JJ)J" } : Jvm.MethodName) jdk_29_method_70_code (4 : Nat) (Option.some Jvm.ClassFile.FieldType.long)).before args0 about1 = true := code_word (m := ⟨12, 1⟩) (meth := k12m1) (c := k12c1) (by decide +kernel) rfl rfl rfl (by decide +kernel)
set_option maxRecDepth 65536 in
theorem w_c7 : (Jvm.Cond.code ({ cls := "com/example/twofold/twofold/io/http/BodyReader", name := "taken", desc := "(I)V" } : Jvm.MethodName) prog_12_method_3_code (2 : Nat) (Option.none : Option Jvm.ClassFile.FieldType)).before args0 about1 = true := code_word (m := ⟨2, 1⟩) (meth := k2m1) (c := k2c1) (by decide +kernel) rfl rfl rfl (by decide +kernel)
set_option maxRecDepth 65536 in
theorem w_c8 : (Jvm.Cond.code ({ cls := "com/example/twofold/twofold/io/http/BodyReader", name := "cutOff", desc := "()Ljava/io/IOException;" } : Jvm.MethodName) prog_12_method_5_code (1 : Nat) (Option.some (Jvm.ClassFile.FieldType.object "java/io/IOException"))).before args0 about1 = true := code_word (m := ⟨2, 3⟩) (meth := k2m3) (c := k2c3) (by decide +kernel) rfl rfl rfl (by decide +kernel)
set_option maxRecDepth 65536 in
theorem w_c9 : (Jvm.Cond.code ({ cls := "java/io/IOException", name := "<init>", desc := "(Ljava/lang/String;)V" } : Jvm.MethodName) jdk_131_method_2_code (2 : Nat) (Option.none : Option Jvm.ClassFile.FieldType)).before args0 about1 = true := code_word (m := ⟨15, 1⟩) (meth := k15m1) (c := k15c1) (by decide +kernel) rfl rfl rfl (by decide +kernel)
set_option maxRecDepth 65536 in
theorem w_c10 : (Jvm.Cond.code ({ cls := "java/lang/Exception", name := "<init>", desc := "(Ljava/lang/String;)V" } : Jvm.MethodName) jdk_59_method_2_code (2 : Nat) (Option.none : Option Jvm.ClassFile.FieldType)).before args0 about1 = true := code_word (m := ⟨14, 1⟩) (meth := k14m1) (c := k14c1) (by decide +kernel) rfl rfl rfl (by decide +kernel)
set_option maxRecDepth 65536 in
theorem w_c11 : (Jvm.Cond.code ({ cls := "java/lang/Throwable", name := "<init>", desc := "(Ljava/lang/String;)V" } : Jvm.MethodName) jdk_78_method_2_code (2 : Nat) (Option.none : Option Jvm.ClassFile.FieldType)).before args0 about1 = true := code_word (m := ⟨13, 1⟩) (meth := k13m1) (c := k13c1) (by decide +kernel) rfl rfl rfl (by decide +kernel)
set_option maxRecDepth 65536 in
theorem w_c12 : (Jvm.Cond.code ({ cls := "java/lang/Throwable", name := "<init>", desc := "()V" } : Jvm.MethodName) jdk_78_method_1_code (1 : Nat) (Option.none : Option Jvm.ClassFile.FieldType)).before args0 about1 = true := code_word (m := ⟨13, 0⟩) (meth := k13m0) (c := k13c0) (by decide +kernel) rfl rfl rfl (by decide +kernel)
def codes1 : List Jvm.Cond := [Jvm.Cond.code x code maxLocals ret, Jvm.Cond.code ({ cls := "com/example/twofold/twofold/io/http/BodyReader", name := "<init>", desc := "(J)V" } : Jvm.MethodName) prog_12_method_1_code (3 : Nat) (Option.none : Option Jvm.ClassFile.FieldType), Jvm.Cond.code ({ cls := "java/lang/Object", name := "<init>", desc := "()V" } : Jvm.MethodName) object_method_1_code (1 : Nat) (Option.none : Option Jvm.ClassFile.FieldType), Jvm.Cond.code ({ cls := "java/lang/StringBuilder", name := "<init>", desc := "()V" } : Jvm.MethodName) jdk_67_method_1_code (1 : Nat) (Option.none : Option Jvm.ClassFile.FieldType), Jvm.Cond.code ({ cls := "java/lang/AbstractStringBuilder", name := "<init>", desc := "(I)V" } : Jvm.MethodName) jdk_68_method_2_code (2 : Nat) (Option.none : Option Jvm.ClassFile.FieldType), Jvm.Cond.code ({ cls := "com/example/twofold/twofold/io/http/BodyReader", name := "over", desc := "()Z" } : Jvm.MethodName) prog_12_method_4_code (1 : Nat) (Option.some Jvm.ClassFile.FieldType.boolean), Jvm.Cond.code ({ cls := "java/lang/Math", name := "min", desc := "(JJ)J" } : Jvm.MethodName) jdk_29_method_70_code (4 : Nat) (Option.some Jvm.ClassFile.FieldType.long), Jvm.Cond.code ({ cls := "com/example/twofold/twofold/io/http/BodyReader", name := "taken", desc := "(I)V" } : Jvm.MethodName) prog_12_method_3_code (2 : Nat) (Option.none : Option Jvm.ClassFile.FieldType), Jvm.Cond.code ({ cls := "com/example/twofold/twofold/io/http/BodyReader", name := "cutOff", desc := "()Ljava/io/IOException;" } : Jvm.MethodName) prog_12_method_5_code (1 : Nat) (Option.some (Jvm.ClassFile.FieldType.object "java/io/IOException")), Jvm.Cond.code ({ cls := "java/io/IOException", name := "<init>", desc := "(Ljava/lang/String;)V" } : Jvm.MethodName) jdk_131_method_2_code (2 : Nat) (Option.none : Option Jvm.ClassFile.FieldType), Jvm.Cond.code ({ cls := "java/lang/Exception", name := "<init>", desc := "(Ljava/lang/String;)V" } : Jvm.MethodName) jdk_59_method_2_code (2 : Nat) (Option.none : Option Jvm.ClassFile.FieldType), Jvm.Cond.code ({ cls := "java/lang/Throwable", name := "<init>", desc := "(Ljava/lang/String;)V" } : Jvm.MethodName) jdk_78_method_2_code (2 : Nat) (Option.none : Option Jvm.ClassFile.FieldType), Jvm.Cond.code ({ cls := "java/lang/Throwable", name := "<init>", desc := "()V" } : Jvm.MethodName) jdk_78_method_1_code (1 : Nat) (Option.none : Option Jvm.ClassFile.FieldType)]
set_option maxRecDepth 65536 in
theorem codes_eq : words1.filter isCode = codes1 := rfl
theorem w_codes : ∀ c ∈ words1.filter isCode, c.before args0 about1 = true := by
  rw [codes_eq]
  intro c hc
  simp only [codes1, List.mem_cons, List.not_mem_nil, or_false] at hc
  rcases hc with rfl | rfl | rfl | rfl | rfl | rfl | rfl | rfl | rfl | rfl | rfl | rfl | rfl
  · exact w_c0
  · exact w_c1
  · exact w_c2
  · exact w_c3
  · exact w_c4
  · exact w_c5
  · exact w_c6
  · exact w_c7
  · exact w_c8
  · exact w_c9
  · exact w_c10
  · exact w_c11
  · exact w_c12
set_option maxRecDepth 65536 in
theorem w_t1 : (words1.take 24).all (fun c => isCode c || c.before args0 about1) = true := by decide +kernel
set_option maxRecDepth 65536 in
theorem w_t2 : ((words1.drop 24).take 24).all (fun c => isCode c || c.before args0 about1) = true := by decide +kernel
set_option maxRecDepth 65536 in
theorem w_t3 : (((words1.drop 24).drop 24).take 24).all (fun c => isCode c || c.before args0 about1) = true := by decide +kernel
set_option maxRecDepth 65536 in
theorem w_t4 : ((((words1.drop 24).drop 24).drop 24).take 24).all (fun c => isCode c || c.before args0 about1) = true := by decide +kernel
set_option maxRecDepth 65536 in
theorem w_t5 : (((((words1.drop 24).drop 24).drop 24).drop 24).take 24).all (fun c => isCode c || c.before args0 about1) = true := by decide +kernel
set_option maxRecDepth 65536 in
theorem w_t6 : (((((words1.drop 24).drop 24).drop 24).drop 24).drop 24).all (fun c => isCode c || c.before args0 about1) = true := by decide +kernel
theorem w_tables : (allAtoms (Jvm.Cond.code x code maxLocals ret :: tables_1)).before args0 about1 = true := by
  rw [allAtoms_all]
  show words1.all (fun c => c.before args0 about1) = true
  refine all_split ?_ w_codes
  rw [← List.take_append_drop 24 words1, List.all_append, w_t1, ← List.take_append_drop 24 (words1.drop 24), List.all_append, w_t2, ← List.take_append_drop 24 ((words1.drop 24).drop 24), List.all_append, w_t3, ← List.take_append_drop 24 (((words1.drop 24).drop 24).drop 24), List.all_append, w_t4, ← List.take_append_drop 24 ((((words1.drop 24).drop 24).drop 24).drop 24), List.all_append, w_t5, w_t6]
  rfl
set_option maxRecDepth 65536 in
theorem w_rest : rest_1_c.before args0 about1 = true := by decide +kernel
set_option maxRecDepth 65536 in
theorem w_case : (Jvm.Cond.and given_1 narrow_1).before args0 about1 = true := by decide +kernel
theorem w_applies : (headSpec (Jvm.Cond.code x code maxLocals ret :: tables_1) room_1).applies x e0.platform about1 = true :=
  (Spec.applies_iff w_frames).mpr ⟨w_running, w_runnable, w_alone, w_named, w_hears, w_ripe, w_room, w_tables⟩
theorem atStart : AtStart classFile x code maxLocals ret World_1 tables_1 room_1 Calls_1 rest_1 Pre_1 launch0 p0 e0 about1 theMethod args0 below0 :=
  ⟨lists_1, trivial, launch0.admits_env _ _ _, launch0.least_env, fairChoices_fair.cas, fairChoices_fair.clock, w_frames, w_args, w_heap, w_applies, ⟨(by decide +kernel : framesKnown about1 = true), ⟨(by decide +kernel : tablesKnown about1 = true), trivial⟩⟩, w_rest, w_case⟩
end start1
theorem witness_1 : WitnessClaimed_1 := ⟨start1.p0, start1.e0, start1.about1, start1.theMethod, start1.args0, start1.below0, start1.atStart⟩
end Jvm.Pilot.@@N@@
