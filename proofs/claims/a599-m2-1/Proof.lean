import JvmDerived
import JvmDerived.Pilot.@@N@@Statement
import JvmDerived.Pilot.@@N@@Code
set_option linter.unusedVariables false
set_option linter.unusedSimpArgs false
namespace Jvm.Pilot.@@N@@
open Jvm Jvm.ClassFile Sem Op Lib Jvm.Free Jvm.Stand Jvm.LawKit Jvm.RoadKit Bundle Jvm.Pilot.@@N@@.Jvm.D

section Own
variable {p : Program} {l : Launch} {e : Env} {R : Room} {s : State} {m : MethodId} {args : Array Value} {below : List Frame} {meth : Method} {c : Code} {T : State} {locs : List Loc} {cells slots : Nat} {Z : State} {a0 : Array Value} {h h' h0 : Heap} {K : Outcome → State → Prop} {pc pc' : Nat} {Ls : Array Slot} {st : List Value} {own : String} {ws ws' : List Addr} {L L' : List Loc}
/-- what is left to show at a point of a walk -/
def OGo (p : Program) (e : Env) (below : List Frame) (K : Outcome → State → Prop) (T : State) (g : JFrame) : Prop :=
  ∃ s₂ o, Steps p.tables e below (T.setTop g) s₂ ∧ s₂.status = .running ∧ Ended s₂ below o ∧ K o s₂
theorem OGo.via {T' : State} {g g' : JFrame} (k : OGo p e below K T' g') (q : ∀ t, Steps p.tables e below (T'.setTop g') t → Steps p.tables e below (T.setTop g) t) : OGo p e below K T g := by
  obtain ⟨s₂, o, h1, h2⟩ := k; exact ⟨s₂, o, q _ h1, h2⟩
theorem OGo.tr {T' : State} {g g' : JFrame} (k : OGo p e below K T' g') (q : Steps p.tables e below (T.setTop g) (T'.setTop g')) : OGo p e below K T g := k.via fun _ r => q.trans r
/-- the cells of h0 stand in h but for those at ws; cells of statics stand; what was written is at ws or new -/
def OPr (h0 : Heap) (ws : List Addr) (h : Heap) (L : List Loc) : Prop := Keep h0 h ws ∧ (∀ (x : Addr) (c : Cell), h0[x]? = some c → c.vm.isStatics = true → h[x]? = some c) ∧ ∀ y ∈ L, y.base ∈ ws ∨ h0.size ≤ y.base
theorem OPr.refl (h : Heap) (ws : List Addr) : OPr h ws h [] := ⟨Keep.refl h ws, fun _ _ q _ => q, fun _ q => nomatch q⟩
theorem OPr.size (P : OPr h0 ws h L) : h0.size ≤ h.size := P.1.1
theorem OPr.ge (P : OPr h0 ws h L) {a : Addr} (q : a = h.size) : h0.size ≤ a := q ▸ P.1.1
theorem OPr.ext (P : OPr h0 ws h L) (E : Ext h h') : OPr h0 ws h' L := ⟨P.1.ext E, fun x c q r => E.2 _ _ (P.2.1 x c q r), P.2.2⟩
theorem OPr.wr {a : Addr} {sl : Nat} {v : Value} (P : OPr h0 ws h L) (W : Wr h h' a sl v) (q : a ∈ ws ∨ h0.size ≤ a) : OPr h0 ws h' (L ++ [⟨a, sl⟩]) := by
  refine ⟨P.1.wr W q, fun x c r1 r2 => ?_, fun y hy => ?_⟩
  · obtain ⟨c', e1, -, -, -, e5, -, e7⟩ := wr_at W (P.2.1 x c r1 r2)
    have ne : x ≠ a := fun u => by rw [(e7 u).2.2] at r2; cases r2
    rw [← e5 ne]; exact e1
  · rcases List.mem_append.mp hy with u | u
    · exact P.2.2 y u
    · cases List.mem_singleton.mp u; exact q
theorem OPr.call (P : OPr h0 ws h L) (P' : OPr h ws' h' L') (q : ∀ x ∈ ws', x ∈ ws ∨ h0.size ≤ x) : OPr h0 ws h' (L ++ L') := by
  refine ⟨P.1.trans P'.1 q, fun x c r1 r2 => P'.2.1 x c (P.2.1 x c r1 r2) r2, fun y hy => ?_⟩
  rcases List.mem_append.mp hy with u | u
  · exact P.2.2 y u
  · rcases P'.2.2 y u with v | v
    · exact q _ v
    · exact Or.inr (Nat.le_trans P.1.1 v)
theorem OPr.fr (P : OPr h0 [] h L) : Fr h0.size L := fun y hy => (P.2.2 y hy).elim (fun q => nomatch q) id
theorem fldP {a : Addr} {C n d : String} {v : Value} (F : Fld Z h0 a C n d v) (P : OPr h0 ws h L) (q : a ∉ ws) : Fld Z h a C n d v := F.keep P.1 q
theorem exaP {a : Addr} {C : String} (F : Exa Z h0 a C) (P : OPr h0 ws h L) : Exa Z h a C := F.keep P.1
theorem staP {C n d : String} {v : Value} (F : Sta Z h0 C n d v) (P : OPr h0 ws h L) : Sta Z h C n d v := by
  obtain ⟨cf, i, k, f, sa, cell, h1, h2, h3, h4, h5, h6, h7⟩ := F
  exact ⟨cf, i, k, f, sa, cell, h1, h2, h3, h4, P.2.1 _ _ h5 h6, h6, h7⟩
/-- an array, told whole -/
def OAry (Z : State) (h : Heap) (a : Addr) (k : ClassId) (ty : FieldType) (vs : List Value) : Prop := ∃ c : Cell, Arr Z h a c ty ∧ c.cls = k ∧ c.slots.toList = vs ∧ vs.length < 2 ^ 31 ∧ ∀ v ∈ vs, fits ty v = true
theorem aryP {a : Addr} {k : ClassId} {ty : FieldType} {vs : List Value} (F : OAry Z h0 a k ty vs) (P : OPr h0 ws h L) (q : a ∉ ws) : OAry Z h a k ty vs := by
  obtain ⟨c, A, r⟩ := F; exact ⟨c, ⟨P.1.2.1 a c A.1 q, A.2⟩, r⟩
theorem aryE {a : Addr} {k : ClassId} {ty : FieldType} {vs : List Value} (F : OAry Z h a k ty vs) (E : Ext h h') : OAry Z h' a k ty vs := by
  obtain ⟨c, A, r⟩ := F; exact ⟨c, A.ext E, r⟩
theorem aryO {a b : Addr} {k : ClassId} {ty : FieldType} {vs : List Value} {sl : Nat} {v : Value} (F : OAry Z h b k ty vs) (W : Wr h h' a sl v) (q : b ≠ a) : OAry Z h' b k ty vs := by
  obtain ⟨c, A, r⟩ := F; exact ⟨c, A.other W q, r⟩
theorem aryLt {a : Addr} {k : ClassId} {ty : FieldType} {vs : List Value} (F : OAry Z h a k ty vs) : a < h.size := by obtain ⟨c, A, -⟩ := F; exact A.lt
theorem arySet {a : Addr} {k : ClassId} {ty : FieldType} {vs vs' : List Value} {j : Nat} {v : Value} (F : OAry Z h a k ty vs) (W : Wr h h' a j v) (hf : fits ty v = true) (e : vs.set j v = vs') : OAry Z h' a k ty vs' := by
  obtain ⟨c, A, r1, rfl, r3, r4⟩ := F
  subst e
  refine ⟨_, A.same W, r1, ?_, by simpa using r3, fun u hu => ?_⟩
  · show (c.slots.setIfInBounds j v).toList = _
    simp
  · rcases List.mem_or_eq_of_mem_set hu with z | rfl
    · exact r4 u z
    · exact hf
theorem aryIn {c : Cell} {vs : List Value} {j : Int32} {v : Value} (q : c.slots.toList = vs) (hj : ¬ j < 0) (hv : vs[j.toNatClampNeg]? = some v) : ¬ (j < 0 ∨ c.slots.size ≤ j.toNatClampNeg) ∧ c.slots[j.toNatClampNeg]? = some v := by
  subst q
  have hv' : c.slots[j.toNatClampNeg]? = some v := by simpa using hv
  exact ⟨fun u => u.elim hj fun u => by have := (Array.getElem?_eq_some_iff.mp hv').1; omega, hv'⟩
theorem aryFit {a : Addr} {k : ClassId} {ty : FieldType} {vs : List Value} {c : Cell} (A : Arr Z h a c ty) (q : c.slots.toList = vs) (r : ∀ v ∈ vs, fits ty v = true) : FitC Z c := fun i v hv => by
  subst q
  obtain ⟨hs, k, hk, comp, hkind⟩ := A.2.1
  have e : Z.slotType? c.cls .none i = some ty := by simp [State.slotType?, hk, hkind]
  have m : v ∈ c.slots.toList := by obtain ⟨hi, rfl⟩ := Array.getElem?_eq_some_iff.mp hv; simp
  simp [State.fitsSlot, e, r v m]
/-- what a method that returned has left -/
def OFin (s : State) (rm : Room) (Q : Option Value → Heap → List Loc → Prop) (o : Outcome) (U' : State) : Prop := ∃ v L, o = .returned v ∧ Q v U'.heap L ∧ FrameEnd s o U' L rm.cells rm.slots
/-- a method's contract, at given arguments and a given heap -/
def OMet (l : Launch) (y : MethodName) (bytes : ByteArray) (maxL : Nat) (ret : Option FieldType) (rm : Room) (as : Array Value) (Z : State) (h0 : Heap) (Q : Option Value → Heap → List Loc → Prop) : Prop :=
  ∀ ws : List Jvm.Cond, MetFree l y (head1 (Jvm.Cond.code y bytes maxL ret :: ws) rm) (fun a U => a = as ∧ Z.Warmed39 U.vm ∧ U.heap = h0) (fun _ _ _ _ _ => True) (fun _ U o U' => OFin U rm Q o U')
theorem OMet.body {y : MethodName} {bytes : ByteArray} {maxL : Nat} {ret : Option FieldType} {rm : Room} {as : Array Value} {Q : Option Value → Heap → List Loc → Prop} {Ls : Array Slot} (hpl : plainFor y = true) (hef : ∀ m, entryFrame m as maxL = mkF m 0 Ls [])
    (H : ∀ (p : Program) (e : Env) (s : State) (m : MethodId) (below : List Frame) (meth : Method) (c : Code) (T : State) (K : Outcome → State → Prop), K = OFin s rm Q → Stand p l e rm s m as below meth c T [] 0 0 → p.tables.exec = Jvm.exec → c.code = bytes → c.maxLocals = maxL → s.vm.findClass y.cls = some m.cls → meth.name = y.name → meth.sig.returnType = ret → meth.locks = false → Z.Warmed39 s.vm → T.heap = h0 → OGo p e below K T (mkF m 0 Ls [])) :
    OMet l y bytes maxL ret rm as Z h0 Q := fun ws => by
  refine MetFree.of_bodySF hpl hisR ?_
  intro p e s m args below meth c s₁ Bd hml0 hP hK
  obtain ⟨rfl, hZ, hh⟩ := hP
  have e0 : s₁.heap = h0 := by rw [← hh, Bd.state]; rfl
  have k := H p e s m below meth c s₁ _ rfl (Stand.of_body Bd) Bd.exec Bd.bytes hml0 (findClass_of_methodNamed Bd.named) (name_of_methodNamed Bd.named Bd.method).1 Bd.returns Bd.notSynchronized hZ e0
  rw [← hef m] at k
  exact k
theorem g_ret {rm : Room} {Q : Option Value → Heap → List Loc → Prop} {t : FieldType} {w : Value} {i : Instr} (X : Stand p l e rm s m args below meth c T locs cells slots) (hx : p.tables.exec = Jvm.exec) (hret : meth.sig.returnType = some t) (hlk : meth.locks = false) (hn : narrow t w = w)
    (hi : (i = .ireturn ∧ (t = .int ∨ t = .boolean ∨ t = .byte ∨ t = .char ∨ t = .short) ∧ ∃ z, w = .int z) ∨ (i = .lreturn ∧ t = .long ∧ ∃ z, w = .long z) ∨ (i = .dreturn ∧ t = .double ∧ ∃ z, w = .double z) ∨ (i = .freturn ∧ t = .float ∧ ∃ z, w = .float z) ∨ (i = .areturn ∧ t.isReference = true ∧ w.isRef = true))
    (hd : decode c.code pc = .ok (i, 1)) (hc : cells ≤ rm.cells) (hs : slots ≤ rm.slots) (eT : T.heap = h) (hK : K = OFin s rm Q) (hQ : Q (some w) h locs) : OGo p e below K T (mkF m pc Ls (w :: st)) := by
  subst hK
  obtain ⟨fs, hr, hrun, hended, hW, hsame⟩ := X.leave (v := some w) (fun h => by rw [hret] at h; cases h) hlk
  exact ⟨_, _, retOut X hx hret hn hi hd hr, hrun, hended, _, _, rfl, by show Q _ T.heap _; rw [eT]; exact hQ, ⟨_, rfl⟩, hW, hsame.mono hc hs⟩
theorem g_ret0 {rm : Room} {Q : Option Value → Heap → List Loc → Prop} (X : Stand p l e rm s m args below meth c T locs cells slots) (hx : p.tables.exec = Jvm.exec) (hret : meth.sig.returnType = none) (hlk : meth.locks = false)
    (hd : decode c.code pc = .ok (.return_, 1)) (hc : cells ≤ rm.cells) (hs : slots ≤ rm.slots) (eT : T.heap = h) (hK : K = OFin s rm Q) (hQ : Q none h locs) : OGo p e below K T (mkF m pc Ls []) := by
  subst hK
  obtain ⟨fs, hr, hrun, hended, hW, hsame⟩ := X.leave (v := none) (fun _ => rfl) hlk
  exact ⟨_, _, X.returnOut hx hret hd hr, hrun, hended, _, _, rfl, by show Q _ T.heap _; rw [eT]; exact hQ, ⟨_, rfl⟩, hW, hsame.mono hc hs⟩
theorem g_getf (X : Stand p l e R s m args below meth c T locs cells slots) (hx : p.tables.exec = Jvm.exec) (hZ : Z.Warmed39 s.vm) (hown : s.vm.findClass own = some m.cls) {R0 O n d host : String} {index : Nat} (w : (Jvm.Cond.fieldLink own index R0 n d).before a0 Z = true ∨ (Jvm.Cond.fieldLinkNest own index R0 n d host).before a0 Z = true) (via : Via Z R0 O n d)
    (eT : T.heap = h) {a : Addr} {v : Value} (F : Fld Z h a O n d v) (hd : decode c.code pc = .ok (.getfield index, 3)) (hp : pc + 3 = pc')
    (k : ∀ T', Stand p l e R s m args below meth c T' locs cells slots → T'.heap = h → OGo p e below K T' (mkF m pc' Ls (v :: st))) : OGo p e below K T (mkF m pc Ls (.ref a :: st)) := by
  subst hp
  obtain ⟨T', X', e', q⟩ := getF X hx hZ hown w via eT F (g := mkF m pc Ls (.ref a :: st)) rfl rfl hd
  exact (k T' X' e').via q
theorem g_gets (X : Stand p l e R s m args below meth c T locs cells slots) (hx : p.tables.exec = Jvm.exec) (hZ : Z.Warmed39 s.vm) (hown : s.vm.findClass own = some m.cls) {R0 O n d host : String} {index : Nat} (w : (Jvm.Cond.fieldLink own index R0 n d).before a0 Z = true ∨ (Jvm.Cond.fieldLinkNest own index R0 n d host).before a0 Z = true) (via : Via Z R0 O n d)
    (eT : T.heap = h) {v : Value} (F : Sta Z h O n d v) (hd : decode c.code pc = .ok (.getstatic index, 3)) (hp : pc + 3 = pc')
    (k : ∀ T', Stand p l e R s m args below meth c T' locs cells slots → T'.heap = h → OGo p e below K T' (mkF m pc' Ls (v :: st))) : OGo p e below K T (mkF m pc Ls st) := by
  subst hp
  obtain ⟨T', X', e', q⟩ := getS2 X hx hZ hown w via eT F (g := mkF m pc Ls st) rfl hd
  exact (k T' X' e').via q
theorem g_putf (X : Stand p l e R s m args below meth c T locs cells slots) (hx : p.tables.exec = Jvm.exec) (hZ : Z.Warmed39 s.vm) (hown : s.vm.findClass own = some m.cls) {R0 O n d host C : String} {index kk : Nat} {ty : FieldType} (w : (Jvm.Cond.fieldLink own index R0 n d).before a0 Z = true ∨ (Jvm.Cond.fieldLinkNest own index R0 n d host).before a0 Z = true) (via : Via Z R0 O n d)
    (eT : T.heap = h) {a : Addr} {v old : Value} (F : Fld Z h a O n d old) (E : Exa Z h a C) (L : (Jvm.Cond.lays C O n d).before a0 Z = true ∨ ((Jvm.Cond.laysFinal C O n d).before a0 Z = true ∧ own = O ∧ meth.name = "<init>")) (wi : (Jvm.Cond.instantiable C kk).before a0 Z = true)
    (hty : parseFieldDescriptor d = some ty) (hn : narrow ty v = v) (hf : fits ty v = true) (P : OPr h0 ws h locs) (q : a ∈ ws ∨ h0.size ≤ a) (hd : decode c.code pc = .ok (.putfield index, 3)) (hp : pc + 3 = pc')
    (k : ∀ T' h', Stand p l e R s m args below meth c T' (locs ++ [⟨a, RoadKit.slotOf Z O n d⟩]) cells slots → T'.heap = h' → Wr h h' a (RoadKit.slotOf Z O n d) v → OPr h0 ws h' (locs ++ [⟨a, RoadKit.slotOf Z O n d⟩]) → Fld Z h' a O n d v → OGo p e below K T' (mkF m pc' Ls st)) : OGo p e below K T (mkF m pc Ls (v :: .ref a :: st)) := by
  subst hp
  obtain ⟨T', h', X', e', W', r⟩ := putF X hx hZ hown w via eT F E L wi hty hn hf (g := mkF m pc Ls (v :: .ref a :: st)) rfl rfl hd
  exact (k T' h' X' e' W' (P.wr W' q) (F.same W')).via r
theorem g_new (X : Stand p l e R s m args below meth c T locs cells slots) (hx : p.tables.exec = Jvm.exec) (hZ : Z.Warmed39 s.vm) (hown : s.vm.findClass own = some m.cls) {C : String} {index n : Nat} (w : (Jvm.Cond.classLink own index C).before a0 Z = true) (wi : (Jvm.Cond.instantiable C n).before a0 Z = true) (wz : (Jvm.Cond.initialized C).before a0 Z = true) (eT : T.heap = h)
    (P : OPr h0 ws h locs) (hd : decode c.code pc = .ok (.new index, 3)) (hp : pc + 3 = pc') (hc : cells + 1 ≤ R.cells) (hl : slots + n ≤ R.slots)
    (k : ∀ T' h' a, a = h.size → h0.size ≤ a → Stand p l e R s m args below meth c T' locs (cells + 1) (slots + n) → T'.heap = h' → Ext h h' → OPr h0 ws h' locs → Exa Z h' a C → (∀ {O nm d : String} {ty : FieldType}, Laid Z a0 C O nm d → parseFieldDescriptor d = some ty → Fld Z h' a O nm d (defaultValue ty)) → OGo p e below K T' (mkF m pc' Ls (.ref a :: st))) : OGo p e below K T (mkF m pc Ls st) := by
  subst hp
  obtain ⟨T', h', X', e', E', A', D', -, r⟩ := newO X hx hZ hown w wi wz eT (g := mkF m pc Ls st) rfl hd hc hl
  exact (k T' h' h.size rfl P.1.1 X' e' E' (P.ext E') A' D').via r
theorem g_inito (X : Stand p l e R s m args below meth c T locs cells slots) (hx : p.tables.exec = Jvm.exec) (hZ : Z.Warmed39 s.vm) (hown : s.vm.findClass own = some m.cls) {idx : Nat} (w1 : (Jvm.Cond.methodLink own idx Lib.objectInit).before a0 Z = true) (w2 : (Jvm.Cond.instanceMethod Lib.objectInit).before a0 Z = true)
    (w3 : (Jvm.Cond.code Lib.objectInit ⟨#[0xb1]⟩ 1 none).before a0 Z = true) (eT : T.heap = h) (hsize : Ls.size = c.maxLocals) {a : Addr} (hd : decode c.code pc = .ok (.invokespecial idx, 3)) (hp : pc + 3 = pc')
    (hf : 1 ≤ R.frames) {W : Nat} (hW : (st.map fun v => v.category).sum ≤ W) (hl : W + 12 ≤ R.locals)
    (k : ∀ T', Stand p l e R s m args below meth c T' locs cells slots → T'.heap = h → OGo p e below K T' (mkF m pc' Ls st)) : OGo p e below K T (mkF m pc Ls (.ref a :: st)) := by
  subst hp
  obtain ⟨T', X', e', q⟩ := initO X hx hZ hown w1 w2 w3 eT (g := mkF m pc Ls (.ref a :: st)) rfl hsize rfl hd hf (W := W) (by show 2 * 0 + _ ≤ _; omega) hl
  exact (k T' X' e').via q
theorem OMet.back {y : MethodName} {bytes : ByteArray} {maxL : Nat} {ret : Option FieldType} {rm : Room} {as : Array Value} {Q : Option Value → Heap → List Loc → Prop} {len W : Nat} (hM : OMet l y bytes maxL ret rm as Z h Q) (hZ : Z.Warmed39 s.vm) (wc : (Jvm.Cond.code y bytes maxL ret).before a0 Z = true) (wz : (Jvm.Cond.initialized y.cls).before a0 Z = true) (hf : rm.frames + 1 ≤ R.frames) (hl : W + (maxL + 11) + rm.locals ≤ R.locals) :
    Back l R p e below s args y len W (fun A a => a = as ∧ A.U.heap = h ∧ A.cells + rm.cells ≤ R.cells ∧ A.slots + rm.slots ≤ R.slots)
      (fun A _ v B => ∃ L, Q v B.U.heap L ∧ B.locs = A.locs ++ L ∧ B.cells = A.cells + rm.cells ∧ B.slots = A.slots + rm.slots) := backOf (hM []) hZ wc wz hf hl
theorem g_special (X : Stand p l e R s m args below meth c T locs cells slots) (hx : p.tables.exec = Jvm.exec) (hZ : Z.Warmed39 s.vm) (hown : s.vm.findClass own = some m.cls) (eT : T.heap = h) {y : MethodName} {bytes : ByteArray} {maxL index : Nat} {rm : Room} {as : Array Value} {Q : Option Value → Heap → List Loc → Prop} (hM : OMet l y bytes maxL none rm as Z h Q) (hy1 : y.name = "<init>")
    (w1 : (Jvm.Cond.methodLink own index y).before a0 Z = true) (w2 : (Jvm.Cond.instanceMethod y).before a0 Z = true) (w3 : (Jvm.Cond.code y bytes maxL none).before a0 Z = true) (wz : (Jvm.Cond.initialized y.cls).before a0 Z = true) (hy : y.cls ≠ "java/lang/invoke/MethodHandle" ∧ y.cls ≠ "java/lang/invoke/VarHandle")
    {a : Addr} {argsL rest : List Value} (has : (.ref a :: argsL).toArray = as) (hst : st = argsL.reverse ++ .ref a :: rest) {W : Nat} {ps : List FieldType} (hde : parseMethodDescriptor y.desc = some ⟨ps, none⟩) (hlen : argsL.length = ps.length) (hW : (rest.map fun v => v.category).sum ≤ W) (hf : rm.frames + 1 ≤ R.frames) (hl : W + (maxL + 11) + rm.locals ≤ R.locals) (hc : cells + rm.cells ≤ R.cells) (hs : slots + rm.slots ≤ R.slots)
    (hsize : Ls.size = c.maxLocals) (hd : decode c.code pc = .ok (.invokespecial index, 3)) (hp : pc + 3 = pc')
    (k : ∀ v T' h' L, Stand p l e R s m args below meth c T' (locs ++ L) (cells + rm.cells) (slots + rm.slots) → T'.heap = h' → Q v h' L → OGo p e below K T' (mkF m pc' Ls (v.toList ++ rest))) : OGo p e below K T (mkF m pc Ls st) := by
  subst hp has
  obtain ⟨v, vm₁, ⟨T', L', c', n'⟩, -, X', ⟨Lc, hQ, l1, y1, z1⟩, r⟩ := X.specialBack hx (y := y) hy1 hown (mvT hZ w1) (mvT hZ w2) (mvT hZ w3) hy (hM.back (W := W) hZ w3 wz hf hl) (g := mkF m pc Ls st) rfl hsize (Steps.refl _) (a := a) (argsL := argsL) (rest := rest) (lenOf hde hlen) hst (by show 2 * 0 + _ ≤ _; omega) hd (fun _ _ => ⟨rfl, eT, hc, hs⟩)
  dsimp only [Pt.U, Pt.locs, Pt.cells, Pt.slots] at X' l1 y1 z1 r hQ
  subst l1 y1 z1
  exact (k v T' _ Lc X' rfl hQ).tr r
theorem g_virtual (X : Stand p l e R s m args below meth c T locs cells slots) (hx : p.tables.exec = Jvm.exec) (hZ : Z.Warmed39 s.vm) (hown : s.vm.findClass own = some m.cls) (eT : T.heap = h) {y z : MethodName} {bytes : ByteArray} {maxL index : Nat} {ret : Option FieldType} {rm : Room} {as : Array Value} {Q : Option Value → Heap → List Loc → Prop} (hM : OMet l z bytes maxL ret rm as Z h Q) {C : String}
    (w1 : (Jvm.Cond.methodLink own index y).before a0 Z = true) (w2 : (Jvm.Cond.declares y).before a0 Z = true) (nf : NotFace s y) (w3 : (Jvm.Cond.selects C y z).before a0 Z = true) (w4 : (Jvm.Cond.instanceMethod z).before a0 Z = true) (w5 : (Jvm.Cond.code z bytes maxL ret).before a0 Z = true) (wz : (Jvm.Cond.initialized z.cls).before a0 Z = true) (hy : y.cls ≠ "java/lang/invoke/MethodHandle" ∧ y.cls ≠ "java/lang/invoke/VarHandle")
    {a : Addr} (E : Exa Z h a C) {argsL rest : List Value} (has : (.ref a :: argsL).toArray = as) (hst : st = argsL.reverse ++ .ref a :: rest) {W : Nat} {ps : List FieldType} {rt : Option FieldType} (hde : parseMethodDescriptor y.desc = some ⟨ps, rt⟩) (hlen : argsL.length = ps.length) (hW : (rest.map fun v => v.category).sum ≤ W) (hf : rm.frames + 1 ≤ R.frames) (hl : W + (maxL + 11) + rm.locals ≤ R.locals) (hc : cells + rm.cells ≤ R.cells) (hs : slots + rm.slots ≤ R.slots)
    (hsize : Ls.size = c.maxLocals) (hd : decode c.code pc = .ok (.invokevirtual index, 3)) (hp : pc + 3 = pc')
    (k : ∀ v T' h' L, Stand p l e R s m args below meth c T' (locs ++ L) (cells + rm.cells) (slots + rm.slots) → T'.heap = h' → Q v h' L → OGo p e below K T' (mkF m pc' Ls (v.toList ++ rest))) : OGo p e below K T (mkF m pc Ls st) := by
  subst hp has
  obtain ⟨cB, kB, q1, q2, q3⟩ := isOf (T := T) hZ eT E
  obtain ⟨v, vm₁, ⟨T', L', c', n'⟩, -, X', ⟨Lc, hQ, l1, y1, z1⟩, r⟩ := X.virtualBack hx (y := y) (z := z) hown (mvT hZ w1) (mvT hZ w2) nf (mvT hZ w3) (mvT hZ w4) hy (hM.back (W := W) hZ w5 wz hf hl) q1 q3 (g := mkF m pc Ls st) rfl hsize (Steps.refl _) (argsL := argsL) (rest := rest) (lenOf hde hlen) hst (by show 2 * 0 + _ ≤ _; omega) hd (fun _ _ => ⟨rfl, eT, hc, hs⟩)
  dsimp only [Pt.U, Pt.locs, Pt.cells, Pt.slots] at X' l1 y1 z1 r hQ
  subst l1 y1 z1
  exact (k v T' _ Lc X' rfl hQ).tr r
theorem g_virtualUp (X : Stand p l e R s m args below meth c T locs cells slots) (hx : p.tables.exec = Jvm.exec) (hZ : Z.Warmed39 s.vm) (hown : s.vm.findClass own = some m.cls) (eT : T.heap = h) {y z : MethodName} {bytes : ByteArray} {maxL index : Nat} {ret : Option FieldType} {rm : Room} {as : Array Value} {Q : Option Value → Heap → List Loc → Prop} (hM : OMet l z bytes maxL ret rm as Z h Q) {C owner : String}
    (w1 : (Jvm.Cond.methodLink own index y).before a0 Z = true) (w0 : (Jvm.Cond.sameMethod y.cls owner y.name y.desc).before a0 Z = true) (w2 : (Jvm.Cond.declares ⟨owner, y.name, y.desc⟩).before a0 Z = true) (nf : NotFace s ⟨owner, y.name, y.desc⟩) (w3 : (Jvm.Cond.selects C y z).before a0 Z = true) (w4 : (Jvm.Cond.instanceMethod z).before a0 Z = true) (w5 : (Jvm.Cond.code z bytes maxL ret).before a0 Z = true) (wz : (Jvm.Cond.initialized z.cls).before a0 Z = true) (hy : owner ≠ "java/lang/invoke/MethodHandle" ∧ owner ≠ "java/lang/invoke/VarHandle")
    {a : Addr} (E : Exa Z h a C) {argsL rest : List Value} (has : (.ref a :: argsL).toArray = as) (hst : st = argsL.reverse ++ .ref a :: rest) {W : Nat} {ps : List FieldType} {rt : Option FieldType} (hde : parseMethodDescriptor y.desc = some ⟨ps, rt⟩) (hlen : argsL.length = ps.length) (hW : (rest.map fun v => v.category).sum ≤ W) (hf : rm.frames + 1 ≤ R.frames) (hl : W + (maxL + 11) + rm.locals ≤ R.locals) (hc : cells + rm.cells ≤ R.cells) (hs : slots + rm.slots ≤ R.slots)
    (hsize : Ls.size = c.maxLocals) (hd : decode c.code pc = .ok (.invokevirtual index, 3)) (hp : pc + 3 = pc')
    (k : ∀ v T' h' L, Stand p l e R s m args below meth c T' (locs ++ L) (cells + rm.cells) (slots + rm.slots) → T'.heap = h' → Q v h' L → OGo p e below K T' (mkF m pc' Ls (v.toList ++ rest))) : OGo p e below K T (mkF m pc Ls st) := by
  subst hp has
  obtain ⟨cB, kB, q1, q2, q3⟩ := isOf (T := T) hZ eT E
  obtain ⟨v, vm₁, ⟨T', L', c', n'⟩, -, X', ⟨Lc, hQ, l1, y1, z1⟩, r⟩ := X.virtualBackUp hx (x := y) (y := z) (owner := owner) hown (mvT hZ w1) (mvT hZ w0) (mvT hZ w2) hy (mvT hZ w3) (mvT hZ w4) (hM.back (W := W) hZ w5 wz hf hl) q1 q3 (g := mkF m pc Ls st) rfl hsize (Steps.refl _) (argsL := argsL) (rest := rest) (lenOf hde hlen) hst (by show 2 * 0 + _ ≤ _; omega) hd (fun _ _ => ⟨rfl, eT, hc, hs⟩)
  dsimp only [Pt.U, Pt.locs, Pt.cells, Pt.slots] at X' l1 y1 z1 r hQ
  subst l1 y1 z1
  exact (k v T' _ Lc X' rfl hQ).tr r
theorem g_static (X : Stand p l e R s m args below meth c T locs cells slots) (hx : p.tables.exec = Jvm.exec) (hZ : Z.Warmed39 s.vm) (hown : s.vm.findClass own = some m.cls) (eT : T.heap = h) {y : MethodName} {bytes : ByteArray} {maxL index : Nat} {ret : Option FieldType} {rm : Room} {as : Array Value} {Q : Option Value → Heap → List Loc → Prop} (hM : OMet l y bytes maxL ret rm as Z h Q)
    (w1 : (Jvm.Cond.methodLink own index y).before a0 Z = true) (w2 : (Jvm.Cond.static y).before a0 Z = true) (w3 : (Jvm.Cond.code y bytes maxL ret).before a0 Z = true) (wz : (Jvm.Cond.initialized y.cls).before a0 Z = true) (hy : y.cls ≠ "java/lang/invoke/MethodHandle" ∧ y.cls ≠ "java/lang/invoke/VarHandle")
    {argsL rest : List Value} (has : argsL.toArray = as) (hst : st = argsL.reverse ++ rest) {W : Nat} {ps : List FieldType} {rt : Option FieldType} (hde : parseMethodDescriptor y.desc = some ⟨ps, rt⟩) (hlen : argsL.length = ps.length) (hW : (rest.map fun v => v.category).sum ≤ W) (hf : rm.frames + 1 ≤ R.frames) (hl : W + (maxL + 11) + rm.locals ≤ R.locals) (hc : cells + rm.cells ≤ R.cells) (hs : slots + rm.slots ≤ R.slots)
    (hsize : Ls.size = c.maxLocals) (hd : decode c.code pc = .ok (.invokestatic index, 3)) (hp : pc + 3 = pc')
    (k : ∀ v T' h' L, Stand p l e R s m args below meth c T' (locs ++ L) (cells + rm.cells) (slots + rm.slots) → T'.heap = h' → Q v h' L → OGo p e below K T' (mkF m pc' Ls (v.toList ++ rest))) : OGo p e below K T (mkF m pc Ls st) := by
  subst hp has
  obtain ⟨v, vm₁, ⟨T', L', c', n'⟩, -, X', ⟨Lc, hQ, l1, y1, z1⟩, r⟩ := Jvm.LawKit.callS X hx (y := y) hown (mvT hZ w1) (mvT hZ w2) (mvT hZ wz) (mvT hZ w3) hy (hM.back (W := W) hZ w3 wz hf hl) (g := mkF m pc Ls st) rfl hsize (argsL := argsL) (rest := rest) (lenOf hde hlen) hst (by show 2 * 0 + _ ≤ _; omega) hd (fun _ _ => ⟨rfl, eT, hc, hs⟩)
  dsimp only [Pt.U, Pt.locs, Pt.cells, Pt.slots] at X' l1 y1 z1 r hQ
  subst l1 y1 z1
  exact (k v T' _ Lc X' rfl hQ).via r
theorem g_face (X : Stand p l e R s m args below meth c T locs cells slots) (hx : p.tables.exec = Jvm.exec) (hZ : Z.Warmed39 s.vm) (hown : s.vm.findClass own = some m.cls) (eT : T.heap = h) {y z : MethodName} {bytes : ByteArray} {maxL index count : Nat} {ret : Option FieldType} {rm : Room} {as : Array Value} {Q : Option Value → Heap → List Loc → Prop} (hM : OMet l z bytes maxL ret rm as Z h Q) {C : String}
    (w1 : (Jvm.Cond.methodLink own index y).before a0 Z = true) (w2 : (Jvm.Cond.declares y).before a0 Z = true) (w6 : (Jvm.Cond.interfaceMethod y.cls y.cls y.name y.desc).before a0 Z = true) (w3 : (Jvm.Cond.selects C y z).before a0 Z = true) (w4 : (Jvm.Cond.instanceMethod z).before a0 Z = true) (w7 : (Jvm.Cond.publicMethod z).before a0 Z = true) (w8 : (Jvm.Cond.unhidden C y.name y.desc).before a0 Z = true) (w9 : (Jvm.Cond.castable C y.cls).before a0 Z = true) (w5 : (Jvm.Cond.code z bytes maxL ret).before a0 Z = true) (wz : (Jvm.Cond.initialized z.cls).before a0 Z = true) (hy : y.cls ≠ "java/lang/invoke/MethodHandle" ∧ y.cls ≠ "java/lang/invoke/VarHandle")
    {a : Addr} (E : Exa Z h a C) {argsL rest : List Value} (has : (.ref a :: argsL).toArray = as) (hst : st = argsL.reverse ++ .ref a :: rest) {W : Nat} {ps : List FieldType} {rt : Option FieldType} (hde : parseMethodDescriptor y.desc = some ⟨ps, rt⟩) (hlen : argsL.length = ps.length) (hW : (rest.map fun v => v.category).sum ≤ W) (hf : rm.frames + 1 ≤ R.frames) (hl : W + (maxL + 11) + rm.locals ≤ R.locals) (hc : cells + rm.cells ≤ R.cells) (hs : slots + rm.slots ≤ R.slots)
    (hsize : Ls.size = c.maxLocals) (hd : decode c.code pc = .ok (.invokeinterface index count, 5)) (hp : pc + 5 = pc')
    (k : ∀ v T' h' L, Stand p l e R s m args below meth c T' (locs ++ L) (cells + rm.cells) (slots + rm.slots) → T'.heap = h' → Q v h' L → OGo p e below K T' (mkF m pc' Ls (v.toList ++ rest))) : OGo p e below K T (mkF m pc Ls st) := by
  subst hp has
  obtain ⟨cB, kB, q1, q2, q3⟩ := isOf (T := T) hZ eT E
  obtain ⟨v, vm₁, ⟨T', L', c', n'⟩, -, X', ⟨Lc, hQ, l1, y1, z1⟩, r⟩ := X.interfaceBack hx (xi := y) (y := z) hown (mvT hZ w1) (mvT hZ w2) (mvT hZ w6 (by simp [Jvm.Cond.onTables, Jvm.Cond.keepsFace, Jvm.Cond.keeps, Jvm.Cond.steady, Jvm.Cond.faceAtom, hy.1, hy.2])) (mvT hZ w3) (mvT hZ w4) (mvT hZ w7) (mvT hZ w8) (mvT hZ w9) hy (hM.back (W := W) hZ w5 wz hf hl) q1 q2 q3 (g := mkF m pc Ls st) rfl hsize (Steps.refl _) (argsL := argsL) (rest := rest) (lenOf hde hlen) hst (by show 2 * 0 + _ ≤ _; omega) hd (fun _ _ => ⟨rfl, eT, hc, hs⟩)
  dsimp only [Pt.U, Pt.locs, Pt.cells, Pt.slots] at X' l1 y1 z1 r hQ
  subst l1 y1 z1
  exact (k v T' _ Lc X' rfl hQ).tr r
theorem g_aloadN (X : Stand p l e R s m args below meth c T locs cells slots) (hx : p.tables.exec = Jvm.exec) {k : Fin 4} {v : Value} (hd : decode c.code pc = .ok (.aload_n k, 1)) (hp : pc + 1 = pc') (hl : Ls[k.val]? = some (.val v)) (hv : v.isRef = true)
    (k : OGo p e below K T (mkF m pc' Ls (v :: st))) : OGo p e below K T (mkF m pc Ls (st)) := by
  subst hp; exact k.via fun _ q => XS.aloadN X.here hx rfl hd hl hv q
theorem g_aload (X : Stand p l e R s m args below meth c T locs cells slots) (hx : p.tables.exec = Jvm.exec) {k : Nat} {v : Value} (hd : decode c.code pc = .ok (.aload k, 2)) (hp : pc + 2 = pc') (hl : Ls[k]? = some (.val v)) (hv : v.isRef = true)
    (k : OGo p e below K T (mkF m pc' Ls (v :: st))) : OGo p e below K T (mkF m pc Ls (st)) := by
  subst hp; exact k.via fun _ q => XS.aload X.here hx rfl hd hl hv q
theorem g_iloadN (X : Stand p l e R s m args below meth c T locs cells slots) (hx : p.tables.exec = Jvm.exec) {k : Fin 4} {v : Int32} (hd : decode c.code pc = .ok (.iload_n k, 1)) (hp : pc + 1 = pc') (hl : Ls[k.val]? = some (.val (.int v)))
    (k : OGo p e below K T (mkF m pc' Ls (.int v :: st))) : OGo p e below K T (mkF m pc Ls (st)) := by
  subst hp; exact k.via fun _ q => XS.iloadN X.here hx rfl hd hl q
theorem g_iload (X : Stand p l e R s m args below meth c T locs cells slots) (hx : p.tables.exec = Jvm.exec) {k : Nat} {v : Int32} (hd : decode c.code pc = .ok (.iload k, 2)) (hp : pc + 2 = pc') (hl : Ls[k]? = some (.val (.int v)))
    (k : OGo p e below K T (mkF m pc' Ls (.int v :: st))) : OGo p e below K T (mkF m pc Ls (st)) := by
  subst hp; exact k.via fun _ q => XS.iload X.here hx rfl hd hl q
theorem g_lloadN (X : Stand p l e R s m args below meth c T locs cells slots) (hx : p.tables.exec = Jvm.exec) {k : Fin 4} {v : Int64} (hd : decode c.code pc = .ok (.lload_n k, 1)) (hp : pc + 1 = pc') (hl : Ls[k.val]? = some (.val (.long v)))
    (k : OGo p e below K T (mkF m pc' Ls (.long v :: st))) : OGo p e below K T (mkF m pc Ls (st)) := by
  subst hp; exact k.via fun _ q => XT.lloadN X.here hx rfl hd hl q
theorem g_lload (X : Stand p l e R s m args below meth c T locs cells slots) (hx : p.tables.exec = Jvm.exec) {k : Nat} {v : Int64} (hd : decode c.code pc = .ok (.lload k, 2)) (hp : pc + 2 = pc') (hl : Ls[k]? = some (.val (.long v)))
    (k : OGo p e below K T (mkF m pc' Ls (.long v :: st))) : OGo p e below K T (mkF m pc Ls (st)) := by
  subst hp; exact k.via fun _ q => XT.lload X.here hx rfl hd hl q
theorem g_istoreN (X : Stand p l e R s m args below meth c T locs cells slots) (hx : p.tables.exec = Jvm.exec) {k : Fin 4} {x : Int32} {Ls' : Array Slot} (hd : decode c.code pc = .ok (.istore_n k, 1)) (hp : pc + 1 = pc') (hl : storeLocals Ls k.val (.int x) = some Ls')
    (k : OGo p e below K T (mkF m pc' Ls' (st))) : OGo p e below K T (mkF m pc Ls (.int x :: st)) := by
  subst hp; exact k.via fun _ q => XS.istoreN X.here hx rfl hd rfl hl q
theorem g_istore (X : Stand p l e R s m args below meth c T locs cells slots) (hx : p.tables.exec = Jvm.exec) {k : Nat} {x : Int32} {Ls' : Array Slot} (hd : decode c.code pc = .ok (.istore k, 2)) (hp : pc + 2 = pc') (hl : storeLocals Ls k (.int x) = some Ls')
    (k : OGo p e below K T (mkF m pc' Ls' (st))) : OGo p e below K T (mkF m pc Ls (.int x :: st)) := by
  subst hp; exact k.via fun _ q => XS.istore X.here hx rfl hd rfl hl q
theorem g_lstoreN (X : Stand p l e R s m args below meth c T locs cells slots) (hx : p.tables.exec = Jvm.exec) {k : Fin 4} {x : Int64} {Ls' : Array Slot} (hd : decode c.code pc = .ok (.lstore_n k, 1)) (hp : pc + 1 = pc') (hl : storeLocals Ls k.val (.long x) = some Ls')
    (k : OGo p e below K T (mkF m pc' Ls' (st))) : OGo p e below K T (mkF m pc Ls (.long x :: st)) := by
  subst hp; exact k.via fun _ q => XT.lstoreN X.here hx rfl hd rfl hl q
theorem g_lstore (X : Stand p l e R s m args below meth c T locs cells slots) (hx : p.tables.exec = Jvm.exec) {k : Nat} {x : Int64} {Ls' : Array Slot} (hd : decode c.code pc = .ok (.lstore k, 2)) (hp : pc + 2 = pc') (hl : storeLocals Ls k (.long x) = some Ls')
    (k : OGo p e below K T (mkF m pc' Ls' (st))) : OGo p e below K T (mkF m pc Ls (.long x :: st)) := by
  subst hp; exact k.via fun _ q => XT.lstore X.here hx rfl hd rfl hl q
theorem g_astoreN (X : Stand p l e R s m args below meth c T locs cells slots) (hx : p.tables.exec = Jvm.exec) {k : Fin 4} {x : Value} {Ls' : Array Slot} (hd : decode c.code pc = .ok (.astore_n k, 1)) (hp : pc + 1 = pc') (hv : x.isRef = true) (hl : storeLocals Ls k.val x = some Ls')
    (k : OGo p e below K T (mkF m pc' Ls' (st))) : OGo p e below K T (mkF m pc Ls (x :: st)) := by
  subst hp; exact k.via fun _ q => XS.astoreN X.here hx rfl hd rfl hv hl q
theorem g_astore (X : Stand p l e R s m args below meth c T locs cells slots) (hx : p.tables.exec = Jvm.exec) {k : Nat} {x : Value} {Ls' : Array Slot} (hd : decode c.code pc = .ok (.astore k, 2)) (hp : pc + 2 = pc') (hv : x.isRef = true) (hl : storeLocals Ls k x = some Ls')
    (k : OGo p e below K T (mkF m pc' Ls' (st))) : OGo p e below K T (mkF m pc Ls (x :: st)) := by
  subst hp; exact k.via fun _ q => XS.astore X.here hx rfl hd rfl hv hl q
theorem g_iconst (X : Stand p l e R s m args below meth c T locs cells slots) (hx : p.tables.exec = Jvm.exec) {i : Int} (v : Int32) (hd : decode c.code pc = .ok (.iconst i, 1)) (hp : pc + 1 = pc') (hv : Int32.ofInt i = v)
    (k : OGo p e below K T (mkF m pc' Ls (.int v :: st))) : OGo p e below K T (mkF m pc Ls st) := by
  subst hp; exact k.via fun _ q => XT.iconstV X.here hx rfl v hd hv q
theorem g_bipush (X : Stand p l e R s m args below meth c T locs cells slots) (hx : p.tables.exec = Jvm.exec) {i : Int} (v : Int32) (hd : decode c.code pc = .ok (.bipush i, 2)) (hp : pc + 2 = pc') (hv : (Int8.ofInt i).toInt32 = v)
    (k : OGo p e below K T (mkF m pc' Ls (.int v :: st))) : OGo p e below K T (mkF m pc Ls st) := by
  subst hp; exact k.via fun _ q => XT.bipushV X.here hx rfl v hd hv q
theorem g_sipush (X : Stand p l e R s m args below meth c T locs cells slots) (hx : p.tables.exec = Jvm.exec) {i : Int} (v : Int32) (hd : decode c.code pc = .ok (.sipush i, 3)) (hp : pc + 3 = pc') (hv : (Int16.ofInt i).toInt32 = v)
    (k : OGo p e below K T (mkF m pc' Ls (.int v :: st))) : OGo p e below K T (mkF m pc Ls st) := by
  subst hp; exact k.via fun _ q => XT.sipushV X.here hx rfl v hd hv q
theorem g_lconst (X : Stand p l e R s m args below meth c T locs cells slots) (hx : p.tables.exec = Jvm.exec) {i : Fin 2} (v : Int64) (hd : decode c.code pc = .ok (.lconst i, 1)) (hp : pc + 1 = pc') (hv : Int64.ofNat i = v)
    (k : OGo p e below K T (mkF m pc' Ls (.long v :: st))) : OGo p e below K T (mkF m pc Ls st) := by
  subst hp; exact k.via fun _ q => XT.lconstV X.here hx rfl v hd hv q
theorem g_anull (X : Stand p l e R s m args below meth c T locs cells slots) (hx : p.tables.exec = Jvm.exec)  (hd : decode c.code pc = .ok (.aconst_null, 1)) (hp : pc + 1 = pc')
    (k : OGo p e below K T (mkF m pc' Ls (.null :: st))) : OGo p e below K T (mkF m pc Ls (st)) := by
  subst hp; exact k.via fun _ q => XS.aconstNull X.here hx rfl hd  q
theorem g_ldcI (X : Stand p l e R s m args below meth c T locs cells slots) (hx : p.tables.exec = Jvm.exec) (hZ : Z.Warmed39 s.vm) (hown : s.vm.findClass own = some m.cls) {index : Nat} {v : Int32} (w : (Jvm.Cond.constant own index v).before a0 Z = true) (hd : decode c.code pc = .ok (.ldc index, 2)) (hp : pc + 2 = pc')
    (k : OGo p e below K T (mkF m pc' Ls (.int v :: st))) : OGo p e below K T (mkF m pc Ls st) := by
  subst hp; exact k.via fun _ q => X.ldcI hx hown (mvT hZ w) rfl hd q
theorem g_ldc2J (X : Stand p l e R s m args below meth c T locs cells slots) (hx : p.tables.exec = Jvm.exec) (hZ : Z.Warmed39 s.vm) (hown : s.vm.findClass own = some m.cls) {index : Nat} {v : Int64} (w : (Jvm.Cond.constantLong own index v).before a0 Z = true) (hd : decode c.code pc = .ok (.ldc2_w index, 3)) (hp : pc + 3 = pc')
    (k : OGo p e below K T (mkF m pc' Ls (.long v :: st))) : OGo p e below K T (mkF m pc Ls st) := by
  subst hp; exact k.via fun _ q => X.ldc2J hx hown (mvT hZ w) rfl hd q
theorem g_iadd (X : Stand p l e R s m args below meth c T locs cells slots) (hx : p.tables.exec = Jvm.exec) {x y z : Int32} (hd : decode c.code pc = .ok (.iadd, 1)) (hp : pc + 1 = pc') (hz : x + y = z)
    (k : OGo p e below K T (mkF m pc' Ls (.int z :: st))) : OGo p e below K T (mkF m pc Ls (.int y :: .int x :: st)) := by
  subst hp hz; exact k.via fun _ q => XS.iadd X.here hx rfl hd rfl q
theorem g_isub (X : Stand p l e R s m args below meth c T locs cells slots) (hx : p.tables.exec = Jvm.exec) {x y z : Int32} (hd : decode c.code pc = .ok (.isub, 1)) (hp : pc + 1 = pc') (hz : x - y = z)
    (k : OGo p e below K T (mkF m pc' Ls (.int z :: st))) : OGo p e below K T (mkF m pc Ls (.int y :: .int x :: st)) := by
  subst hp hz; exact k.via fun _ q => XS.isub X.here hx rfl hd rfl q
theorem g_iand (X : Stand p l e R s m args below meth c T locs cells slots) (hx : p.tables.exec = Jvm.exec) {x y z : Int32} (hd : decode c.code pc = .ok (.iand, 1)) (hp : pc + 1 = pc') (hz : x &&& y = z)
    (k : OGo p e below K T (mkF m pc' Ls (.int z :: st))) : OGo p e below K T (mkF m pc Ls (.int y :: .int x :: st)) := by
  subst hp hz; exact k.via fun _ q => XS.iand X.here hx rfl hd rfl q
theorem g_imul (X : Stand p l e R s m args below meth c T locs cells slots) (hx : p.tables.exec = Jvm.exec) {x y z : Int32} (hd : decode c.code pc = .ok (.imul, 1)) (hp : pc + 1 = pc') (hz : x * y = z)
    (k : OGo p e below K T (mkF m pc' Ls (.int z :: st))) : OGo p e below K T (mkF m pc Ls (.int y :: .int x :: st)) := by
  subst hp hz; exact k.via fun _ q => XS.imul X.here hx rfl hd rfl q
theorem g_ixor (X : Stand p l e R s m args below meth c T locs cells slots) (hx : p.tables.exec = Jvm.exec) {x y z : Int32} (hd : decode c.code pc = .ok (.ixor, 1)) (hp : pc + 1 = pc') (hz : x ^^^ y = z)
    (k : OGo p e below K T (mkF m pc' Ls (.int z :: st))) : OGo p e below K T (mkF m pc Ls (.int y :: .int x :: st)) := by
  subst hp hz; exact k.via fun _ q => XT.ixor X.here hx rfl hd rfl q
theorem g_ior (X : Stand p l e R s m args below meth c T locs cells slots) (hx : p.tables.exec = Jvm.exec) {x y z : Int32} (hd : decode c.code pc = .ok (.ior, 1)) (hp : pc + 1 = pc') (hz : x ||| y = z)
    (k : OGo p e below K T (mkF m pc' Ls (.int z :: st))) : OGo p e below K T (mkF m pc Ls (.int y :: .int x :: st)) := by
  subst hp hz; exact k.via fun _ q => XT.ior X.here hx rfl hd rfl q
theorem g_ishl (X : Stand p l e R s m args below meth c T locs cells slots) (hx : p.tables.exec = Jvm.exec) {x y z : Int32} (hd : decode c.code pc = .ok (.ishl, 1)) (hp : pc + 1 = pc') (hz : x <<< (y &&& 31) = z)
    (k : OGo p e below K T (mkF m pc' Ls (.int z :: st))) : OGo p e below K T (mkF m pc Ls (.int y :: .int x :: st)) := by
  subst hp hz; exact k.via fun _ q => XT.ishl X.here hx rfl hd rfl q
theorem g_ishr (X : Stand p l e R s m args below meth c T locs cells slots) (hx : p.tables.exec = Jvm.exec) {x y z : Int32} (hd : decode c.code pc = .ok (.ishr, 1)) (hp : pc + 1 = pc') (hz : x >>> (y &&& 31) = z)
    (k : OGo p e below K T (mkF m pc' Ls (.int z :: st))) : OGo p e below K T (mkF m pc Ls (.int y :: .int x :: st)) := by
  subst hp hz; exact k.via fun _ q => XT.ishr X.here hx rfl hd rfl q
theorem g_iushr (X : Stand p l e R s m args below meth c T locs cells slots) (hx : p.tables.exec = Jvm.exec) {x y z : Int32} (hd : decode c.code pc = .ok (.iushr, 1)) (hp : pc + 1 = pc') (hz : XT.ushr x y = z)
    (k : OGo p e below K T (mkF m pc' Ls (.int z :: st))) : OGo p e below K T (mkF m pc Ls (.int y :: .int x :: st)) := by
  subst hp hz; exact k.via fun _ q => XT.iushr X.here hx rfl hd rfl q
theorem g_ladd (X : Stand p l e R s m args below meth c T locs cells slots) (hx : p.tables.exec = Jvm.exec) {x y z : Int64} (hd : decode c.code pc = .ok (.ladd, 1)) (hp : pc + 1 = pc') (hz : x + y = z)
    (k : OGo p e below K T (mkF m pc' Ls (.long z :: st))) : OGo p e below K T (mkF m pc Ls (.long y :: .long x :: st)) := by
  subst hp hz; exact k.via fun _ q => XT.ladd X.here hx rfl hd rfl q
theorem g_lsub (X : Stand p l e R s m args below meth c T locs cells slots) (hx : p.tables.exec = Jvm.exec) {x y z : Int64} (hd : decode c.code pc = .ok (.lsub, 1)) (hp : pc + 1 = pc') (hz : x - y = z)
    (k : OGo p e below K T (mkF m pc' Ls (.long z :: st))) : OGo p e below K T (mkF m pc Ls (.long y :: .long x :: st)) := by
  subst hp hz; exact k.via fun _ q => XT.lsub X.here hx rfl hd rfl q
theorem g_lmul (X : Stand p l e R s m args below meth c T locs cells slots) (hx : p.tables.exec = Jvm.exec) {x y z : Int64} (hd : decode c.code pc = .ok (.lmul, 1)) (hp : pc + 1 = pc') (hz : x * y = z)
    (k : OGo p e below K T (mkF m pc' Ls (.long z :: st))) : OGo p e below K T (mkF m pc Ls (.long y :: .long x :: st)) := by
  subst hp hz; exact k.via fun _ q => XT.lmul X.here hx rfl hd rfl q
theorem g_land (X : Stand p l e R s m args below meth c T locs cells slots) (hx : p.tables.exec = Jvm.exec) {x y z : Int64} (hd : decode c.code pc = .ok (.land, 1)) (hp : pc + 1 = pc') (hz : x &&& y = z)
    (k : OGo p e below K T (mkF m pc' Ls (.long z :: st))) : OGo p e below K T (mkF m pc Ls (.long y :: .long x :: st)) := by
  subst hp hz; exact k.via fun _ q => XT.land X.here hx rfl hd rfl q
theorem g_lor (X : Stand p l e R s m args below meth c T locs cells slots) (hx : p.tables.exec = Jvm.exec) {x y z : Int64} (hd : decode c.code pc = .ok (.lor, 1)) (hp : pc + 1 = pc') (hz : x ||| y = z)
    (k : OGo p e below K T (mkF m pc' Ls (.long z :: st))) : OGo p e below K T (mkF m pc Ls (.long y :: .long x :: st)) := by
  subst hp hz; exact k.via fun _ q => XT.lor X.here hx rfl hd rfl q
theorem g_lxor (X : Stand p l e R s m args below meth c T locs cells slots) (hx : p.tables.exec = Jvm.exec) {x y z : Int64} (hd : decode c.code pc = .ok (.lxor, 1)) (hp : pc + 1 = pc') (hz : x ^^^ y = z)
    (k : OGo p e below K T (mkF m pc' Ls (.long z :: st))) : OGo p e below K T (mkF m pc Ls (.long y :: .long x :: st)) := by
  subst hp hz; exact k.via fun _ q => XT.lxor X.here hx rfl hd rfl q
theorem g_lshl (X : Stand p l e R s m args below meth c T locs cells slots) (hx : p.tables.exec = Jvm.exec) {x : Int64} {y : Int32} (hd : decode c.code pc = .ok (.lshl, 1)) (hp : pc + 1 = pc')
    (k : OGo p e below K T (mkF m pc' Ls (.long (x <<< (y.toInt64 &&& 63)) :: st))) : OGo p e below K T (mkF m pc Ls (.int y :: .long x :: st)) := by
  subst hp; exact k.via fun _ q => XT.lshl X.here hx rfl hd rfl q
theorem g_lshr (X : Stand p l e R s m args below meth c T locs cells slots) (hx : p.tables.exec = Jvm.exec) {x : Int64} {y : Int32} (hd : decode c.code pc = .ok (.lshr, 1)) (hp : pc + 1 = pc')
    (k : OGo p e below K T (mkF m pc' Ls (.long (x >>> (y.toInt64 &&& 63)) :: st))) : OGo p e below K T (mkF m pc Ls (.int y :: .long x :: st)) := by
  subst hp; exact k.via fun _ q => XT.lshr X.here hx rfl hd rfl q
theorem g_lushr (X : Stand p l e R s m args below meth c T locs cells slots) (hx : p.tables.exec = Jvm.exec) {x : Int64} {y : Int32} (hd : decode c.code pc = .ok (.lushr, 1)) (hp : pc + 1 = pc')
    (k : OGo p e below K T (mkF m pc' Ls (.long (XT.ushrL x y) :: st))) : OGo p e below K T (mkF m pc Ls (.int y :: .long x :: st)) := by
  subst hp; exact k.via fun _ q => XT.lushr X.here hx rfl hd rfl q
theorem g_idiv (X : Stand p l e R s m args below meth c T locs cells slots) (hx : p.tables.exec = Jvm.exec) {x y : Int32} (hd : decode c.code pc = .ok (.idiv, 1)) (hp : pc + 1 = pc') (hy : y ≠ 0)
    (k : OGo p e below K T (mkF m pc' Ls (.int (x / y) :: st))) : OGo p e below K T (mkF m pc Ls (.int y :: .int x :: st)) := by
  subst hp; exact k.via fun _ q => XS.idiv X.here hx rfl hd rfl hy q
theorem g_irem (X : Stand p l e R s m args below meth c T locs cells slots) (hx : p.tables.exec = Jvm.exec) {x y : Int32} (hd : decode c.code pc = .ok (.irem, 1)) (hp : pc + 1 = pc') (hy : y ≠ 0)
    (k : OGo p e below K T (mkF m pc' Ls (.int (x % y) :: st))) : OGo p e below K T (mkF m pc Ls (.int y :: .int x :: st)) := by
  subst hp; exact k.via fun _ q => iremM X hx rfl hd rfl hy q
theorem g_ldiv (X : Stand p l e R s m args below meth c T locs cells slots) (hx : p.tables.exec = Jvm.exec) {x y : Int64} (hd : decode c.code pc = .ok (.ldiv, 1)) (hp : pc + 1 = pc') (hy : y ≠ 0)
    (k : OGo p e below K T (mkF m pc' Ls (.long (x / y) :: st))) : OGo p e below K T (mkF m pc Ls (.long y :: .long x :: st)) := by
  subst hp; exact k.via fun _ q => XT.ldiv X.here hx rfl hd rfl hy q
theorem g_lrem (X : Stand p l e R s m args below meth c T locs cells slots) (hx : p.tables.exec = Jvm.exec) {x y : Int64} (hd : decode c.code pc = .ok (.lrem, 1)) (hp : pc + 1 = pc') (hy : y ≠ 0)
    (k : OGo p e below K T (mkF m pc' Ls (.long (x % y) :: st))) : OGo p e below K T (mkF m pc Ls (.long y :: .long x :: st)) := by
  subst hp; exact k.via fun _ q => XT.lrem X.here hx rfl hd rfl hy (by rw [lrem_mod]; exact q)
theorem g_ineg (X : Stand p l e R s m args below meth c T locs cells slots) (hx : p.tables.exec = Jvm.exec) {x : Int32} (hd : decode c.code pc = .ok (.ineg, 1)) (hp : pc + 1 = pc')
    (k : OGo p e below K T (mkF m pc' Ls (.int (-x) :: st))) : OGo p e below K T (mkF m pc Ls (.int x :: st)) := by
  subst hp; exact k.via fun _ q => XS.ineg X.here hx rfl hd rfl q
theorem g_lneg (X : Stand p l e R s m args below meth c T locs cells slots) (hx : p.tables.exec = Jvm.exec) {x : Int64} (hd : decode c.code pc = .ok (.lneg, 1)) (hp : pc + 1 = pc')
    (k : OGo p e below K T (mkF m pc' Ls (.long (-x) :: st))) : OGo p e below K T (mkF m pc Ls (.long x :: st)) := by
  subst hp; exact k.via fun _ q => XT.lneg X.here hx rfl hd rfl q
theorem g_i2l (X : Stand p l e R s m args below meth c T locs cells slots) (hx : p.tables.exec = Jvm.exec) {x : Int32} (hd : decode c.code pc = .ok (.i2l, 1)) (hp : pc + 1 = pc')
    (k : OGo p e below K T (mkF m pc' Ls (.long x.toInt64 :: st))) : OGo p e below K T (mkF m pc Ls (.int x :: st)) := by
  subst hp; exact k.via fun _ q => XT.i2l X.here hx rfl hd rfl q
theorem g_l2i (X : Stand p l e R s m args below meth c T locs cells slots) (hx : p.tables.exec = Jvm.exec) {x : Int64} (hd : decode c.code pc = .ok (.l2i, 1)) (hp : pc + 1 = pc')
    (k : OGo p e below K T (mkF m pc' Ls (.int x.toInt32 :: st))) : OGo p e below K T (mkF m pc Ls (.long x :: st)) := by
  subst hp; exact k.via fun _ q => XT.l2i X.here hx rfl hd rfl q
theorem g_i2b (X : Stand p l e R s m args below meth c T locs cells slots) (hx : p.tables.exec = Jvm.exec) {x : Int32} (hd : decode c.code pc = .ok (.i2b, 1)) (hp : pc + 1 = pc')
    (k : OGo p e below K T (mkF m pc' Ls (.int x.toInt8.toInt32 :: st))) : OGo p e below K T (mkF m pc Ls (.int x :: st)) := by
  subst hp; exact k.via fun _ q => XT.i2b X.here hx rfl hd rfl q
theorem g_i2c (X : Stand p l e R s m args below meth c T locs cells slots) (hx : p.tables.exec = Jvm.exec) {x : Int32} (hd : decode c.code pc = .ok (.i2c, 1)) (hp : pc + 1 = pc')
    (k : OGo p e below K T (mkF m pc' Ls (.int x.toUInt32.toUInt16.toUInt32.toInt32 :: st))) : OGo p e below K T (mkF m pc Ls (.int x :: st)) := by
  subst hp; exact k.via fun _ q => XT.i2c X.here hx rfl hd rfl q
theorem g_i2s (X : Stand p l e R s m args below meth c T locs cells slots) (hx : p.tables.exec = Jvm.exec) {x : Int32} (hd : decode c.code pc = .ok (.i2s, 1)) (hp : pc + 1 = pc')
    (k : OGo p e below K T (mkF m pc' Ls (.int x.toInt16.toInt32 :: st))) : OGo p e below K T (mkF m pc Ls (.int x :: st)) := by
  subst hp; exact k.via fun _ q => XT.i2s X.here hx rfl hd rfl q
theorem g_lcmp (X : Stand p l e R s m args below meth c T locs cells slots) (hx : p.tables.exec = Jvm.exec) {x y : Int64} (hd : decode c.code pc = .ok (.lcmp, 1)) (hp : pc + 1 = pc')
    (k : OGo p e below K T (mkF m pc' Ls (.int (XT.cmpL x y) :: st))) : OGo p e below K T (mkF m pc Ls (.long y :: .long x :: st)) := by
  subst hp; exact k.via fun _ q => XT.lcmp X.here hx rfl hd rfl q
theorem g_dup (X : Stand p l e R s m args below meth c T locs cells slots) (hx : p.tables.exec = Jvm.exec) {x : Value} (hd : decode c.code pc = .ok (.dup, 1)) (hp : pc + 1 = pc') (hc : x.category = 1)
    (k : OGo p e below K T (mkF m pc' Ls (x :: x :: st))) : OGo p e below K T (mkF m pc Ls (x :: st)) := by
  subst hp; exact k.via fun _ q => XS.dup X.here hx rfl hd rfl hc q
theorem g_pop (X : Stand p l e R s m args below meth c T locs cells slots) (hx : p.tables.exec = Jvm.exec) {x : Value} (hd : decode c.code pc = .ok (.pop, 1)) (hp : pc + 1 = pc') (hc : x.category = 1)
    (k : OGo p e below K T (mkF m pc' Ls (st))) : OGo p e below K T (mkF m pc Ls (x :: st)) := by
  subst hp; exact k.via fun _ q => XT.pop X.here hx rfl hd rfl hc q
theorem g_dupx1 (X : Stand p l e R s m args below meth c T locs cells slots) (hx : p.tables.exec = Jvm.exec) {x y : Value} (hd : decode c.code pc = .ok (.dup_x1, 1)) (hp : pc + 1 = pc') (hc : x.category = 1) (hc' : y.category = 1)
    (k : OGo p e below K T (mkF m pc' Ls (x :: y :: x :: st))) : OGo p e below K T (mkF m pc Ls (x :: y :: st)) := by
  subst hp; exact k.via fun _ q => XT.dupX1 X.here hx rfl hd rfl hc hc' q
theorem g_dup2 (X : Stand p l e R s m args below meth c T locs cells slots) (hx : p.tables.exec = Jvm.exec) {x y : Value} (hd : decode c.code pc = .ok (.dup2, 1)) (hp : pc + 1 = pc') (hc : x.category = 1) (hc' : y.category = 1)
    (k : OGo p e below K T (mkF m pc' Ls (x :: y :: x :: y :: st))) : OGo p e below K T (mkF m pc Ls (x :: y :: st)) := by
  subst hp; exact k.via fun _ q => XT.dup2 X.here hx rfl hd rfl hc hc' q
theorem g_dup2L (X : Stand p l e R s m args below meth c T locs cells slots) (hx : p.tables.exec = Jvm.exec) {x : Int64} (hd : decode c.code pc = .ok (.dup2, 1)) (hp : pc + 1 = pc')
    (k : OGo p e below K T (mkF m pc' Ls (.long x :: .long x :: st))) : OGo p e below K T (mkF m pc Ls (.long x :: st)) := by
  subst hp; exact k.via fun _ q => XT.dup2L X.here hx rfl hd rfl q
theorem g_iinc (X : Stand p l e R s m args below meth c T locs cells slots) (hx : p.tables.exec = Jvm.exec) {k : Nat} {cst : Int} {x z : Int32} {Ls' : Array Slot} (v : Int32) (hd : decode c.code pc = .ok (.iinc k cst, 3)) (hp : pc + 3 = pc') (hv : Int32.ofInt cst = v) (hl : Ls[k]? = some (.val (.int x))) (hs : x + v = z) (hl' : storeLocals Ls k (.int z) = some Ls')
    (k : OGo p e below K T (mkF m pc' Ls' st)) : OGo p e below K T (mkF m pc Ls st) := by
  subst hp hs; exact k.via fun _ q => XT.iincV X.here hx rfl v hd hv hl hl' q
theorem g_ifY (X : Stand p l e R s m args below meth c T locs cells slots) (hx : p.tables.exec = Jvm.exec) {cd : ClassFile.Cond} {x : Int32} {o : Int} (hd : decode c.code pc = .ok (.ifCond cd o, 3)) (hc : ifCond.holds cd x = true) (ho : 0 ≤ (pc : Int) + o) (hp : ((pc : Int) + o).toNat = pc')
    (k : OGo p e below K T (mkF m pc' Ls st)) : OGo p e below K T (mkF m pc Ls (.int x :: st)) := k.via fun _ q => XS.ifYes X.here hx rfl rfl hd rfl hc ho hp q
theorem g_ifN (X : Stand p l e R s m args below meth c T locs cells slots) (hx : p.tables.exec = Jvm.exec) {cd : ClassFile.Cond} {x : Int32} {o : Int} (hd : decode c.code pc = .ok (.ifCond cd o, 3)) (hc : ifCond.holds cd x = false) (hp : pc + 3 = pc')
    (k : OGo p e below K T (mkF m pc' Ls st)) : OGo p e below K T (mkF m pc Ls (.int x :: st)) := by
  subst hp; exact k.via fun _ q => XS.ifNo X.here hx rfl hd rfl hc q
theorem g_icmpY (X : Stand p l e R s m args below meth c T locs cells slots) (hx : p.tables.exec = Jvm.exec) {cd : ClassFile.Cond} {x y : Int32} {o : Int} (hd : decode c.code pc = .ok (.if_icmp cd o, 3)) (hc : if_icmp.holds cd x y = true) (ho : 0 ≤ (pc : Int) + o) (hp : ((pc : Int) + o).toNat = pc')
    (k : OGo p e below K T (mkF m pc' Ls st)) : OGo p e below K T (mkF m pc Ls (.int y :: .int x :: st)) := k.via fun _ q => XS.icmpYes X.here hx rfl rfl hd rfl hc ho hp q
theorem g_icmpN (X : Stand p l e R s m args below meth c T locs cells slots) (hx : p.tables.exec = Jvm.exec) {cd : ClassFile.Cond} {x y : Int32} {o : Int} (hd : decode c.code pc = .ok (.if_icmp cd o, 3)) (hc : if_icmp.holds cd x y = false) (hp : pc + 3 = pc')
    (k : OGo p e below K T (mkF m pc' Ls st)) : OGo p e below K T (mkF m pc Ls (.int y :: .int x :: st)) := by
  subst hp; exact k.via fun _ q => XS.icmpNo X.here hx rfl hd rfl hc q
theorem g_acmpY (X : Stand p l e R s m args below meth c T locs cells slots) (hx : p.tables.exec = Jvm.exec) {cd : ClassFile.ACond} {x y : Value} {o : Int} (hd : decode c.code pc = .ok (.if_acmp cd o, 3)) (hx1 : x.isRef = true) (hy1 : y.isRef = true) (hc : XT.acmp cd x y = true) (ho : 0 ≤ (pc : Int) + o) (hp : ((pc : Int) + o).toNat = pc')
    (k : OGo p e below K T (mkF m pc' Ls st)) : OGo p e below K T (mkF m pc Ls (y :: x :: st)) := k.via fun _ q => XT.acmpYes X.here hx rfl rfl hd rfl hx1 hy1 hc ho hp q
theorem g_acmpN (X : Stand p l e R s m args below meth c T locs cells slots) (hx : p.tables.exec = Jvm.exec) {cd : ClassFile.ACond} {x y : Value} {o : Int} (hd : decode c.code pc = .ok (.if_acmp cd o, 3)) (hx1 : x.isRef = true) (hy1 : y.isRef = true) (hc : XT.acmp cd x y = false) (hp : pc + 3 = pc')
    (k : OGo p e below K T (mkF m pc' Ls st)) : OGo p e below K T (mkF m pc Ls (y :: x :: st)) := by
  subst hp; exact k.via fun _ q => XT.acmpNo X.here hx rfl hd rfl hx1 hy1 hc q
theorem g_nullY (X : Stand p l e R s m args below meth c T locs cells slots) (hx : p.tables.exec = Jvm.exec) {o : Int} (hd : decode c.code pc = .ok (.ifnull o, 3)) (ho : 0 ≤ (pc : Int) + o) (hp : ((pc : Int) + o).toNat = pc')
    (k : OGo p e below K T (mkF m pc' Ls st)) : OGo p e below K T (mkF m pc Ls (.null :: st)) := k.via fun _ q => XS.ifnullYes X.here hx rfl rfl hd rfl ho hp q
theorem g_nullN (X : Stand p l e R s m args below meth c T locs cells slots) (hx : p.tables.exec = Jvm.exec) {o : Int} {a : Addr} (hd : decode c.code pc = .ok (.ifnull o, 3)) (hp : pc + 3 = pc')
    (k : OGo p e below K T (mkF m pc' Ls st)) : OGo p e below K T (mkF m pc Ls (.ref a :: st)) := by
  subst hp; exact k.via fun _ q => XS.ifnullNo X.here hx rfl hd rfl q
theorem g_nonnullY (X : Stand p l e R s m args below meth c T locs cells slots) (hx : p.tables.exec = Jvm.exec) {o : Int} {a : Addr} (hd : decode c.code pc = .ok (.ifnonnull o, 3)) (ho : 0 ≤ (pc : Int) + o) (hp : ((pc : Int) + o).toNat = pc')
    (k : OGo p e below K T (mkF m pc' Ls st)) : OGo p e below K T (mkF m pc Ls (.ref a :: st)) := k.via fun _ q => XT.ifnonnullYes X.here hx rfl rfl hd rfl ho hp q
theorem g_nonnullN (X : Stand p l e R s m args below meth c T locs cells slots) (hx : p.tables.exec = Jvm.exec) {o : Int} (hd : decode c.code pc = .ok (.ifnonnull o, 3)) (hp : pc + 3 = pc')
    (k : OGo p e below K T (mkF m pc' Ls st)) : OGo p e below K T (mkF m pc Ls (.null :: st)) := by
  subst hp; exact k.via fun _ q => XT.ifnonnullNo X.here hx rfl hd rfl q
theorem g_goto (X : Stand p l e R s m args below meth c T locs cells slots) (hx : p.tables.exec = Jvm.exec) {o : Int} (hd : decode c.code pc = .ok (.goto o, 3)) (ho : 0 ≤ (pc : Int) + o) (hp : ((pc : Int) + o).toNat = pc')
    (k : OGo p e below K T (mkF m pc' Ls st)) : OGo p e below K T (mkF m pc Ls st) := k.via fun _ q => XS.goto X.here hx rfl rfl hd ho hp q
theorem g_len (X : Stand p l e R s m args below meth c T locs cells slots) (hx : p.tables.exec = Jvm.exec) (hZ : Z.Warmed39 s.vm) (eT : T.heap = h) {a : Addr} {kk : ClassId} {ty : FieldType} {vs : List Value} (F : OAry Z h a kk ty vs) {z : Int32} (hz : vs.length.toInt32 = z) (hd : decode c.code pc = .ok (.arraylength, 1)) (hp : pc + 1 = pc')
    (k : OGo p e below K T (mkF m pc' Ls (.int z :: st))) : OGo p e below K T (mkF m pc Ls (.ref a :: st)) := by
  subst hp hz
  obtain ⟨cl, A, r1, rfl, -⟩ := F
  refine k.via fun t q => X.arraylength hx (cell := cl) (a := a) (by rw [eT]; exact A.1) (State.isArrayOf_alike hZ.alike A.2.1) (g := mkF m pc Ls (.ref a :: st)) rfl (rest := st) rfl hd t ?_
  simpa using q
theorem g_iaload (X : Stand p l e R s m args below meth c T locs cells slots) (hx : p.tables.exec = Jvm.exec) (hZ : Z.Warmed39 s.vm) (eT : T.heap = h) {a : Addr} {kk : ClassId} {vs : List Value} (F : OAry Z h a kk .int vs) {j : Int32} {v : Value} (hj : ¬ j < 0) (hv : vs[j.toNatClampNeg]? = some v) (hd : decode c.code pc = .ok (.iaload, 1)) (hp : pc + 1 = pc')
    (k : OGo p e below K T (mkF m pc' Ls (v :: st))) : OGo p e below K T (mkF m pc Ls (.int j :: .ref a :: st)) := by
  subst hp
  obtain ⟨cl, A, r1, r2, -⟩ := F
  exact k.via fun t q => X.iaload hx (cell := cl) (a := a) (j := j) (v := v) (by rw [eT]; exact A.1) (State.isArrayOf_alike hZ.alike A.2.1) A.2.2 (aryIn r2 hj hv).1 (aryIn r2 hj hv).2 (g := mkF m pc Ls (.int j :: .ref a :: st)) rfl (rest := st) rfl hd t q
theorem g_laload (X : Stand p l e R s m args below meth c T locs cells slots) (hx : p.tables.exec = Jvm.exec) (hZ : Z.Warmed39 s.vm) (eT : T.heap = h) {a : Addr} {kk : ClassId} {vs : List Value} (F : OAry Z h a kk .long vs) {j : Int32} {v : Value} (hj : ¬ j < 0) (hv : vs[j.toNatClampNeg]? = some v) (hd : decode c.code pc = .ok (.laload, 1)) (hp : pc + 1 = pc')
    (k : OGo p e below K T (mkF m pc' Ls (v :: st))) : OGo p e below K T (mkF m pc Ls (.int j :: .ref a :: st)) := by
  subst hp
  obtain ⟨cl, A, r1, r2, -⟩ := F
  exact k.via fun t q => X.laload hx (cell := cl) (a := a) (j := j) (v := v) (by rw [eT]; exact A.1) (State.isArrayOf_alike hZ.alike A.2.1) A.2.2 (aryIn r2 hj hv).1 (aryIn r2 hj hv).2 (g := mkF m pc Ls (.int j :: .ref a :: st)) rfl (rest := st) rfl hd t q
theorem g_caload (X : Stand p l e R s m args below meth c T locs cells slots) (hx : p.tables.exec = Jvm.exec) (hZ : Z.Warmed39 s.vm) (eT : T.heap = h) {a : Addr} {kk : ClassId} {vs : List Value} (F : OAry Z h a kk .char vs) {j : Int32} {v : Value} (hj : ¬ j < 0) (hv : vs[j.toNatClampNeg]? = some v) (hd : decode c.code pc = .ok (.caload, 1)) (hp : pc + 1 = pc')
    (k : OGo p e below K T (mkF m pc' Ls (v :: st))) : OGo p e below K T (mkF m pc Ls (.int j :: .ref a :: st)) := by
  subst hp
  obtain ⟨cl, A, r1, r2, -⟩ := F
  exact k.via fun t q => X.caload hx (cell := cl) (a := a) (j := j) (v := v) (by rw [eT]; exact A.1) (State.isArrayOf_alike hZ.alike A.2.1) A.2.2 (aryIn r2 hj hv).1 (aryIn r2 hj hv).2 (g := mkF m pc Ls (.int j :: .ref a :: st)) rfl (rest := st) rfl hd t q
theorem g_baload (X : Stand p l e R s m args below meth c T locs cells slots) (hx : p.tables.exec = Jvm.exec) (hZ : Z.Warmed39 s.vm) (eT : T.heap = h) {a : Addr} {kk : ClassId} {vs : List Value} (F : OAry Z h a kk .byte vs) {j : Int32} {v : Value} (hj : ¬ j < 0) (hv : vs[j.toNatClampNeg]? = some v) (hd : decode c.code pc = .ok (.baload, 1)) (hp : pc + 1 = pc')
    (k : OGo p e below K T (mkF m pc' Ls (v :: st))) : OGo p e below K T (mkF m pc Ls (.int j :: .ref a :: st)) := by
  subst hp
  obtain ⟨cl, A, r1, r2, -⟩ := F
  exact k.via fun t q => X.baloadBytes hx (cell := cl) (a := a) (j := j) (v := v) (by rw [eT]; exact A.1) (State.isArrayOf_alike hZ.alike A.2.1) A.2.2 (aryIn r2 hj hv).1 (aryIn r2 hj hv).2 (g := mkF m pc Ls (.int j :: .ref a :: st)) rfl (rest := st) rfl hd t q
theorem g_zaload (X : Stand p l e R s m args below meth c T locs cells slots) (hx : p.tables.exec = Jvm.exec) (hZ : Z.Warmed39 s.vm) (eT : T.heap = h) {a : Addr} {kk : ClassId} {vs : List Value} (F : OAry Z h a kk .boolean vs) {j : Int32} {v : Value} (hj : ¬ j < 0) (hv : vs[j.toNatClampNeg]? = some v) (hd : decode c.code pc = .ok (.baload, 1)) (hp : pc + 1 = pc')
    (k : OGo p e below K T (mkF m pc' Ls (v :: st))) : OGo p e below K T (mkF m pc Ls (.int j :: .ref a :: st)) := by
  subst hp
  obtain ⟨cl, A, r1, r2, -⟩ := F
  exact k.via fun t q => X.baloadBooleans hx (cell := cl) (a := a) (j := j) (v := v) (by rw [eT]; exact A.1) (State.isArrayOf_alike hZ.alike A.2.1) A.2.2 (aryIn r2 hj hv).1 (aryIn r2 hj hv).2 (g := mkF m pc Ls (.int j :: .ref a :: st)) rfl (rest := st) rfl hd t q
theorem g_saload (X : Stand p l e R s m args below meth c T locs cells slots) (hx : p.tables.exec = Jvm.exec) (hZ : Z.Warmed39 s.vm) (eT : T.heap = h) {a : Addr} {kk : ClassId} {vs : List Value} (F : OAry Z h a kk .short vs) {j : Int32} {v : Value} (hj : ¬ j < 0) (hv : vs[j.toNatClampNeg]? = some v) (hd : decode c.code pc = .ok (.saload, 1)) (hp : pc + 1 = pc')
    (k : OGo p e below K T (mkF m pc' Ls (v :: st))) : OGo p e below K T (mkF m pc Ls (.int j :: .ref a :: st)) := by
  subst hp
  obtain ⟨cl, A, r1, r2, -⟩ := F
  exact k.via fun t q => X.saload hx (cell := cl) (a := a) (j := j) (v := v) (by rw [eT]; exact A.1) (State.isArrayOf_alike hZ.alike A.2.1) A.2.2 (aryIn r2 hj hv).1 (aryIn r2 hj hv).2 (g := mkF m pc Ls (.int j :: .ref a :: st)) rfl (rest := st) rfl hd t q
theorem g_aaload (X : Stand p l e R s m args below meth c T locs cells slots) (hx : p.tables.exec = Jvm.exec) (hZ : Z.Warmed39 s.vm) (eT : T.heap = h) {a : Addr} {kk : ClassId} {ty : FieldType} {vs : List Value} (F : OAry Z h a kk ty vs) (hty : ty.isReference = true) {j : Int32} {v : Value} (hj : ¬ j < 0) (hv : vs[j.toNatClampNeg]? = some v) (hd : decode c.code pc = .ok (.aaload, 1)) (hp : pc + 1 = pc')
    (k : OGo p e below K T (mkF m pc' Ls (v :: st))) : OGo p e below K T (mkF m pc Ls (.int j :: .ref a :: st)) := by
  subst hp
  obtain ⟨cl, A, r1, r2, -⟩ := F
  exact k.via fun t q => X.aaload hx (cell := cl) (a := a) (j := j) (v := v) (by rw [eT]; exact A.1) (State.isArrayOf_alike hZ.alike A.2.1) hty A.2.2 (aryIn r2 hj hv).1 (aryIn r2 hj hv).2 (g := mkF m pc Ls (.int j :: .ref a :: st)) rfl (rest := st) rfl hd t q
theorem g_iastore (X : Stand p l e R s m args below meth c T locs cells slots) (hx : p.tables.exec = Jvm.exec) (hZ : Z.Warmed39 s.vm) (eT : T.heap = h) {a : Addr} {kk : ClassId} {vs vs' : List Value} (F : OAry Z h a kk .int vs) {j : Int32} {u : Value} {x : Int32} (hj : ¬ j < 0) (hv : vs[j.toNatClampNeg]? = some u) (hvs : vs.set j.toNatClampNeg (.int x) = vs') (P : OPr h0 ws h locs) (q : a ∈ ws ∨ h0.size ≤ a) (hd : decode c.code pc = .ok (.iastore, 1)) (hp : pc + 1 = pc')
    (k : ∀ T' h', Stand p l e R s m args below meth c T' (locs ++ [⟨a, j.toNatClampNeg⟩]) cells slots → T'.heap = h' → Wr h h' a j.toNatClampNeg (.int x) → OPr h0 ws h' (locs ++ [⟨a, j.toNatClampNeg⟩]) → OAry Z h' a kk .int vs' → OGo p e below K T' (mkF m pc' Ls st)) : OGo p e below K T (mkF m pc Ls (.int x :: .int j :: .ref a :: st)) := by
  subst hp
  obtain ⟨cl, A, r1, r2, r3⟩ := F
  obtain ⟨T', h', X', e', W', r⟩ := stI X hx hZ eT A (aryIn r2 hj hv).1 (g := mkF m pc Ls (.int x :: .int j :: .ref a :: st)) rfl rfl hd
  exact (k T' h' X' e' W' (P.wr W' q) (arySet ⟨cl, A, r1, r2, r3⟩ W' rfl hvs)).via r
theorem g_lastore (X : Stand p l e R s m args below meth c T locs cells slots) (hx : p.tables.exec = Jvm.exec) (hZ : Z.Warmed39 s.vm) (eT : T.heap = h) {a : Addr} {kk : ClassId} {vs vs' : List Value} (F : OAry Z h a kk .long vs) {j : Int32} {u : Value} {x : Int64} (hj : ¬ j < 0) (hv : vs[j.toNatClampNeg]? = some u) (hvs : vs.set j.toNatClampNeg (.long x) = vs') (P : OPr h0 ws h locs) (q : a ∈ ws ∨ h0.size ≤ a) (hd : decode c.code pc = .ok (.lastore, 1)) (hp : pc + 1 = pc')
    (k : ∀ T' h', Stand p l e R s m args below meth c T' (locs ++ [⟨a, j.toNatClampNeg⟩]) cells slots → T'.heap = h' → Wr h h' a j.toNatClampNeg (.long x) → OPr h0 ws h' (locs ++ [⟨a, j.toNatClampNeg⟩]) → OAry Z h' a kk .long vs' → OGo p e below K T' (mkF m pc' Ls st)) : OGo p e below K T (mkF m pc Ls (.long x :: .int j :: .ref a :: st)) := by
  subst hp
  obtain ⟨cl, A, r1, r2, r3⟩ := F
  obtain ⟨T', h', X', e', W', r⟩ := stJ X hx hZ eT A (aryIn r2 hj hv).1 (g := mkF m pc Ls (.long x :: .int j :: .ref a :: st)) rfl rfl hd
  exact (k T' h' X' e' W' (P.wr W' q) (arySet ⟨cl, A, r1, r2, r3⟩ W' rfl hvs)).via r
theorem g_aastore (X : Stand p l e R s m args below meth c T locs cells slots) (hx : p.tables.exec = Jvm.exec) (hZ : Z.Warmed39 s.vm) (eT : T.heap = h) {a : Addr} {kk : ClassId} {ty : FieldType} {vs vs' : List Value} (F : OAry Z h a kk ty vs) (hty : ty.isReference = true) {j : Int32} {u x : Value} (hj : ¬ j < 0) (hv : vs[j.toNatClampNeg]? = some u) (hvs : vs.set j.toNatClampNeg x = vs') (hf : fits ty x = true) (S : Sto Z h a x) (P : OPr h0 ws h locs) (q : a ∈ ws ∨ h0.size ≤ a) (hd : decode c.code pc = .ok (.aastore, 1)) (hp : pc + 1 = pc')
    (k : ∀ T' h', Stand p l e R s m args below meth c T' (locs ++ [⟨a, j.toNatClampNeg⟩]) cells slots → T'.heap = h' → Wr h h' a j.toNatClampNeg x → OPr h0 ws h' (locs ++ [⟨a, j.toNatClampNeg⟩]) → OAry Z h' a kk ty vs' → OGo p e below K T' (mkF m pc' Ls st)) : OGo p e below K T (mkF m pc Ls (x :: .int j :: .ref a :: st)) := by
  subst hp
  obtain ⟨cl, A, r1, r2, r3⟩ := F
  obtain ⟨T', h', X', e', W', r⟩ := stR X hx hZ eT A (aryIn r2 hj hv).1 hty S (g := mkF m pc Ls (x :: .int j :: .ref a :: st)) rfl rfl hd
  exact (k T' h' X' e' W' (P.wr W' q) (arySet ⟨cl, A, r1, r2, r3⟩ W' hf hvs)).via r
theorem fit0 (ty : FieldType) : fits ty (defaultValue ty) = true := by cases ty <;> rfl
theorem stoOf {a y : Addr} {kk : ClassId} {ty : FieldType} {vs : List Value} {C : String} (F : OAry Z h a kk ty vs) (O : Ovr Z kk C) (I : Ins Z h y C true) : Sto Z h a (.ref y) := by
  obtain ⟨cl, A, r1, -⟩ := F; exact Sto.ofV A r1 O I
theorem g_newarray (X : Stand p l e R s m args below meth c T locs cells slots) (hx : p.tables.exec = Jvm.exec) (hZ : Z.Warmed39 s.vm) {aty : ArrayType} {ad : String} (had : "[" ++ (newarray.typeOf aty).toString = ad) (w : (Jvm.Cond.arrayClass (newarray.typeOf aty)).before a0 Z = true) (eT : T.heap = h) {n : Int32} {vs : List Value} (hn : ¬ n < 0) (hvs : List.replicate n.toNatClampNeg (defaultValue (newarray.typeOf aty)) = vs) {cap : Nat} (hcap : n.toNatClampNeg ≤ cap) (hb : cap * 8 ≤ 536870912) (P : OPr h0 ws h locs)  (hd : decode c.code pc = .ok (.newarray aty, 2)) (hp : pc + 2 = pc') (hc : cells + 1 ≤ R.cells) (hl : slots + cap ≤ R.slots)
    (k : ∀ T' h' a kk, a = h.size → h0.size ≤ a → Stand p l e R s m args below meth c T' locs (cells + 1) (slots + cap) → T'.heap = h' → Ext h h' → OPr h0 ws h' locs → OAry Z h' a kk (newarray.typeOf aty) vs → Exa Z h' a ad → OGo p e below K T' (mkF m pc' Ls (.ref a :: st))) : OGo p e below K T (mkF m pc Ls (.int n :: st)) := by
  subst hp hvs had
  have hcb : componentBytes (newarray.typeOf aty) ≤ 8 := by cases aty <;> decide
  obtain ⟨cA, kA, comp, h1, h2, h3, X', r⟩ := X.newarrayPrim hx (mvA hZ w) (g := mkF m pc Ls (.int n :: st)) rfl hd rfl hn (Nat.le_trans (Nat.mul_le_mul hcap hcb) hb) hc (by omega)
  subst eT
  rw [hZ.alike.findClass] at h1
  obtain ⟨kZ, z1, -⟩ := Vm.findClass_spec h1
  obtain ⟨k', z2, z3⟩ := hZ.alike.2.2 _ _ z1
  cases h2.symm.trans z2
  have kk : kZ.kind = .array comp (newarray.typeOf aty) := by rw [← h3, z3]
  have hN : (T.heap.push (newA cA (newarray.typeOf aty) n))[T.heap.size]? = some (newA cA (newarray.typeOf aty) n) := by simp
  have A' : Arr Z (T.heap.push (newA cA (newarray.typeOf aty) n)) T.heap.size (newA cA (newarray.typeOf aty) n) (newarray.typeOf aty) := ⟨hN, ⟨by simp [newA], kZ, z1, comp, kk⟩, by simp [newA]⟩
  have E' : Ext T.heap (T.heap.push (newA cA (newarray.typeOf aty) n)) := ext_of fun a q => Array.getElem?_push_lt q |>.trans (Array.getElem?_eq_getElem q).symm
  refine (k _ _ T.heap.size cA rfl P.1.1 (X'.more (Nat.le_refl _) (by omega)) rfl E' (P.ext E') ⟨_, A', rfl, by simp [newA], by have := (back32 hn).2; simpa using this, fun v hv => ?_⟩ (exa_arr A' h1 rfl)).via r
  rw [(List.mem_replicate.mp hv).2]; exact fit0 _
theorem g_anewarray (X : Stand p l e R s m args below meth c T locs cells slots) (hx : p.tables.exec = Jvm.exec) (hZ : Z.Warmed39 s.vm) (hown : s.vm.findClass own = some m.cls) {C : String} {index : Nat} (w1 : (Jvm.Cond.classLink own index C).before a0 Z = true) (w2 : (Jvm.Cond.arrayOver (.object C)).before a0 Z = true) {ad : String} (had : "[" ++ (FieldType.object C).toString = ad) (eT : T.heap = h) {n : Int32} {vs : List Value} (hn : ¬ n < 0) (hvs : List.replicate n.toNatClampNeg Value.null = vs) {cap : Nat} (hcap : n.toNatClampNeg ≤ cap) (hb : cap * 8 ≤ 536870912) (P : OPr h0 ws h locs) (hd : decode c.code pc = .ok (.anewarray index, 3)) (hp : pc + 3 = pc') (hc : cells + 1 ≤ R.cells) (hl : slots + cap ≤ R.slots)
    (k : ∀ T' h' a kk, a = h.size → h0.size ≤ a → Stand p l e R s m args below meth c T' locs (cells + 1) (slots + cap) → T'.heap = h' → Ext h h' → OPr h0 ws h' locs → OAry Z h' a kk (.object C) vs → Ovr Z kk C → Exa Z h' a ad → OGo p e below K T' (mkF m pc' Ls (.ref a :: st))) : OGo p e below K T (mkF m pc Ls (.int n :: st)) := by
  subst hp hvs
  obtain ⟨T', h', cA, X', e', E', A', B', O', r⟩ := newRE X hx hZ hown w1 w2 eT (g := mkF m pc Ls (.int n :: st)) rfl hd rfl hn hcap hb hc hl had
  refine (k T' h' h.size cA rfl P.1.1 X' e' E' (P.ext E') ⟨_, A', rfl, by simp [newA, defaultValue], by have := (back32 hn).2; simpa using this, fun v hv => ?_⟩ O' B').via r
  rw [(List.mem_replicate.mp hv).2]; rfl
theorem g_anewarrayA (X : Stand p l e R s m args below meth c T locs cells slots) (hx : p.tables.exec = Jvm.exec) (hZ : Z.Warmed39 s.vm) (hown : s.vm.findClass own = some m.cls) {C : String} {ty : FieldType} {index : Nat} (hC : (FieldType.array ty).toString = C) (w1 : (Jvm.Cond.classLink own index C).before a0 Z = true) (w2 : (Jvm.Cond.arrayOver (.array ty)).before a0 Z = true) {ad : String} (had : "[" ++ C = ad) (eT : T.heap = h) {n : Int32} {vs : List Value} (hn : ¬ n < 0) (hvs : List.replicate n.toNatClampNeg Value.null = vs) {cap : Nat} (hcap : n.toNatClampNeg ≤ cap) (hb : cap * 8 ≤ 536870912) (P : OPr h0 ws h locs) (hd : decode c.code pc = .ok (.anewarray index, 3)) (hp : pc + 3 = pc') (hc : cells + 1 ≤ R.cells) (hl : slots + cap ≤ R.slots)
    (k : ∀ T' h' a kk, a = h.size → h0.size ≤ a → Stand p l e R s m args below meth c T' locs (cells + 1) (slots + cap) → T'.heap = h' → Ext h h' → OPr h0 ws h' locs → OAry Z h' a kk (.array ty) vs → OvrA Z kk ty C → OGo p e below K T' (mkF m pc' Ls (.ref a :: st))) : OGo p e below K T (mkF m pc Ls (.int n :: st)) := by
  subst hp hvs
  obtain ⟨T', h', cA, X', e', E', A', -, O', r⟩ := newRA X hx hZ hown hC w1 w2 eT (g := mkF m pc Ls (.int n :: st)) rfl hd rfl hn hcap hb hc hl had
  refine (k T' h' h.size cA rfl P.1.1 X' e' E' (P.ext E') ⟨_, A', rfl, by simp [newA, defaultValue], by have := (back32 hn).2; simpa using this, fun v hv => ?_⟩ O').via r
  rw [(List.mem_replicate.mp hv).2]; rfl
theorem stoOfA {a y : Addr} {kk : ClassId} {t0 ty : FieldType} {vs : List Value} {C : String} (F : OAry Z h a kk t0 vs) (O : OvrA Z kk ty C) (I : Ins Z h y C true) : Sto Z h a (.ref y) := by
  obtain ⟨cl, A, r1, -⟩ := F; exact Sto.ofVA A r1 O I
theorem g_castN (X : Stand p l e R s m args below meth c T locs cells slots) (hx : p.tables.exec = Jvm.exec) {index : Nat} (hd : decode c.code pc = .ok (.checkcast index, 3)) (hp : pc + 3 = pc')
    (k : OGo p e below K T (mkF m pc' Ls (.null :: st))) : OGo p e below K T (mkF m pc Ls (.null :: st)) := by
  subst hp; exact k.via fun t q => X.checkcastNull hx (g := mkF m pc Ls (.null :: st)) rfl rfl hd t q
theorem g_instN0 (X : Stand p l e R s m args below meth c T locs cells slots) (hx : p.tables.exec = Jvm.exec) {index : Nat} (hd : decode c.code pc = .ok (.instanceof index, 3)) (hp : pc + 3 = pc')
    (k : OGo p e below K T (mkF m pc' Ls (.int 0 :: st))) : OGo p e below K T (mkF m pc Ls (.null :: st)) := by
  subst hp; exact k.via fun t q => X.instanceofNull hx (g := mkF m pc Ls (.null :: st)) rfl rfl hd t q
theorem g_cast (X : Stand p l e R s m args below meth c T locs cells slots) (hx : p.tables.exec = Jvm.exec) (hZ : Z.Warmed39 s.vm) (hown : s.vm.findClass own = some m.cls) {Kc : String} {index : Nat} (w : (Jvm.Cond.classLink own index Kc).before a0 Z = true) (eT : T.heap = h) {a : Addr} (F : Ins Z h a Kc true) (hd : decode c.code pc = .ok (.checkcast index, 3)) (hp : pc + 3 = pc')
    (k : ∀ T', Stand p l e R s m args below meth c T' locs cells slots → T'.heap = h → OGo p e below K T' (mkF m pc' Ls (.ref a :: st))) : OGo p e below K T (mkF m pc Ls (.ref a :: st)) := by
  subst hp
  obtain ⟨T', X', e', q⟩ := castY X hx hZ hown w eT F (g := mkF m pc Ls (.ref a :: st)) rfl rfl hd
  exact (k T' X' e').via q
theorem g_instY (X : Stand p l e R s m args below meth c T locs cells slots) (hx : p.tables.exec = Jvm.exec) (hZ : Z.Warmed39 s.vm) (hown : s.vm.findClass own = some m.cls) {Kc : String} {index : Nat} (w : (Jvm.Cond.classLink own index Kc).before a0 Z = true) (eT : T.heap = h) {a : Addr} (F : Ins Z h a Kc true) (hd : decode c.code pc = .ok (.instanceof index, 3)) (hp : pc + 3 = pc')
    (k : ∀ T', Stand p l e R s m args below meth c T' locs cells slots → T'.heap = h → OGo p e below K T' (mkF m pc' Ls (.int 1 :: st))) : OGo p e below K T (mkF m pc Ls (.ref a :: st)) := by
  subst hp
  obtain ⟨T', X', e', q⟩ := instY X hx hZ hown w eT F (g := mkF m pc Ls (.ref a :: st)) rfl rfl hd
  exact (k T' X' e').via q

theorem g_clone (X : Stand p l e R s m args below meth c T locs cells slots) (hx : p.tables.exec = Jvm.exec) (hZ : Z.Warmed39 s.vm) (hown : s.vm.findClass own = some m.cls) {ad : String} {index : Nat}
    (w1 : (Jvm.Cond.methodLink own index ⟨ad, "clone", "()Ljava/lang/Object;"⟩).before a0 Z = true) (w2 : (Jvm.Cond.sameMethod ad "java/lang/Object" "clone" "()Ljava/lang/Object;").before a0 Z = true) (w3 : (Jvm.Cond.native ⟨"java/lang/Object", "clone", "()Ljava/lang/Object;"⟩).before a0 Z = true)
    (w4 : (Jvm.Cond.instanceMethod ⟨"java/lang/Object", "clone", "()Ljava/lang/Object;"⟩).before a0 Z = true) (w5 : (Jvm.Cond.selects ad ⟨ad, "clone", "()Ljava/lang/Object;"⟩ ⟨"java/lang/Object", "clone", "()Ljava/lang/Object;"⟩).before a0 Z = true) (w6 : (Jvm.Cond.castable ad "java/lang/Cloneable").before a0 Z = true)
    (eT : T.heap = h) {a : Addr} {kk : ClassId} {ty : FieldType} {vs : List Value} (F : OAry Z h a kk ty vs) (E : Exa Z h a ad) (P : OPr h0 ws h locs) (hsize : Ls.size = c.maxLocals) (hd : decode c.code pc = .ok (.invokevirtual index, 3)) (hp : pc + 3 = pc')
    (hf : 1 ≤ R.frames) {W cap : Nat} (hW : (st.map fun v => v.category).sum ≤ W) (hl : W + 14 ≤ R.locals) (hcap : vs.length ≤ cap) (hc : cells + 1 ≤ R.cells) (hsl : slots + cap ≤ R.slots)
    (k : ∀ T' h' a', a' = h.size → h0.size ≤ a' → Stand p l e R s m args below meth c T' locs (cells + 1) (slots + cap) → T'.heap = h' → Ext h h' → OPr h0 ws h' locs → OAry Z h' a' kk ty vs → Exa Z h' a' ad → OGo p e below K T' (mkF m pc' Ls (.ref a' :: st))) : OGo p e below K T (mkF m pc Ls (.ref a :: st)) := by
  subst hp
  obtain ⟨cl, A, r1, r2, r3, r4⟩ := F
  obtain ⟨T', h', X', e', E', A', B', r⟩ := cloneA X hx hZ hown w1 w2 w3 w4 w5 w6 eT A E (aryFit (k := kk) A r2 r4) (g := mkF m pc Ls (.ref a :: st)) rfl hsize rfl hd hf (W := W) (by show 2 * 0 + _ ≤ _; omega) hl (cap := cap) (by rw [← r2] at hcap; simpa using hcap) hc hsl
  exact (k T' h' h.size rfl P.1.1 X' e' E' (P.ext E') ⟨_, A', r1, r2, r3, r4⟩ B').via r
theorem eqI {first : State} {o : Option Outcome} {idx : List Nat} {t u : Term} {x y : Int32} (ha : t.eval args first o idx s = some (.int x)) (hb : u.eval args first o idx s = some (.int y)) : (Jvm.Cond.eq t u).value args first o s idx = some (decide (x = y)) := by simp [Cond.value, ha, hb]
theorem lenSt {t : Term} {a : Addr} {cl : Cell} {ty : FieldType} {n : Int32} (ev : t.eval args s none [] s = some (.ref a)) (A : Arr s s.heap a cl ty) (q : (Jvm.Cond.eq (.length t) (.int n)).value args s none s [] = some true) : cl.slots.size = n.toInt ∧ cl.slots.size < 2 ^ 31 := by
  have ha : s.arrayAt? a = some cl := A.fin (Vm.Alike.refl _)
  by_cases hl : cl.slots.size < 2 ^ 31
  · have e1 := len_f (idx := []) (first := s) (o := none) ev ha hl
    have e2 : cl.slots.size.toInt32 = n := by rw [eqI e1 (Term.int_eval n)] at q; simpa using q
    exact ⟨by rw [← e2, len_toInt hl], hl⟩
  · have e1 : (Term.length t).eval args s none [] s = none := by simp [Term.eval, ev, ha, hl]
    simp [Cond.value, e1] at q
theorem elemSt {t u : Term} {a : Addr} {cl : Cell} {ty : FieldType} {i : Int32} {v : Value} (ev : t.eval args s none [] s = some (.ref a)) (A : Arr s s.heap a cl ty) (eu : u.eval args s none [] s = some v) (hv : v.isRef = true) (q : (Jvm.Cond.eq (.elem t (.int i)) u).value args s none s [] = some true) : cl.slots[i.toNatClampNeg]? = some v := by
  obtain ⟨x, y, e1, e2, k1, k2⟩ := cmp_v (Or.inl q)
  cases eu.symm.trans e2
  have hx : x.isRef = true := by rcases ref_cases hv with rfl | ⟨b, rfl⟩ <;> exact k2.2
  have r : x = v := by rw [eq_R e1 e2 hx hv] at q; simpa using q
  subst r
  exact (elem_in e1 ev (Term.int_eval i) A.1).2
theorem aryStart {a : Addr} {cl : Cell} {ty : FieldType} {vs : List Value} (hf : Fit s) (A : Arr s s.heap a cl ty) (hs : cl.slots.size < 2 ^ 31) (hl : cl.slots.size = vs.length) (hv : ∀ i, i < vs.length → cl.slots[i]? = vs[i]?) : OAry s s.heap a cl.cls ty vs := by
  have e : cl.slots.toList = vs := by
    apply List.ext_getElem?
    intro i
    by_cases hi : i < vs.length
    · rw [← hv i hi]; simp
    · rw [List.getElem?_eq_none (by simp; omega), List.getElem?_eq_none (by omega)]
  refine ⟨cl, A, rfl, e, by omega, fun v hm => ?_⟩
  rw [← e] at hm
  obtain ⟨i, hi, rfl⟩ := List.getElem_of_mem hm
  have hi' : i < cl.slots.size := by simpa using hi
  have q := hf A.1 hi'
  obtain ⟨hs', k, hk, comp, hkind⟩ := A.2.1
  have e2 : s.slotType? cl.cls cl.vm i = some ty := by
    cases hq : cl.vm <;> first | exact absurd hq (hs' _) | simp [State.slotType?, hk, hkind]
  simp [State.fitsSlot, e2] at q
  simpa using q

theorem wd (hw : ∀ d ∈ tables_1, d.before a0 Z = true) (k : Nat) {d : Jvm.Cond} (q : tables_1[k]? = some d) : d.before a0 Z = true := hw d (List.mem_of_getElem? q)
theorem narR {t : FieldType} {v : Value} (q : v.isRef = true) : narrow t v = v := by rcases ref_cases q with rfl | ⟨a, rfl⟩ <;> cases t <;> rfl
theorem fitR {t : FieldType} {v : Value} (q : v.isRef = true) (r : t.isReference = true) : fits t v = true := by
  rcases ref_cases q with rfl | ⟨a, rfl⟩ <;> cases t <;> first | rfl | cases r
theorem insP {a : Addr} {C : String} {b : Bool} (F : Ins Z h0 a C b) (P : OPr h0 ws h L) : Ins Z h a C b := by
  obtain ⟨cell, cT, h1, h2, h3⟩ := F
  obtain ⟨c', e1, e2, e3, -⟩ := P.1.2.2 _ _ h1
  exact ⟨c', cT, e1, h2, by rw [e2, e3]; exact h3⟩
theorem neAry {a b : Addr} {kk : ClassId} {ty : FieldType} {vs : List Value} {C : String} {n : Nat} (E : Exa Z h b C) (wi : (Jvm.Cond.instantiable C n).before a0 Z = true) (F : OAry Z h a kk ty vs) : b ≠ a := by
  obtain ⟨c, A, -⟩ := F; exact ne_arr E wi A
theorem exSta {C n d Kc : String} (q : (Jvm.Cond.exactly (.static C n d) Kc).value args s none s [] = some true) (hi : (Jvm.Cond.initializedFor C n d).before args s = true ∨ ((Jvm.Cond.initialized C).before args s = true ∧ (Jvm.Cond.laysStatic C n d).before args s = true)) :
    ∃ a, (Term.static C n d).eval args s none [] s = some (.ref a) ∧ Sta s s.heap C n d (.ref a) ∧ Exa s s.heap a Kc := by
  obtain ⟨a, ev⟩ := exa_v q
  exact ⟨a, ev, Sta.start ev hi, Exa.start ev q⟩
theorem eqFld {t : Term} {a : Addr} {C n d : String} {k : Int32} (ev : t.eval args s none [] s = some (.ref a)) (q : (Jvm.Cond.eq (.field t C n d) (.int k)).value args s none s [] = some true) : Fld s s.heap a C n d (.int k) := by
  obtain ⟨x, y, e1, e2, -, k2⟩ := cmp_v (Or.inl q)
  cases e2
  obtain ⟨z, rfl⟩ := k2
  have r : z = k := by rw [eqI e1 (Term.int_eval k)] at q; simpa using q
  subst r
  exact Fld.start ((fld_at ev).symm.trans e1)
theorem eqFldR {t u : Term} {a : Addr} {v : Value} {C n d : String} (ev : t.eval args s none [] s = some (.ref a)) (eu : u.eval args s none [] s = some v) (hv : v.isRef = true) (q : (Jvm.Cond.eq (.field t C n d) u).value args s none s [] = some true) : Fld s s.heap a C n d v := by
  obtain ⟨x, y, e1, e2, k1, k2⟩ := cmp_v (Or.inl q)
  cases eu.symm.trans e2
  have hx : x.isRef = true := by rcases ref_cases hv with rfl | ⟨b, rfl⟩ <;> exact k2.2
  have r : x = v := by rw [eq_R e1 e2 hx hv] at q; simpa using q
  subst r
  exact Fld.start ((fld_at ev).symm.trans e1)

theorem sinceR (s : State) : s.Since s.vm 0 := State.WarmedH.since (State.WarmedH.refl s) 0
/-- what a method that returned, and that may have interned, has left -/
def OFinW (s : State) (rm : Room) (Q : Option Value → Heap → List Loc → Prop) (o : Outcome) (U' : State) : Prop := ∃ v L, o = .returned v ∧ Q v U'.heap L ∧ ReturnedEndW s o U' L rm.cells rm.slots
def OMetW (l : Launch) (y : MethodName) (bytes : ByteArray) (maxL : Nat) (ret : Option FieldType) (rm : Room) (as : Array Value) (Z : State) (h0 : Heap) (Q : Option Value → Heap → List Loc → Prop) : Prop :=
  ∀ ws : List Jvm.Cond, MetFree l y (head1 (Jvm.Cond.code y bytes maxL ret :: ws) rm) (fun a U => a = as ∧ Z.Warmed39 U.vm ∧ U.heap = h0) (fun _ _ bl s _ => s.vm.MethodsKnown ∧ s.vm.FramesKnown bl) (fun _ U o U' => OFinW U rm Q o U')
theorem OMetW.body {y : MethodName} {bytes : ByteArray} {maxL : Nat} {ret : Option FieldType} {rm : Room} {as : Array Value} {Q : Option Value → Heap → List Loc → Prop} {Ls : Array Slot} (hpl : plainFor y = true) (hef : ∀ m, entryFrame m as maxL = mkF m 0 Ls [])
    (H : ∀ (p : Program) (e : Env) (s : State) (m : MethodId) (below : List Frame) (meth : Method) (c : Code) (T : State) (K : Outcome → State → Prop), K = OFinW s rm Q → Stand p l e rm (s.setVm s.vm) m as below meth c T [] 0 0 → p.tables.exec = Jvm.exec → c.code = bytes → c.maxLocals = maxL → s.vm.findClass y.cls = some m.cls → meth.name = y.name → meth.sig.returnType = ret → meth.locks = false → Z.Warmed39 s.vm → T.heap = h0 → T.heap = s.heap → s.vm.MethodsKnown → s.vm.FramesKnown below → OGo p e below K T (mkF m 0 Ls [])) :
    OMetW l y bytes maxL ret rm as Z h0 Q := fun ws => by
  refine MetFree.of_bodySF hpl hisR ?_
  intro p e s m args below meth c s₁ Bd hml0 hP hK
  obtain ⟨rfl, hZ, hh⟩ := hP
  have e1 : s₁.heap = s.heap := by rw [Bd.state]; rfl
  have e0 : s₁.heap = h0 := by rw [← hh, e1]
  have k := H p e s m below meth c s₁ _ rfl (Stand.of_body Bd) Bd.exec Bd.bytes hml0 (findClass_of_methodNamed Bd.named) (name_of_methodNamed Bd.named Bd.method).1 Bd.returns Bd.notSynchronized hZ e0 e1 hK.1 hK.2
  rw [← hef m] at k
  exact k
theorem g_retW {rm : Room} {vm0 : Vm} {k0 : Nat} {Q : Option Value → Heap → List Loc → Prop} {t : FieldType} {w : Value} {i : Instr} (X : Stand p l e rm (s.setVm vm0) m args below meth c T locs cells slots) (hx : p.tables.exec = Jvm.exec) (hret : meth.sig.returnType = some t) (hlk : meth.locks = false) (hS : s.Since vm0 k0) (hk : k0 ≤ h.size) (hn : narrow t w = w)
    (hi : (i = .ireturn ∧ (t = .int ∨ t = .boolean ∨ t = .byte ∨ t = .char ∨ t = .short) ∧ ∃ z, w = .int z) ∨ (i = .lreturn ∧ t = .long ∧ ∃ z, w = .long z) ∨ (i = .dreturn ∧ t = .double ∧ ∃ z, w = .double z) ∨ (i = .freturn ∧ t = .float ∧ ∃ z, w = .float z) ∨ (i = .areturn ∧ t.isReference = true ∧ w.isRef = true))
    (hd : decode c.code pc = .ok (i, 1)) (hc : cells ≤ rm.cells) (hs : slots ≤ rm.slots) (eT : T.heap = h) (hK : K = OFinW s rm Q) (hQ : Q (some w) h locs) : OGo p e below K T (mkF m pc Ls (w :: st)) := by
  subst hK
  obtain ⟨fs, hr, hrun, hended, hW⟩ := X.leaveW hS (v := some w) (by rw [eT]; exact hk) (fun h => by rw [hret] at h; cases h) hlk
  obtain ⟨z1, z2, z3, z4⟩ := hW
  exact ⟨_, _, retOut X hx hret hn hi hd hr, hrun, hended, _, _, rfl, by show Q _ T.heap _; rw [eT]; exact hQ, ⟨z1, z2, z3, z4.mono hc hs⟩⟩
theorem g_ret0W {rm : Room} {vm0 : Vm} {k0 : Nat} {Q : Option Value → Heap → List Loc → Prop} (X : Stand p l e rm (s.setVm vm0) m args below meth c T locs cells slots) (hx : p.tables.exec = Jvm.exec) (hret : meth.sig.returnType = none) (hlk : meth.locks = false) (hS : s.Since vm0 k0) (hk : k0 ≤ h.size)
    (hd : decode c.code pc = .ok (.return_, 1)) (hc : cells ≤ rm.cells) (hs : slots ≤ rm.slots) (eT : T.heap = h) (hK : K = OFinW s rm Q) (hQ : Q none h locs) : OGo p e below K T (mkF m pc Ls []) := by
  subst hK
  obtain ⟨fs, hr, hrun, hended, hW⟩ := X.leaveW hS (v := none) (by rw [eT]; exact hk) (fun _ => rfl) hlk
  obtain ⟨z1, z2, z3, z4⟩ := hW
  exact ⟨_, _, X.returnOut hx hret hd hr, hrun, hended, _, _, rfl, by show Q _ T.heap _; rw [eT]; exact hQ, ⟨z1, z2, z3, z4.mono hc hs⟩⟩
theorem wrSz {a : Addr} {sl : Nat} {v : Value} (W : Wr h h' a sl v) : h.size ≤ h'.size := by obtain ⟨c0, -, -, -, rfl⟩ := W; simp
theorem g_newU (X : Stand p l e R s m args below meth c T locs cells slots) (hx : p.tables.exec = Jvm.exec) (hZ : Z.Warmed39 s.vm) (hown : s.vm.findClass own = some m.cls) {C : String} {index n : Nat} (w : (Jvm.Cond.classLink own index C).before a0 Z = true) (wi : (Jvm.Cond.instantiable C n).before a0 Z = true) (wz : (Jvm.Cond.initialized C).before a0 Z = true) (eT : T.heap = h)
    (P : OPr h0 ws h locs) (hd : decode c.code pc = .ok (.new index, 3)) (hp : pc + 3 = pc') (hc : cells + 1 ≤ R.cells) (hl : slots + n ≤ R.slots)
    (k : ∀ T' h' a, a = h.size → h0.size ≤ a → Stand p l e R s m args below meth c T' locs (cells + 1) (slots + n) → T'.heap = h' → Ext h h' → OPr h0 ws h' locs → Exa Z h' a C → (∀ {O nm d : String} {ty : FieldType}, Laid Z a0 C O nm d → parseFieldDescriptor d = some ty → Fld Z h' a O nm d (defaultValue ty)) → Unt h' a → OGo p e below K T' (mkF m pc' Ls (.ref a :: st))) : OGo p e below K T (mkF m pc Ls st) := by
  subst hp
  obtain ⟨T', h', X', e', E', A', D', N', r⟩ := newO X hx hZ hown w wi wz eT (g := mkF m pc Ls st) rfl hd hc hl
  exact (k T' h' h.size rfl P.1.1 X' e' E' (P.ext E') A' D' N').via r
theorem subOf {L M : List Jvm.Cond} (q : (L.all fun c => M.contains c) = true) : ∀ c ∈ L, c ∈ M := fun c hc => by simpa using (List.all_eq_true.mp q) c hc
theorem linkOf {k : Nat} {rc : String} {x : Jvm.Free.Exc.Link} {r : List Jvm.Free.Exc.Link} (h4 : ∀ d ∈ [Jvm.Cond.code (Jvm.Free.Exc.ctor k x.1) x.2.2 (k + 1) none, .initialized x.1, .methodLink x.1 x.2.1 (Jvm.Free.Exc.ctor k (Jvm.Free.Exc.headName r)), .instanceMethod (Jvm.Free.Exc.ctor k (Jvm.Free.Exc.headName r))], d.before a0 Z = true) (hr : (Jvm.Free.Exc.chainTab k rc r).before a0 Z = true) : (Jvm.Free.Exc.chainTab k rc (x :: r)).before a0 Z = true := conj_of fun d hd => by
  simp only [List.mem_cons, List.not_mem_nil, or_false] at hd h4
  rcases hd with rfl | rfl | rfl | rfl | rfl
  · exact h4 _ (Or.inl rfl)
  · exact h4 _ (Or.inr (Or.inl rfl))
  · exact h4 _ (Or.inr (Or.inr (Or.inl rfl)))
  · exact h4 _ (Or.inr (Or.inr (Or.inr rfl)))
  · exact hr
theorem g_ldcS {vm0 : Vm} {k0 : Nat} (X : Stand p l e R (s.setVm vm0) m args below meth c T locs cells slots) (hx : p.tables.exec = Jvm.exec) (hZ : Z.Warmed39 vm0) (hown : vm0.findClass own = some m.cls) {text : String} {index : Nat} (w : (Jvm.Cond.stringLink own index text).before a0 Z = true) (wS : ∀ a ∈ Bundle.stringAtoms, a.before a0 Z = true)
    (eT : T.heap = h) (hS : s.Since vm0 k0) (hk : k0 ≤ h.size) (P : OPr h0 ws h locs) (hd : decode c.code pc = .ok (.ldc index, 2)) (hp : pc + 2 = pc') {n : Nat} (hn : 4 * text.toList.length ≤ n) (hbig : n ≤ 536870912) (hc : cells + 2 ≤ R.cells) (hl : slots + (n + 4) ≤ R.slots)
    (k : ∀ (a : Addr) T' h' vm1 k1, Stand p l e R (s.setVm vm1) m args below meth c T' locs (cells + 2) (slots + (n + 4)) → T'.heap = h' → Ext h h' → OPr h0 ws h' locs → s.Since vm1 k1 → k1 ≤ h'.size → Z.Warmed39 vm1 → vm1.findClass own = some m.cls → OGo p e below K T' (mkF m pc' Ls (.ref a :: st))) : OGo p e below K T (mkF m pc Ls st) := by
  subst hp
  obtain ⟨a, T', h', k1, X', e', E', hS', hk', hZ', ho', r⟩ := ldcS X hx hZ hown w wS eT hS hk (g := mkF m pc Ls st) rfl hd hn hbig hc hl
  exact (k a T' h' _ k1 X' e' E' (P.ext E') hS' hk' hZ' ho').via r
theorem OPr.kp {a : Addr} (Kk : Kp Z h h' a) (N : Unt h a) : OPr h [a] h' (sixLocs Z a) := by
  refine ⟨keep_of_kp Kk, fun x c q r => ?_, fun y hy => ?_⟩
  · obtain ⟨c', q1, -, -, q4, -⟩ := Kk.2 x c q
    have ne : x ≠ a := fun z => by
      subst z; obtain ⟨c2, u1, u2, -⟩ := N
      cases q.symm.trans u1; rw [u2] at r; cases r
    rw [q1, q4 ne]
  · obtain ⟨nd, -, rfl⟩ := List.mem_map.mp hy; exact Or.inl (List.mem_singleton_self a)
theorem ThS.pr (F : ThS Z h0) (P : OPr h0 ws h L) : ThS Z h := fun st k cl cell h1 h2 h3 h4 h5 => P.2.1 _ _ (F st k cl cell h1 h2 h3 h4 h5) h5
theorem g_exc1 (X : Stand p l e R s m args below meth c T locs cells slots) (hx : p.tables.exec = Jvm.exec) (hl : l.stackTraces = true) (hZ : Z.Warmed39 s.vm) (hown : s.vm.findClass own = some m.cls) {rc : String} {links : List Jvm.Free.Exc.Link} {ic n : Nat} (hok : Jvm.Free.Exc.linksOk 1 links = true)
    (w1 : (Jvm.Cond.methodLink own ic (Jvm.Free.Exc.ctor 1 (Jvm.Free.Exc.headName links))).before a0 Z = true) (w2 : (Jvm.Cond.instanceMethod (Jvm.Free.Exc.ctor 1 (Jvm.Free.Exc.headName links))).before a0 Z = true) (wT : (Jvm.Free.Exc.chainTab 1 rc links).before a0 Z = true) (wi : (Jvm.Cond.instantiable rc n).before a0 Z = true) (r : ∀ d ∈ twoRefs, d.before a0 Z = true)
    (hT0 : ThS Z s.heap) (hT : ThS Z h) (hTK : s.vm.MethodsKnown) (hBelow : s.vm.FramesKnown below) (eT : T.heap = h) {a : Addr} (E : Exa Z h a rc) (N : Unt h a) (B : Fld Z h a Bundle.tN "backtrace" Jvm.Free.Exc.obD .null) (B2 : Fld Z h a Bundle.tN "detailMessage" Jvm.Free.Exc.msgD .null) {msg : Value} (hmsg : msg.isRef = true)
    (hsize : Ls.size = c.maxLocals) {rest : List Value} (hst : st = msg :: .ref a :: rest) (hd : decode c.code pc = .ok (.invokespecial ic, 3)) (hp : pc + 3 = pc') {W : Nat} (hW : (rest.map fun v => v.category).sum ≤ W)
    (hf : 4 + links.length ≤ R.frames) (hlo : W + (56 + 14 * links.length) ≤ R.locals) (hc : cells + 1 ≤ R.cells) (hsl : slots + 2752 ≤ R.slots)
    (k : ∀ v T' h' L, Stand p l e R s m args below meth c T' (locs ++ L) (cells + 1) (slots + 2752) → T'.heap = h' → (v = (none : Option Value) ∧ OPr h [a] h' L) → OGo p e below K T' (mkF m pc' Ls (v.toList ++ rest))) : OGo p e below K T (mkF m pc Ls st) := by
  subst hp hst
  obtain ⟨T', h', X', e', Kk, -, -, -, -, -, q⟩ := excL1 X hx hl hZ hown hok w1 w2 wT wi r hT0 hT hTK hBelow eT E N B B2 hmsg (g := mkF m pc Ls (msg :: .ref a :: rest)) rfl hsize rfl hd hf (by show 2 * 0 + _ + _ ≤ _; omega) hc hsl
  exact (k none T' h' _ X' e' ⟨rfl, OPr.kp Kk N⟩).via q
theorem OMetW.back {y : MethodName} {bytes : ByteArray} {maxL : Nat} {ret : Option FieldType} {rm : Room} {as : Array Value} {Q : Option Value → Heap → List Loc → Prop} {len W : Nat} (hM : OMetW l y bytes maxL ret rm as Z h Q) (hZ : Z.Warmed39 s.vm) (wc : (Jvm.Cond.code y bytes maxL ret).before a0 Z = true) (wz : (Jvm.Cond.initialized y.cls).before a0 Z = true) (hf : rm.frames + 1 ≤ R.frames) (hl : W + (maxL + 11) + rm.locals ≤ R.locals) (hTK : s.vm.MethodsKnown) (hBelow : s.vm.FramesKnown below) :
    BackS l R p e below s args y len W (fun A a => a = as ∧ A.U.heap = h ∧ A.cells + rm.cells ≤ R.cells ∧ A.slots + rm.slots ≤ R.slots)
      (fun A _ v B => ∃ L, Q v B.U.heap L ∧ B.locs = A.locs ++ L ∧ B.cells = A.cells + rm.cells ∧ B.slots = A.slots + rm.slots) := backOfSKL (hM []) hZ wc wz hf hl hTK hBelow
theorem g_specialW {vm0 : Vm} {k0 : Nat} (X : Stand p l e R (s.setVm vm0) m args below meth c T locs cells slots) (hx : p.tables.exec = Jvm.exec) (hZ : Z.Warmed39 vm0) (hown : vm0.findClass own = some m.cls) (eT : T.heap = h) (hS : s.Since vm0 k0) (hk : k0 ≤ h.size) (hTK : s.vm.MethodsKnown) (hBelow : s.vm.FramesKnown below) {y : MethodName} {bytes : ByteArray} {maxL index : Nat} {rm : Room} {as : Array Value} {Q : Option Value → Heap → List Loc → Prop} (hM : OMetW l y bytes maxL none rm as Z h Q) (hy1 : y.name = "<init>")
    (w1 : (Jvm.Cond.methodLink own index y).before a0 Z = true) (w2 : (Jvm.Cond.instanceMethod y).before a0 Z = true) (w3 : (Jvm.Cond.code y bytes maxL none).before a0 Z = true) (wz : (Jvm.Cond.initialized y.cls).before a0 Z = true) (hy : y.cls ≠ "java/lang/invoke/MethodHandle" ∧ y.cls ≠ "java/lang/invoke/VarHandle")
    {a : Addr} {argsL rest : List Value} (has : (.ref a :: argsL).toArray = as) (hst : st = argsL.reverse ++ .ref a :: rest) {W : Nat} {ps : List FieldType} (hde : parseMethodDescriptor y.desc = some ⟨ps, none⟩) (hlen : argsL.length = ps.length) (hW : (rest.map fun v => v.category).sum ≤ W) (hf : rm.frames + 1 ≤ R.frames) (hl : W + (maxL + 11) + rm.locals ≤ R.locals) (hc : cells + rm.cells ≤ R.cells) (hs : slots + rm.slots ≤ R.slots)
    (hsize : Ls.size = c.maxLocals) (hd : decode c.code pc = .ok (.invokespecial index, 3)) (hp : pc + 3 = pc')
    (k : ∀ v T' h' L vm1 k1, Stand p l e R (s.setVm vm1) m args below meth c T' (locs ++ L) (cells + rm.cells) (slots + rm.slots) → T'.heap = h' → Q v h' L → s.Since vm1 k1 → k1 ≤ h'.size → Z.Warmed39 vm1 → vm1.findClass own = some m.cls → OGo p e below K T' (mkF m pc' Ls (v.toList ++ rest))) : OGo p e below K T (mkF m pc Ls st) := by
  subst hp has
  have hZ' : Z.Warmed39 (s.setVm vm0).vm := hZ
  obtain ⟨v, vm₁, ⟨T', L', c', n'⟩, -, X', hS', hg', ⟨Lc, hQ, l1, y1, z1⟩, r⟩ := X.specialBackS hx (y := y) hy1 hown (mvT hZ' w1) (mvT hZ' w2) (mvT hZ' w3) hy (hM.back (s := s.setVm vm0) (W := W) hZ' w3 wz hf hl (Vm.MethodsKnown.alikeC hS.1.alike hTK) (Vm.FramesKnown.alikeC hS.1.alike hBelow)) (g := mkF m pc Ls st) rfl hsize (Steps.refl _) (a := a) (argsL := argsL) (rest := rest) (lenOf hde hlen) hst (by show 2 * 0 + _ ≤ _; omega) hd (fun _ _ => ⟨rfl, eT, hc, hs⟩)
  dsimp only [Pt.U, Pt.locs, Pt.cells, Pt.slots] at X' l1 y1 z1 r hQ hS' hg'
  subst l1 y1 z1
  have hS2 : s.Since T'.vm T'.heap.size := hS.trans hS' (Nat.le_trans hk (by rw [← eT]; exact hg'))
  exact (k v T' _ Lc T'.vm _ X' rfl hQ hS2 (Nat.le_refl _) (State.Warmed39.trans (t := s.setVm vm0) hZ hS'.1) (by rw [hS'.1.alike.findClass]; exact hown)).tr r
theorem g_virtualW {vm0 : Vm} {k0 : Nat} (X : Stand p l e R (s.setVm vm0) m args below meth c T locs cells slots) (hx : p.tables.exec = Jvm.exec) (hZ : Z.Warmed39 vm0) (hown : vm0.findClass own = some m.cls) (eT : T.heap = h) (hS : s.Since vm0 k0) (hk : k0 ≤ h.size) (hTK : s.vm.MethodsKnown) (hBelow : s.vm.FramesKnown below) {y z : MethodName} {bytes : ByteArray} {maxL index : Nat} {ret : Option FieldType} {rm : Room} {as : Array Value} {Q : Option Value → Heap → List Loc → Prop} (hM : OMetW l z bytes maxL ret rm as Z h Q) {C : String}
    (w1 : (Jvm.Cond.methodLink own index y).before a0 Z = true) (w2 : (Jvm.Cond.declares y).before a0 Z = true) (nf : NotFace (s.setVm vm0) y) (w3 : (Jvm.Cond.selects C y z).before a0 Z = true) (w4 : (Jvm.Cond.instanceMethod z).before a0 Z = true) (w5 : (Jvm.Cond.code z bytes maxL ret).before a0 Z = true) (wz : (Jvm.Cond.initialized z.cls).before a0 Z = true) (hy : y.cls ≠ "java/lang/invoke/MethodHandle" ∧ y.cls ≠ "java/lang/invoke/VarHandle")
    {a : Addr} (E : Exa Z h a C) {argsL rest : List Value} (has : (.ref a :: argsL).toArray = as) (hst : st = argsL.reverse ++ .ref a :: rest) {W : Nat} {ps : List FieldType} {rt : Option FieldType} (hde : parseMethodDescriptor y.desc = some ⟨ps, rt⟩) (hlen : argsL.length = ps.length) (hW : (rest.map fun v => v.category).sum ≤ W) (hf : rm.frames + 1 ≤ R.frames) (hl : W + (maxL + 11) + rm.locals ≤ R.locals) (hc : cells + rm.cells ≤ R.cells) (hs : slots + rm.slots ≤ R.slots)
    (hsize : Ls.size = c.maxLocals) (hd : decode c.code pc = .ok (.invokevirtual index, 3)) (hp : pc + 3 = pc')
    (k : ∀ v T' h' L vm1 k1, Stand p l e R (s.setVm vm1) m args below meth c T' (locs ++ L) (cells + rm.cells) (slots + rm.slots) → T'.heap = h' → Q v h' L → s.Since vm1 k1 → k1 ≤ h'.size → Z.Warmed39 vm1 → vm1.findClass own = some m.cls → OGo p e below K T' (mkF m pc' Ls (v.toList ++ rest))) : OGo p e below K T (mkF m pc Ls st) := by
  subst hp has
  have hZ' : Z.Warmed39 (s.setVm vm0).vm := hZ
  obtain ⟨cB, kB, q1, q2, q3⟩ := isOf (s := s.setVm vm0) (T := T) hZ' eT E
  obtain ⟨v, vm₁, ⟨T', L', c', n'⟩, -, X', hS', hg', ⟨Lc, hQ, l1, y1, z1⟩, r⟩ := X.virtualBackS hx (y := y) (z := z) hown (mvT hZ' w1) (mvT hZ' w2) nf (mvT hZ' w3) (mvT hZ' w4) hy (hM.back (s := s.setVm vm0) (W := W) hZ' w5 wz hf hl (Vm.MethodsKnown.alikeC hS.1.alike hTK) (Vm.FramesKnown.alikeC hS.1.alike hBelow)) q1 q3 (g := mkF m pc Ls st) rfl hsize (Steps.refl _) (argsL := argsL) (rest := rest) (lenOf hde hlen) hst (by show 2 * 0 + _ ≤ _; omega) hd (fun _ _ => ⟨rfl, eT, hc, hs⟩)
  dsimp only [Pt.U, Pt.locs, Pt.cells, Pt.slots] at X' l1 y1 z1 r hQ hS' hg'
  subst l1 y1 z1
  have hS2 : s.Since T'.vm T'.heap.size := hS.trans hS' (Nat.le_trans hk (by rw [← eT]; exact hg'))
  exact (k v T' _ Lc T'.vm _ X' rfl hQ hS2 (Nat.le_refl _) (State.Warmed39.trans (t := s.setVm vm0) hZ hS'.1) (by rw [hS'.1.alike.findClass]; exact hown)).tr r

theorem g_specialN (X : Stand p l e R s m args below meth c T locs cells slots) (hx : p.tables.exec = Jvm.exec) (hZ : Z.Warmed39 s.vm) (hown : s.vm.findClass own = some m.cls) (eT : T.heap = h) {y : MethodName} {host : String} {bytes : ByteArray} {maxL index : Nat} {rm : Room} {as : Array Value} {Q : Option Value → Heap → List Loc → Prop} (hM : OMet l y bytes maxL none rm as Z h Q) (hy1 : y.name = "<init>")
    (w1 : (Jvm.Cond.methodLinkNest own index y host).before a0 Z = true) (w2 : (Jvm.Cond.instanceMethod y).before a0 Z = true) (w3 : (Jvm.Cond.code y bytes maxL none).before a0 Z = true) (wz : (Jvm.Cond.initialized y.cls).before a0 Z = true) (hy : y.cls ≠ "java/lang/invoke/MethodHandle" ∧ y.cls ≠ "java/lang/invoke/VarHandle")
    {a : Addr} {argsL rest : List Value} (has : (.ref a :: argsL).toArray = as) (hst : st = argsL.reverse ++ .ref a :: rest) {W : Nat} {ps : List FieldType} (hde : parseMethodDescriptor y.desc = some ⟨ps, none⟩) (hlen : argsL.length = ps.length) (hW : (rest.map fun v => v.category).sum ≤ W) (hf : rm.frames + 1 ≤ R.frames) (hl : W + (maxL + 11) + rm.locals ≤ R.locals) (hc : cells + rm.cells ≤ R.cells) (hs : slots + rm.slots ≤ R.slots)
    (hsize : Ls.size = c.maxLocals) (hd : decode c.code pc = .ok (.invokespecial index, 3)) (hp : pc + 3 = pc')
    (k : ∀ v T' h' L, Stand p l e R s m args below meth c T' (locs ++ L) (cells + rm.cells) (slots + rm.slots) → T'.heap = h' → Q v h' L → OGo p e below K T' (mkF m pc' Ls (v.toList ++ rest))) : OGo p e below K T (mkF m pc Ls st) := by
  subst hp has
  obtain ⟨v, vm₁, ⟨T', L', c', n'⟩, -, X', ⟨Lc, hQ, l1, y1, z1⟩, r⟩ := X.specialBackNest hx (host := host) (y := y) hy1 hown (Cond.methodLinkNest_wide hZ w1 :) (mvT hZ w2) (mvT hZ w3) hy (hM.back (W := W) hZ w3 wz hf hl) (g := mkF m pc Ls st) rfl hsize (Steps.refl _) (a := a) (argsL := argsL) (rest := rest) (lenOf hde hlen) hst (by show 2 * 0 + _ ≤ _; omega) hd (fun _ _ => ⟨rfl, eT, hc, hs⟩)
  dsimp only [Pt.U, Pt.locs, Pt.cells, Pt.slots] at X' l1 y1 z1 r hQ
  subst l1 y1 z1
  exact (k v T' _ Lc X' rfl hQ).tr r
theorem g_private (X : Stand p l e R s m args below meth c T locs cells slots) (hx : p.tables.exec = Jvm.exec) (hZ : Z.Warmed39 s.vm) (hown : s.vm.findClass own = some m.cls) (eT : T.heap = h) {y : MethodName} {bytes : ByteArray} {maxL index : Nat} {ret : Option FieldType} {rm : Room} {as : Array Value} {Q : Option Value → Heap → List Loc → Prop} (hM : OMet l y bytes maxL ret rm as Z h Q) {C : String}
    (w1 : (Jvm.Cond.methodLink own index y).before a0 Z = true) (w4 : (Jvm.Cond.instanceMethod y).before a0 Z = true) (w3 : (Jvm.Cond.selects y.cls y y).before a0 Z = true) (wp : (Jvm.Cond.privateMethod y).before a0 Z = true) (w5 : (Jvm.Cond.code y bytes maxL ret).before a0 Z = true) (wz : (Jvm.Cond.initialized y.cls).before a0 Z = true) (hy : y.cls ≠ "java/lang/invoke/MethodHandle" ∧ y.cls ≠ "java/lang/invoke/VarHandle")
    {a : Addr} (E : Exa Z h a C) {argsL rest : List Value} (has : (.ref a :: argsL).toArray = as) (hst : st = argsL.reverse ++ .ref a :: rest) {W : Nat} {ps : List FieldType} {rt : Option FieldType} (hde : parseMethodDescriptor y.desc = some ⟨ps, rt⟩) (hlen : argsL.length = ps.length) (hW : (rest.map fun v => v.category).sum ≤ W) (hf : rm.frames + 1 ≤ R.frames) (hl : W + (maxL + 11) + rm.locals ≤ R.locals) (hc : cells + rm.cells ≤ R.cells) (hs : slots + rm.slots ≤ R.slots)
    (hsize : Ls.size = c.maxLocals) (hd : decode c.code pc = .ok (.invokevirtual index, 3)) (hp : pc + 3 = pc')
    (k : ∀ v T' h' L, Stand p l e R s m args below meth c T' (locs ++ L) (cells + rm.cells) (slots + rm.slots) → T'.heap = h' → Q v h' L → OGo p e below K T' (mkF m pc' Ls (v.toList ++ rest))) : OGo p e below K T (mkF m pc Ls st) := by
  subst hp has
  obtain ⟨cell, q1, q2⟩ := E.cell
  obtain ⟨v, vm₁, ⟨T', L', c', n'⟩, -, X', ⟨Lc, hQ, l1, y1, z1⟩, r⟩ := X.privateBack hx (y := y) hown (mvT hZ w1) (mvT hZ w4) (mvT hZ w3) (Jvm.Cond.privateMethod_at (args := #[]) (mvP hZ wp)) (mvT hZ w5) hy (hM.back (W := W) hZ w5 wz hf hl) (g := mkF m pc Ls st) rfl hsize (Steps.refl _) (a := a) (by rw [eT]; exact q1) q2 (argsL := argsL) (rest := rest) (lenOf hde hlen) hst (by show 2 * 0 + _ ≤ _; omega) hd (fun _ _ => ⟨rfl, eT, hc, hs⟩)
  dsimp only [Pt.U, Pt.locs, Pt.cells, Pt.slots] at X' l1 y1 z1 r hQ
  subst l1 y1 z1
  exact (k v T' _ Lc X' rfl hQ).tr r
theorem noIns {C S Kc : String} {n : Nat} (w : (Jvm.Cond.superclass C S).before a0 Z = true) (wi : (Jvm.Cond.instantiable Kc n).before a0 Z = true) (ns : NS Z C Kc) (hn : C ≠ Kc) : ∃ c t, Z.vm.findClass C = some c ∧ Z.vm.findClass Kc = some t ∧ Z.vm.assignable c t = false := by
  obtain ⟨c, t, h0, g0, n3⟩ := ns
  obtain ⟨p, k, kp, h1, h2, h3, h4, h5, -, h7⟩ := Jvm.Cond.superclass_spec h0 w
  obtain ⟨t', kt, g1, g2, g3, g4, -⟩ := Jvm.Cond.instantiable_spec wi
  cases g0.symm.trans g1
  have ne := ids_ne h0 g0 hn
  have g5 : kt.isInterface = false := by cases hh : kt.isInterface <;> simp [hh] at g4 ⊢
  refine ⟨c, t, h0, g0, ?_⟩
  show Z.vm.assignableAux (255 + 1) c t = false
  simp [Vm.assignableAux, ne, h2, g2, h5, g3, g5, Vm.isSubclass, n3]
theorem nsRoot {O Kc : String} {n : Nat} (w : (Jvm.Cond.noSuperclass O).before a0 Z = true) (wi : (Jvm.Cond.instantiable Kc n).before a0 Z = true) (hn : O ≠ Kc) : NS Z O Kc := by
  obtain ⟨c, k, h1, h2, h3, -, -⟩ := Jvm.Cond.noSuperclass_spec w
  obtain ⟨t, kt, g1, -⟩ := Jvm.Cond.instantiable_spec wi
  have ne := ids_ne h1 g1 hn
  refine ⟨c, t, h1, g1, fun fuel => ?_⟩
  cases fuel with
  | zero => rfl
  | succ f => simp [Vm.isSubclassAux, ne, h2, h3]
theorem g_instNo (X : Stand p l e R s m args below meth c T locs cells slots) (hx : p.tables.exec = Jvm.exec) (hZ : Z.Warmed39 s.vm) (hown : s.vm.findClass own = some m.cls) {C Kc : String} {index : Nat} (w : (Jvm.Cond.classLink own index Kc).before a0 Z = true) (eT : T.heap = h) {a : Addr} (E : Exa Z h a C) (F : ∃ c t, Z.vm.findClass C = some c ∧ Z.vm.findClass Kc = some t ∧ Z.vm.assignable c t = false) (hd : decode c.code pc = .ok (.instanceof index, 3)) (hp : pc + 3 = pc')
    (k : ∀ T', Stand p l e R s m args below meth c T' locs cells slots → T'.heap = h → OGo p e below K T' (mkF m pc' Ls (.int 0 :: st))) : OGo p e below K T (mkF m pc Ls (.ref a :: st)) := by
  subst hp
  obtain ⟨T', X', e', q⟩ := instNo X hx hZ hown w eT E F (g := mkF m pc Ls (.ref a :: st)) rfl rfl hd
  exact (k T' X' e').via q
theorem g_tswIn (X : Stand p l e R s m args below meth c T locs cells slots) (hx : p.tables.exec = Jvm.exec) {dflt low high : Int} {offs : Array Int} {len : Nat} {o : Int} (hd : decode c.code pc = .ok (.tableswitch dflt low high offs, len)) {i : Int32} (hin : ¬ (i.toInt < low ∨ i.toInt > high)) (hoff : offs[(i.toInt - low).toNat]? = some o) (ho : 0 ≤ (pc : Int) + o) (hp : ((pc : Int) + o).toNat = pc')
    (k : OGo p e below K T (mkF m pc' Ls st)) : OGo p e below K T (mkF m pc Ls (.int i :: st)) := k.via fun _ q => XS.tswIn X.here hx rfl rfl hd rfl hin hoff ho hp q
theorem g_tswOut (X : Stand p l e R s m args below meth c T locs cells slots) (hx : p.tables.exec = Jvm.exec) {dflt low high : Int} {offs : Array Int} {len : Nat} (hd : decode c.code pc = .ok (.tableswitch dflt low high offs, len)) {i : Int32} (hout : i.toInt < low ∨ i.toInt > high) (ho : 0 ≤ (pc : Int) + dflt) (hp : ((pc : Int) + dflt).toNat = pc')
    (k : OGo p e below K T (mkF m pc' Ls st)) : OGo p e below K T (mkF m pc Ls (.int i :: st)) := k.via fun _ q => XS.tswOut X.here hx rfl rfl hd rfl hout ho hp q
/-- the Class object of C has been made -/
def OMir (Z : State) (C : String) (m : Addr) : Prop := ∃ (c : ClassId) (k : Class), Z.vm.findClass C = some c ∧ Z.vm.classes[c]? = some k ∧ k.mirror = some m
theorem g_getcls (X : Stand p l e R s m args below meth c T locs cells slots) (hx : p.tables.exec = Jvm.exec) (hZ : Z.Warmed39 s.vm) (hown : s.vm.findClass own = some m.cls) {C : String} {index : Nat}
    (w1 : (Jvm.Cond.methodLink own index ⟨"java/lang/Object", "getClass", "()Ljava/lang/Class;"⟩).before a0 Z = true) (w2 : (Jvm.Cond.declares ⟨"java/lang/Object", "getClass", "()Ljava/lang/Class;"⟩).before a0 Z = true) (w3 : (Jvm.Cond.noSuperclass "java/lang/Object").before a0 Z = true) (w4 : (Jvm.Cond.selects C ⟨"java/lang/Object", "getClass", "()Ljava/lang/Class;"⟩ ⟨"java/lang/Object", "getClass", "()Ljava/lang/Class;"⟩).before a0 Z = true)
    (w5 : (Jvm.Cond.instanceMethod ⟨"java/lang/Object", "getClass", "()Ljava/lang/Class;"⟩).before a0 Z = true) (w6 : (Jvm.Cond.native ⟨"java/lang/Object", "getClass", "()Ljava/lang/Class;"⟩).before a0 Z = true) (eT : T.heap = h) {a : Addr} (E : Exa Z h a C) {mr : Addr} (M : OMir Z C mr)
    (hsize : Ls.size = c.maxLocals) (hd : decode c.code pc = .ok (.invokevirtual index, 3)) (hp : pc + 3 = pc') (hf : 1 ≤ R.frames) {W : Nat} (hW : (st.map fun v => v.category).sum ≤ W) (hl : W + (nativeFrameWords "java/lang/Object" "getClass" 1 + 11) ≤ R.locals)
    (k : ∀ T', Stand p l e R s m args below meth c T' locs cells slots → T'.heap = h → OGo p e below K T' (mkF m pc' Ls (.ref mr :: st))) : OGo p e below K T (mkF m pc Ls (.ref a :: st)) := by
  subst hp
  obtain ⟨cB, kB, i1, i2, i3⟩ := isOf (T := T) hZ eT E
  obtain ⟨cc, kc, m1, m2, m3⟩ := M
  rw [hZ.alike.findClass] at i1
  cases i1.symm.trans m1
  obtain ⟨k', q, ek⟩ := hZ.alike.2.2 _ _ m2
  obtain ⟨vm', X', r⟩ := X.getClassOf hx hown (mvT hZ w1) (mvT hZ w2) (nf_top (args := #[]) (mvT hZ w3)) (mvT hZ w4) (mvT hZ w5) (mvT hZ w6) (by rw [hZ.alike.findClass]; exact m1) i3 q (by rw [ek]; exact m3) (g := mkF m pc Ls (.ref a :: st)) rfl hsize rfl hd hf (by show 2 * 0 + _ + _ ≤ _; omega)
  exact (k _ X' eT).via r
theorem g_ldcCls (X : Stand p l e R s m args below meth c T locs cells slots) (hx : p.tables.exec = Jvm.exec) (hZ : Z.Warmed39 s.vm) (hown : s.vm.findClass own = some m.cls) {C : String} {index : Nat} (w : (Jvm.Cond.classLink own index C).before a0 Z = true) (eT : T.heap = h) {mr : Addr} (M : OMir Z C mr) (hd : decode c.code pc = .ok (.ldc index, 2)) (hp : pc + 2 = pc')
    (k : ∀ T', Stand p l e R s m args below meth c T' locs cells slots → T'.heap = h → OGo p e below K T' (mkF m pc' Ls (.ref mr :: st))) : OGo p e below K T (mkF m pc Ls st) := by
  subst hp
  obtain ⟨cc, kc, m1, m2, m3⟩ := M
  obtain ⟨k', q, ek⟩ := hZ.alike.2.2 _ _ m2
  have hev : (Term.mirror C).eval args s none [] s = some (.ref mr) := by
    have f1 : s.vm.findClass C = some cc := by rw [hZ.alike.findClass]; exact m1
    have f2 : k'.mirror = some mr := by rw [ek]; exact m3
    simp [Term.eval, f1, q, f2]
  obtain ⟨vm', X', r⟩ := X.ldcMirror hx hown (mvT hZ w) hev (g := mkF m pc Ls st) rfl hd
  exact (k _ X' eT).via r
theorem aryArv {a : Addr} {kk : ClassId} {ty : FieldType} {vs : List Value} (d : Value) (F : OAry Z h a kk ty vs) : Arv Z h a kk ty vs.length.toInt32 vs d := by
  obtain ⟨c, A, r1, r2, r3, r4⟩ := F
  have hz : ¬ vs.length.toInt32 < 0 := by
    rw [Int32.lt_iff_toInt_lt, len_toInt r3]; have : (0 : Int32).toInt = 0 := rfl; omega
  have hn : vs.length.toInt32.toNatClampNeg = vs.length := by
    have := len_toInt r3; simp only [Int32.toNatClampNeg, this]; omega
  have hs : c.slots.size = vs.length := by rw [← r2]; simp
  have hg : ∀ i, i < c.slots.size → c.slots[i]? = some (vs.getD i d) := fun i hi => by
    have : c.slots[i]? = vs[i]? := by rw [← r2]; simp
    rw [this, List.getD_eq_getElem?_getD, List.getElem?_eq_getElem (by omega)]; rfl
  refine ⟨c, A, r1, by rw [hn, hs], hz, hg, fun i hi => ?_⟩
  refine r4 _ ?_
  rw [List.getD_eq_getElem?_getD, List.getElem?_eq_getElem (by omega)]; simp
theorem arvAry {a : Addr} {kk : ClassId} {ty : FieldType} {z : Int32} {vs : List Value} {d : Value} (F : Arv Z h a kk ty z vs d) (hz : z.toNatClampNeg = vs.length) : OAry Z h a kk ty vs := by
  obtain ⟨c, A, r1, r2, r3, H, G⟩ := F
  have hs : c.slots.size = vs.length := by rw [r2, hz]
  have e : c.slots.toList = vs := by
    apply List.ext_getElem?
    intro i
    by_cases hi : i < vs.length
    · have := H i (by omega)
      rw [List.getD_eq_getElem?_getD, List.getElem?_eq_getElem hi] at this
      simp only [Option.getD_some] at this
      rw [List.getElem?_eq_getElem hi, ← this]; simp
    · rw [List.getElem?_eq_none (by simp; omega), List.getElem?_eq_none (by omega)]
  refine ⟨c, A, r1, e, by have := (back32 r3).2; omega, fun v hv => ?_⟩
  obtain ⟨i, hi, rfl⟩ := List.getElem_of_mem hv
  have := G i (by omega)
  rw [List.getD_eq_getElem?_getD, List.getElem?_eq_getElem hi] at this
  exact this
/-- System.arraycopy of references, from 0 to 0, the whole of the target -/
theorem g_copy (X : Stand p l e R s m args below meth c T locs cells slots) (hx : p.tables.exec = Jvm.exec) (hZ : Z.Warmed39 s.vm) (hown : s.vm.findClass own = some m.cls) {index : Nat}
    (w1 : (Jvm.Cond.methodLink own index Jvm.Stand.acN).before a0 Z = true) (w2 : (Jvm.Cond.native Jvm.Stand.acN).before a0 Z = true) (w3 : (Jvm.Cond.static Jvm.Stand.acN).before a0 Z = true) (w4 : (Jvm.Cond.initialized "java/lang/System").before a0 Z = true) (eT : T.heap = h)
    {a b : Addr} {ka kb : ClassId} {ta tb : FieldType} {vs vd us : List Value} (A : OAry Z h a ka ta vs) (B : OAry Z h b kb tb vd) (r1 : refKind ta = true) (r2 : refKind tb = true) (hst : StoL Z h b us) {nn : Int32} (hnn : us.length.toInt32 = nn) (hlen : vd.length = us.length) (hus : vs.take us.length = us)
    (P : OPr h0 [] h locs) (ge : h0.size ≤ b) (hsize : Ls.size = c.maxLocals) (hd : decode c.code pc = .ok (.invokestatic index, 3)) (hp : pc + 3 = pc') (hf : 1 ≤ R.frames) {W : Nat} (hW : (st.map fun v => v.category).sum ≤ W) (hlo : W + (nativeFrameWords "java/lang/System" "arraycopy" 5 + 11) ≤ R.locals)
    (k : ∀ T' h' L, Stand p l e R s m args below meth c T' L cells slots → T'.heap = h' → OPr h0 [] h' L → OPr h [b] h' [] → OAry Z h' b kb tb us → OGo p e below K T' (mkF m pc' Ls st)) : OGo p e below K T (mkF m pc Ls (.int nn :: .int 0 :: .ref b :: .int 0 :: .ref a :: st)) := by
  subst hp hnn
  have la : us.length ≤ vs.length := by have := congrArg List.length hus; simp at this; omega
  have hu : us.length < 2 ^ 31 := by obtain ⟨_, _, _, _, q, _⟩ := B; omega
  have nu : us.length.toInt32.toNatClampNeg = us.length := by have := len_toInt hu; simp only [Int32.toNatClampNeg, this]; omega
  have hva : vs.length < 2 ^ 31 := by obtain ⟨_, _, _, _, q, _⟩ := A; exact q
  have na : vs.length.toInt32.toNatClampNeg = vs.length := by have := len_toInt hva; simp only [Int32.toNatClampNeg, this]; omega
  have nd : vd.length.toInt32.toNatClampNeg = us.length := by rw [hlen]; exact nu
  have z0 : (0 : Int32).toNatClampNeg = 0 := rfl
  have hz : ¬ us.length.toInt32 < 0 := by
    rw [Int32.lt_iff_toInt_lt, len_toInt hu]; have : (0 : Int32).toInt = 0 := rfl; omega
  obtain ⟨T', h', L', X', e', N', K', B', r⟩ := cpA X hx hZ hown w1 w2 w3 w4 eT (aryArv .null A) (aryArv .null B) (Or.inr ⟨r1, r2, hst⟩) (sp := 0) (dp := 0) (nn := us.length.toInt32) (by decide) (by decide) hz (by rw [z0, nu, na]; omega) (by rw [z0, nu, nd]; omega) (by
    rw [z0, nu]
    apply List.ext_getElem?
    intro i
    by_cases hi : i < us.length
    · rw [List.getElem?_map, List.getElem?_range hi]
      have q : us[i]? = vs[i]? := by rw [← hus, List.getElem?_take_of_lt hi]
      simp only [Option.map_some, Nat.zero_add, List.getD_eq_getElem?_getD]
      rw [q, List.getElem?_eq_getElem (show i < vs.length by omega)]; rfl
    · rw [List.getElem?_eq_none (by omega), List.getElem?_eq_none (by simp; omega)]) (by rw [z0, nu]; omega) P.fr ge (g := mkF m pc Ls (.int us.length.toInt32 :: .int 0 :: .ref b :: .int 0 :: .ref a :: st)) rfl hsize rfl hd hf (W := W) (by show 2 * 0 + _ ≤ _; omega) hlo
  rw [z0, nu, Nat.zero_add] at B'
  have B2 : OAry Z h' b kb tb us := by
    have e2 : vd.take 0 ++ us ++ vd.drop us.length = us := by rw [List.take_zero, List.nil_append, List.drop_eq_nil_of_le (by omega), List.append_nil]
    rw [e2] at B'
    exact arvAry B' nd
  have st' : ∀ (x : Addr) (cc : Cell), h[x]? = some cc → cc.vm.isStatics = true → h'[x]? = some cc := fun x cc q1 q2 => by
    refine K'.2.1 x cc q1 fun m => ?_
    cases List.mem_singleton.mp m
    obtain ⟨cb, Ab, -⟩ := B
    cases Ab.1.symm.trans q1
    rw [Ab.plain] at q2; cases q2
  have P' : OPr h0 [] h' L' := ⟨P.1.trans K' (fun x hx => by cases List.mem_singleton.mp hx; exact Or.inr ge), fun x cc q1 q2 => st' x cc (P.2.1 x cc q1 q2) q2, fun y hy => Or.inr (N' y hy)⟩
  exact (k T' h' L' X' e' P' ⟨K', st', fun _ q => nomatch q⟩ B2).via r

theorem g_castore (X : Stand p l e R s m args below meth c T locs cells slots) (hx : p.tables.exec = Jvm.exec) (hZ : Z.Warmed39 s.vm) (eT : T.heap = h) {a : Addr} {kk : ClassId} {vs vs' : List Value} (F : OAry Z h a kk .char vs) {j : Int32} {u : Value} {x y : Int32} (hy : nar .char x = y) (hj : ¬ j < 0) (hv : vs[j.toNatClampNeg]? = some u) (hvs : vs.set j.toNatClampNeg (.int y) = vs') (P : OPr h0 ws h locs) (q : a ∈ ws ∨ h0.size ≤ a) (hd : decode c.code pc = .ok (.castore, 1)) (hp : pc + 1 = pc')
    (k : ∀ T' h', Stand p l e R s m args below meth c T' (locs ++ [⟨a, j.toNatClampNeg⟩]) cells slots → T'.heap = h' → Wr h h' a j.toNatClampNeg (.int y) → OPr h0 ws h' (locs ++ [⟨a, j.toNatClampNeg⟩]) → OAry Z h' a kk .char vs' → OGo p e below K T' (mkF m pc' Ls st)) : OGo p e below K T (mkF m pc Ls (.int x :: .int j :: .ref a :: st)) := by
  subst hp hy
  obtain ⟨cl, A, r1, r2, r3⟩ := F
  obtain ⟨T', h', X', e', W', r⟩ := stC X hx hZ eT A (aryIn r2 hj hv).1 (g := mkF m pc Ls (.int x :: .int j :: .ref a :: st)) rfl rfl hd
  exact (k T' h' X' e' W' (P.wr W' q) (arySet ⟨cl, A, r1, r2, r3⟩ W' (fits_nar_char x) hvs)).via r
theorem g_bastore (X : Stand p l e R s m args below meth c T locs cells slots) (hx : p.tables.exec = Jvm.exec) (hZ : Z.Warmed39 s.vm) (eT : T.heap = h) {a : Addr} {kk : ClassId} {vs vs' : List Value} (F : OAry Z h a kk .byte vs) {j : Int32} {u : Value} {x y : Int32} (hy : x.toInt8.toInt32 = y) (hj : ¬ j < 0) (hv : vs[j.toNatClampNeg]? = some u) (hvs : vs.set j.toNatClampNeg (.int y) = vs') (P : OPr h0 ws h locs) (q : a ∈ ws ∨ h0.size ≤ a) (hd : decode c.code pc = .ok (.bastore, 1)) (hp : pc + 1 = pc')
    (k : ∀ T' h', Stand p l e R s m args below meth c T' (locs ++ [⟨a, j.toNatClampNeg⟩]) cells slots → T'.heap = h' → Wr h h' a j.toNatClampNeg (.int y) → OPr h0 ws h' (locs ++ [⟨a, j.toNatClampNeg⟩]) → OAry Z h' a kk .byte vs' → OGo p e below K T' (mkF m pc' Ls st)) : OGo p e below K T (mkF m pc Ls (.int x :: .int j :: .ref a :: st)) := by
  subst hp hy
  obtain ⟨cl, A, r1, r2, r3⟩ := F
  obtain ⟨T', h', X', e', W', r⟩ := stB X hx hZ eT A (aryIn r2 hj hv).1 (g := mkF m pc Ls (.int x :: .int j :: .ref a :: st)) rfl rfl hd
  exact (k T' h' X' e' W' (P.wr W' q) (arySet ⟨cl, A, r1, r2, r3⟩ W' (fits_nar_byte x) hvs)).via r
section Held
variable {EL : List (String × Nat)} {vm0 vm1 : Vm} {k0 : Nat}
def OFinC (Z : State) (EL : List (String × Nat)) (s : State) (rm : Room) (Q : Option Value → Heap → List Loc → Prop) (o : Outcome) (U' : State) : Prop := ∃ v L, o = .returned v ∧ Q v U'.heap L ∧ CHr Z EL s.vm s.heap U'.vm U'.heap ∧ ReturnedEndW s o U' L rm.cells rm.slots
/-- a contract that keeps the constants of EL held -/
def OMetC (l : Launch) (y : MethodName) (bytes : ByteArray) (maxL : Nat) (ret : Option FieldType) (rm : Room) (as : Array Value) (Z : State) (EL : List (String × Nat)) (h0 : Heap) (Q : Option Value → Heap → List Loc → Prop) : Prop :=
  ∀ ws : List Jvm.Cond, MetFree l y (head1 (Jvm.Cond.code y bytes maxL ret :: ws) rm) (fun a U => a = as ∧ Z.Warmed39 U.vm ∧ U.heap = h0 ∧ CHv Z EL U.vm h0) (fun _ _ _ _ _ => True) (fun _ U o U' => OFinC Z EL U rm Q o U')
theorem OMetC.body {y : MethodName} {bytes : ByteArray} {maxL : Nat} {ret : Option FieldType} {rm : Room} {as : Array Value} {Q : Option Value → Heap → List Loc → Prop} {Ls : Array Slot} (hpl : plainFor y = true) (hef : ∀ m, entryFrame m as maxL = mkF m 0 Ls [])
    (H : ∀ (p : Program) (e : Env) (s : State) (m : MethodId) (below : List Frame) (meth : Method) (c : Code) (T : State) (K : Outcome → State → Prop), K = OFinC Z EL s rm Q → Stand p l e rm (s.setVm s.vm) m as below meth c T [] 0 0 → p.tables.exec = Jvm.exec → c.code = bytes → c.maxLocals = maxL → s.vm.findClass y.cls = some m.cls → meth.name = y.name → meth.sig.returnType = ret → meth.locks = false → Z.Warmed39 s.vm → T.heap = h0 → s.heap = h0 → CHr Z EL s.vm h0 s.vm h0 → OGo p e below K T (mkF m 0 Ls [])) :
    OMetC l y bytes maxL ret rm as Z EL h0 Q := fun ws => by
  refine MetFree.of_bodySF hpl hisR ?_
  intro p e s m args below meth c s₁ Bd hml0 hP hK
  obtain ⟨rfl, hZ, hh, hC⟩ := hP
  have e1 : s₁.heap = s.heap := by rw [Bd.state]; rfl
  have k := H p e s m below meth c s₁ _ rfl (Stand.of_body Bd) Bd.exec Bd.bytes hml0 (findClass_of_methodNamed Bd.named) (name_of_methodNamed Bd.named Bd.method).1 Bd.returns Bd.notSynchronized hZ (e1.trans hh) hh (CHr.refl hC)
  rw [← hef m] at k
  exact k
theorem g_retC {rm : Room} {Q : Option Value → Heap → List Loc → Prop} {t : FieldType} {w : Value} {i : Instr} (X : Stand p l e rm (s.setVm vm0) m args below meth c T locs cells slots) (hx : p.tables.exec = Jvm.exec) (hret : meth.sig.returnType = some t) (hlk : meth.locks = false) (hS : s.Since vm0 k0) (hk : k0 ≤ h.size) (hZ : Z.Warmed39 vm0) (hEL : EW Z a0 EL) (es : s.heap = h0) (Rr : CHr Z EL s.vm h0 vm0 h) (hn : narrow t w = w)
    (hi : (i = .ireturn ∧ (t = .int ∨ t = .boolean ∨ t = .byte ∨ t = .char ∨ t = .short) ∧ ∃ z, w = .int z) ∨ (i = .lreturn ∧ t = .long ∧ ∃ z, w = .long z) ∨ (i = .dreturn ∧ t = .double ∧ ∃ z, w = .double z) ∨ (i = .freturn ∧ t = .float ∧ ∃ z, w = .float z) ∨ (i = .areturn ∧ t.isReference = true ∧ w.isRef = true))
    (hd : decode c.code pc = .ok (i, 1)) (hc : cells ≤ rm.cells) (hs : slots ≤ rm.slots) (eT : T.heap = h) (hK : K = OFinC Z EL s rm Q) (hQ : Q (some w) h locs) : OGo p e below K T (mkF m pc Ls (w :: st)) := by
  subst hK
  obtain ⟨fs, hr, hrun, hended, hW⟩ := X.leaveW hS (v := some w) (by rw [eT]; exact hk) (fun h => by rw [hret] at h; cases h) hlk
  obtain ⟨z1, z2, z3, z4⟩ := hW
  exact ⟨_, _, retOut X hx hret hn hi hd hr, hrun, hended, _, _, rfl, by show Q _ T.heap _; rw [eT]; exact hQ, by show CHr Z EL s.vm s.heap T.vm T.heap; rw [es, eT]; exact Rr.trans (CHv.at X hZ hEL Rr.1), ⟨z1, z2, z3, z4.mono hc hs⟩⟩
theorem g_ret0C {rm : Room} {Q : Option Value → Heap → List Loc → Prop} (X : Stand p l e rm (s.setVm vm0) m args below meth c T locs cells slots) (hx : p.tables.exec = Jvm.exec) (hret : meth.sig.returnType = none) (hlk : meth.locks = false) (hS : s.Since vm0 k0) (hk : k0 ≤ h.size) (hZ : Z.Warmed39 vm0) (hEL : EW Z a0 EL) (es : s.heap = h0) (Rr : CHr Z EL s.vm h0 vm0 h)
    (hd : decode c.code pc = .ok (.return_, 1)) (hc : cells ≤ rm.cells) (hs : slots ≤ rm.slots) (eT : T.heap = h) (hK : K = OFinC Z EL s rm Q) (hQ : Q none h locs) : OGo p e below K T (mkF m pc Ls []) := by
  subst hK
  obtain ⟨fs, hr, hrun, hended, hW⟩ := X.leaveW hS (v := none) (by rw [eT]; exact hk) (fun _ => rfl) hlk
  obtain ⟨z1, z2, z3, z4⟩ := hW
  exact ⟨_, _, X.returnOut hx hret hd hr, hrun, hended, _, _, rfl, by show Q _ T.heap _; rw [eT]; exact hQ, by show CHr Z EL s.vm s.heap T.vm T.heap; rw [es, eT]; exact Rr.trans (CHv.at X hZ hEL Rr.1), ⟨z1, z2, z3, z4.mono hc hs⟩⟩
theorem g_ldcC {h00 : Heap} (X : Stand p l e R (s.setVm vm0) m args below meth c T locs cells slots) (hx : p.tables.exec = Jvm.exec) (hZ : Z.Warmed39 vm0) (hown : vm0.findClass own = some m.cls) {text : String} {index : Nat} (w : (Jvm.Cond.stringLink own index text).before a0 Z = true) (wS : ∀ a ∈ Bundle.stringAtoms, a.before a0 Z = true)
    (eT : T.heap = h) (hS : s.Since vm0 k0) (hk : k0 ≤ h.size) (hEL : EW Z a0 EL) (hmem : (own, index) ∈ EL) (Rr : CHr Z EL s.vm h00 vm0 h) (P : OPr h0 ws h locs) (hd : decode c.code pc = .ok (.ldc index, 2)) (hp : pc + 2 = pc') {vs : List Value} {z : Int32} (ht : (∀ c ∈ text.toList, c.toNat < 256) ∧ text.toList.map (fun c => Value.int (Jvm.Lit.byteI c.toNat.toUInt16)) = vs) (hz : ¬ z < 0) (hl : z.toNatClampNeg = vs.length) {n : Nat} (hn : 4 * text.toList.length ≤ n) (hbig : n ≤ 536870912) (hc : cells + 2 ≤ R.cells) (hl' : slots + (n + 4) ≤ R.slots)
    (k : ∀ (a b : Addr) (kb : ClassId) T' h' vm1 k1, Stand p l e R (s.setVm vm1) m args below meth c T' locs (cells + 2) (slots + (n + 4)) → T'.heap = h' → Ext h h' → OPr h0 ws h' locs → s.Since vm1 k1 → k1 ≤ h'.size → Z.Warmed39 vm1 → vm1.findClass own = some m.cls → CHr Z EL vm0 h vm1 h' → (∀ x, Safe Z EL vm1 h' x → x ≠ a ∧ x ≠ b) → Exa Z h' a "java/lang/String" → Fld Z h' a "java/lang/String" "coder" "B" (.int 0) → Fld Z h' a "java/lang/String" "value" "[B" (.ref b) → OAry Z h' b kb .byte vs → OGo p e below K T' (mkF m pc' Ls (.ref a :: st))) : OGo p e below K T (mkF m pc Ls st) := by
  subst hp
  obtain ⟨a, T', h', k1, b, kb, X', e', E', hS', hk', hZ', ho', x1, x2, x3, x4, -, -, hC, -, hne, r⟩ := ldcCH X hx hZ hown w wS eT hS hk hEL hmem Rr.1 ht hz hl (g := mkF m pc Ls st) rfl hd hn hbig hc hl'
  exact (k a b kb T' h' _ k1 X' e' E' (P.ext E') hS' hk' hZ' ho' hC hne x1 x2 x3 (arvAry x4 hl)).via r
theorem safeAry {x : Addr} {kk : ClassId} {ty : FieldType} {vs : List Value} (hal : Z.vm.Alike vm0) (F : OAry Z h x kk ty vs) (ht : ty ≠ .byte) : Safe Z EL vm0 h x := by
  obtain ⟨cl, A, -⟩ := F; exact Safe.arr hal A ht
theorem safeNull {x : Addr} {n : Nat} (hal : Z.vm.Alike vm0) (F : Fld Z h x "java/lang/String" "value" "[B" .null) (E : Exa Z h x "java/lang/String") (wi : (Jvm.Cond.instantiable "java/lang/String" n).before a0 Z = true) : Safe Z EL vm0 h x := fun B => by
  obtain ⟨p, -, u, a, -, q, -, S, rfl | rfl⟩ := B
  · obtain ⟨cS, ⟨⟨s1, -, -, ⟨cv, kv, iv, s4, -⟩, -, -, -, s8, -⟩, -, -⟩, -⟩ := S
    obtain ⟨cell, cf, k, i, f, f1, f2, -, -, -, -, f7⟩ := F
    cases (show h[q.sa]? = some q.sC from s1).symm.trans f1
    obtain ⟨k', z4⟩ := ff_back (U := Wst Z vm0 h) hal s4
    cases f2.symm.trans z4
    rw [s8] at f7; cases f7
  · obtain ⟨cS, ⟨⟨-, -, -, -, -, -, -, -, -, s10, ⟨hst, k9, hk9, comp, hk⟩, s12, -⟩, -, -⟩, -⟩ := S
    obtain ⟨kz, h3⟩ : ∃ kz, Z.vm.classes[q.SA.cls]? = some kz := by
      obtain ⟨ce, k, e1, e2, e3, -⟩ := E
      cases e1.symm.trans (show h[q.sd]? = some q.SA from s10); exact ⟨k, e3⟩
    obtain ⟨k2, h4, h5⟩ := hal.2.2 _ _ h3
    cases h4.symm.trans (show vm0.classes[q.SA.cls]? = some k9 from hk9)
    have A : Arr Z h q.sd q.SA .byte := ⟨s10, ⟨hst, kz, h3, comp, by rw [h5] at hk; exact hk⟩, s12⟩
    exact ne_arr E wi A rfl
theorem OMetC.back {y : MethodName} {bytes : ByteArray} {maxL : Nat} {ret : Option FieldType} {rm : Room} {as : Array Value} {Q : Option Value → Heap → List Loc → Prop} {len W : Nat} (hM : OMetC l y bytes maxL ret rm as Z EL h Q) (hZ : Z.Warmed39 vm0) (wc : (Jvm.Cond.code y bytes maxL ret).before a0 Z = true) (wz : (Jvm.Cond.initialized y.cls).before a0 Z = true) (hf : rm.frames + 1 ≤ R.frames) (hl : W + (maxL + 11) + rm.locals ≤ R.locals) (hEL : EW Z a0 EL) (H : CHv Z EL vm0 h) :
    BackS l R p e below (s.setVm vm0) args y len W (fun A a => a = as ∧ A.U.heap = h ∧ A.cells + rm.cells ≤ R.cells ∧ A.slots + rm.slots ≤ R.slots)
      (fun A _ v B => ∃ L, Q v B.U.heap L ∧ B.locs = A.locs ++ L ∧ B.cells = A.cells + rm.cells ∧ B.slots = A.slots + rm.slots ∧ CHr Z EL vm0 h B.U.vm B.U.heap) := backOfSH (hM []) hZ wc wz hf hl hEL H
theorem g_specialC {h00 : Heap} (X : Stand p l e R (s.setVm vm0) m args below meth c T locs cells slots) (hx : p.tables.exec = Jvm.exec) (hZ : Z.Warmed39 vm0) (hown : vm0.findClass own = some m.cls) (eT : T.heap = h) (hS : s.Since vm0 k0) (hk : k0 ≤ h.size) (hEL : EW Z a0 EL) (Rr : CHr Z EL s.vm h00 vm0 h) {y : MethodName} {bytes : ByteArray} {maxL index : Nat} {rm : Room} {as : Array Value} {Q : Option Value → Heap → List Loc → Prop} (hM : OMetC l y bytes maxL none rm as Z EL h Q) (hy1 : y.name = "<init>")
    (w1 : (Jvm.Cond.methodLink own index y).before a0 Z = true) (w2 : (Jvm.Cond.instanceMethod y).before a0 Z = true) (w3 : (Jvm.Cond.code y bytes maxL none).before a0 Z = true) (wz : (Jvm.Cond.initialized y.cls).before a0 Z = true) (hy : y.cls ≠ "java/lang/invoke/MethodHandle" ∧ y.cls ≠ "java/lang/invoke/VarHandle")
    {a : Addr} {argsL rest : List Value} (has : (.ref a :: argsL).toArray = as) (hst : st = argsL.reverse ++ .ref a :: rest) {W : Nat} {ps : List FieldType} (hde : parseMethodDescriptor y.desc = some ⟨ps, none⟩) (hlen : argsL.length = ps.length) (hW : (rest.map fun v => v.category).sum ≤ W) (hf : rm.frames + 1 ≤ R.frames) (hl : W + (maxL + 11) + rm.locals ≤ R.locals) (hc : cells + rm.cells ≤ R.cells) (hs : slots + rm.slots ≤ R.slots)
    (hsize : Ls.size = c.maxLocals) (hd : decode c.code pc = .ok (.invokespecial index, 3)) (hp : pc + 3 = pc')
    (k : ∀ v T' h' L vm1 k1, Stand p l e R (s.setVm vm1) m args below meth c T' (locs ++ L) (cells + rm.cells) (slots + rm.slots) → T'.heap = h' → Q v h' L → s.Since vm1 k1 → k1 ≤ h'.size → Z.Warmed39 vm1 → vm1.findClass own = some m.cls → CHr Z EL vm0 h vm1 h' → OGo p e below K T' (mkF m pc' Ls (v.toList ++ rest))) : OGo p e below K T (mkF m pc Ls st) := by
  subst hp has
  have hZ' : Z.Warmed39 (s.setVm vm0).vm := hZ
  obtain ⟨v, vm₁, ⟨T', L', c', n'⟩, -, X', hS', hg', ⟨Lc, hQ, l1, y1, z1, hC⟩, r⟩ := X.specialBackS hx (y := y) hy1 hown (mvT hZ' w1) (mvT hZ' w2) (mvT hZ' w3) hy (hM.back (W := W) hZ w3 wz hf hl hEL Rr.1) (g := mkF m pc Ls st) rfl hsize (Steps.refl _) (a := a) (argsL := argsL) (rest := rest) (lenOf hde hlen) hst (by show 2 * 0 + _ ≤ _; omega) hd (fun _ _ => ⟨rfl, eT, hc, hs⟩)
  dsimp only [Pt.U, Pt.locs, Pt.cells, Pt.slots] at X' l1 y1 z1 r hQ hS' hg' hC
  subst l1 y1 z1
  have hS2 : s.Since T'.vm T'.heap.size := hS.trans hS' (Nat.le_trans hk (by rw [← eT]; exact hg'))
  exact (k v T' _ Lc T'.vm _ X' rfl hQ hS2 (Nat.le_refl _) (State.Warmed39.trans (t := s.setVm vm0) hZ hS'.1) (by rw [hS'.1.alike.findClass]; exact hown) hC).tr r
theorem g_staticC {h00 : Heap} (X : Stand p l e R (s.setVm vm0) m args below meth c T locs cells slots) (hx : p.tables.exec = Jvm.exec) (hZ : Z.Warmed39 vm0) (hown : vm0.findClass own = some m.cls) (eT : T.heap = h) (hS : s.Since vm0 k0) (hk : k0 ≤ h.size) (hEL : EW Z a0 EL) (Rr : CHr Z EL s.vm h00 vm0 h) {y : MethodName} {bytes : ByteArray} {maxL index : Nat} {ret : Option FieldType} {rm : Room} {as : Array Value} {Q : Option Value → Heap → List Loc → Prop} (hM : OMetC l y bytes maxL ret rm as Z EL h Q)
    (w1 : (Jvm.Cond.methodLink own index y).before a0 Z = true) (w2 : (Jvm.Cond.static y).before a0 Z = true) (w3 : (Jvm.Cond.code y bytes maxL ret).before a0 Z = true) (wz : (Jvm.Cond.initialized y.cls).before a0 Z = true) (hy : y.cls ≠ "java/lang/invoke/MethodHandle" ∧ y.cls ≠ "java/lang/invoke/VarHandle")
    {argsL rest : List Value} (has : argsL.toArray = as) (hst : st = argsL.reverse ++ rest) {W : Nat} {ps : List FieldType} {rt : Option FieldType} (hde : parseMethodDescriptor y.desc = some ⟨ps, rt⟩) (hlen : argsL.length = ps.length) (hW : (rest.map fun v => v.category).sum ≤ W) (hf : rm.frames + 1 ≤ R.frames) (hl : W + (maxL + 11) + rm.locals ≤ R.locals) (hc : cells + rm.cells ≤ R.cells) (hs : slots + rm.slots ≤ R.slots)
    (hsize : Ls.size = c.maxLocals) (hd : decode c.code pc = .ok (.invokestatic index, 3)) (hp : pc + 3 = pc')
    (k : ∀ v T' h' L vm1 k1, Stand p l e R (s.setVm vm1) m args below meth c T' (locs ++ L) (cells + rm.cells) (slots + rm.slots) → T'.heap = h' → Q v h' L → s.Since vm1 k1 → k1 ≤ h'.size → Z.Warmed39 vm1 → vm1.findClass own = some m.cls → CHr Z EL vm0 h vm1 h' → OGo p e below K T' (mkF m pc' Ls (v.toList ++ rest))) : OGo p e below K T (mkF m pc Ls st) := by
  subst hp has
  have hZ' : Z.Warmed39 (s.setVm vm0).vm := hZ
  obtain ⟨v, vm₁, ⟨T', L', c', n'⟩, -, X', hS', hg', ⟨Lc, hQ, l1, y1, z1, hC⟩, r⟩ := callSS X hx (y := y) hown (mvT hZ' w1) (mvT hZ' w2) (mvT hZ' wz) (mvT hZ' w3) hy (hM.back (W := W) hZ w3 wz hf hl hEL Rr.1) (g := mkF m pc Ls st) rfl hsize (argsL := argsL) (rest := rest) (lenOf hde hlen) hst (by show 2 * 0 + _ ≤ _; omega) hd (fun _ _ => ⟨rfl, eT, hc, hs⟩)
  dsimp only [Pt.U, Pt.locs, Pt.cells, Pt.slots] at X' l1 y1 z1 r hQ hS' hg' hC
  subst l1 y1 z1
  have hS2 : s.Since T'.vm T'.heap.size := hS.trans hS' (Nat.le_trans hk (by rw [← eT]; exact hg'))
  exact (k v T' _ Lc T'.vm _ X' rfl hQ hS2 (Nat.le_refl _) (State.Warmed39.trans (t := s.setVm vm0) hZ hS'.1) (by rw [hS'.1.alike.findClass]; exact hown) hC).tr r
end Held
end Own
theorem b8b8 (c : Int32) : (c.toInt8.toInt32).toInt8.toInt32 = c.toInt8.toInt32 := by simp
theorem charNar {c : Int32} (h1 : ¬ c < 0) (h2 : ¬ 255 < c) : nar .char c = c := by
  have a0 : (0 : Int32).toInt = 0 := rfl
  have a1 : (255 : Int32).toInt = 255 := rfl
  rw [Int32.lt_iff_toInt_lt] at h1 h2
  apply Int32.toInt_inj.mp
  show (c.toUInt32.toUInt16.toUInt32.toInt32).toInt = c.toInt
  obtain ⟨u, hu⟩ : ∃ u : Nat, c.toInt = u := ⟨c.toInt.toNat, by omega⟩
  have hc : c = Int32.ofInt u := by rw [← hu, Int32.ofInt_toInt]
  have hu2 : u < 256 := by omega
  rw [hc]
  have : ∀ u : Fin 256, ((Int32.ofInt (u.val : Int)).toUInt32.toUInt16.toUInt32.toInt32).toInt = (Int32.ofInt (u.val : Int)).toInt := by decide +kernel
  exact this ⟨u, hu2⟩
def BL (l c0 c1 c2 : Int32) : List Value := if l = 0 then [] else if l = 1 then [.int c0.toInt8.toInt32] else if l = 2 then [.int c0.toInt8.toInt32, .int c1.toInt8.toInt32] else [.int c0.toInt8.toInt32, .int c1.toInt8.toInt32, .int c2.toInt8.toInt32]
theorem BL0 {c0 c1 c2 : Int32} : BL 0 c0 c1 c2 = [] := rfl
theorem BL1 {c0 c1 c2 : Int32} : BL 1 c0 c1 c2 = [.int c0.toInt8.toInt32] := rfl
theorem BL2 {c0 c1 c2 : Int32} : BL 2 c0 c1 c2 = [.int c0.toInt8.toInt32, .int c1.toInt8.toInt32] := rfl
theorem BL3 {c0 c1 c2 : Int32} : BL 3 c0 c1 c2 = [.int c0.toInt8.toInt32, .int c1.toInt8.toInt32, .int c2.toInt8.toInt32] := rfl
def KD (i : Int32) (t0 t1 t2 t3 t4 t5 t6 : Addr) : Addr := if i = 0 then t0 else if i = 1 then t1 else if i = 2 then t2 else if i = 3 then t3 else if i = 4 then t4 else if i = 5 then t5 else t6
theorem iteNe {P : Prop} [Decidable P] (h : ¬ (if P then (1 : Int32) else 0) = 0) : P := by
  by_cases q : P
  · exact q
  · rw [if_neg q] at h; exact absurd rfl h
theorem iteIff {P Q : Prop} [Decidable P] [Decidable Q] (h : P ↔ Q) : (if P then (1 : Int32) else 0) = if Q then 1 else 0 := by
  by_cases q : P
  · rw [if_pos q, if_pos (h.mp q)]
  · rw [if_neg q, if_neg (fun r => q (h.mpr r))]
theorem swIff {a b : Addr} {l m : List Value} : (b = a ∧ m = l) ↔ (a = b ∧ l = m) := ⟨fun q => ⟨q.1.symm, q.2.symm⟩, fun q => ⟨q.1.symm, q.2.symm⟩⟩
theorem by8 {c d : Int32} (h1 : ¬ 255 < c) (h2 : ¬ c < 0) (h3 : ¬ 255 < d) (h4 : ¬ d < 0) : (Value.int c.toInt8.toInt32 = Value.int d.toInt8.toInt32) ↔ c = d := by
  constructor
  · intro q
    have q2 := Value.int.inj q
    have q3 : c.toInt8 = d.toInt8 := by have := congrArg Int32.toInt8 q2; simpa using this
    have a0 : (0 : Int32).toInt = 0 := rfl
    have a1 : (255 : Int32).toInt = 255 := rfl
    rw [Int32.lt_iff_toInt_lt] at h1 h2 h3 h4
    have q4 := congrArg Int8.toInt q3
    rw [Int32.toInt_toInt8, Int32.toInt_toInt8] at q4
    apply Int32.toInt_inj.mp
    have e1 : Int.bmod c.toInt (2 ^ 8) % 256 = c.toInt % 256 := by rw [show (256 : Int) = ((2 ^ 8 : Nat) : Int) from rfl]; exact Int.bmod_emod
    have e2 : Int.bmod d.toInt (2 ^ 8) % 256 = d.toInt % 256 := by rw [show (256 : Int) = ((2 ^ 8 : Nat) : Int) from rfl]; exact Int.bmod_emod
    omega
  · rintro rfl; rfl
theorem ltUp10 {l : Int32} (h : l < 1) : l < 2 := by rw [Int32.lt_iff_toInt_lt] at h ⊢; have a : (1 : Int32).toInt = 1 := rfl; have b : (2 : Int32).toInt = 2 := rfl; omega
theorem ltUp20 {l : Int32} (h : l < 1) : l < 3 := by rw [Int32.lt_iff_toInt_lt] at h ⊢; have a : (1 : Int32).toInt = 1 := rfl; have b : (3 : Int32).toInt = 3 := rfl; omega
theorem ltUp21 {l : Int32} (h : l < 2) : l < 3 := by rw [Int32.lt_iff_toInt_lt] at h ⊢; have a : (2 : Int32).toInt = 2 := rfl; have b : (3 : Int32).toInt = 3 := rfl; omega
theorem blIff {la lb x0 x1 x2 y0 y1 y2 : Int32} (hla : la = 0 ∨ la = 1 ∨ la = 2 ∨ la = 3) (hlb : lb = 0 ∨ lb = 1 ∨ lb = 2 ∨ lb = 3) (hx0 : ¬ 255 < x0) (gx0 : ¬ x0 < 0) (hx1 : ¬ 255 < x1) (gx1 : ¬ x1 < 0) (hx2 : ¬ 255 < x2) (gx2 : ¬ x2 < 0) (hy0 : ¬ 255 < y0) (gy0 : ¬ y0 < 0) (hy1 : ¬ 255 < y1) (gy1 : ¬ y1 < 0) (hy2 : ¬ 255 < y2) (gy2 : ¬ y2 < 0) : (BL la x0 x1 x2 = BL lb y0 y1 y2) ↔ (la = lb ∧ (la < 1 ∨ x0 = y0) ∧ (la < 2 ∨ x1 = y1) ∧ (la < 3 ∨ x2 = y2)) := by
  have b0 := by8 hx0 gx0 hy0 gy0
  have b1 := by8 hx1 gx1 hy1 gy1
  have b2 := by8 hx2 gx2 hy2 gy2
  rcases hla with rfl | rfl | rfl | rfl <;> rcases hlb with rfl | rfl | rfl | rfl <;> simp only [BL0, BL1, BL2, BL3, List.cons.injEq, b0, b1, b2, and_true, true_and, reduceCtorEq] <;> simp +decide
theorem kdNe {Z : State} {h : Heap} {a b : Addr} {p q : Int32} (F : Fld Z h a "java/lang/Enum" "ordinal" "I" (.int p)) (G : Fld Z h b "java/lang/Enum" "ordinal" "I" (.int q)) (ne : p ≠ q) : a ≠ b := by
  rintro rfl
  obtain ⟨c1, _, _, _, f1, a1, a2, -, -, -, -, a7⟩ := F
  obtain ⟨c2, _, _, _, f2, b1, b2, -, -, -, -, b7⟩ := G
  cases a1.symm.trans b1; cases a2.symm.trans b2
  exact ne (Value.int.inj (Option.some.inj (a7.symm.trans b7)))
theorem keyIff {Z : State} {h : Heap} {t0 : Addr} {t1 : Addr} {t2 : Addr} {t3 : Addr} {t4 : Addr} {t5 : Addr} {t6 : Addr} {i1 i2 la lb x0 x1 x2 y0 y1 y2 : Int32} (h1 : i1 = 0 ∨ i1 = 1 ∨ i1 = 2 ∨ i1 = 3 ∨ i1 = 4 ∨ i1 = 5 ∨ i1 = 6) (h2 : i2 = 0 ∨ i2 = 1 ∨ i2 = 2 ∨ i2 = 3 ∨ i2 = 4 ∨ i2 = 5 ∨ i2 = 6) (hla : la = 0 ∨ la = 1 ∨ la = 2 ∨ la = 3) (hlb : lb = 0 ∨ lb = 1 ∨ lb = 2 ∨ lb = 3) (hx0 : ¬ 255 < x0) (gx0 : ¬ x0 < 0) (hx1 : ¬ 255 < x1) (gx1 : ¬ x1 < 0) (hx2 : ¬ 255 < x2) (gx2 : ¬ x2 < 0) (hy0 : ¬ 255 < y0) (gy0 : ¬ y0 < 0) (hy1 : ¬ 255 < y1) (gy1 : ¬ y1 < 0) (hy2 : ¬ 255 < y2) (gy2 : ¬ y2 < 0) (F0 : Fld Z h t0 "java/lang/Enum" "ordinal" "I" (.int (0 : Int32))) (F1 : Fld Z h t1 "java/lang/Enum" "ordinal" "I" (.int (1 : Int32))) (F2 : Fld Z h t2 "java/lang/Enum" "ordinal" "I" (.int (2 : Int32))) (F3 : Fld Z h t3 "java/lang/Enum" "ordinal" "I" (.int (3 : Int32))) (F4 : Fld Z h t4 "java/lang/Enum" "ordinal" "I" (.int (4 : Int32))) (F5 : Fld Z h t5 "java/lang/Enum" "ordinal" "I" (.int (5 : Int32))) (F6 : Fld Z h t6 "java/lang/Enum" "ordinal" "I" (.int (6 : Int32))) :
    (KD i1 t0 t1 t2 t3 t4 t5 t6 = KD i2 t0 t1 t2 t3 t4 t5 t6 ∧ BL la x0 x1 x2 = BL lb y0 y1 y2) ↔ (i1 = i2 ∧ la = lb ∧ (la < 1 ∨ x0 = y0) ∧ (la < 2 ∨ x1 = y1) ∧ (la < 3 ∨ x2 = y2)) := by
  have e : KD i1 t0 t1 t2 t3 t4 t5 t6 = KD i2 t0 t1 t2 t3 t4 t5 t6 ↔ i1 = i2 := by
    constructor
    · intro q
      rcases h1 with rfl | rfl | rfl | rfl | rfl | rfl | rfl <;> rcases h2 with rfl | rfl | rfl | rfl | rfl | rfl | rfl <;> first
        | rfl
        | exact absurd (show t0 = t1 from q) (kdNe F0 F1 (by decide))
        | exact absurd (show t0 = t2 from q) (kdNe F0 F2 (by decide))
        | exact absurd (show t0 = t3 from q) (kdNe F0 F3 (by decide))
        | exact absurd (show t0 = t4 from q) (kdNe F0 F4 (by decide))
        | exact absurd (show t0 = t5 from q) (kdNe F0 F5 (by decide))
        | exact absurd (show t0 = t6 from q) (kdNe F0 F6 (by decide))
        | exact absurd (show t1 = t0 from q) (kdNe F1 F0 (by decide))
        | exact absurd (show t1 = t2 from q) (kdNe F1 F2 (by decide))
        | exact absurd (show t1 = t3 from q) (kdNe F1 F3 (by decide))
        | exact absurd (show t1 = t4 from q) (kdNe F1 F4 (by decide))
        | exact absurd (show t1 = t5 from q) (kdNe F1 F5 (by decide))
        | exact absurd (show t1 = t6 from q) (kdNe F1 F6 (by decide))
        | exact absurd (show t2 = t0 from q) (kdNe F2 F0 (by decide))
        | exact absurd (show t2 = t1 from q) (kdNe F2 F1 (by decide))
        | exact absurd (show t2 = t3 from q) (kdNe F2 F3 (by decide))
        | exact absurd (show t2 = t4 from q) (kdNe F2 F4 (by decide))
        | exact absurd (show t2 = t5 from q) (kdNe F2 F5 (by decide))
        | exact absurd (show t2 = t6 from q) (kdNe F2 F6 (by decide))
        | exact absurd (show t3 = t0 from q) (kdNe F3 F0 (by decide))
        | exact absurd (show t3 = t1 from q) (kdNe F3 F1 (by decide))
        | exact absurd (show t3 = t2 from q) (kdNe F3 F2 (by decide))
        | exact absurd (show t3 = t4 from q) (kdNe F3 F4 (by decide))
        | exact absurd (show t3 = t5 from q) (kdNe F3 F5 (by decide))
        | exact absurd (show t3 = t6 from q) (kdNe F3 F6 (by decide))
        | exact absurd (show t4 = t0 from q) (kdNe F4 F0 (by decide))
        | exact absurd (show t4 = t1 from q) (kdNe F4 F1 (by decide))
        | exact absurd (show t4 = t2 from q) (kdNe F4 F2 (by decide))
        | exact absurd (show t4 = t3 from q) (kdNe F4 F3 (by decide))
        | exact absurd (show t4 = t5 from q) (kdNe F4 F5 (by decide))
        | exact absurd (show t4 = t6 from q) (kdNe F4 F6 (by decide))
        | exact absurd (show t5 = t0 from q) (kdNe F5 F0 (by decide))
        | exact absurd (show t5 = t1 from q) (kdNe F5 F1 (by decide))
        | exact absurd (show t5 = t2 from q) (kdNe F5 F2 (by decide))
        | exact absurd (show t5 = t3 from q) (kdNe F5 F3 (by decide))
        | exact absurd (show t5 = t4 from q) (kdNe F5 F4 (by decide))
        | exact absurd (show t5 = t6 from q) (kdNe F5 F6 (by decide))
        | exact absurd (show t6 = t0 from q) (kdNe F6 F0 (by decide))
        | exact absurd (show t6 = t1 from q) (kdNe F6 F1 (by decide))
        | exact absurd (show t6 = t2 from q) (kdNe F6 F2 (by decide))
        | exact absurd (show t6 = t3 from q) (kdNe F6 F3 (by decide))
        | exact absurd (show t6 = t4 from q) (kdNe F6 F4 (by decide))
        | exact absurd (show t6 = t5 from q) (kdNe F6 F5 (by decide))
    · rintro rfl; rfl
  rw [e, blIff hla hlb hx0 gx0 hx1 gx1 hx2 gx2 hy0 gy0 hy1 gy1 hy2 gy2]
theorem k7 (x : Int32) : ((x &&& 2147483647) % 7) = 0 ∨ ((x &&& 2147483647) % 7) = 1 ∨ ((x &&& 2147483647) % 7) = 2 ∨ ((x &&& 2147483647) % 7) = 3 ∨ ((x &&& 2147483647) % 7) = 4 ∨ ((x &&& 2147483647) % 7) = 5 ∨ ((x &&& 2147483647) % 7) = 6 := by
  have h := c_mask x 2147483647 31 (by decide) (by decide)
  have h2 := (c_irem (x &&& (2147483647 : Int32)) 7 7 (by decide)).1 (by omega)
  have h3 : ((x &&& 2147483647) % 7 : Int32).toInt = (x &&& (2147483647 : Int32)).toInt % 7 := by simpa using h2
  have cs : ((x &&& 2147483647) % 7 : Int32).toInt = 0 ∨ ((x &&& 2147483647) % 7 : Int32).toInt = 1 ∨ ((x &&& 2147483647) % 7 : Int32).toInt = 2 ∨ ((x &&& 2147483647) % 7 : Int32).toInt = 3 ∨ ((x &&& 2147483647) % 7 : Int32).toInt = 4 ∨ ((x &&& 2147483647) % 7 : Int32).toInt = 5 ∨ ((x &&& 2147483647) % 7 : Int32).toInt = 6 := by omega
  rcases cs with q | q | q | q | q | q | q
  · exact Or.inl (Int32.toInt_inj.mp q)
  · exact Or.inr (Or.inl (Int32.toInt_inj.mp q))
  · exact Or.inr (Or.inr (Or.inl (Int32.toInt_inj.mp q)))
  · exact Or.inr (Or.inr (Or.inr (Or.inl (Int32.toInt_inj.mp q))))
  · exact Or.inr (Or.inr (Or.inr (Or.inr (Or.inl (Int32.toInt_inj.mp q)))))
  · exact Or.inr (Or.inr (Or.inr (Or.inr (Or.inr (Or.inl (Int32.toInt_inj.mp q))))))
  · exact Or.inr (Or.inr (Or.inr (Or.inr (Or.inr (Or.inr ((Int32.toInt_inj.mp q)))))))
theorem k4 (x : Int32) : (x &&& 3) = 0 ∨ (x &&& 3) = 1 ∨ (x &&& 3) = 2 ∨ (x &&& 3) = 3 := by
  have h := c_mask x 3 2 (by decide) (by decide)
  have cs : (x &&& 3).toInt = 0 ∨ (x &&& 3).toInt = 1 ∨ (x &&& 3).toInt = 2 ∨ (x &&& 3).toInt = 3 := by omega
  rcases cs with q | q | q | q
  · exact Or.inl (Int32.toInt_inj.mp q)
  · exact Or.inr (Or.inl (Int32.toInt_inj.mp q))
  · exact Or.inr (Or.inr (Or.inl (Int32.toInt_inj.mp q)))
  · exact Or.inr (Or.inr (Or.inr (Int32.toInt_inj.mp q)))
theorem k8 (x : Int32) : ¬ 255 < (x &&& 255).toUInt32.toUInt16.toUInt32.toInt32 ∧ ¬ (x &&& 255).toUInt32.toUInt16.toUInt32.toInt32 < 0 := by
  have h := c_mask x 255 8 (by decide) (by decide)
  have a0 : (0 : Int32).toInt = 0 := rfl
  have a1 : (255 : Int32).toInt = 255 := rfl
  have g1 : ¬ (x &&& 255) < 0 := by rw [Int32.lt_iff_toInt_lt]; omega
  have g2 : ¬ 255 < (x &&& 255) := by rw [Int32.lt_iff_toInt_lt]; omega
  have e : (x &&& 255).toUInt32.toUInt16.toUInt32.toInt32 = x &&& 255 := charNar g1 g2
  rw [e]; exact ⟨g2, g1⟩
theorem strA {Z : State} {a0 : Array Value} (hw : ∀ d ∈ tables_1, d.before a0 Z = true) : ∀ a ∈ Bundle.stringAtoms, a.before a0 Z = true := fun a ha => hw a (subOf (by decide +kernel) a ha)
theorem elW {Z : State} {a0 : Array Value} (hw : ∀ d ∈ tables_1, d.before a0 Z = true) : EW Z a0 consts_1 := EW.cons (wd hw 19 rfl) (by decide +kernel) EW.nil
theorem d11_0 : decode jdk_52_method_21_code 0 = .ok (.iconst 0, 1) := by decide +kernel
theorem d11_1 : decode jdk_52_method_21_code 1 = .ok (.istore 5, 2) := by decide +kernel
theorem d11_3 : decode jdk_52_method_21_code 3 = .ok (.iload 5, 2) := by decide +kernel
theorem d11_5 : decode jdk_52_method_21_code 5 = .ok (.iload 4, 2) := by decide +kernel
theorem d11_7 : decode jdk_52_method_21_code 7 = .ok (.if_icmp .ge 37, 3) := by decide +kernel
theorem d11_10 : decode jdk_52_method_21_code 10 = .ok (.aload_n 0, 1) := by decide +kernel
theorem d11_11 : decode jdk_52_method_21_code 11 = .ok (.iload_n 1, 1) := by decide +kernel
theorem d11_12 : decode jdk_52_method_21_code 12 = .ok (.caload, 1) := by decide +kernel
theorem d11_13 : decode jdk_52_method_21_code 13 = .ok (.istore 6, 2) := by decide +kernel
theorem d11_15 : decode jdk_52_method_21_code 15 = .ok (.iload 6, 2) := by decide +kernel
theorem d11_17 : decode jdk_52_method_21_code 17 = .ok (.sipush 255, 3) := by decide +kernel
theorem d11_20 : decode jdk_52_method_21_code 20 = .ok (.if_icmp .le 6, 3) := by decide +kernel
theorem d11_26 : decode jdk_52_method_21_code 26 = .ok (.aload_n 2, 1) := by decide +kernel
theorem d11_27 : decode jdk_52_method_21_code 27 = .ok (.iload_n 3, 1) := by decide +kernel
theorem d11_28 : decode jdk_52_method_21_code 28 = .ok (.iload 6, 2) := by decide +kernel
theorem d11_30 : decode jdk_52_method_21_code 30 = .ok (.i2b, 1) := by decide +kernel
theorem d11_31 : decode jdk_52_method_21_code 31 = .ok (.bastore, 1) := by decide +kernel
theorem d11_32 : decode jdk_52_method_21_code 32 = .ok (.iinc 1 1, 3) := by decide +kernel
theorem d11_35 : decode jdk_52_method_21_code 35 = .ok (.iinc 3 1, 3) := by decide +kernel
theorem d11_38 : decode jdk_52_method_21_code 38 = .ok (.iinc 5 1, 3) := by decide +kernel
theorem d11_41 : decode jdk_52_method_21_code 41 = .ok (.goto (-38), 3) := by decide +kernel
theorem d11_44 : decode jdk_52_method_21_code 44 = .ok (.iload 4, 2) := by decide +kernel
theorem d11_46 : decode jdk_52_method_21_code 46 = .ok (.ireturn, 1) := by decide +kernel
theorem pn_rm_c5_1 : plainFor (⟨"java/lang/StringUTF16", "compress", "([CI[BII)I"⟩ : MethodName) = true := by first | exact plainFor_of_name (by first | (simp [plainName, overriddenIn]; done) | decide +kernel) | decide +kernel
set_option maxRecDepth 65536 in
set_option maxHeartbeats 40000000 in
theorem rm_c5_1 {l : Launch} {Z : State} {a0 : Array Value} (hw : ∀ d ∈ tables_1, d.before a0 Z = true) (a : Addr) (ka : ClassId) (b : Addr) (kb : ClassId) (c0 : Int32) {h0 : Heap} (I0 : OAry Z h0 a ka .char [(.int c0)]) (I1 : OAry Z h0 b kb .byte [(.int (0 : Int32))]) (hc0 : ¬ 255 < c0) (hab : a ≠ b) :
    OMet l (⟨"java/lang/StringUTF16", "compress", "([CI[BII)I"⟩ : MethodName) jdk_52_method_21_code 7 (Option.some Jvm.ClassFile.FieldType.int) ({ frames := 0, cells := 0, slots := 0, locals := 0 } : Room) #[(.ref a), (.int (0 : Int32)), (.ref b), (.int (0 : Int32)), (.int (1 : Int32))] Z h0 (fun vR hR LR => vR = some (.int (1 : Int32)) ∧ OPr h0 [b] hR LR ∧ OAry Z hR b kb .byte [(.int (c0).toInt8.toInt32)]) := by
  refine OMet.body pn_rm_c5_1 (Ls := #[.val (.ref a), .val (.int (0 : Int32)), .val (.ref b), .val (.int (0 : Int32)), .val (.int (1 : Int32)), .unset, .unset]) (fun m => by first | (simp [entryFrame, mkF, argsToLocals, Value.category]; done) | rfl) ?_
  intro p e s m below meth c T0 K hK X0 hx hby hml hown hnm hret hlk hZ eh0
  have P0 := OPr.refl h0 [b]
  refine g_iconst X0 hx (0 : Int32) (hb hby d11_0) (rfl : 0 + 1 = 1) (by decide) ?_
  refine g_istore X0 hx (hb hby d11_1) (rfl : 1 + 2 = 3) (Ls' := #[.val (.ref a), .val (.int (0 : Int32)), .val (.ref b), .val (.int (0 : Int32)), .val (.int (1 : Int32)), .val (.int (0 : Int32)), .unset]) rfl ?_
  refine g_iload X0 hx (hb hby d11_3) (rfl : 3 + 2 = 5) rfl ?_
  refine g_iload X0 hx (hb hby d11_5) (rfl : 5 + 2 = 7) rfl ?_
  refine g_icmpN X0 hx (hb hby d11_7) (XT.ii_ge_f (by decide)) (rfl : 7 + 3 = 10) ?_
  refine g_aloadN X0 hx (hb hby d11_10) (rfl : 10 + 1 = 11) rfl rfl ?_
  refine g_iloadN X0 hx (hb hby d11_11) (rfl : 11 + 1 = 12) rfl ?_
  refine g_caload X0 hx hZ eh0 I0 (v := (.int c0)) (by decide) (by rfl) (hb hby d11_12) (rfl : 12 + 1 = 13) ?_
  refine g_istore X0 hx (hb hby d11_13) (rfl : 13 + 2 = 15) (Ls' := #[.val (.ref a), .val (.int (0 : Int32)), .val (.ref b), .val (.int (0 : Int32)), .val (.int (1 : Int32)), .val (.int (0 : Int32)), .val (.int c0)]) rfl ?_
  refine g_iload X0 hx (hb hby d11_15) (rfl : 15 + 2 = 17) rfl ?_
  refine g_sipush X0 hx (255 : Int32) (hb hby d11_17) (rfl : 17 + 3 = 20) (by decide) ?_
  refine g_icmpY X0 hx (hb hby d11_20) (XT.ii_le_t hc0) (by decide) (pc' := 26) (by decide) ?_
  refine g_aloadN X0 hx (hb hby d11_26) (rfl : 26 + 1 = 27) rfl rfl ?_
  refine g_iloadN X0 hx (hb hby d11_27) (rfl : 27 + 1 = 28) rfl ?_
  refine g_iload X0 hx (hb hby d11_28) (rfl : 28 + 2 = 30) rfl ?_
  refine g_i2b X0 hx (hb hby d11_30) (rfl : 30 + 1 = 31) ?_
  refine g_bastore X0 hx hZ eh0 I1 (b8b8 c0) (by decide) (by rfl) (vs' := [(.int (c0).toInt8.toInt32)]) (by rfl) P0 (Or.inl (List.mem_of_getElem? (i := 0) rfl)) (hb hby d11_31) (rfl : 31 + 1 = 32) fun T1 hh1 X1 eh1 W1 P1 A1 => ?_
  refine g_iinc X1 hx (1 : Int32) (hb hby d11_32) (rfl : 32 + 3 = 35) (by decide) rfl (z := (1 : Int32)) (by decide) (Ls' := #[.val (.ref a), .val (.int (1 : Int32)), .val (.ref b), .val (.int (0 : Int32)), .val (.int (1 : Int32)), .val (.int (0 : Int32)), .val (.int c0)]) rfl ?_
  refine g_iinc X1 hx (1 : Int32) (hb hby d11_35) (rfl : 35 + 3 = 38) (by decide) rfl (z := (1 : Int32)) (by decide) (Ls' := #[.val (.ref a), .val (.int (1 : Int32)), .val (.ref b), .val (.int (1 : Int32)), .val (.int (1 : Int32)), .val (.int (0 : Int32)), .val (.int c0)]) rfl ?_
  refine g_iinc X1 hx (1 : Int32) (hb hby d11_38) (rfl : 38 + 3 = 41) (by decide) rfl (z := (1 : Int32)) (by decide) (Ls' := #[.val (.ref a), .val (.int (1 : Int32)), .val (.ref b), .val (.int (1 : Int32)), .val (.int (1 : Int32)), .val (.int (1 : Int32)), .val (.int c0)]) rfl ?_
  refine g_goto X1 hx (hb hby d11_41) (by decide) (pc' := 3) (by decide) ?_
  refine g_iload X1 hx (hb hby d11_3) (rfl : 3 + 2 = 5) rfl ?_
  refine g_iload X1 hx (hb hby d11_5) (rfl : 5 + 2 = 7) rfl ?_
  refine g_icmpY X1 hx (hb hby d11_7) (XT.ii_ge_t (by decide)) (by decide) (pc' := 44) (by decide) ?_
  refine g_iload X1 hx (hb hby d11_44) (rfl : 44 + 2 = 46) rfl ?_
  exact g_ret X1 hx hret hlk rfl (Or.inl ⟨rfl, Or.inl rfl, _, rfl⟩) (hb hby d11_46) (by decide) (by decide) eh1 hK ⟨rfl, P1, A1⟩
theorem d10_0 : decode jdk_52_method_16_code 0 = .ok (.iload_n 2, 1) := by decide +kernel
theorem d10_1 : decode jdk_52_method_16_code 1 = .ok (.newarray .byte, 2) := by decide +kernel
theorem d10_3 : decode jdk_52_method_16_code 3 = .ok (.astore_n 3, 1) := by decide +kernel
theorem d10_4 : decode jdk_52_method_16_code 4 = .ok (.aload_n 0, 1) := by decide +kernel
theorem d10_5 : decode jdk_52_method_16_code 5 = .ok (.iload_n 1, 1) := by decide +kernel
theorem d10_6 : decode jdk_52_method_16_code 6 = .ok (.aload_n 3, 1) := by decide +kernel
theorem d10_7 : decode jdk_52_method_16_code 7 = .ok (.iconst 0, 1) := by decide +kernel
theorem d10_8 : decode jdk_52_method_16_code 8 = .ok (.iload_n 2, 1) := by decide +kernel
theorem d10_9 : decode jdk_52_method_16_code 9 = .ok (.invokestatic 115, 3) := by decide +kernel
theorem d10_12 : decode jdk_52_method_16_code 12 = .ok (.istore 4, 2) := by decide +kernel
theorem d10_14 : decode jdk_52_method_16_code 14 = .ok (.iload 4, 2) := by decide +kernel
theorem d10_16 : decode jdk_52_method_16_code 16 = .ok (.iload_n 2, 1) := by decide +kernel
theorem d10_17 : decode jdk_52_method_16_code 17 = .ok (.if_icmp .eq 40, 3) := by decide +kernel
theorem d10_57 : decode jdk_52_method_16_code 57 = .ok (.aload_n 3, 1) := by decide +kernel
theorem d10_58 : decode jdk_52_method_16_code 58 = .ok (.areturn, 1) := by decide +kernel
theorem pn_rm_c3_1 : plainFor (⟨"java/lang/StringUTF16", "compress", "([CII)[B"⟩ : MethodName) = true := by first | exact plainFor_of_name (by first | (simp [plainName, overriddenIn]; done) | decide +kernel) | decide +kernel
set_option maxRecDepth 65536 in
set_option maxHeartbeats 40000000 in
theorem rm_c3_1 {l : Launch} {Z : State} {a0 : Array Value} (hw : ∀ d ∈ tables_1, d.before a0 Z = true) (a : Addr) (ka : ClassId) (c0 : Int32) {h0 : Heap} (I0 : OAry Z h0 a ka .char [(.int c0)]) (hc0 : ¬ 255 < c0) :
    OMet l (⟨"java/lang/StringUTF16", "compress", "([CII)[B"⟩ : MethodName) jdk_52_method_16_code 6 (Option.some (Jvm.ClassFile.FieldType.array Jvm.ClassFile.FieldType.byte)) ({ frames := 1, cells := 1, slots := 1, locals := 18 } : Room) #[(.ref a), (.int (0 : Int32)), (.int (1 : Int32))] Z h0 (fun vR hR LR => ∃ b : Addr, ∃ kb : ClassId, vR = some (.ref b) ∧ OPr h0 [] hR LR ∧ h0.size ≤ b ∧ OAry Z hR b kb .byte [(.int (c0).toInt8.toInt32)]) := by
  refine OMet.body pn_rm_c3_1 (Ls := #[.val (.ref a), .val (.int (0 : Int32)), .val (.int (1 : Int32)), .unset, .unset, .unset]) (fun m => by first | (simp [entryFrame, mkF, argsToLocals, Value.category]; done) | rfl) ?_
  intro p e s m below meth c T0 K hK X0 hx hby hml hown hnm hret hlk hZ eh0
  have P0 := OPr.refl h0 []
  refine g_iloadN X0 hx (hb hby d10_0) (rfl : 0 + 1 = 1) rfl ?_
  refine g_newarray X0 hx hZ (ad := "[B") (by decide) (wd hw 20 rfl) eh0 (vs := [(.int (0 : Int32))]) (by decide) (by rfl) (cap := 1) (by decide) (by decide) P0 (hb hby d10_1) (rfl : 1 + 2 = 3) (by decide) (by decide) fun T1 hh1 a1 k1 q1 g1 X1 eh1 E1 P1 A1 B1 => ?_
  refine g_astoreN X1 hx (hb hby d10_3) (rfl : 3 + 1 = 4) rfl (Ls' := #[.val (.ref a), .val (.int (0 : Int32)), .val (.int (1 : Int32)), .val (.ref a1), .unset, .unset]) rfl ?_
  refine g_aloadN X1 hx (hb hby d10_4) (rfl : 4 + 1 = 5) rfl rfl ?_
  refine g_iloadN X1 hx (hb hby d10_5) (rfl : 5 + 1 = 6) rfl ?_
  refine g_aloadN X1 hx (hb hby d10_6) (rfl : 6 + 1 = 7) rfl rfl ?_
  refine g_iconst X1 hx (0 : Int32) (hb hby d10_7) (rfl : 7 + 1 = 8) (by decide) ?_
  refine g_iloadN X1 hx (hb hby d10_8) (rfl : 8 + 1 = 9) rfl ?_
  have ne3 : a ≠ a1 := Nat.ne_of_lt (Nat.lt_of_lt_of_le (aryLt I0) (Nat.le_of_eq q1.symm))
  have F4 := (aryE I0 E1)
  refine g_static X1 hx hZ hown eh1 (rm_c5_1 hw a ka a1 k1 c0 F4 A1 hc0 ne3) (wd hw 77 rfl) (wd hw 78 rfl) (wd hw 79 rfl) (wd hw 75 rfl) (by decide) (argsL := [(.ref a), (.int (0 : Int32)), (.ref a1), (.int (0 : Int32)), (.int (1 : Int32))]) (rest := []) rfl rfl (ps := [(.array .char), .int, (.array .byte), .int, .int]) (rt := (some .int)) (by decide) rfl (W := 0) (Nat.le_of_eq rfl) (by decide) (by decide) (by decide) (by decide) (by rw [hml]; rfl) (hb hby d10_9) (rfl : 9 + 3 = 12) fun v2 T2 hh2 L2 X2 eh2 Q2 => ?_
  obtain ⟨rfl, Pc2, G2_0⟩ := Q2
  have P2 := P1.call Pc2 (allS (Or.inr g1) all0)
  show OGo p e below K T2 (mkF m 12 #[.val (.ref a), .val (.int (0 : Int32)), .val (.int (1 : Int32)), .val (.ref a1), .unset, .unset] [(.int (1 : Int32))])
  refine g_istore X2 hx (hb hby d10_12) (rfl : 12 + 2 = 14) (Ls' := #[.val (.ref a), .val (.int (0 : Int32)), .val (.int (1 : Int32)), .val (.ref a1), .val (.int (1 : Int32)), .unset]) rfl ?_
  refine g_iload X2 hx (hb hby d10_14) (rfl : 14 + 2 = 16) rfl ?_
  refine g_iloadN X2 hx (hb hby d10_16) (rfl : 16 + 1 = 17) rfl ?_
  refine g_icmpY X2 hx (hb hby d10_17) (XT.ii_eq_t (by decide)) (by decide) (pc' := 57) (by decide) ?_
  refine g_aloadN X2 hx (hb hby d10_57) (rfl : 57 + 1 = 58) rfl rfl ?_
  exact g_ret X2 hx hret hlk rfl (Or.inr (Or.inr (Or.inr (Or.inr ⟨rfl, rfl, rfl⟩)))) (hb hby d10_58) (by decide) (by decide) eh2 hK ⟨a1, k1, rfl, P2, g1, G2_0⟩
theorem d12_0 : decode jdk_52_method_15_code 0 = .ok (.iload_n 1, 1) := by decide +kernel
theorem d12_1 : decode jdk_52_method_15_code 1 = .ok (.aload_n 0, 1) := by decide +kernel
theorem d12_2 : decode jdk_52_method_15_code 2 = .ok (.arraylength, 1) := by decide +kernel
theorem d12_3 : decode jdk_52_method_15_code 3 = .ok (.isub, 1) := by decide +kernel
theorem d12_4 : decode jdk_52_method_15_code 4 = .ok (.bipush 31, 2) := by decide +kernel
theorem d12_6 : decode jdk_52_method_15_code 6 = .ok (.iushr, 1) := by decide +kernel
theorem d12_7 : decode jdk_52_method_15_code 7 = .ok (.i2b, 1) := by decide +kernel
theorem d12_8 : decode jdk_52_method_15_code 8 = .ok (.ireturn, 1) := by decide +kernel
theorem pn_rm_cf_1 : plainFor (⟨"java/lang/StringUTF16", "coderFromArrayLen", "([BI)B"⟩ : MethodName) = true := by first | exact plainFor_of_name (by first | (simp [plainName, overriddenIn]; done) | decide +kernel) | decide +kernel
set_option maxRecDepth 65536 in
set_option maxHeartbeats 40000000 in
theorem rm_cf_1 {l : Launch} {Z : State} {a0 : Array Value} (hw : ∀ d ∈ tables_1, d.before a0 Z = true) (a : Addr) (ka : ClassId) (c0 : Int32) {h0 : Heap} (I0 : OAry Z h0 a ka .byte [(.int (c0).toInt8.toInt32)])  :
    OMet l (⟨"java/lang/StringUTF16", "coderFromArrayLen", "([BI)B"⟩ : MethodName) jdk_52_method_15_code 2 (Option.some Jvm.ClassFile.FieldType.byte) ({ frames := 0, cells := 0, slots := 0, locals := 0 } : Room) #[(.ref a), (.int (1 : Int32))] Z h0 (fun vR hR LR => vR = some (.int (0 : Int32)) ∧ OPr h0 [] hR LR) := by
  refine OMet.body pn_rm_cf_1 (Ls := #[.val (.ref a), .val (.int (1 : Int32))]) (fun m => by first | (simp [entryFrame, mkF, argsToLocals, Value.category]; done) | rfl) ?_
  intro p e s m below meth c T0 K hK X0 hx hby hml hown hnm hret hlk hZ eh0
  have P0 := OPr.refl h0 []
  refine g_iloadN X0 hx (hb hby d12_0) (rfl : 0 + 1 = 1) rfl ?_
  refine g_aloadN X0 hx (hb hby d12_1) (rfl : 1 + 1 = 2) rfl rfl ?_
  refine g_len X0 hx hZ eh0 I0 (z := (1 : Int32)) rfl (hb hby d12_2) (rfl : 2 + 1 = 3) ?_
  refine g_isub X0 hx (hb hby d12_3) (rfl : 3 + 1 = 4) (z := (0 : Int32)) (by decide) ?_
  refine g_bipush X0 hx (31 : Int32) (hb hby d12_4) (rfl : 4 + 2 = 6) (by decide) ?_
  refine g_iushr X0 hx (hb hby d12_6) (rfl : 6 + 1 = 7) (z := (0 : Int32)) (by decide) ?_
  refine g_i2b X0 hx (hb hby d12_7) (rfl : 7 + 1 = 8) ?_
  exact g_ret X0 hx hret hlk rfl (Or.inl ⟨rfl, Or.inr (Or.inr (Or.inl rfl)), _, rfl⟩) (hb hby d12_8) (by decide) (by decide) eh0 hK ⟨(by rfl), P0⟩
theorem d2_0 : decode jdk_42_method_149_code 0 = .ok (.aload_n 0, 1) := by decide +kernel
theorem d2_1 : decode jdk_42_method_149_code 1 = .ok (.invokespecial 1, 3) := by decide +kernel
theorem d2_4 : decode jdk_42_method_149_code 4 = .ok (.iload_n 3, 1) := by decide +kernel
theorem d2_5 : decode jdk_42_method_149_code 5 = .ok (.ifCond .ne 22, 3) := by decide +kernel
theorem d2_27 : decode jdk_42_method_149_code 27 = .ok (.getstatic 38, 3) := by decide +kernel
theorem d2_30 : decode jdk_42_method_149_code 30 = .ok (.ifCond .eq 28, 3) := by decide +kernel
theorem d2_33 : decode jdk_42_method_149_code 33 = .ok (.aload_n 1, 1) := by decide +kernel
theorem d2_34 : decode jdk_42_method_149_code 34 = .ok (.iload_n 2, 1) := by decide +kernel
theorem d2_35 : decode jdk_42_method_149_code 35 = .ok (.iload_n 3, 1) := by decide +kernel
theorem d2_36 : decode jdk_42_method_149_code 36 = .ok (.invokestatic 177, 3) := by decide +kernel
theorem d2_39 : decode jdk_42_method_149_code 39 = .ok (.astore 5, 2) := by decide +kernel
theorem d2_41 : decode jdk_42_method_149_code 41 = .ok (.aload_n 0, 1) := by decide +kernel
theorem d2_42 : decode jdk_42_method_149_code 42 = .ok (.aload 5, 2) := by decide +kernel
theorem d2_44 : decode jdk_42_method_149_code 44 = .ok (.iload_n 3, 1) := by decide +kernel
theorem d2_45 : decode jdk_42_method_149_code 45 = .ok (.invokestatic 47, 3) := by decide +kernel
theorem d2_48 : decode jdk_42_method_149_code 48 = .ok (.putfield 15, 3) := by decide +kernel
theorem d2_51 : decode jdk_42_method_149_code 51 = .ok (.aload_n 0, 1) := by decide +kernel
theorem d2_52 : decode jdk_42_method_149_code 52 = .ok (.aload 5, 2) := by decide +kernel
theorem d2_54 : decode jdk_42_method_149_code 54 = .ok (.putfield 9, 3) := by decide +kernel
theorem d2_57 : decode jdk_42_method_149_code 57 = .ok (.return_, 1) := by decide +kernel
theorem pn_rm_i4_1 : plainFor (⟨"java/lang/String", "<init>", "([CIILjava/lang/Void;)V"⟩ : MethodName) = true := by first | exact plainFor_of_name (by first | (simp [plainName, overriddenIn]; done) | decide +kernel) | decide +kernel
set_option maxRecDepth 65536 in
set_option maxHeartbeats 40000000 in
theorem rm_i4_1 {l : Launch} {Z : State} {a0 : Array Value} (hw : ∀ d ∈ tables_1, d.before a0 Z = true) (x : Addr) (a : Addr) (ka : ClassId) (c0 : Int32) (cs : Int32) {h0 : Heap} (I0 : Exa Z h0 x "java/lang/String") (I1 : Fld Z h0 x "java/lang/String" "value" "[B" .null) (I2 : Fld Z h0 x "java/lang/String" "coder" "B" (.int (0 : Int32))) (I3 : OAry Z h0 a ka .char [(.int c0)]) (I4 : Sta Z h0 "java/lang/String" "COMPACT_STRINGS" "Z" (.int cs)) (hc0 : ¬ 255 < c0) (hcs : ¬ cs = 0) :
    OMet l (⟨"java/lang/String", "<init>", "([CIILjava/lang/Void;)V"⟩ : MethodName) jdk_42_method_149_code 6 (Option.none : Option Jvm.ClassFile.FieldType) ({ frames := 2, cells := 1, slots := 1, locals := 35 } : Room) #[(.ref x), (.ref a), (.int (0 : Int32)), (.int (1 : Int32)), .null] Z h0 (fun vR hR LR => ∃ b : Addr, ∃ kb : ClassId, vR = none ∧ OPr h0 [x] hR LR ∧ Exa Z hR x "java/lang/String" ∧ Fld Z hR x "java/lang/String" "value" "[B" (.ref b) ∧ Fld Z hR x "java/lang/String" "coder" "B" (.int (0 : Int32)) ∧ OAry Z hR b kb .byte [(.int (c0).toInt8.toInt32)]) := by
  refine OMet.body pn_rm_i4_1 (Ls := #[.val (.ref x), .val (.ref a), .val (.int (0 : Int32)), .val (.int (1 : Int32)), .val .null, .unset]) (fun m => by first | (simp [entryFrame, mkF, argsToLocals, Value.category]; done) | rfl) ?_
  intro p e s m below meth c T0 K hK X0 hx hby hml hown hnm hret hlk hZ eh0
  have P0 := OPr.refl h0 [x]
  refine g_aloadN X0 hx (hb hby d2_0) (rfl : 0 + 1 = 1) rfl rfl ?_
  refine g_inito X0 hx hZ hown (wd hw 16 rfl) (wd hw 17 rfl) (wd hw 18 rfl) eh0 (by rw [hml]; rfl) (hb hby d2_1) (rfl : 1 + 3 = 4) (by decide) (W := 0) (Nat.le_of_eq rfl) (by decide) fun T1 X1 eh1 => ?_
  refine g_iloadN X1 hx (hb hby d2_4) (rfl : 4 + 1 = 5) rfl ?_
  refine g_ifY X1 hx (hb hby d2_5) (XT.i0_ne_t (by decide)) (by decide) (pc' := 27) (by decide) ?_
  refine g_gets X1 hx hZ hown (host := "") (Or.inl (wd hw 66 rfl)) Via.refl eh1 I4 (hb hby d2_27) (rfl : 27 + 3 = 30) fun T2 X2 eh2 => ?_
  refine g_ifN X2 hx (hb hby d2_30) (XT.i0_eq_f hcs) (rfl : 30 + 3 = 33) ?_
  refine g_aloadN X2 hx (hb hby d2_33) (rfl : 33 + 1 = 34) rfl rfl ?_
  refine g_iloadN X2 hx (hb hby d2_34) (rfl : 34 + 1 = 35) rfl ?_
  refine g_iloadN X2 hx (hb hby d2_35) (rfl : 35 + 1 = 36) rfl ?_
  refine g_static X2 hx hZ hown eh2 (rm_c3_1 hw a ka c0 I3 hc0) (wd hw 73 rfl) (wd hw 74 rfl) (wd hw 76 rfl) (wd hw 75 rfl) (by decide) (argsL := [(.ref a), (.int (0 : Int32)), (.int (1 : Int32))]) (rest := []) rfl rfl (ps := [(.array .char), .int, .int]) (rt := (some (.array .byte))) (by decide) rfl (W := 0) (Nat.le_of_eq rfl) (by decide) (by decide) (by decide) (by decide) (by rw [hml]; rfl) (hb hby d2_36) (rfl : 36 + 3 = 39) fun v3 T3 hh3 L3 X3 eh3 Q3 => ?_
  obtain ⟨b_3, kb_3, rfl, Pc3, G3_0, G3_1⟩ := Q3
  have P3 := P0.call Pc3 all0
  show OGo p e below K T3 (mkF m 39 #[.val (.ref x), .val (.ref a), .val (.int (0 : Int32)), .val (.int (1 : Int32)), .val .null, .unset] [(.ref b_3)])
  refine g_astore X3 hx (hb hby d2_39) (rfl : 39 + 2 = 41) rfl (Ls' := #[.val (.ref x), .val (.ref a), .val (.int (0 : Int32)), .val (.int (1 : Int32)), .val .null, .val (.ref b_3)]) rfl ?_
  refine g_aloadN X3 hx (hb hby d2_41) (rfl : 41 + 1 = 42) rfl rfl ?_
  refine g_aload X3 hx (hb hby d2_42) (rfl : 42 + 2 = 44) rfl rfl ?_
  refine g_iloadN X3 hx (hb hby d2_44) (rfl : 44 + 1 = 45) rfl ?_
  refine g_static X3 hx hZ hown eh3 (rm_cf_1 hw b_3 kb_3 c0 G3_1) (wd hw 80 rfl) (wd hw 81 rfl) (wd hw 82 rfl) (wd hw 75 rfl) (by decide) (argsL := [(.ref b_3), (.int (1 : Int32))]) (rest := [(.ref x)]) rfl rfl (ps := [(.array .byte), .int]) (rt := (some .byte)) (by decide) rfl (W := 1) (Nat.le_of_eq rfl) (by decide) (by decide) (by decide) (by decide) (by rw [hml]; rfl) (hb hby d2_45) (rfl : 45 + 3 = 48) fun v4 T4 hh4 L4 X4 eh4 Q4 => ?_
  obtain ⟨rfl, Pc4⟩ := Q4
  have P4 := P3.call Pc4 all0
  show OGo p e below K T4 (mkF m 48 #[.val (.ref x), .val (.ref a), .val (.int (0 : Int32)), .val (.int (1 : Int32)), .val .null, .val (.ref b_3)] [(.int (0 : Int32)), (.ref x)])
  have F5 := (fldP (fldP I2 Pc3 nin0) Pc4 nin0)
  have F6 := (exaP I0 P4)
  refine g_putf X4 hx hZ hown (host := "") (Or.inl (wd hw 26 rfl)) Via.refl eh4 F5 F6 (Or.inr ⟨(wd hw 22 rfl), rfl, hnm⟩) (wd hw 6 rfl) (ty := .byte) (by decide) (by decide) (by decide) P4 (Or.inl (List.mem_of_getElem? (i := 0) rfl)) (hb hby d2_48) (rfl : 48 + 3 = 51) fun T7 hh7 X7 eh7 W7 P7 F7 => ?_
  refine g_aloadN X7 hx (hb hby d2_51) (rfl : 51 + 1 = 52) rfl rfl ?_
  refine g_aload X7 hx (hb hby d2_52) (rfl : 52 + 2 = 54) rfl rfl ?_
  have F8 := ((fldP (fldP I1 Pc3 nin0) Pc4 nin0).other W7 (Or.inr (slot_ne (Or.inr (wd hw 21 rfl)) (Or.inr (wd hw 22 rfl)) (by decide) (t := (.array .byte)) (by decide) (t' := .byte) (by decide))))
  have F9 := (F6.wr W7)
  refine g_putf X7 hx hZ hown (host := "") (Or.inl (wd hw 25 rfl)) Via.refl eh7 F8 F9 (Or.inr ⟨(wd hw 21 rfl), rfl, hnm⟩) (wd hw 6 rfl) (ty := (.array .byte)) (by decide) rfl rfl P7 (Or.inl (List.mem_of_getElem? (i := 0) rfl)) (hb hby d2_54) (rfl : 54 + 3 = 57) fun T10 hh10 X10 eh10 W10 P10 F10 => ?_
  have F11 := (F9.wr W10)
  have F12 := (F7.other W10 (Or.inr (slot_ne (Or.inr (wd hw 22 rfl)) (Or.inr (wd hw 21 rfl)) (by decide) (t := .byte) (by decide) (t' := (.array .byte)) (by decide))))
  have ne13 : x ≠ b_3 := Nat.ne_of_lt (Nat.lt_of_lt_of_le I0.lt G3_0)
  have F14 := (aryO (aryO (aryP G3_1 Pc4 nin0) W7 (Ne.symm ne13)) W10 (Ne.symm ne13))
  exact g_ret0 X10 hx hret hlk (hb hby d2_57) (by decide) (by decide) eh10 hK ⟨b_3, kb_3, rfl, P10, F11, F10, F12, F14⟩
theorem d1_0 : decode jdk_42_method_3_code 0 = .ok (.aload_n 0, 1) := by decide +kernel
theorem d1_1 : decode jdk_42_method_3_code 1 = .ok (.aload_n 1, 1) := by decide +kernel
theorem d1_2 : decode jdk_42_method_3_code 2 = .ok (.iconst 0, 1) := by decide +kernel
theorem d1_3 : decode jdk_42_method_3_code 3 = .ok (.aload_n 1, 1) := by decide +kernel
theorem d1_4 : decode jdk_42_method_3_code 4 = .ok (.arraylength, 1) := by decide +kernel
theorem d1_5 : decode jdk_42_method_3_code 5 = .ok (.aconst_null, 1) := by decide +kernel
theorem d1_6 : decode jdk_42_method_3_code 6 = .ok (.invokespecial 27, 3) := by decide +kernel
theorem d1_9 : decode jdk_42_method_3_code 9 = .ok (.return_, 1) := by decide +kernel
theorem pn_rm_i1_1 : plainFor (⟨"java/lang/String", "<init>", "([C)V"⟩ : MethodName) = true := by first | exact plainFor_of_name (by first | (simp [plainName, overriddenIn]; done) | decide +kernel) | decide +kernel
set_option maxRecDepth 65536 in
set_option maxHeartbeats 40000000 in
theorem rm_i1_1 {l : Launch} {Z : State} {a0 : Array Value} (hw : ∀ d ∈ tables_1, d.before a0 Z = true) (x : Addr) (a : Addr) (ka : ClassId) (c0 : Int32) (cs : Int32) {h0 : Heap} (I0 : Exa Z h0 x "java/lang/String") (I1 : Fld Z h0 x "java/lang/String" "value" "[B" .null) (I2 : Fld Z h0 x "java/lang/String" "coder" "B" (.int (0 : Int32))) (I3 : OAry Z h0 a ka .char [(.int c0)]) (I4 : Sta Z h0 "java/lang/String" "COMPACT_STRINGS" "Z" (.int cs)) (hc0 : ¬ 255 < c0) (hcs : ¬ cs = 0) :
    OMet l (⟨"java/lang/String", "<init>", "([C)V"⟩ : MethodName) jdk_42_method_3_code 2 (Option.none : Option Jvm.ClassFile.FieldType) ({ frames := 3, cells := 1, slots := 1, locals := 52 } : Room) #[(.ref x), (.ref a)] Z h0 (fun vR hR LR => ∃ b : Addr, ∃ kb : ClassId, vR = none ∧ OPr h0 [x] hR LR ∧ Exa Z hR x "java/lang/String" ∧ Fld Z hR x "java/lang/String" "value" "[B" (.ref b) ∧ Fld Z hR x "java/lang/String" "coder" "B" (.int (0 : Int32)) ∧ OAry Z hR b kb .byte [(.int (c0).toInt8.toInt32)]) := by
  refine OMet.body pn_rm_i1_1 (Ls := #[.val (.ref x), .val (.ref a)]) (fun m => by first | (simp [entryFrame, mkF, argsToLocals, Value.category]; done) | rfl) ?_
  intro p e s m below meth c T0 K hK X0 hx hby hml hown hnm hret hlk hZ eh0
  have P0 := OPr.refl h0 [x]
  refine g_aloadN X0 hx (hb hby d1_0) (rfl : 0 + 1 = 1) rfl rfl ?_
  refine g_aloadN X0 hx (hb hby d1_1) (rfl : 1 + 1 = 2) rfl rfl ?_
  refine g_iconst X0 hx (0 : Int32) (hb hby d1_2) (rfl : 2 + 1 = 3) (by decide) ?_
  refine g_aloadN X0 hx (hb hby d1_3) (rfl : 3 + 1 = 4) rfl rfl ?_
  refine g_len X0 hx hZ eh0 I3 (z := (1 : Int32)) rfl (hb hby d1_4) (rfl : 4 + 1 = 5) ?_
  refine g_anull X0 hx (hb hby d1_5) (rfl : 5 + 1 = 6) ?_
  refine g_special X0 hx hZ hown eh0 (rm_i4_1 hw x a ka c0 cs I0 I1 I2 I3 I4 hc0 hcs) rfl (wd hw 12 rfl) (wd hw 13 rfl) (wd hw 15 rfl) (wd hw 7 rfl) (by decide) (a := x) (argsL := [(.ref a), (.int (0 : Int32)), (.int (1 : Int32)), .null]) (rest := []) rfl rfl (ps := [(.array .char), .int, .int, (.object "java/lang/Void")]) (by decide) rfl (W := 0) (Nat.le_of_eq rfl) (by decide) (by decide) (by decide) (by decide) (by rw [hml]; rfl) (hb hby d1_6) (rfl : 6 + 3 = 9) fun v1 T1 hh1 L1 X1 eh1 Q1 => ?_
  obtain ⟨b_1, kb_1, rfl, Pc1, G1_0, G1_1, G1_2, G1_3⟩ := Q1
  have P1 := P0.call Pc1 (allS (Or.inl (List.mem_of_getElem? (i := 0) rfl)) all0)
  show OGo p e below K T1 (mkF m 9 #[.val (.ref x), .val (.ref a)] [])
  exact g_ret0 X1 hx hret hlk (hb hby d1_9) (by decide) (by decide) eh1 hK ⟨b_1, kb_1, rfl, P1, G1_0, G1_1, G1_2, G1_3⟩
theorem pn_rm_c5_2 : plainFor (⟨"java/lang/StringUTF16", "compress", "([CI[BII)I"⟩ : MethodName) = true := by first | exact plainFor_of_name (by first | (simp [plainName, overriddenIn]; done) | decide +kernel) | decide +kernel
set_option maxRecDepth 65536 in
set_option maxHeartbeats 40000000 in
theorem rm_c5_2 {l : Launch} {Z : State} {a0 : Array Value} (hw : ∀ d ∈ tables_1, d.before a0 Z = true) (a : Addr) (ka : ClassId) (b : Addr) (kb : ClassId) (c0 : Int32) (c1 : Int32) {h0 : Heap} (I0 : OAry Z h0 a ka .char [(.int c0), (.int c1)]) (I1 : OAry Z h0 b kb .byte [(.int (0 : Int32)), (.int (0 : Int32))]) (hc0 : ¬ 255 < c0) (hc1 : ¬ 255 < c1) (hab : a ≠ b) :
    OMet l (⟨"java/lang/StringUTF16", "compress", "([CI[BII)I"⟩ : MethodName) jdk_52_method_21_code 7 (Option.some Jvm.ClassFile.FieldType.int) ({ frames := 0, cells := 0, slots := 0, locals := 0 } : Room) #[(.ref a), (.int (0 : Int32)), (.ref b), (.int (0 : Int32)), (.int (2 : Int32))] Z h0 (fun vR hR LR => vR = some (.int (2 : Int32)) ∧ OPr h0 [b] hR LR ∧ OAry Z hR b kb .byte [(.int (c0).toInt8.toInt32), (.int (c1).toInt8.toInt32)]) := by
  refine OMet.body pn_rm_c5_2 (Ls := #[.val (.ref a), .val (.int (0 : Int32)), .val (.ref b), .val (.int (0 : Int32)), .val (.int (2 : Int32)), .unset, .unset]) (fun m => by first | (simp [entryFrame, mkF, argsToLocals, Value.category]; done) | rfl) ?_
  intro p e s m below meth c T0 K hK X0 hx hby hml hown hnm hret hlk hZ eh0
  have P0 := OPr.refl h0 [b]
  refine g_iconst X0 hx (0 : Int32) (hb hby d11_0) (rfl : 0 + 1 = 1) (by decide) ?_
  refine g_istore X0 hx (hb hby d11_1) (rfl : 1 + 2 = 3) (Ls' := #[.val (.ref a), .val (.int (0 : Int32)), .val (.ref b), .val (.int (0 : Int32)), .val (.int (2 : Int32)), .val (.int (0 : Int32)), .unset]) rfl ?_
  refine g_iload X0 hx (hb hby d11_3) (rfl : 3 + 2 = 5) rfl ?_
  refine g_iload X0 hx (hb hby d11_5) (rfl : 5 + 2 = 7) rfl ?_
  refine g_icmpN X0 hx (hb hby d11_7) (XT.ii_ge_f (by decide)) (rfl : 7 + 3 = 10) ?_
  refine g_aloadN X0 hx (hb hby d11_10) (rfl : 10 + 1 = 11) rfl rfl ?_
  refine g_iloadN X0 hx (hb hby d11_11) (rfl : 11 + 1 = 12) rfl ?_
  refine g_caload X0 hx hZ eh0 I0 (v := (.int c0)) (by decide) (by rfl) (hb hby d11_12) (rfl : 12 + 1 = 13) ?_
  refine g_istore X0 hx (hb hby d11_13) (rfl : 13 + 2 = 15) (Ls' := #[.val (.ref a), .val (.int (0 : Int32)), .val (.ref b), .val (.int (0 : Int32)), .val (.int (2 : Int32)), .val (.int (0 : Int32)), .val (.int c0)]) rfl ?_
  refine g_iload X0 hx (hb hby d11_15) (rfl : 15 + 2 = 17) rfl ?_
  refine g_sipush X0 hx (255 : Int32) (hb hby d11_17) (rfl : 17 + 3 = 20) (by decide) ?_
  refine g_icmpY X0 hx (hb hby d11_20) (XT.ii_le_t hc0) (by decide) (pc' := 26) (by decide) ?_
  refine g_aloadN X0 hx (hb hby d11_26) (rfl : 26 + 1 = 27) rfl rfl ?_
  refine g_iloadN X0 hx (hb hby d11_27) (rfl : 27 + 1 = 28) rfl ?_
  refine g_iload X0 hx (hb hby d11_28) (rfl : 28 + 2 = 30) rfl ?_
  refine g_i2b X0 hx (hb hby d11_30) (rfl : 30 + 1 = 31) ?_
  refine g_bastore X0 hx hZ eh0 I1 (b8b8 c0) (by decide) (by rfl) (vs' := [(.int (c0).toInt8.toInt32), (.int (0 : Int32))]) (by rfl) P0 (Or.inl (List.mem_of_getElem? (i := 0) rfl)) (hb hby d11_31) (rfl : 31 + 1 = 32) fun T1 hh1 X1 eh1 W1 P1 A1 => ?_
  refine g_iinc X1 hx (1 : Int32) (hb hby d11_32) (rfl : 32 + 3 = 35) (by decide) rfl (z := (1 : Int32)) (by decide) (Ls' := #[.val (.ref a), .val (.int (1 : Int32)), .val (.ref b), .val (.int (0 : Int32)), .val (.int (2 : Int32)), .val (.int (0 : Int32)), .val (.int c0)]) rfl ?_
  refine g_iinc X1 hx (1 : Int32) (hb hby d11_35) (rfl : 35 + 3 = 38) (by decide) rfl (z := (1 : Int32)) (by decide) (Ls' := #[.val (.ref a), .val (.int (1 : Int32)), .val (.ref b), .val (.int (1 : Int32)), .val (.int (2 : Int32)), .val (.int (0 : Int32)), .val (.int c0)]) rfl ?_
  refine g_iinc X1 hx (1 : Int32) (hb hby d11_38) (rfl : 38 + 3 = 41) (by decide) rfl (z := (1 : Int32)) (by decide) (Ls' := #[.val (.ref a), .val (.int (1 : Int32)), .val (.ref b), .val (.int (1 : Int32)), .val (.int (2 : Int32)), .val (.int (1 : Int32)), .val (.int c0)]) rfl ?_
  refine g_goto X1 hx (hb hby d11_41) (by decide) (pc' := 3) (by decide) ?_
  refine g_iload X1 hx (hb hby d11_3) (rfl : 3 + 2 = 5) rfl ?_
  refine g_iload X1 hx (hb hby d11_5) (rfl : 5 + 2 = 7) rfl ?_
  refine g_icmpN X1 hx (hb hby d11_7) (XT.ii_ge_f (by decide)) (rfl : 7 + 3 = 10) ?_
  refine g_aloadN X1 hx (hb hby d11_10) (rfl : 10 + 1 = 11) rfl rfl ?_
  refine g_iloadN X1 hx (hb hby d11_11) (rfl : 11 + 1 = 12) rfl ?_
  have F2 := (aryO I0 W1 hab)
  refine g_caload X1 hx hZ eh1 F2 (v := (.int c1)) (by decide) (by rfl) (hb hby d11_12) (rfl : 12 + 1 = 13) ?_
  refine g_istore X1 hx (hb hby d11_13) (rfl : 13 + 2 = 15) (Ls' := #[.val (.ref a), .val (.int (1 : Int32)), .val (.ref b), .val (.int (1 : Int32)), .val (.int (2 : Int32)), .val (.int (1 : Int32)), .val (.int c1)]) rfl ?_
  refine g_iload X1 hx (hb hby d11_15) (rfl : 15 + 2 = 17) rfl ?_
  refine g_sipush X1 hx (255 : Int32) (hb hby d11_17) (rfl : 17 + 3 = 20) (by decide) ?_
  refine g_icmpY X1 hx (hb hby d11_20) (XT.ii_le_t hc1) (by decide) (pc' := 26) (by decide) ?_
  refine g_aloadN X1 hx (hb hby d11_26) (rfl : 26 + 1 = 27) rfl rfl ?_
  refine g_iloadN X1 hx (hb hby d11_27) (rfl : 27 + 1 = 28) rfl ?_
  refine g_iload X1 hx (hb hby d11_28) (rfl : 28 + 2 = 30) rfl ?_
  refine g_i2b X1 hx (hb hby d11_30) (rfl : 30 + 1 = 31) ?_
  refine g_bastore X1 hx hZ eh1 A1 (b8b8 c1) (by decide) (by rfl) (vs' := [(.int (c0).toInt8.toInt32), (.int (c1).toInt8.toInt32)]) (by rfl) P1 (Or.inl (List.mem_of_getElem? (i := 0) rfl)) (hb hby d11_31) (rfl : 31 + 1 = 32) fun T3 hh3 X3 eh3 W3 P3 A3 => ?_
  refine g_iinc X3 hx (1 : Int32) (hb hby d11_32) (rfl : 32 + 3 = 35) (by decide) rfl (z := (2 : Int32)) (by decide) (Ls' := #[.val (.ref a), .val (.int (2 : Int32)), .val (.ref b), .val (.int (1 : Int32)), .val (.int (2 : Int32)), .val (.int (1 : Int32)), .val (.int c1)]) rfl ?_
  refine g_iinc X3 hx (1 : Int32) (hb hby d11_35) (rfl : 35 + 3 = 38) (by decide) rfl (z := (2 : Int32)) (by decide) (Ls' := #[.val (.ref a), .val (.int (2 : Int32)), .val (.ref b), .val (.int (2 : Int32)), .val (.int (2 : Int32)), .val (.int (1 : Int32)), .val (.int c1)]) rfl ?_
  refine g_iinc X3 hx (1 : Int32) (hb hby d11_38) (rfl : 38 + 3 = 41) (by decide) rfl (z := (2 : Int32)) (by decide) (Ls' := #[.val (.ref a), .val (.int (2 : Int32)), .val (.ref b), .val (.int (2 : Int32)), .val (.int (2 : Int32)), .val (.int (2 : Int32)), .val (.int c1)]) rfl ?_
  refine g_goto X3 hx (hb hby d11_41) (by decide) (pc' := 3) (by decide) ?_
  refine g_iload X3 hx (hb hby d11_3) (rfl : 3 + 2 = 5) rfl ?_
  refine g_iload X3 hx (hb hby d11_5) (rfl : 5 + 2 = 7) rfl ?_
  refine g_icmpY X3 hx (hb hby d11_7) (XT.ii_ge_t (by decide)) (by decide) (pc' := 44) (by decide) ?_
  refine g_iload X3 hx (hb hby d11_44) (rfl : 44 + 2 = 46) rfl ?_
  exact g_ret X3 hx hret hlk rfl (Or.inl ⟨rfl, Or.inl rfl, _, rfl⟩) (hb hby d11_46) (by decide) (by decide) eh3 hK ⟨rfl, P3, A3⟩
theorem pn_rm_c3_2 : plainFor (⟨"java/lang/StringUTF16", "compress", "([CII)[B"⟩ : MethodName) = true := by first | exact plainFor_of_name (by first | (simp [plainName, overriddenIn]; done) | decide +kernel) | decide +kernel
set_option maxRecDepth 65536 in
set_option maxHeartbeats 40000000 in
theorem rm_c3_2 {l : Launch} {Z : State} {a0 : Array Value} (hw : ∀ d ∈ tables_1, d.before a0 Z = true) (a : Addr) (ka : ClassId) (c0 : Int32) (c1 : Int32) {h0 : Heap} (I0 : OAry Z h0 a ka .char [(.int c0), (.int c1)]) (hc0 : ¬ 255 < c0) (hc1 : ¬ 255 < c1) :
    OMet l (⟨"java/lang/StringUTF16", "compress", "([CII)[B"⟩ : MethodName) jdk_52_method_16_code 6 (Option.some (Jvm.ClassFile.FieldType.array Jvm.ClassFile.FieldType.byte)) ({ frames := 1, cells := 1, slots := 2, locals := 18 } : Room) #[(.ref a), (.int (0 : Int32)), (.int (2 : Int32))] Z h0 (fun vR hR LR => ∃ b : Addr, ∃ kb : ClassId, vR = some (.ref b) ∧ OPr h0 [] hR LR ∧ h0.size ≤ b ∧ OAry Z hR b kb .byte [(.int (c0).toInt8.toInt32), (.int (c1).toInt8.toInt32)]) := by
  refine OMet.body pn_rm_c3_2 (Ls := #[.val (.ref a), .val (.int (0 : Int32)), .val (.int (2 : Int32)), .unset, .unset, .unset]) (fun m => by first | (simp [entryFrame, mkF, argsToLocals, Value.category]; done) | rfl) ?_
  intro p e s m below meth c T0 K hK X0 hx hby hml hown hnm hret hlk hZ eh0
  have P0 := OPr.refl h0 []
  refine g_iloadN X0 hx (hb hby d10_0) (rfl : 0 + 1 = 1) rfl ?_
  refine g_newarray X0 hx hZ (ad := "[B") (by decide) (wd hw 20 rfl) eh0 (vs := [(.int (0 : Int32)), (.int (0 : Int32))]) (by decide) (by rfl) (cap := 2) (by decide) (by decide) P0 (hb hby d10_1) (rfl : 1 + 2 = 3) (by decide) (by decide) fun T1 hh1 a1 k1 q1 g1 X1 eh1 E1 P1 A1 B1 => ?_
  refine g_astoreN X1 hx (hb hby d10_3) (rfl : 3 + 1 = 4) rfl (Ls' := #[.val (.ref a), .val (.int (0 : Int32)), .val (.int (2 : Int32)), .val (.ref a1), .unset, .unset]) rfl ?_
  refine g_aloadN X1 hx (hb hby d10_4) (rfl : 4 + 1 = 5) rfl rfl ?_
  refine g_iloadN X1 hx (hb hby d10_5) (rfl : 5 + 1 = 6) rfl ?_
  refine g_aloadN X1 hx (hb hby d10_6) (rfl : 6 + 1 = 7) rfl rfl ?_
  refine g_iconst X1 hx (0 : Int32) (hb hby d10_7) (rfl : 7 + 1 = 8) (by decide) ?_
  refine g_iloadN X1 hx (hb hby d10_8) (rfl : 8 + 1 = 9) rfl ?_
  have ne3 : a ≠ a1 := Nat.ne_of_lt (Nat.lt_of_lt_of_le (aryLt I0) (Nat.le_of_eq q1.symm))
  have F4 := (aryE I0 E1)
  refine g_static X1 hx hZ hown eh1 (rm_c5_2 hw a ka a1 k1 c0 c1 F4 A1 hc0 hc1 ne3) (wd hw 77 rfl) (wd hw 78 rfl) (wd hw 79 rfl) (wd hw 75 rfl) (by decide) (argsL := [(.ref a), (.int (0 : Int32)), (.ref a1), (.int (0 : Int32)), (.int (2 : Int32))]) (rest := []) rfl rfl (ps := [(.array .char), .int, (.array .byte), .int, .int]) (rt := (some .int)) (by decide) rfl (W := 0) (Nat.le_of_eq rfl) (by decide) (by decide) (by decide) (by decide) (by rw [hml]; rfl) (hb hby d10_9) (rfl : 9 + 3 = 12) fun v2 T2 hh2 L2 X2 eh2 Q2 => ?_
  obtain ⟨rfl, Pc2, G2_0⟩ := Q2
  have P2 := P1.call Pc2 (allS (Or.inr g1) all0)
  show OGo p e below K T2 (mkF m 12 #[.val (.ref a), .val (.int (0 : Int32)), .val (.int (2 : Int32)), .val (.ref a1), .unset, .unset] [(.int (2 : Int32))])
  refine g_istore X2 hx (hb hby d10_12) (rfl : 12 + 2 = 14) (Ls' := #[.val (.ref a), .val (.int (0 : Int32)), .val (.int (2 : Int32)), .val (.ref a1), .val (.int (2 : Int32)), .unset]) rfl ?_
  refine g_iload X2 hx (hb hby d10_14) (rfl : 14 + 2 = 16) rfl ?_
  refine g_iloadN X2 hx (hb hby d10_16) (rfl : 16 + 1 = 17) rfl ?_
  refine g_icmpY X2 hx (hb hby d10_17) (XT.ii_eq_t (by decide)) (by decide) (pc' := 57) (by decide) ?_
  refine g_aloadN X2 hx (hb hby d10_57) (rfl : 57 + 1 = 58) rfl rfl ?_
  exact g_ret X2 hx hret hlk rfl (Or.inr (Or.inr (Or.inr (Or.inr ⟨rfl, rfl, rfl⟩)))) (hb hby d10_58) (by decide) (by decide) eh2 hK ⟨a1, k1, rfl, P2, g1, G2_0⟩
theorem pn_rm_cf_2 : plainFor (⟨"java/lang/StringUTF16", "coderFromArrayLen", "([BI)B"⟩ : MethodName) = true := by first | exact plainFor_of_name (by first | (simp [plainName, overriddenIn]; done) | decide +kernel) | decide +kernel
set_option maxRecDepth 65536 in
set_option maxHeartbeats 40000000 in
theorem rm_cf_2 {l : Launch} {Z : State} {a0 : Array Value} (hw : ∀ d ∈ tables_1, d.before a0 Z = true) (a : Addr) (ka : ClassId) (c0 : Int32) (c1 : Int32) {h0 : Heap} (I0 : OAry Z h0 a ka .byte [(.int (c0).toInt8.toInt32), (.int (c1).toInt8.toInt32)])  :
    OMet l (⟨"java/lang/StringUTF16", "coderFromArrayLen", "([BI)B"⟩ : MethodName) jdk_52_method_15_code 2 (Option.some Jvm.ClassFile.FieldType.byte) ({ frames := 0, cells := 0, slots := 0, locals := 0 } : Room) #[(.ref a), (.int (2 : Int32))] Z h0 (fun vR hR LR => vR = some (.int (0 : Int32)) ∧ OPr h0 [] hR LR) := by
  refine OMet.body pn_rm_cf_2 (Ls := #[.val (.ref a), .val (.int (2 : Int32))]) (fun m => by first | (simp [entryFrame, mkF, argsToLocals, Value.category]; done) | rfl) ?_
  intro p e s m below meth c T0 K hK X0 hx hby hml hown hnm hret hlk hZ eh0
  have P0 := OPr.refl h0 []
  refine g_iloadN X0 hx (hb hby d12_0) (rfl : 0 + 1 = 1) rfl ?_
  refine g_aloadN X0 hx (hb hby d12_1) (rfl : 1 + 1 = 2) rfl rfl ?_
  refine g_len X0 hx hZ eh0 I0 (z := (2 : Int32)) rfl (hb hby d12_2) (rfl : 2 + 1 = 3) ?_
  refine g_isub X0 hx (hb hby d12_3) (rfl : 3 + 1 = 4) (z := (0 : Int32)) (by decide) ?_
  refine g_bipush X0 hx (31 : Int32) (hb hby d12_4) (rfl : 4 + 2 = 6) (by decide) ?_
  refine g_iushr X0 hx (hb hby d12_6) (rfl : 6 + 1 = 7) (z := (0 : Int32)) (by decide) ?_
  refine g_i2b X0 hx (hb hby d12_7) (rfl : 7 + 1 = 8) ?_
  exact g_ret X0 hx hret hlk rfl (Or.inl ⟨rfl, Or.inr (Or.inr (Or.inl rfl)), _, rfl⟩) (hb hby d12_8) (by decide) (by decide) eh0 hK ⟨(by rfl), P0⟩
theorem pn_rm_i4_2 : plainFor (⟨"java/lang/String", "<init>", "([CIILjava/lang/Void;)V"⟩ : MethodName) = true := by first | exact plainFor_of_name (by first | (simp [plainName, overriddenIn]; done) | decide +kernel) | decide +kernel
set_option maxRecDepth 65536 in
set_option maxHeartbeats 40000000 in
theorem rm_i4_2 {l : Launch} {Z : State} {a0 : Array Value} (hw : ∀ d ∈ tables_1, d.before a0 Z = true) (x : Addr) (a : Addr) (ka : ClassId) (c0 : Int32) (c1 : Int32) (cs : Int32) {h0 : Heap} (I0 : Exa Z h0 x "java/lang/String") (I1 : Fld Z h0 x "java/lang/String" "value" "[B" .null) (I2 : Fld Z h0 x "java/lang/String" "coder" "B" (.int (0 : Int32))) (I3 : OAry Z h0 a ka .char [(.int c0), (.int c1)]) (I4 : Sta Z h0 "java/lang/String" "COMPACT_STRINGS" "Z" (.int cs)) (hc0 : ¬ 255 < c0) (hc1 : ¬ 255 < c1) (hcs : ¬ cs = 0) :
    OMet l (⟨"java/lang/String", "<init>", "([CIILjava/lang/Void;)V"⟩ : MethodName) jdk_42_method_149_code 6 (Option.none : Option Jvm.ClassFile.FieldType) ({ frames := 2, cells := 1, slots := 2, locals := 35 } : Room) #[(.ref x), (.ref a), (.int (0 : Int32)), (.int (2 : Int32)), .null] Z h0 (fun vR hR LR => ∃ b : Addr, ∃ kb : ClassId, vR = none ∧ OPr h0 [x] hR LR ∧ Exa Z hR x "java/lang/String" ∧ Fld Z hR x "java/lang/String" "value" "[B" (.ref b) ∧ Fld Z hR x "java/lang/String" "coder" "B" (.int (0 : Int32)) ∧ OAry Z hR b kb .byte [(.int (c0).toInt8.toInt32), (.int (c1).toInt8.toInt32)]) := by
  refine OMet.body pn_rm_i4_2 (Ls := #[.val (.ref x), .val (.ref a), .val (.int (0 : Int32)), .val (.int (2 : Int32)), .val .null, .unset]) (fun m => by first | (simp [entryFrame, mkF, argsToLocals, Value.category]; done) | rfl) ?_
  intro p e s m below meth c T0 K hK X0 hx hby hml hown hnm hret hlk hZ eh0
  have P0 := OPr.refl h0 [x]
  refine g_aloadN X0 hx (hb hby d2_0) (rfl : 0 + 1 = 1) rfl rfl ?_
  refine g_inito X0 hx hZ hown (wd hw 16 rfl) (wd hw 17 rfl) (wd hw 18 rfl) eh0 (by rw [hml]; rfl) (hb hby d2_1) (rfl : 1 + 3 = 4) (by decide) (W := 0) (Nat.le_of_eq rfl) (by decide) fun T1 X1 eh1 => ?_
  refine g_iloadN X1 hx (hb hby d2_4) (rfl : 4 + 1 = 5) rfl ?_
  refine g_ifY X1 hx (hb hby d2_5) (XT.i0_ne_t (by decide)) (by decide) (pc' := 27) (by decide) ?_
  refine g_gets X1 hx hZ hown (host := "") (Or.inl (wd hw 66 rfl)) Via.refl eh1 I4 (hb hby d2_27) (rfl : 27 + 3 = 30) fun T2 X2 eh2 => ?_
  refine g_ifN X2 hx (hb hby d2_30) (XT.i0_eq_f hcs) (rfl : 30 + 3 = 33) ?_
  refine g_aloadN X2 hx (hb hby d2_33) (rfl : 33 + 1 = 34) rfl rfl ?_
  refine g_iloadN X2 hx (hb hby d2_34) (rfl : 34 + 1 = 35) rfl ?_
  refine g_iloadN X2 hx (hb hby d2_35) (rfl : 35 + 1 = 36) rfl ?_
  refine g_static X2 hx hZ hown eh2 (rm_c3_2 hw a ka c0 c1 I3 hc0 hc1) (wd hw 73 rfl) (wd hw 74 rfl) (wd hw 76 rfl) (wd hw 75 rfl) (by decide) (argsL := [(.ref a), (.int (0 : Int32)), (.int (2 : Int32))]) (rest := []) rfl rfl (ps := [(.array .char), .int, .int]) (rt := (some (.array .byte))) (by decide) rfl (W := 0) (Nat.le_of_eq rfl) (by decide) (by decide) (by decide) (by decide) (by rw [hml]; rfl) (hb hby d2_36) (rfl : 36 + 3 = 39) fun v3 T3 hh3 L3 X3 eh3 Q3 => ?_
  obtain ⟨b_3, kb_3, rfl, Pc3, G3_0, G3_1⟩ := Q3
  have P3 := P0.call Pc3 all0
  show OGo p e below K T3 (mkF m 39 #[.val (.ref x), .val (.ref a), .val (.int (0 : Int32)), .val (.int (2 : Int32)), .val .null, .unset] [(.ref b_3)])
  refine g_astore X3 hx (hb hby d2_39) (rfl : 39 + 2 = 41) rfl (Ls' := #[.val (.ref x), .val (.ref a), .val (.int (0 : Int32)), .val (.int (2 : Int32)), .val .null, .val (.ref b_3)]) rfl ?_
  refine g_aloadN X3 hx (hb hby d2_41) (rfl : 41 + 1 = 42) rfl rfl ?_
  refine g_aload X3 hx (hb hby d2_42) (rfl : 42 + 2 = 44) rfl rfl ?_
  refine g_iloadN X3 hx (hb hby d2_44) (rfl : 44 + 1 = 45) rfl ?_
  refine g_static X3 hx hZ hown eh3 (rm_cf_2 hw b_3 kb_3 c0 c1 G3_1) (wd hw 80 rfl) (wd hw 81 rfl) (wd hw 82 rfl) (wd hw 75 rfl) (by decide) (argsL := [(.ref b_3), (.int (2 : Int32))]) (rest := [(.ref x)]) rfl rfl (ps := [(.array .byte), .int]) (rt := (some .byte)) (by decide) rfl (W := 1) (Nat.le_of_eq rfl) (by decide) (by decide) (by decide) (by decide) (by rw [hml]; rfl) (hb hby d2_45) (rfl : 45 + 3 = 48) fun v4 T4 hh4 L4 X4 eh4 Q4 => ?_
  obtain ⟨rfl, Pc4⟩ := Q4
  have P4 := P3.call Pc4 all0
  show OGo p e below K T4 (mkF m 48 #[.val (.ref x), .val (.ref a), .val (.int (0 : Int32)), .val (.int (2 : Int32)), .val .null, .val (.ref b_3)] [(.int (0 : Int32)), (.ref x)])
  have F5 := (fldP (fldP I2 Pc3 nin0) Pc4 nin0)
  have F6 := (exaP I0 P4)
  refine g_putf X4 hx hZ hown (host := "") (Or.inl (wd hw 26 rfl)) Via.refl eh4 F5 F6 (Or.inr ⟨(wd hw 22 rfl), rfl, hnm⟩) (wd hw 6 rfl) (ty := .byte) (by decide) (by decide) (by decide) P4 (Or.inl (List.mem_of_getElem? (i := 0) rfl)) (hb hby d2_48) (rfl : 48 + 3 = 51) fun T7 hh7 X7 eh7 W7 P7 F7 => ?_
  refine g_aloadN X7 hx (hb hby d2_51) (rfl : 51 + 1 = 52) rfl rfl ?_
  refine g_aload X7 hx (hb hby d2_52) (rfl : 52 + 2 = 54) rfl rfl ?_
  have F8 := ((fldP (fldP I1 Pc3 nin0) Pc4 nin0).other W7 (Or.inr (slot_ne (Or.inr (wd hw 21 rfl)) (Or.inr (wd hw 22 rfl)) (by decide) (t := (.array .byte)) (by decide) (t' := .byte) (by decide))))
  have F9 := (F6.wr W7)
  refine g_putf X7 hx hZ hown (host := "") (Or.inl (wd hw 25 rfl)) Via.refl eh7 F8 F9 (Or.inr ⟨(wd hw 21 rfl), rfl, hnm⟩) (wd hw 6 rfl) (ty := (.array .byte)) (by decide) rfl rfl P7 (Or.inl (List.mem_of_getElem? (i := 0) rfl)) (hb hby d2_54) (rfl : 54 + 3 = 57) fun T10 hh10 X10 eh10 W10 P10 F10 => ?_
  have F11 := (F9.wr W10)
  have F12 := (F7.other W10 (Or.inr (slot_ne (Or.inr (wd hw 22 rfl)) (Or.inr (wd hw 21 rfl)) (by decide) (t := .byte) (by decide) (t' := (.array .byte)) (by decide))))
  have ne13 : x ≠ b_3 := Nat.ne_of_lt (Nat.lt_of_lt_of_le I0.lt G3_0)
  have F14 := (aryO (aryO (aryP G3_1 Pc4 nin0) W7 (Ne.symm ne13)) W10 (Ne.symm ne13))
  exact g_ret0 X10 hx hret hlk (hb hby d2_57) (by decide) (by decide) eh10 hK ⟨b_3, kb_3, rfl, P10, F11, F10, F12, F14⟩
theorem pn_rm_i1_2 : plainFor (⟨"java/lang/String", "<init>", "([C)V"⟩ : MethodName) = true := by first | exact plainFor_of_name (by first | (simp [plainName, overriddenIn]; done) | decide +kernel) | decide +kernel
set_option maxRecDepth 65536 in
set_option maxHeartbeats 40000000 in
theorem rm_i1_2 {l : Launch} {Z : State} {a0 : Array Value} (hw : ∀ d ∈ tables_1, d.before a0 Z = true) (x : Addr) (a : Addr) (ka : ClassId) (c0 : Int32) (c1 : Int32) (cs : Int32) {h0 : Heap} (I0 : Exa Z h0 x "java/lang/String") (I1 : Fld Z h0 x "java/lang/String" "value" "[B" .null) (I2 : Fld Z h0 x "java/lang/String" "coder" "B" (.int (0 : Int32))) (I3 : OAry Z h0 a ka .char [(.int c0), (.int c1)]) (I4 : Sta Z h0 "java/lang/String" "COMPACT_STRINGS" "Z" (.int cs)) (hc0 : ¬ 255 < c0) (hc1 : ¬ 255 < c1) (hcs : ¬ cs = 0) :
    OMet l (⟨"java/lang/String", "<init>", "([C)V"⟩ : MethodName) jdk_42_method_3_code 2 (Option.none : Option Jvm.ClassFile.FieldType) ({ frames := 3, cells := 1, slots := 2, locals := 52 } : Room) #[(.ref x), (.ref a)] Z h0 (fun vR hR LR => ∃ b : Addr, ∃ kb : ClassId, vR = none ∧ OPr h0 [x] hR LR ∧ Exa Z hR x "java/lang/String" ∧ Fld Z hR x "java/lang/String" "value" "[B" (.ref b) ∧ Fld Z hR x "java/lang/String" "coder" "B" (.int (0 : Int32)) ∧ OAry Z hR b kb .byte [(.int (c0).toInt8.toInt32), (.int (c1).toInt8.toInt32)]) := by
  refine OMet.body pn_rm_i1_2 (Ls := #[.val (.ref x), .val (.ref a)]) (fun m => by first | (simp [entryFrame, mkF, argsToLocals, Value.category]; done) | rfl) ?_
  intro p e s m below meth c T0 K hK X0 hx hby hml hown hnm hret hlk hZ eh0
  have P0 := OPr.refl h0 [x]
  refine g_aloadN X0 hx (hb hby d1_0) (rfl : 0 + 1 = 1) rfl rfl ?_
  refine g_aloadN X0 hx (hb hby d1_1) (rfl : 1 + 1 = 2) rfl rfl ?_
  refine g_iconst X0 hx (0 : Int32) (hb hby d1_2) (rfl : 2 + 1 = 3) (by decide) ?_
  refine g_aloadN X0 hx (hb hby d1_3) (rfl : 3 + 1 = 4) rfl rfl ?_
  refine g_len X0 hx hZ eh0 I3 (z := (2 : Int32)) rfl (hb hby d1_4) (rfl : 4 + 1 = 5) ?_
  refine g_anull X0 hx (hb hby d1_5) (rfl : 5 + 1 = 6) ?_
  refine g_special X0 hx hZ hown eh0 (rm_i4_2 hw x a ka c0 c1 cs I0 I1 I2 I3 I4 hc0 hc1 hcs) rfl (wd hw 12 rfl) (wd hw 13 rfl) (wd hw 15 rfl) (wd hw 7 rfl) (by decide) (a := x) (argsL := [(.ref a), (.int (0 : Int32)), (.int (2 : Int32)), .null]) (rest := []) rfl rfl (ps := [(.array .char), .int, .int, (.object "java/lang/Void")]) (by decide) rfl (W := 0) (Nat.le_of_eq rfl) (by decide) (by decide) (by decide) (by decide) (by rw [hml]; rfl) (hb hby d1_6) (rfl : 6 + 3 = 9) fun v1 T1 hh1 L1 X1 eh1 Q1 => ?_
  obtain ⟨b_1, kb_1, rfl, Pc1, G1_0, G1_1, G1_2, G1_3⟩ := Q1
  have P1 := P0.call Pc1 (allS (Or.inl (List.mem_of_getElem? (i := 0) rfl)) all0)
  show OGo p e below K T1 (mkF m 9 #[.val (.ref x), .val (.ref a)] [])
  exact g_ret0 X1 hx hret hlk (hb hby d1_9) (by decide) (by decide) eh1 hK ⟨b_1, kb_1, rfl, P1, G1_0, G1_1, G1_2, G1_3⟩
theorem pn_rm_c5_3 : plainFor (⟨"java/lang/StringUTF16", "compress", "([CI[BII)I"⟩ : MethodName) = true := by first | exact plainFor_of_name (by first | (simp [plainName, overriddenIn]; done) | decide +kernel) | decide +kernel
set_option maxRecDepth 65536 in
set_option maxHeartbeats 40000000 in
theorem rm_c5_3 {l : Launch} {Z : State} {a0 : Array Value} (hw : ∀ d ∈ tables_1, d.before a0 Z = true) (a : Addr) (ka : ClassId) (b : Addr) (kb : ClassId) (c0 : Int32) (c1 : Int32) (c2 : Int32) {h0 : Heap} (I0 : OAry Z h0 a ka .char [(.int c0), (.int c1), (.int c2)]) (I1 : OAry Z h0 b kb .byte [(.int (0 : Int32)), (.int (0 : Int32)), (.int (0 : Int32))]) (hc0 : ¬ 255 < c0) (hc1 : ¬ 255 < c1) (hc2 : ¬ 255 < c2) (hab : a ≠ b) :
    OMet l (⟨"java/lang/StringUTF16", "compress", "([CI[BII)I"⟩ : MethodName) jdk_52_method_21_code 7 (Option.some Jvm.ClassFile.FieldType.int) ({ frames := 0, cells := 0, slots := 0, locals := 0 } : Room) #[(.ref a), (.int (0 : Int32)), (.ref b), (.int (0 : Int32)), (.int (3 : Int32))] Z h0 (fun vR hR LR => vR = some (.int (3 : Int32)) ∧ OPr h0 [b] hR LR ∧ OAry Z hR b kb .byte [(.int (c0).toInt8.toInt32), (.int (c1).toInt8.toInt32), (.int (c2).toInt8.toInt32)]) := by
  refine OMet.body pn_rm_c5_3 (Ls := #[.val (.ref a), .val (.int (0 : Int32)), .val (.ref b), .val (.int (0 : Int32)), .val (.int (3 : Int32)), .unset, .unset]) (fun m => by first | (simp [entryFrame, mkF, argsToLocals, Value.category]; done) | rfl) ?_
  intro p e s m below meth c T0 K hK X0 hx hby hml hown hnm hret hlk hZ eh0
  have P0 := OPr.refl h0 [b]
  refine g_iconst X0 hx (0 : Int32) (hb hby d11_0) (rfl : 0 + 1 = 1) (by decide) ?_
  refine g_istore X0 hx (hb hby d11_1) (rfl : 1 + 2 = 3) (Ls' := #[.val (.ref a), .val (.int (0 : Int32)), .val (.ref b), .val (.int (0 : Int32)), .val (.int (3 : Int32)), .val (.int (0 : Int32)), .unset]) rfl ?_
  refine g_iload X0 hx (hb hby d11_3) (rfl : 3 + 2 = 5) rfl ?_
  refine g_iload X0 hx (hb hby d11_5) (rfl : 5 + 2 = 7) rfl ?_
  refine g_icmpN X0 hx (hb hby d11_7) (XT.ii_ge_f (by decide)) (rfl : 7 + 3 = 10) ?_
  refine g_aloadN X0 hx (hb hby d11_10) (rfl : 10 + 1 = 11) rfl rfl ?_
  refine g_iloadN X0 hx (hb hby d11_11) (rfl : 11 + 1 = 12) rfl ?_
  refine g_caload X0 hx hZ eh0 I0 (v := (.int c0)) (by decide) (by rfl) (hb hby d11_12) (rfl : 12 + 1 = 13) ?_
  refine g_istore X0 hx (hb hby d11_13) (rfl : 13 + 2 = 15) (Ls' := #[.val (.ref a), .val (.int (0 : Int32)), .val (.ref b), .val (.int (0 : Int32)), .val (.int (3 : Int32)), .val (.int (0 : Int32)), .val (.int c0)]) rfl ?_
  refine g_iload X0 hx (hb hby d11_15) (rfl : 15 + 2 = 17) rfl ?_
  refine g_sipush X0 hx (255 : Int32) (hb hby d11_17) (rfl : 17 + 3 = 20) (by decide) ?_
  refine g_icmpY X0 hx (hb hby d11_20) (XT.ii_le_t hc0) (by decide) (pc' := 26) (by decide) ?_
  refine g_aloadN X0 hx (hb hby d11_26) (rfl : 26 + 1 = 27) rfl rfl ?_
  refine g_iloadN X0 hx (hb hby d11_27) (rfl : 27 + 1 = 28) rfl ?_
  refine g_iload X0 hx (hb hby d11_28) (rfl : 28 + 2 = 30) rfl ?_
  refine g_i2b X0 hx (hb hby d11_30) (rfl : 30 + 1 = 31) ?_
  refine g_bastore X0 hx hZ eh0 I1 (b8b8 c0) (by decide) (by rfl) (vs' := [(.int (c0).toInt8.toInt32), (.int (0 : Int32)), (.int (0 : Int32))]) (by rfl) P0 (Or.inl (List.mem_of_getElem? (i := 0) rfl)) (hb hby d11_31) (rfl : 31 + 1 = 32) fun T1 hh1 X1 eh1 W1 P1 A1 => ?_
  refine g_iinc X1 hx (1 : Int32) (hb hby d11_32) (rfl : 32 + 3 = 35) (by decide) rfl (z := (1 : Int32)) (by decide) (Ls' := #[.val (.ref a), .val (.int (1 : Int32)), .val (.ref b), .val (.int (0 : Int32)), .val (.int (3 : Int32)), .val (.int (0 : Int32)), .val (.int c0)]) rfl ?_
  refine g_iinc X1 hx (1 : Int32) (hb hby d11_35) (rfl : 35 + 3 = 38) (by decide) rfl (z := (1 : Int32)) (by decide) (Ls' := #[.val (.ref a), .val (.int (1 : Int32)), .val (.ref b), .val (.int (1 : Int32)), .val (.int (3 : Int32)), .val (.int (0 : Int32)), .val (.int c0)]) rfl ?_
  refine g_iinc X1 hx (1 : Int32) (hb hby d11_38) (rfl : 38 + 3 = 41) (by decide) rfl (z := (1 : Int32)) (by decide) (Ls' := #[.val (.ref a), .val (.int (1 : Int32)), .val (.ref b), .val (.int (1 : Int32)), .val (.int (3 : Int32)), .val (.int (1 : Int32)), .val (.int c0)]) rfl ?_
  refine g_goto X1 hx (hb hby d11_41) (by decide) (pc' := 3) (by decide) ?_
  refine g_iload X1 hx (hb hby d11_3) (rfl : 3 + 2 = 5) rfl ?_
  refine g_iload X1 hx (hb hby d11_5) (rfl : 5 + 2 = 7) rfl ?_
  refine g_icmpN X1 hx (hb hby d11_7) (XT.ii_ge_f (by decide)) (rfl : 7 + 3 = 10) ?_
  refine g_aloadN X1 hx (hb hby d11_10) (rfl : 10 + 1 = 11) rfl rfl ?_
  refine g_iloadN X1 hx (hb hby d11_11) (rfl : 11 + 1 = 12) rfl ?_
  have F2 := (aryO I0 W1 hab)
  refine g_caload X1 hx hZ eh1 F2 (v := (.int c1)) (by decide) (by rfl) (hb hby d11_12) (rfl : 12 + 1 = 13) ?_
  refine g_istore X1 hx (hb hby d11_13) (rfl : 13 + 2 = 15) (Ls' := #[.val (.ref a), .val (.int (1 : Int32)), .val (.ref b), .val (.int (1 : Int32)), .val (.int (3 : Int32)), .val (.int (1 : Int32)), .val (.int c1)]) rfl ?_
  refine g_iload X1 hx (hb hby d11_15) (rfl : 15 + 2 = 17) rfl ?_
  refine g_sipush X1 hx (255 : Int32) (hb hby d11_17) (rfl : 17 + 3 = 20) (by decide) ?_
  refine g_icmpY X1 hx (hb hby d11_20) (XT.ii_le_t hc1) (by decide) (pc' := 26) (by decide) ?_
  refine g_aloadN X1 hx (hb hby d11_26) (rfl : 26 + 1 = 27) rfl rfl ?_
  refine g_iloadN X1 hx (hb hby d11_27) (rfl : 27 + 1 = 28) rfl ?_
  refine g_iload X1 hx (hb hby d11_28) (rfl : 28 + 2 = 30) rfl ?_
  refine g_i2b X1 hx (hb hby d11_30) (rfl : 30 + 1 = 31) ?_
  refine g_bastore X1 hx hZ eh1 A1 (b8b8 c1) (by decide) (by rfl) (vs' := [(.int (c0).toInt8.toInt32), (.int (c1).toInt8.toInt32), (.int (0 : Int32))]) (by rfl) P1 (Or.inl (List.mem_of_getElem? (i := 0) rfl)) (hb hby d11_31) (rfl : 31 + 1 = 32) fun T3 hh3 X3 eh3 W3 P3 A3 => ?_
  refine g_iinc X3 hx (1 : Int32) (hb hby d11_32) (rfl : 32 + 3 = 35) (by decide) rfl (z := (2 : Int32)) (by decide) (Ls' := #[.val (.ref a), .val (.int (2 : Int32)), .val (.ref b), .val (.int (1 : Int32)), .val (.int (3 : Int32)), .val (.int (1 : Int32)), .val (.int c1)]) rfl ?_
  refine g_iinc X3 hx (1 : Int32) (hb hby d11_35) (rfl : 35 + 3 = 38) (by decide) rfl (z := (2 : Int32)) (by decide) (Ls' := #[.val (.ref a), .val (.int (2 : Int32)), .val (.ref b), .val (.int (2 : Int32)), .val (.int (3 : Int32)), .val (.int (1 : Int32)), .val (.int c1)]) rfl ?_
  refine g_iinc X3 hx (1 : Int32) (hb hby d11_38) (rfl : 38 + 3 = 41) (by decide) rfl (z := (2 : Int32)) (by decide) (Ls' := #[.val (.ref a), .val (.int (2 : Int32)), .val (.ref b), .val (.int (2 : Int32)), .val (.int (3 : Int32)), .val (.int (2 : Int32)), .val (.int c1)]) rfl ?_
  refine g_goto X3 hx (hb hby d11_41) (by decide) (pc' := 3) (by decide) ?_
  refine g_iload X3 hx (hb hby d11_3) (rfl : 3 + 2 = 5) rfl ?_
  refine g_iload X3 hx (hb hby d11_5) (rfl : 5 + 2 = 7) rfl ?_
  refine g_icmpN X3 hx (hb hby d11_7) (XT.ii_ge_f (by decide)) (rfl : 7 + 3 = 10) ?_
  refine g_aloadN X3 hx (hb hby d11_10) (rfl : 10 + 1 = 11) rfl rfl ?_
  refine g_iloadN X3 hx (hb hby d11_11) (rfl : 11 + 1 = 12) rfl ?_
  have F4 := (aryO F2 W3 hab)
  refine g_caload X3 hx hZ eh3 F4 (v := (.int c2)) (by decide) (by rfl) (hb hby d11_12) (rfl : 12 + 1 = 13) ?_
  refine g_istore X3 hx (hb hby d11_13) (rfl : 13 + 2 = 15) (Ls' := #[.val (.ref a), .val (.int (2 : Int32)), .val (.ref b), .val (.int (2 : Int32)), .val (.int (3 : Int32)), .val (.int (2 : Int32)), .val (.int c2)]) rfl ?_
  refine g_iload X3 hx (hb hby d11_15) (rfl : 15 + 2 = 17) rfl ?_
  refine g_sipush X3 hx (255 : Int32) (hb hby d11_17) (rfl : 17 + 3 = 20) (by decide) ?_
  refine g_icmpY X3 hx (hb hby d11_20) (XT.ii_le_t hc2) (by decide) (pc' := 26) (by decide) ?_
  refine g_aloadN X3 hx (hb hby d11_26) (rfl : 26 + 1 = 27) rfl rfl ?_
  refine g_iloadN X3 hx (hb hby d11_27) (rfl : 27 + 1 = 28) rfl ?_
  refine g_iload X3 hx (hb hby d11_28) (rfl : 28 + 2 = 30) rfl ?_
  refine g_i2b X3 hx (hb hby d11_30) (rfl : 30 + 1 = 31) ?_
  refine g_bastore X3 hx hZ eh3 A3 (b8b8 c2) (by decide) (by rfl) (vs' := [(.int (c0).toInt8.toInt32), (.int (c1).toInt8.toInt32), (.int (c2).toInt8.toInt32)]) (by rfl) P3 (Or.inl (List.mem_of_getElem? (i := 0) rfl)) (hb hby d11_31) (rfl : 31 + 1 = 32) fun T5 hh5 X5 eh5 W5 P5 A5 => ?_
  refine g_iinc X5 hx (1 : Int32) (hb hby d11_32) (rfl : 32 + 3 = 35) (by decide) rfl (z := (3 : Int32)) (by decide) (Ls' := #[.val (.ref a), .val (.int (3 : Int32)), .val (.ref b), .val (.int (2 : Int32)), .val (.int (3 : Int32)), .val (.int (2 : Int32)), .val (.int c2)]) rfl ?_
  refine g_iinc X5 hx (1 : Int32) (hb hby d11_35) (rfl : 35 + 3 = 38) (by decide) rfl (z := (3 : Int32)) (by decide) (Ls' := #[.val (.ref a), .val (.int (3 : Int32)), .val (.ref b), .val (.int (3 : Int32)), .val (.int (3 : Int32)), .val (.int (2 : Int32)), .val (.int c2)]) rfl ?_
  refine g_iinc X5 hx (1 : Int32) (hb hby d11_38) (rfl : 38 + 3 = 41) (by decide) rfl (z := (3 : Int32)) (by decide) (Ls' := #[.val (.ref a), .val (.int (3 : Int32)), .val (.ref b), .val (.int (3 : Int32)), .val (.int (3 : Int32)), .val (.int (3 : Int32)), .val (.int c2)]) rfl ?_
  refine g_goto X5 hx (hb hby d11_41) (by decide) (pc' := 3) (by decide) ?_
  refine g_iload X5 hx (hb hby d11_3) (rfl : 3 + 2 = 5) rfl ?_
  refine g_iload X5 hx (hb hby d11_5) (rfl : 5 + 2 = 7) rfl ?_
  refine g_icmpY X5 hx (hb hby d11_7) (XT.ii_ge_t (by decide)) (by decide) (pc' := 44) (by decide) ?_
  refine g_iload X5 hx (hb hby d11_44) (rfl : 44 + 2 = 46) rfl ?_
  exact g_ret X5 hx hret hlk rfl (Or.inl ⟨rfl, Or.inl rfl, _, rfl⟩) (hb hby d11_46) (by decide) (by decide) eh5 hK ⟨rfl, P5, A5⟩
theorem pn_rm_c3_3 : plainFor (⟨"java/lang/StringUTF16", "compress", "([CII)[B"⟩ : MethodName) = true := by first | exact plainFor_of_name (by first | (simp [plainName, overriddenIn]; done) | decide +kernel) | decide +kernel
set_option maxRecDepth 65536 in
set_option maxHeartbeats 40000000 in
theorem rm_c3_3 {l : Launch} {Z : State} {a0 : Array Value} (hw : ∀ d ∈ tables_1, d.before a0 Z = true) (a : Addr) (ka : ClassId) (c0 : Int32) (c1 : Int32) (c2 : Int32) {h0 : Heap} (I0 : OAry Z h0 a ka .char [(.int c0), (.int c1), (.int c2)]) (hc0 : ¬ 255 < c0) (hc1 : ¬ 255 < c1) (hc2 : ¬ 255 < c2) :
    OMet l (⟨"java/lang/StringUTF16", "compress", "([CII)[B"⟩ : MethodName) jdk_52_method_16_code 6 (Option.some (Jvm.ClassFile.FieldType.array Jvm.ClassFile.FieldType.byte)) ({ frames := 1, cells := 1, slots := 3, locals := 18 } : Room) #[(.ref a), (.int (0 : Int32)), (.int (3 : Int32))] Z h0 (fun vR hR LR => ∃ b : Addr, ∃ kb : ClassId, vR = some (.ref b) ∧ OPr h0 [] hR LR ∧ h0.size ≤ b ∧ OAry Z hR b kb .byte [(.int (c0).toInt8.toInt32), (.int (c1).toInt8.toInt32), (.int (c2).toInt8.toInt32)]) := by
  refine OMet.body pn_rm_c3_3 (Ls := #[.val (.ref a), .val (.int (0 : Int32)), .val (.int (3 : Int32)), .unset, .unset, .unset]) (fun m => by first | (simp [entryFrame, mkF, argsToLocals, Value.category]; done) | rfl) ?_
  intro p e s m below meth c T0 K hK X0 hx hby hml hown hnm hret hlk hZ eh0
  have P0 := OPr.refl h0 []
  refine g_iloadN X0 hx (hb hby d10_0) (rfl : 0 + 1 = 1) rfl ?_
  refine g_newarray X0 hx hZ (ad := "[B") (by decide) (wd hw 20 rfl) eh0 (vs := [(.int (0 : Int32)), (.int (0 : Int32)), (.int (0 : Int32))]) (by decide) (by rfl) (cap := 3) (by decide) (by decide) P0 (hb hby d10_1) (rfl : 1 + 2 = 3) (by decide) (by decide) fun T1 hh1 a1 k1 q1 g1 X1 eh1 E1 P1 A1 B1 => ?_
  refine g_astoreN X1 hx (hb hby d10_3) (rfl : 3 + 1 = 4) rfl (Ls' := #[.val (.ref a), .val (.int (0 : Int32)), .val (.int (3 : Int32)), .val (.ref a1), .unset, .unset]) rfl ?_
  refine g_aloadN X1 hx (hb hby d10_4) (rfl : 4 + 1 = 5) rfl rfl ?_
  refine g_iloadN X1 hx (hb hby d10_5) (rfl : 5 + 1 = 6) rfl ?_
  refine g_aloadN X1 hx (hb hby d10_6) (rfl : 6 + 1 = 7) rfl rfl ?_
  refine g_iconst X1 hx (0 : Int32) (hb hby d10_7) (rfl : 7 + 1 = 8) (by decide) ?_
  refine g_iloadN X1 hx (hb hby d10_8) (rfl : 8 + 1 = 9) rfl ?_
  have ne3 : a ≠ a1 := Nat.ne_of_lt (Nat.lt_of_lt_of_le (aryLt I0) (Nat.le_of_eq q1.symm))
  have F4 := (aryE I0 E1)
  refine g_static X1 hx hZ hown eh1 (rm_c5_3 hw a ka a1 k1 c0 c1 c2 F4 A1 hc0 hc1 hc2 ne3) (wd hw 77 rfl) (wd hw 78 rfl) (wd hw 79 rfl) (wd hw 75 rfl) (by decide) (argsL := [(.ref a), (.int (0 : Int32)), (.ref a1), (.int (0 : Int32)), (.int (3 : Int32))]) (rest := []) rfl rfl (ps := [(.array .char), .int, (.array .byte), .int, .int]) (rt := (some .int)) (by decide) rfl (W := 0) (Nat.le_of_eq rfl) (by decide) (by decide) (by decide) (by decide) (by rw [hml]; rfl) (hb hby d10_9) (rfl : 9 + 3 = 12) fun v2 T2 hh2 L2 X2 eh2 Q2 => ?_
  obtain ⟨rfl, Pc2, G2_0⟩ := Q2
  have P2 := P1.call Pc2 (allS (Or.inr g1) all0)
  show OGo p e below K T2 (mkF m 12 #[.val (.ref a), .val (.int (0 : Int32)), .val (.int (3 : Int32)), .val (.ref a1), .unset, .unset] [(.int (3 : Int32))])
  refine g_istore X2 hx (hb hby d10_12) (rfl : 12 + 2 = 14) (Ls' := #[.val (.ref a), .val (.int (0 : Int32)), .val (.int (3 : Int32)), .val (.ref a1), .val (.int (3 : Int32)), .unset]) rfl ?_
  refine g_iload X2 hx (hb hby d10_14) (rfl : 14 + 2 = 16) rfl ?_
  refine g_iloadN X2 hx (hb hby d10_16) (rfl : 16 + 1 = 17) rfl ?_
  refine g_icmpY X2 hx (hb hby d10_17) (XT.ii_eq_t (by decide)) (by decide) (pc' := 57) (by decide) ?_
  refine g_aloadN X2 hx (hb hby d10_57) (rfl : 57 + 1 = 58) rfl rfl ?_
  exact g_ret X2 hx hret hlk rfl (Or.inr (Or.inr (Or.inr (Or.inr ⟨rfl, rfl, rfl⟩)))) (hb hby d10_58) (by decide) (by decide) eh2 hK ⟨a1, k1, rfl, P2, g1, G2_0⟩
theorem pn_rm_cf_3 : plainFor (⟨"java/lang/StringUTF16", "coderFromArrayLen", "([BI)B"⟩ : MethodName) = true := by first | exact plainFor_of_name (by first | (simp [plainName, overriddenIn]; done) | decide +kernel) | decide +kernel
set_option maxRecDepth 65536 in
set_option maxHeartbeats 40000000 in
theorem rm_cf_3 {l : Launch} {Z : State} {a0 : Array Value} (hw : ∀ d ∈ tables_1, d.before a0 Z = true) (a : Addr) (ka : ClassId) (c0 : Int32) (c1 : Int32) (c2 : Int32) {h0 : Heap} (I0 : OAry Z h0 a ka .byte [(.int (c0).toInt8.toInt32), (.int (c1).toInt8.toInt32), (.int (c2).toInt8.toInt32)])  :
    OMet l (⟨"java/lang/StringUTF16", "coderFromArrayLen", "([BI)B"⟩ : MethodName) jdk_52_method_15_code 2 (Option.some Jvm.ClassFile.FieldType.byte) ({ frames := 0, cells := 0, slots := 0, locals := 0 } : Room) #[(.ref a), (.int (3 : Int32))] Z h0 (fun vR hR LR => vR = some (.int (0 : Int32)) ∧ OPr h0 [] hR LR) := by
  refine OMet.body pn_rm_cf_3 (Ls := #[.val (.ref a), .val (.int (3 : Int32))]) (fun m => by first | (simp [entryFrame, mkF, argsToLocals, Value.category]; done) | rfl) ?_
  intro p e s m below meth c T0 K hK X0 hx hby hml hown hnm hret hlk hZ eh0
  have P0 := OPr.refl h0 []
  refine g_iloadN X0 hx (hb hby d12_0) (rfl : 0 + 1 = 1) rfl ?_
  refine g_aloadN X0 hx (hb hby d12_1) (rfl : 1 + 1 = 2) rfl rfl ?_
  refine g_len X0 hx hZ eh0 I0 (z := (3 : Int32)) rfl (hb hby d12_2) (rfl : 2 + 1 = 3) ?_
  refine g_isub X0 hx (hb hby d12_3) (rfl : 3 + 1 = 4) (z := (0 : Int32)) (by decide) ?_
  refine g_bipush X0 hx (31 : Int32) (hb hby d12_4) (rfl : 4 + 2 = 6) (by decide) ?_
  refine g_iushr X0 hx (hb hby d12_6) (rfl : 6 + 1 = 7) (z := (0 : Int32)) (by decide) ?_
  refine g_i2b X0 hx (hb hby d12_7) (rfl : 7 + 1 = 8) ?_
  exact g_ret X0 hx hret hlk rfl (Or.inl ⟨rfl, Or.inr (Or.inr (Or.inl rfl)), _, rfl⟩) (hb hby d12_8) (by decide) (by decide) eh0 hK ⟨(by rfl), P0⟩
theorem pn_rm_i4_3 : plainFor (⟨"java/lang/String", "<init>", "([CIILjava/lang/Void;)V"⟩ : MethodName) = true := by first | exact plainFor_of_name (by first | (simp [plainName, overriddenIn]; done) | decide +kernel) | decide +kernel
set_option maxRecDepth 65536 in
set_option maxHeartbeats 40000000 in
theorem rm_i4_3 {l : Launch} {Z : State} {a0 : Array Value} (hw : ∀ d ∈ tables_1, d.before a0 Z = true) (x : Addr) (a : Addr) (ka : ClassId) (c0 : Int32) (c1 : Int32) (c2 : Int32) (cs : Int32) {h0 : Heap} (I0 : Exa Z h0 x "java/lang/String") (I1 : Fld Z h0 x "java/lang/String" "value" "[B" .null) (I2 : Fld Z h0 x "java/lang/String" "coder" "B" (.int (0 : Int32))) (I3 : OAry Z h0 a ka .char [(.int c0), (.int c1), (.int c2)]) (I4 : Sta Z h0 "java/lang/String" "COMPACT_STRINGS" "Z" (.int cs)) (hc0 : ¬ 255 < c0) (hc1 : ¬ 255 < c1) (hc2 : ¬ 255 < c2) (hcs : ¬ cs = 0) :
    OMet l (⟨"java/lang/String", "<init>", "([CIILjava/lang/Void;)V"⟩ : MethodName) jdk_42_method_149_code 6 (Option.none : Option Jvm.ClassFile.FieldType) ({ frames := 2, cells := 1, slots := 3, locals := 35 } : Room) #[(.ref x), (.ref a), (.int (0 : Int32)), (.int (3 : Int32)), .null] Z h0 (fun vR hR LR => ∃ b : Addr, ∃ kb : ClassId, vR = none ∧ OPr h0 [x] hR LR ∧ Exa Z hR x "java/lang/String" ∧ Fld Z hR x "java/lang/String" "value" "[B" (.ref b) ∧ Fld Z hR x "java/lang/String" "coder" "B" (.int (0 : Int32)) ∧ OAry Z hR b kb .byte [(.int (c0).toInt8.toInt32), (.int (c1).toInt8.toInt32), (.int (c2).toInt8.toInt32)]) := by
  refine OMet.body pn_rm_i4_3 (Ls := #[.val (.ref x), .val (.ref a), .val (.int (0 : Int32)), .val (.int (3 : Int32)), .val .null, .unset]) (fun m => by first | (simp [entryFrame, mkF, argsToLocals, Value.category]; done) | rfl) ?_
  intro p e s m below meth c T0 K hK X0 hx hby hml hown hnm hret hlk hZ eh0
  have P0 := OPr.refl h0 [x]
  refine g_aloadN X0 hx (hb hby d2_0) (rfl : 0 + 1 = 1) rfl rfl ?_
  refine g_inito X0 hx hZ hown (wd hw 16 rfl) (wd hw 17 rfl) (wd hw 18 rfl) eh0 (by rw [hml]; rfl) (hb hby d2_1) (rfl : 1 + 3 = 4) (by decide) (W := 0) (Nat.le_of_eq rfl) (by decide) fun T1 X1 eh1 => ?_
  refine g_iloadN X1 hx (hb hby d2_4) (rfl : 4 + 1 = 5) rfl ?_
  refine g_ifY X1 hx (hb hby d2_5) (XT.i0_ne_t (by decide)) (by decide) (pc' := 27) (by decide) ?_
  refine g_gets X1 hx hZ hown (host := "") (Or.inl (wd hw 66 rfl)) Via.refl eh1 I4 (hb hby d2_27) (rfl : 27 + 3 = 30) fun T2 X2 eh2 => ?_
  refine g_ifN X2 hx (hb hby d2_30) (XT.i0_eq_f hcs) (rfl : 30 + 3 = 33) ?_
  refine g_aloadN X2 hx (hb hby d2_33) (rfl : 33 + 1 = 34) rfl rfl ?_
  refine g_iloadN X2 hx (hb hby d2_34) (rfl : 34 + 1 = 35) rfl ?_
  refine g_iloadN X2 hx (hb hby d2_35) (rfl : 35 + 1 = 36) rfl ?_
  refine g_static X2 hx hZ hown eh2 (rm_c3_3 hw a ka c0 c1 c2 I3 hc0 hc1 hc2) (wd hw 73 rfl) (wd hw 74 rfl) (wd hw 76 rfl) (wd hw 75 rfl) (by decide) (argsL := [(.ref a), (.int (0 : Int32)), (.int (3 : Int32))]) (rest := []) rfl rfl (ps := [(.array .char), .int, .int]) (rt := (some (.array .byte))) (by decide) rfl (W := 0) (Nat.le_of_eq rfl) (by decide) (by decide) (by decide) (by decide) (by rw [hml]; rfl) (hb hby d2_36) (rfl : 36 + 3 = 39) fun v3 T3 hh3 L3 X3 eh3 Q3 => ?_
  obtain ⟨b_3, kb_3, rfl, Pc3, G3_0, G3_1⟩ := Q3
  have P3 := P0.call Pc3 all0
  show OGo p e below K T3 (mkF m 39 #[.val (.ref x), .val (.ref a), .val (.int (0 : Int32)), .val (.int (3 : Int32)), .val .null, .unset] [(.ref b_3)])
  refine g_astore X3 hx (hb hby d2_39) (rfl : 39 + 2 = 41) rfl (Ls' := #[.val (.ref x), .val (.ref a), .val (.int (0 : Int32)), .val (.int (3 : Int32)), .val .null, .val (.ref b_3)]) rfl ?_
  refine g_aloadN X3 hx (hb hby d2_41) (rfl : 41 + 1 = 42) rfl rfl ?_
  refine g_aload X3 hx (hb hby d2_42) (rfl : 42 + 2 = 44) rfl rfl ?_
  refine g_iloadN X3 hx (hb hby d2_44) (rfl : 44 + 1 = 45) rfl ?_
  refine g_static X3 hx hZ hown eh3 (rm_cf_3 hw b_3 kb_3 c0 c1 c2 G3_1) (wd hw 80 rfl) (wd hw 81 rfl) (wd hw 82 rfl) (wd hw 75 rfl) (by decide) (argsL := [(.ref b_3), (.int (3 : Int32))]) (rest := [(.ref x)]) rfl rfl (ps := [(.array .byte), .int]) (rt := (some .byte)) (by decide) rfl (W := 1) (Nat.le_of_eq rfl) (by decide) (by decide) (by decide) (by decide) (by rw [hml]; rfl) (hb hby d2_45) (rfl : 45 + 3 = 48) fun v4 T4 hh4 L4 X4 eh4 Q4 => ?_
  obtain ⟨rfl, Pc4⟩ := Q4
  have P4 := P3.call Pc4 all0
  show OGo p e below K T4 (mkF m 48 #[.val (.ref x), .val (.ref a), .val (.int (0 : Int32)), .val (.int (3 : Int32)), .val .null, .val (.ref b_3)] [(.int (0 : Int32)), (.ref x)])
  have F5 := (fldP (fldP I2 Pc3 nin0) Pc4 nin0)
  have F6 := (exaP I0 P4)
  refine g_putf X4 hx hZ hown (host := "") (Or.inl (wd hw 26 rfl)) Via.refl eh4 F5 F6 (Or.inr ⟨(wd hw 22 rfl), rfl, hnm⟩) (wd hw 6 rfl) (ty := .byte) (by decide) (by decide) (by decide) P4 (Or.inl (List.mem_of_getElem? (i := 0) rfl)) (hb hby d2_48) (rfl : 48 + 3 = 51) fun T7 hh7 X7 eh7 W7 P7 F7 => ?_
  refine g_aloadN X7 hx (hb hby d2_51) (rfl : 51 + 1 = 52) rfl rfl ?_
  refine g_aload X7 hx (hb hby d2_52) (rfl : 52 + 2 = 54) rfl rfl ?_
  have F8 := ((fldP (fldP I1 Pc3 nin0) Pc4 nin0).other W7 (Or.inr (slot_ne (Or.inr (wd hw 21 rfl)) (Or.inr (wd hw 22 rfl)) (by decide) (t := (.array .byte)) (by decide) (t' := .byte) (by decide))))
  have F9 := (F6.wr W7)
  refine g_putf X7 hx hZ hown (host := "") (Or.inl (wd hw 25 rfl)) Via.refl eh7 F8 F9 (Or.inr ⟨(wd hw 21 rfl), rfl, hnm⟩) (wd hw 6 rfl) (ty := (.array .byte)) (by decide) rfl rfl P7 (Or.inl (List.mem_of_getElem? (i := 0) rfl)) (hb hby d2_54) (rfl : 54 + 3 = 57) fun T10 hh10 X10 eh10 W10 P10 F10 => ?_
  have F11 := (F9.wr W10)
  have F12 := (F7.other W10 (Or.inr (slot_ne (Or.inr (wd hw 22 rfl)) (Or.inr (wd hw 21 rfl)) (by decide) (t := .byte) (by decide) (t' := (.array .byte)) (by decide))))
  have ne13 : x ≠ b_3 := Nat.ne_of_lt (Nat.lt_of_lt_of_le I0.lt G3_0)
  have F14 := (aryO (aryO (aryP G3_1 Pc4 nin0) W7 (Ne.symm ne13)) W10 (Ne.symm ne13))
  exact g_ret0 X10 hx hret hlk (hb hby d2_57) (by decide) (by decide) eh10 hK ⟨b_3, kb_3, rfl, P10, F11, F10, F12, F14⟩
theorem pn_rm_i1_3 : plainFor (⟨"java/lang/String", "<init>", "([C)V"⟩ : MethodName) = true := by first | exact plainFor_of_name (by first | (simp [plainName, overriddenIn]; done) | decide +kernel) | decide +kernel
set_option maxRecDepth 65536 in
set_option maxHeartbeats 40000000 in
theorem rm_i1_3 {l : Launch} {Z : State} {a0 : Array Value} (hw : ∀ d ∈ tables_1, d.before a0 Z = true) (x : Addr) (a : Addr) (ka : ClassId) (c0 : Int32) (c1 : Int32) (c2 : Int32) (cs : Int32) {h0 : Heap} (I0 : Exa Z h0 x "java/lang/String") (I1 : Fld Z h0 x "java/lang/String" "value" "[B" .null) (I2 : Fld Z h0 x "java/lang/String" "coder" "B" (.int (0 : Int32))) (I3 : OAry Z h0 a ka .char [(.int c0), (.int c1), (.int c2)]) (I4 : Sta Z h0 "java/lang/String" "COMPACT_STRINGS" "Z" (.int cs)) (hc0 : ¬ 255 < c0) (hc1 : ¬ 255 < c1) (hc2 : ¬ 255 < c2) (hcs : ¬ cs = 0) :
    OMet l (⟨"java/lang/String", "<init>", "([C)V"⟩ : MethodName) jdk_42_method_3_code 2 (Option.none : Option Jvm.ClassFile.FieldType) ({ frames := 3, cells := 1, slots := 3, locals := 52 } : Room) #[(.ref x), (.ref a)] Z h0 (fun vR hR LR => ∃ b : Addr, ∃ kb : ClassId, vR = none ∧ OPr h0 [x] hR LR ∧ Exa Z hR x "java/lang/String" ∧ Fld Z hR x "java/lang/String" "value" "[B" (.ref b) ∧ Fld Z hR x "java/lang/String" "coder" "B" (.int (0 : Int32)) ∧ OAry Z hR b kb .byte [(.int (c0).toInt8.toInt32), (.int (c1).toInt8.toInt32), (.int (c2).toInt8.toInt32)]) := by
  refine OMet.body pn_rm_i1_3 (Ls := #[.val (.ref x), .val (.ref a)]) (fun m => by first | (simp [entryFrame, mkF, argsToLocals, Value.category]; done) | rfl) ?_
  intro p e s m below meth c T0 K hK X0 hx hby hml hown hnm hret hlk hZ eh0
  have P0 := OPr.refl h0 [x]
  refine g_aloadN X0 hx (hb hby d1_0) (rfl : 0 + 1 = 1) rfl rfl ?_
  refine g_aloadN X0 hx (hb hby d1_1) (rfl : 1 + 1 = 2) rfl rfl ?_
  refine g_iconst X0 hx (0 : Int32) (hb hby d1_2) (rfl : 2 + 1 = 3) (by decide) ?_
  refine g_aloadN X0 hx (hb hby d1_3) (rfl : 3 + 1 = 4) rfl rfl ?_
  refine g_len X0 hx hZ eh0 I3 (z := (3 : Int32)) rfl (hb hby d1_4) (rfl : 4 + 1 = 5) ?_
  refine g_anull X0 hx (hb hby d1_5) (rfl : 5 + 1 = 6) ?_
  refine g_special X0 hx hZ hown eh0 (rm_i4_3 hw x a ka c0 c1 c2 cs I0 I1 I2 I3 I4 hc0 hc1 hc2 hcs) rfl (wd hw 12 rfl) (wd hw 13 rfl) (wd hw 15 rfl) (wd hw 7 rfl) (by decide) (a := x) (argsL := [(.ref a), (.int (0 : Int32)), (.int (3 : Int32)), .null]) (rest := []) rfl rfl (ps := [(.array .char), .int, .int, (.object "java/lang/Void")]) (by decide) rfl (W := 0) (Nat.le_of_eq rfl) (by decide) (by decide) (by decide) (by decide) (by rw [hml]; rfl) (hb hby d1_6) (rfl : 6 + 3 = 9) fun v1 T1 hh1 L1 X1 eh1 Q1 => ?_
  obtain ⟨b_1, kb_1, rfl, Pc1, G1_0, G1_1, G1_2, G1_3⟩ := Q1
  have P1 := P0.call Pc1 (allS (Or.inl (List.mem_of_getElem? (i := 0) rfl)) all0)
  show OGo p e below K T1 (mkF m 9 #[.val (.ref x), .val (.ref a)] [])
  exact g_ret0 X1 hx hret hlk (hb hby d1_9) (by decide) (by decide) eh1 hK ⟨b_1, kb_1, rfl, P1, G1_0, G1_1, G1_2, G1_3⟩
theorem d2_8 : decode jdk_42_method_149_code 8 = .ok (.aload_n 0, 1) := by decide +kernel
theorem d2_9 : decode jdk_42_method_149_code 9 = .ok (.ldc 7, 2) := by decide +kernel
theorem d2_11 : decode jdk_42_method_149_code 11 = .ok (.getfield 9, 3) := by decide +kernel
theorem d2_14 : decode jdk_42_method_149_code 14 = .ok (.putfield 9, 3) := by decide +kernel
theorem d2_17 : decode jdk_42_method_149_code 17 = .ok (.aload_n 0, 1) := by decide +kernel
theorem d2_18 : decode jdk_42_method_149_code 18 = .ok (.ldc 7, 2) := by decide +kernel
theorem d2_20 : decode jdk_42_method_149_code 20 = .ok (.getfield 15, 3) := by decide +kernel
theorem d2_23 : decode jdk_42_method_149_code 23 = .ok (.putfield 15, 3) := by decide +kernel
theorem d2_26 : decode jdk_42_method_149_code 26 = .ok (.return_, 1) := by decide +kernel
theorem pn_rm_i4_0 : plainFor (⟨"java/lang/String", "<init>", "([CIILjava/lang/Void;)V"⟩ : MethodName) = true := by first | exact plainFor_of_name (by first | (simp [plainName, overriddenIn]; done) | decide +kernel) | decide +kernel
set_option maxRecDepth 65536 in
set_option maxHeartbeats 40000000 in
theorem rm_i4_0 {l : Launch} {Z : State} {a0 : Array Value} (hw : ∀ d ∈ tables_1, d.before a0 Z = true) (x : Addr) (a : Addr) (ka : ClassId) {h0 : Heap} (I0 : Exa Z h0 x "java/lang/String") (I1 : Fld Z h0 x "java/lang/String" "value" "[B" .null) (I2 : Fld Z h0 x "java/lang/String" "coder" "B" (.int (0 : Int32))) (I3 : OAry Z h0 a ka .char [])  :
    OMetC l (⟨"java/lang/String", "<init>", "([CIILjava/lang/Void;)V"⟩ : MethodName) jdk_42_method_149_code 6 (Option.none : Option Jvm.ClassFile.FieldType) ({ frames := 1, cells := 4, slots := 8, locals := 12 } : Room) #[(.ref x), (.ref a), (.int (0 : Int32)), (.int (0 : Int32)), .null] Z consts_1 h0 (fun vR hR LR => ∃ b : Addr, ∃ kb : ClassId, vR = none ∧ OPr h0 [x] hR LR ∧ Exa Z hR x "java/lang/String" ∧ Fld Z hR x "java/lang/String" "value" "[B" (.ref b) ∧ Fld Z hR x "java/lang/String" "coder" "B" (.int (0 : Int32)) ∧ OAry Z hR b kb .byte []) := by
  refine OMetC.body pn_rm_i4_0 (Ls := #[.val (.ref x), .val (.ref a), .val (.int (0 : Int32)), .val (.int (0 : Int32)), .val .null, .unset]) (fun m => by first | (simp [entryFrame, mkF, argsToLocals, Value.category]; done) | rfl) ?_
  intro p e s m below meth c T0 K hK X0 hx hby hml hown hnm hret hlk hZ eh0 es R0
  have P0 := OPr.refl h0 [x]
  refine g_aloadN X0 hx (hb hby d2_0) (rfl : 0 + 1 = 1) rfl rfl ?_
  refine g_inito X0 hx hZ hown (wd hw 16 rfl) (wd hw 17 rfl) (wd hw 18 rfl) eh0 (by rw [hml]; rfl) (hb hby d2_1) (rfl : 1 + 3 = 4) (by decide) (W := 0) (Nat.le_of_eq rfl) (by decide) fun T1 X1 eh1 => ?_
  refine g_iloadN X1 hx (hb hby d2_4) (rfl : 4 + 1 = 5) rfl ?_
  refine g_ifN X1 hx (hb hby d2_5) (XT.i0_ne_f (by decide)) (rfl : 5 + 3 = 8) ?_
  refine g_aloadN X1 hx (hb hby d2_8) (rfl : 8 + 1 = 9) rfl rfl ?_
  refine g_ldcC (s := s) X1 hx hZ hown (wd hw 19 rfl) (strA hw) eh1 (sinceR s) (Nat.zero_le _) (elW hw) (List.mem_of_getElem? (i := 0) rfl) R0 P0 (hb hby d2_9) (rfl : 9 + 2 = 11) (vs := []) (z := (0 : Int32)) ⟨by decide +kernel, by rfl⟩ (by decide) (by decide) (n := 0) (by decide +kernel) (by decide) (by decide) (by decide) fun a2 b2 k2 T2 hh2 vm2 n2 X2 eh2 E2 P2 hS2 hk2 hZ2 ho2 C2 ne2 A2 Fc2 Fv2 Ar2 => ?_
  have R3 := R0.trans C2
  have S4 := CHr.safe C2 I0.lt (safeNull hZ.alike I1 I0 (wd hw 6 rfl))
  obtain ⟨nx5, ny5⟩ := ne2 _ S4
  refine g_getf X2 hx hZ2 ho2 (host := "") (Or.inl (wd hw 25 rfl)) Via.refl eh2 Fv2 (hb hby d2_11) (rfl : 11 + 3 = 14) fun T6 X6 eh6 => ?_
  have F7 := (I1.ext E2)
  have F8 := (I0.ext E2)
  refine g_putf X6 hx hZ2 ho2 (host := "") (Or.inl (wd hw 25 rfl)) Via.refl eh6 F7 F8 (Or.inr ⟨(wd hw 21 rfl), rfl, hnm⟩) (wd hw 6 rfl) (ty := (.array .byte)) (by decide) rfl rfl P2 (Or.inl (List.mem_of_getElem? (i := 0) rfl)) (hb hby d2_14) (rfl : 14 + 3 = 17) fun T9 hh9 X9 eh9 W9 P9 F9 => ?_
  refine g_aloadN X9 hx (hb hby d2_17) (rfl : 17 + 1 = 18) rfl rfl ?_
  have C10 := CHr.wr W9 S4 R3.1
  have R11 := R3.trans C10
  have S12 := CHr.safe C10 F8.lt S4
  refine g_ldcC (s := s) X9 hx hZ2 ho2 (wd hw 19 rfl) (strA hw) eh9 hS2 (Nat.le_trans hk2 (wrSz W9)) (elW hw) (List.mem_of_getElem? (i := 0) rfl) R11 P9 (hb hby d2_18) (rfl : 18 + 2 = 20) (vs := []) (z := (0 : Int32)) ⟨by decide +kernel, by rfl⟩ (by decide) (by decide) (n := 0) (by decide +kernel) (by decide) (by decide) (by decide) fun a13 b13 k13 T13 hh13 vm13 n13 X13 eh13 E13 P13 hS13 hk13 hZ13 ho13 C13 ne13 A13 Fc13 Fv13 Ar13 => ?_
  have R14 := R11.trans C13
  have F16 := (F8.wr W9)
  have S15 := CHr.safe C13 F16.lt S12
  obtain ⟨nx17, ny17⟩ := ne13 _ S15
  refine g_getf X13 hx hZ13 ho13 (host := "") (Or.inl (wd hw 26 rfl)) Via.refl eh13 Fc13 (hb hby d2_20) (rfl : 20 + 3 = 23) fun T18 X18 eh18 => ?_
  have F19 := (((I2.ext E2).other W9 (Or.inr (slot_ne (Or.inr (wd hw 22 rfl)) (Or.inr (wd hw 21 rfl)) (by decide) (t := .byte) (by decide) (t' := (.array .byte)) (by decide)))).ext E13)
  have F20 := (F16.ext E13)
  refine g_putf X18 hx hZ13 ho13 (host := "") (Or.inl (wd hw 26 rfl)) Via.refl eh18 F19 F20 (Or.inr ⟨(wd hw 22 rfl), rfl, hnm⟩) (wd hw 6 rfl) (ty := .byte) (by decide) (by decide) (by decide) P13 (Or.inl (List.mem_of_getElem? (i := 0) rfl)) (hb hby d2_23) (rfl : 23 + 3 = 26) fun T21 hh21 X21 eh21 W21 P21 F21 => ?_
  have F22 := (F20.wr W21)
  have F23 := ((F9.ext E13).other W21 (Or.inr (slot_ne (Or.inr (wd hw 21 rfl)) (Or.inr (wd hw 22 rfl)) (by decide) (t := (.array .byte)) (by decide) (t' := .byte) (by decide))))
  have F24 := (aryO (aryE (aryO Ar2 W9 (Ne.symm ny5)) E13) W21 (Ne.symm ny5))
  have C25 := CHr.wr W21 S15 R14.1
  have R26 := R14.trans C25
  have S27 := CHr.safe C25 F20.lt S15
  exact g_ret0C (s := s) X21 hx hret hlk hS13 (Nat.le_trans hk13 (wrSz W21)) hZ13 (elW hw) es R26 (hb hby d2_26) (by decide) (by decide) eh21 hK ⟨b2, k2, rfl, P21, F22, F23, F21, F24⟩
theorem pn_rm_i1_0 : plainFor (⟨"java/lang/String", "<init>", "([C)V"⟩ : MethodName) = true := by first | exact plainFor_of_name (by first | (simp [plainName, overriddenIn]; done) | decide +kernel) | decide +kernel
set_option maxRecDepth 65536 in
set_option maxHeartbeats 40000000 in
theorem rm_i1_0 {l : Launch} {Z : State} {a0 : Array Value} (hw : ∀ d ∈ tables_1, d.before a0 Z = true) (x : Addr) (a : Addr) (ka : ClassId) {h0 : Heap} (I0 : Exa Z h0 x "java/lang/String") (I1 : Fld Z h0 x "java/lang/String" "value" "[B" .null) (I2 : Fld Z h0 x "java/lang/String" "coder" "B" (.int (0 : Int32))) (I3 : OAry Z h0 a ka .char [])  :
    OMetC l (⟨"java/lang/String", "<init>", "([C)V"⟩ : MethodName) jdk_42_method_3_code 2 (Option.none : Option Jvm.ClassFile.FieldType) ({ frames := 2, cells := 4, slots := 8, locals := 29 } : Room) #[(.ref x), (.ref a)] Z consts_1 h0 (fun vR hR LR => ∃ b : Addr, ∃ kb : ClassId, vR = none ∧ OPr h0 [x] hR LR ∧ Exa Z hR x "java/lang/String" ∧ Fld Z hR x "java/lang/String" "value" "[B" (.ref b) ∧ Fld Z hR x "java/lang/String" "coder" "B" (.int (0 : Int32)) ∧ OAry Z hR b kb .byte []) := by
  refine OMetC.body pn_rm_i1_0 (Ls := #[.val (.ref x), .val (.ref a)]) (fun m => by first | (simp [entryFrame, mkF, argsToLocals, Value.category]; done) | rfl) ?_
  intro p e s m below meth c T0 K hK X0 hx hby hml hown hnm hret hlk hZ eh0 es R0
  have P0 := OPr.refl h0 [x]
  refine g_aloadN X0 hx (hb hby d1_0) (rfl : 0 + 1 = 1) rfl rfl ?_
  refine g_aloadN X0 hx (hb hby d1_1) (rfl : 1 + 1 = 2) rfl rfl ?_
  refine g_iconst X0 hx (0 : Int32) (hb hby d1_2) (rfl : 2 + 1 = 3) (by decide) ?_
  refine g_aloadN X0 hx (hb hby d1_3) (rfl : 3 + 1 = 4) rfl rfl ?_
  refine g_len X0 hx hZ eh0 I3 (z := (0 : Int32)) rfl (hb hby d1_4) (rfl : 4 + 1 = 5) ?_
  refine g_anull X0 hx (hb hby d1_5) (rfl : 5 + 1 = 6) ?_
  refine g_specialC (s := s) X0 hx hZ hown eh0 (sinceR s) (Nat.zero_le _) (elW hw) R0 (rm_i4_0 hw x a ka I0 I1 I2 I3) rfl (wd hw 12 rfl) (wd hw 13 rfl) (wd hw 15 rfl) (wd hw 7 rfl) (by decide) (a := x) (argsL := [(.ref a), (.int (0 : Int32)), (.int (0 : Int32)), .null]) (rest := []) rfl rfl (ps := [(.array .char), .int, .int, (.object "java/lang/Void")]) (by decide) rfl (W := 0) (Nat.le_of_eq rfl) (by decide) (by decide) (by decide) (by decide) (by rw [hml]; rfl) (hb hby d1_6) (rfl : 6 + 3 = 9) fun v1 T1 hh1 L1 vm1 n1 X1 eh1 Q1 hS1 hk1 hZ1 ho1 C1 => ?_
  obtain ⟨b_1, kb_1, rfl, Pc1, G1_0, G1_1, G1_2, G1_3⟩ := Q1
  have P1 := P0.call Pc1 (allS (Or.inl (List.mem_of_getElem? (i := 0) rfl)) all0)
  show OGo p e below K T1 (mkF m 9 #[.val (.ref x), .val (.ref a)] [])
  have R2 := R0.trans C1
  exact g_ret0C (s := s) X1 hx hret hlk hS1 hk1 hZ1 (elW hw) es R2 (hb hby d1_9) (by decide) (by decide) eh1 hK ⟨b_1, kb_1, rfl, P1, G1_0, G1_1, G1_2, G1_3⟩
theorem d0_0 : decode method_3_code 0 = .ok (.iload_n 0, 1) := by decide +kernel
theorem d0_1 : decode method_3_code 1 = .ok (.ifCond .ne 14, 3) := by decide +kernel
theorem d0_4 : decode method_3_code 4 = .ok (.new 31, 3) := by decide +kernel
theorem d0_7 : decode method_3_code 7 = .ok (.dup, 1) := by decide +kernel
theorem d0_8 : decode method_3_code 8 = .ok (.iconst 0, 1) := by decide +kernel
theorem d0_9 : decode method_3_code 9 = .ok (.newarray .char, 2) := by decide +kernel
theorem d0_11 : decode method_3_code 11 = .ok (.invokespecial 33, 3) := by decide +kernel
theorem d0_14 : decode method_3_code 14 = .ok (.areturn, 1) := by decide +kernel
theorem d0_15 : decode method_3_code 15 = .ok (.iload_n 0, 1) := by decide +kernel
theorem d0_16 : decode method_3_code 16 = .ok (.iconst 1, 1) := by decide +kernel
theorem d0_17 : decode method_3_code 17 = .ok (.if_icmp .ne 18, 3) := by decide +kernel
theorem d0_20 : decode method_3_code 20 = .ok (.new 31, 3) := by decide +kernel
theorem d0_23 : decode method_3_code 23 = .ok (.dup, 1) := by decide +kernel
theorem d0_24 : decode method_3_code 24 = .ok (.iconst 1, 1) := by decide +kernel
theorem d0_25 : decode method_3_code 25 = .ok (.newarray .char, 2) := by decide +kernel
theorem d0_27 : decode method_3_code 27 = .ok (.dup, 1) := by decide +kernel
theorem d0_28 : decode method_3_code 28 = .ok (.iconst 0, 1) := by decide +kernel
theorem d0_29 : decode method_3_code 29 = .ok (.iload_n 1, 1) := by decide +kernel
theorem d0_30 : decode method_3_code 30 = .ok (.castore, 1) := by decide +kernel
theorem d0_31 : decode method_3_code 31 = .ok (.invokespecial 33, 3) := by decide +kernel
theorem d0_34 : decode method_3_code 34 = .ok (.areturn, 1) := by decide +kernel
theorem d0_35 : decode method_3_code 35 = .ok (.iload_n 0, 1) := by decide +kernel
theorem d0_36 : decode method_3_code 36 = .ok (.iconst 2, 1) := by decide +kernel
theorem d0_37 : decode method_3_code 37 = .ok (.if_icmp .ne 22, 3) := by decide +kernel
theorem d0_40 : decode method_3_code 40 = .ok (.new 31, 3) := by decide +kernel
theorem d0_43 : decode method_3_code 43 = .ok (.dup, 1) := by decide +kernel
theorem d0_44 : decode method_3_code 44 = .ok (.iconst 2, 1) := by decide +kernel
theorem d0_45 : decode method_3_code 45 = .ok (.newarray .char, 2) := by decide +kernel
theorem d0_47 : decode method_3_code 47 = .ok (.dup, 1) := by decide +kernel
theorem d0_48 : decode method_3_code 48 = .ok (.iconst 0, 1) := by decide +kernel
theorem d0_49 : decode method_3_code 49 = .ok (.iload_n 1, 1) := by decide +kernel
theorem d0_50 : decode method_3_code 50 = .ok (.castore, 1) := by decide +kernel
theorem d0_51 : decode method_3_code 51 = .ok (.dup, 1) := by decide +kernel
theorem d0_52 : decode method_3_code 52 = .ok (.iconst 1, 1) := by decide +kernel
theorem d0_53 : decode method_3_code 53 = .ok (.iload_n 2, 1) := by decide +kernel
theorem d0_54 : decode method_3_code 54 = .ok (.castore, 1) := by decide +kernel
theorem d0_55 : decode method_3_code 55 = .ok (.invokespecial 33, 3) := by decide +kernel
theorem d0_58 : decode method_3_code 58 = .ok (.areturn, 1) := by decide +kernel
theorem d0_59 : decode method_3_code 59 = .ok (.new 31, 3) := by decide +kernel
theorem d0_62 : decode method_3_code 62 = .ok (.dup, 1) := by decide +kernel
theorem d0_63 : decode method_3_code 63 = .ok (.iconst 3, 1) := by decide +kernel
theorem d0_64 : decode method_3_code 64 = .ok (.newarray .char, 2) := by decide +kernel
theorem d0_66 : decode method_3_code 66 = .ok (.dup, 1) := by decide +kernel
theorem d0_67 : decode method_3_code 67 = .ok (.iconst 0, 1) := by decide +kernel
theorem d0_68 : decode method_3_code 68 = .ok (.iload_n 1, 1) := by decide +kernel
theorem d0_69 : decode method_3_code 69 = .ok (.castore, 1) := by decide +kernel
theorem d0_70 : decode method_3_code 70 = .ok (.dup, 1) := by decide +kernel
theorem d0_71 : decode method_3_code 71 = .ok (.iconst 1, 1) := by decide +kernel
theorem d0_72 : decode method_3_code 72 = .ok (.iload_n 2, 1) := by decide +kernel
theorem d0_73 : decode method_3_code 73 = .ok (.castore, 1) := by decide +kernel
theorem d0_74 : decode method_3_code 74 = .ok (.dup, 1) := by decide +kernel
theorem d0_75 : decode method_3_code 75 = .ok (.iconst 2, 1) := by decide +kernel
theorem d0_76 : decode method_3_code 76 = .ok (.iload_n 3, 1) := by decide +kernel
theorem d0_77 : decode method_3_code 77 = .ok (.castore, 1) := by decide +kernel
theorem d0_78 : decode method_3_code 78 = .ok (.invokespecial 33, 3) := by decide +kernel
theorem d0_81 : decode method_3_code 81 = .ok (.areturn, 1) := by decide +kernel
theorem pn_rm_id : plainFor (⟨"com/example/dosimeter/dosimeter/model/ResourceKeyEqualsPinLaw", "id", "(ICCC)Ljava/lang/String;"⟩ : MethodName) = true := by first | exact plainFor_of_name (by first | (simp [plainName, overriddenIn]; done) | decide +kernel) | decide +kernel
set_option maxRecDepth 65536 in
set_option maxHeartbeats 40000000 in
theorem rm_id {l : Launch} {Z : State} {a0 : Array Value} (hw : ∀ d ∈ tables_1, d.before a0 Z = true) (ln : Int32) (c0 : Int32) (c1 : Int32) (c2 : Int32) (cs : Int32) {h0 : Heap} (I0 : Sta Z h0 "java/lang/String" "COMPACT_STRINGS" "Z" (.int cs)) (hl : ln = 0 ∨ ln = 1 ∨ ln = 2 ∨ ln = 3) (hc0 : ¬ 255 < c0) (hc1 : ¬ 255 < c1) (hc2 : ¬ 255 < c2) (gc0 : ¬ c0 < 0) (gc1 : ¬ c1 < 0) (gc2 : ¬ c2 < 0) (hcs : ¬ cs = 0) :
    OMetC l (⟨"com/example/dosimeter/dosimeter/model/ResourceKeyEqualsPinLaw", "id", "(ICCC)Ljava/lang/String;"⟩ : MethodName) method_3_code 4 (Option.some (Jvm.ClassFile.FieldType.object "java/lang/String")) ({ frames := 4, cells := 6, slots := 12, locals := 66 } : Room) #[(.int ln), (.int c0), (.int c1), (.int c2)] Z consts_1 h0 (fun vR hR LR => ∃ x : Addr, ∃ b : Addr, ∃ kb : ClassId, vR = some (.ref x) ∧ OPr h0 [] hR LR ∧ h0.size ≤ x ∧ Exa Z hR x "java/lang/String" ∧ Fld Z hR x "java/lang/String" "value" "[B" (.ref b) ∧ Fld Z hR x "java/lang/String" "coder" "B" (.int (0 : Int32)) ∧ OAry Z hR b kb .byte (BL ln c0 c1 c2)) := by
  refine OMetC.body pn_rm_id (Ls := #[.val (.int ln), .val (.int c0), .val (.int c1), .val (.int c2)]) (fun m => by first | (simp [entryFrame, mkF, argsToLocals, Value.category]; done) | rfl) ?_
  intro p e s m below meth c T0 K hK X0 hx hby hml hown hnm hret hlk hZ eh0 es R0
  have P0 := OPr.refl h0 []
  refine g_iloadN X0 hx (hb hby d0_0) (rfl : 0 + 1 = 1) rfl ?_
  by_cases q0 : ln = (0 : Int32)
  · refine g_ifN X0 hx (hb hby d0_1) (XT.i0_ne_f q0) (rfl : 1 + 3 = 4) ?_
    refine g_new X0 hx hZ hown (wd hw 5 rfl) (wd hw 6 rfl) (wd hw 7 rfl) eh0 P0 (hb hby d0_4) (rfl : 4 + 3 = 7) (by decide) (by decide) fun T1 hh1 a1 q1 g1 X1 eh1 E1 P1 A1 D1 => ?_
    have f2 : Fld Z hh1 a1 "java/lang/String" "value" "[B" .null := D1 (Or.inr (wd hw 21 rfl)) (ty := (.array .byte)) (by decide)
    have f3 : Fld Z hh1 a1 "java/lang/String" "coder" "B" (.int (0 : Int32)) := D1 (Or.inr (wd hw 22 rfl)) (ty := .byte) (by decide)
    refine g_dup X1 hx (hb hby d0_7) (rfl : 7 + 1 = 8) rfl ?_
    refine g_iconst X1 hx (0 : Int32) (hb hby d0_8) (rfl : 8 + 1 = 9) (by decide) ?_
    refine g_newarray X1 hx hZ (ad := "[C") (by decide) (wd hw 8 rfl) eh1 (vs := []) (by decide) (by rfl) (cap := 0) (by decide) (by decide) P1 (hb hby d0_9) (rfl : 9 + 2 = 11) (by decide) (by decide) fun T4 hh4 a4 k4 q4 g4 X4 eh4 E4 P4 A4 B4 => ?_
    have C6 := CHr.ext E1 R0.1
    have R7 := R0.trans C6
    have C8 := CHr.ext E4 R7.1
    have R9 := R7.trans C8
    have F10 := (A1.ext E4)
    have F11 := (f2.ext E4)
    have F12 := (f3.ext E4)
    refine g_specialC (s := s) X4 hx hZ hown eh4 (sinceR s) (Nat.zero_le _) (elW hw) R9 (rm_i1_0 hw a1 a4 k4 F10 F11 F12 A4) rfl (wd hw 9 rfl) (wd hw 10 rfl) (wd hw 11 rfl) (wd hw 7 rfl) (by decide) (a := a1) (argsL := [(.ref a4)]) (rest := [(.ref a1)]) rfl rfl (ps := [(.array .char)]) (by decide) rfl (W := 1) (Nat.le_of_eq rfl) (by decide) (by decide) (by decide) (by decide) (by rw [hml]; rfl) (hb hby d0_11) (rfl : 11 + 3 = 14) fun v5 T5 hh5 L5 vm5 n5 X5 eh5 Q5 hS5 hk5 hZ5 ho5 C5 => ?_
    obtain ⟨b_5, kb_5, rfl, Pc5, G5_0, G5_1, G5_2, G5_3⟩ := Q5
    have P5 := P4.call Pc5 (allS (Or.inr g1) all0)
    show OGo p e below K T5 (mkF m 14 #[.val (.int ln), .val (.int c0), .val (.int c1), .val (.int c2)] [(.ref a1)])
    have R13 := R9.trans C5
    exact g_retC (s := s) X5 hx hret hlk hS5 hk5 hZ5 (elW hw) es R13 rfl (Or.inr (Or.inr (Or.inr (Or.inr ⟨rfl, rfl, rfl⟩)))) (hb hby d0_14) (by decide) (by decide) eh5 hK ⟨a1, b_5, kb_5, rfl, P5, g1, G5_0, G5_1, G5_2, (by rw [q0, BL0]; exact G5_3)⟩
  · refine g_ifY X0 hx (hb hby d0_1) (XT.i0_ne_t q0) (by decide) (pc' := 15) (by decide) ?_
    refine g_iloadN X0 hx (hb hby d0_15) (rfl : 15 + 1 = 16) rfl ?_
    refine g_iconst X0 hx (1 : Int32) (hb hby d0_16) (rfl : 16 + 1 = 17) (by decide) ?_
    by_cases q1 : ln = (1 : Int32)
    · refine g_icmpN X0 hx (hb hby d0_17) (XT.ii_ne_f q1) (rfl : 17 + 3 = 20) ?_
      refine g_new X0 hx hZ hown (wd hw 5 rfl) (wd hw 6 rfl) (wd hw 7 rfl) eh0 P0 (hb hby d0_20) (rfl : 20 + 3 = 23) (by decide) (by decide) fun T14 hh14 a14 q14 g14 X14 eh14 E14 P14 A14 D14 => ?_
      have f15 : Fld Z hh14 a14 "java/lang/String" "value" "[B" .null := D14 (Or.inr (wd hw 21 rfl)) (ty := (.array .byte)) (by decide)
      have f16 : Fld Z hh14 a14 "java/lang/String" "coder" "B" (.int (0 : Int32)) := D14 (Or.inr (wd hw 22 rfl)) (ty := .byte) (by decide)
      refine g_dup X14 hx (hb hby d0_23) (rfl : 23 + 1 = 24) rfl ?_
      refine g_iconst X14 hx (1 : Int32) (hb hby d0_24) (rfl : 24 + 1 = 25) (by decide) ?_
      refine g_newarray X14 hx hZ (ad := "[C") (by decide) (wd hw 8 rfl) eh14 (vs := [(.int (0 : Int32))]) (by decide) (by rfl) (cap := 1) (by decide) (by decide) P14 (hb hby d0_25) (rfl : 25 + 2 = 27) (by decide) (by decide) fun T17 hh17 a17 k17 q17 g17 X17 eh17 E17 P17 A17 B17 => ?_
      refine g_dup X17 hx (hb hby d0_27) (rfl : 27 + 1 = 28) rfl ?_
      refine g_iconst X17 hx (0 : Int32) (hb hby d0_28) (rfl : 28 + 1 = 29) (by decide) ?_
      refine g_iloadN X17 hx (hb hby d0_29) (rfl : 29 + 1 = 30) rfl ?_
      refine g_castore X17 hx hZ eh17 A17 (charNar gc0 hc0) (by decide) (by rfl) (vs' := [(.int c0)]) (by rfl) P17 (Or.inr g17) (hb hby d0_30) (rfl : 30 + 1 = 31) fun T18 hh18 X18 eh18 W18 P18 A18 => ?_
      have F20 := ((A14.ext E17).wr W18)
      have ne21 : a14 ≠ a17 := Nat.ne_of_lt (Nat.lt_of_lt_of_le A14.lt (Nat.le_of_eq q17.symm))
      have F22 := ((f15.ext E17).other W18 (Or.inl ne21))
      have F23 := ((f16.ext E17).other W18 (Or.inl ne21))
      have F24 := (staP I0 P18)
      refine g_special X18 hx hZ hown eh18 (rm_i1_1 hw a14 a17 k17 c0 cs F20 F22 F23 A18 F24 hc0 hcs) rfl (wd hw 9 rfl) (wd hw 10 rfl) (wd hw 11 rfl) (wd hw 7 rfl) (by decide) (a := a14) (argsL := [(.ref a17)]) (rest := [(.ref a14)]) rfl rfl (ps := [(.array .char)]) (by decide) rfl (W := 1) (Nat.le_of_eq rfl) (by decide) (by decide) (by decide) (by decide) (by rw [hml]; rfl) (hb hby d0_31) (rfl : 31 + 3 = 34) fun v19 T19 hh19 L19 X19 eh19 Q19 => ?_
      obtain ⟨b_19, kb_19, rfl, Pc19, G19_0, G19_1, G19_2, G19_3⟩ := Q19
      have P19 := P18.call Pc19 (allS (Or.inr g14) all0)
      show OGo p e below K T19 (mkF m 34 #[.val (.int ln), .val (.int c0), .val (.int c1), .val (.int c2)] [(.ref a14)])
      have C25 := CHr.ext E14 R0.1
      have R26 := R0.trans C25
      have C27 := CHr.ext E17 R26.1
      have R28 := R26.trans C27
      have C29 := CHr.wr W18 (Safe.exa hZ.alike B17 (by decide) (by decide)) R28.1
      have R30 := R28.trans C29
      have C31 := CHr.keep Pc19.1 (sfS (safeNull hZ.alike F22 F20 (wd hw 6 rfl)) sf0) R30.1
      have R32 := R30.trans C31
      exact g_retC (s := s) X19 hx hret hlk (sinceR s) (Nat.zero_le _) hZ (elW hw) es R32 rfl (Or.inr (Or.inr (Or.inr (Or.inr ⟨rfl, rfl, rfl⟩)))) (hb hby d0_34) (by decide) (by decide) eh19 hK ⟨a14, b_19, kb_19, rfl, P19, g14, G19_0, G19_1, G19_2, (by rw [q1, BL1]; exact G19_3)⟩
    · refine g_icmpY X0 hx (hb hby d0_17) (XT.ii_ne_t q1) (by decide) (pc' := 35) (by decide) ?_
      refine g_iloadN X0 hx (hb hby d0_35) (rfl : 35 + 1 = 36) rfl ?_
      refine g_iconst X0 hx (2 : Int32) (hb hby d0_36) (rfl : 36 + 1 = 37) (by decide) ?_
      by_cases q2 : ln = (2 : Int32)
      · refine g_icmpN X0 hx (hb hby d0_37) (XT.ii_ne_f q2) (rfl : 37 + 3 = 40) ?_
        refine g_new X0 hx hZ hown (wd hw 5 rfl) (wd hw 6 rfl) (wd hw 7 rfl) eh0 P0 (hb hby d0_40) (rfl : 40 + 3 = 43) (by decide) (by decide) fun T33 hh33 a33 q33 g33 X33 eh33 E33 P33 A33 D33 => ?_
        have f34 : Fld Z hh33 a33 "java/lang/String" "value" "[B" .null := D33 (Or.inr (wd hw 21 rfl)) (ty := (.array .byte)) (by decide)
        have f35 : Fld Z hh33 a33 "java/lang/String" "coder" "B" (.int (0 : Int32)) := D33 (Or.inr (wd hw 22 rfl)) (ty := .byte) (by decide)
        refine g_dup X33 hx (hb hby d0_43) (rfl : 43 + 1 = 44) rfl ?_
        refine g_iconst X33 hx (2 : Int32) (hb hby d0_44) (rfl : 44 + 1 = 45) (by decide) ?_
        refine g_newarray X33 hx hZ (ad := "[C") (by decide) (wd hw 8 rfl) eh33 (vs := [(.int (0 : Int32)), (.int (0 : Int32))]) (by decide) (by rfl) (cap := 2) (by decide) (by decide) P33 (hb hby d0_45) (rfl : 45 + 2 = 47) (by decide) (by decide) fun T36 hh36 a36 k36 q36 g36 X36 eh36 E36 P36 A36 B36 => ?_
        refine g_dup X36 hx (hb hby d0_47) (rfl : 47 + 1 = 48) rfl ?_
        refine g_iconst X36 hx (0 : Int32) (hb hby d0_48) (rfl : 48 + 1 = 49) (by decide) ?_
        refine g_iloadN X36 hx (hb hby d0_49) (rfl : 49 + 1 = 50) rfl ?_
        refine g_castore X36 hx hZ eh36 A36 (charNar gc0 hc0) (by decide) (by rfl) (vs' := [(.int c0), (.int (0 : Int32))]) (by rfl) P36 (Or.inr g36) (hb hby d0_50) (rfl : 50 + 1 = 51) fun T37 hh37 X37 eh37 W37 P37 A37 => ?_
        refine g_dup X37 hx (hb hby d0_51) (rfl : 51 + 1 = 52) rfl ?_
        refine g_iconst X37 hx (1 : Int32) (hb hby d0_52) (rfl : 52 + 1 = 53) (by decide) ?_
        refine g_iloadN X37 hx (hb hby d0_53) (rfl : 53 + 1 = 54) rfl ?_
        refine g_castore X37 hx hZ eh37 A37 (charNar gc1 hc1) (by decide) (by rfl) (vs' := [(.int c0), (.int c1)]) (by rfl) P37 (Or.inr g36) (hb hby d0_54) (rfl : 54 + 1 = 55) fun T38 hh38 X38 eh38 W38 P38 A38 => ?_
        have F40 := (((A33.ext E36).wr W37).wr W38)
        have ne41 : a33 ≠ a36 := Nat.ne_of_lt (Nat.lt_of_lt_of_le A33.lt (Nat.le_of_eq q36.symm))
        have F42 := (((f34.ext E36).other W37 (Or.inl ne41)).other W38 (Or.inl ne41))
        have F43 := (((f35.ext E36).other W37 (Or.inl ne41)).other W38 (Or.inl ne41))
        have F44 := (staP I0 P38)
        refine g_special X38 hx hZ hown eh38 (rm_i1_2 hw a33 a36 k36 c0 c1 cs F40 F42 F43 A38 F44 hc0 hc1 hcs) rfl (wd hw 9 rfl) (wd hw 10 rfl) (wd hw 11 rfl) (wd hw 7 rfl) (by decide) (a := a33) (argsL := [(.ref a36)]) (rest := [(.ref a33)]) rfl rfl (ps := [(.array .char)]) (by decide) rfl (W := 1) (Nat.le_of_eq rfl) (by decide) (by decide) (by decide) (by decide) (by rw [hml]; rfl) (hb hby d0_55) (rfl : 55 + 3 = 58) fun v39 T39 hh39 L39 X39 eh39 Q39 => ?_
        obtain ⟨b_39, kb_39, rfl, Pc39, G39_0, G39_1, G39_2, G39_3⟩ := Q39
        have P39 := P38.call Pc39 (allS (Or.inr g33) all0)
        show OGo p e below K T39 (mkF m 58 #[.val (.int ln), .val (.int c0), .val (.int c1), .val (.int c2)] [(.ref a33)])
        have C45 := CHr.ext E33 R0.1
        have R46 := R0.trans C45
        have C47 := CHr.ext E36 R46.1
        have R48 := R46.trans C47
        have C49 := CHr.wr W37 (Safe.exa hZ.alike B36 (by decide) (by decide)) R48.1
        have R50 := R48.trans C49
        have F52 := (B36.wr W37)
        have C51 := CHr.wr W38 (Safe.exa hZ.alike F52 (by decide) (by decide)) R50.1
        have R53 := R50.trans C51
        have C54 := CHr.keep Pc39.1 (sfS (safeNull hZ.alike F42 F40 (wd hw 6 rfl)) sf0) R53.1
        have R55 := R53.trans C54
        exact g_retC (s := s) X39 hx hret hlk (sinceR s) (Nat.zero_le _) hZ (elW hw) es R55 rfl (Or.inr (Or.inr (Or.inr (Or.inr ⟨rfl, rfl, rfl⟩)))) (hb hby d0_58) (by decide) (by decide) eh39 hK ⟨a33, b_39, kb_39, rfl, P39, g33, G39_0, G39_1, G39_2, (by rw [q2, BL2]; exact G39_3)⟩
      · refine g_icmpY X0 hx (hb hby d0_37) (XT.ii_ne_t q2) (by decide) (pc' := 59) (by decide) ?_
        have q3 : ln = 3 := hl.elim (fun q => absurd q q0) (fun r => r.elim (fun q => absurd q q1) (fun r => r.elim (fun q => absurd q q2) id))
        refine g_new X0 hx hZ hown (wd hw 5 rfl) (wd hw 6 rfl) (wd hw 7 rfl) eh0 P0 (hb hby d0_59) (rfl : 59 + 3 = 62) (by decide) (by decide) fun T56 hh56 a56 q56 g56 X56 eh56 E56 P56 A56 D56 => ?_
        have f57 : Fld Z hh56 a56 "java/lang/String" "value" "[B" .null := D56 (Or.inr (wd hw 21 rfl)) (ty := (.array .byte)) (by decide)
        have f58 : Fld Z hh56 a56 "java/lang/String" "coder" "B" (.int (0 : Int32)) := D56 (Or.inr (wd hw 22 rfl)) (ty := .byte) (by decide)
        refine g_dup X56 hx (hb hby d0_62) (rfl : 62 + 1 = 63) rfl ?_
        refine g_iconst X56 hx (3 : Int32) (hb hby d0_63) (rfl : 63 + 1 = 64) (by decide) ?_
        refine g_newarray X56 hx hZ (ad := "[C") (by decide) (wd hw 8 rfl) eh56 (vs := [(.int (0 : Int32)), (.int (0 : Int32)), (.int (0 : Int32))]) (by decide) (by rfl) (cap := 3) (by decide) (by decide) P56 (hb hby d0_64) (rfl : 64 + 2 = 66) (by decide) (by decide) fun T59 hh59 a59 k59 q59 g59 X59 eh59 E59 P59 A59 B59 => ?_
        refine g_dup X59 hx (hb hby d0_66) (rfl : 66 + 1 = 67) rfl ?_
        refine g_iconst X59 hx (0 : Int32) (hb hby d0_67) (rfl : 67 + 1 = 68) (by decide) ?_
        refine g_iloadN X59 hx (hb hby d0_68) (rfl : 68 + 1 = 69) rfl ?_
        refine g_castore X59 hx hZ eh59 A59 (charNar gc0 hc0) (by decide) (by rfl) (vs' := [(.int c0), (.int (0 : Int32)), (.int (0 : Int32))]) (by rfl) P59 (Or.inr g59) (hb hby d0_69) (rfl : 69 + 1 = 70) fun T60 hh60 X60 eh60 W60 P60 A60 => ?_
        refine g_dup X60 hx (hb hby d0_70) (rfl : 70 + 1 = 71) rfl ?_
        refine g_iconst X60 hx (1 : Int32) (hb hby d0_71) (rfl : 71 + 1 = 72) (by decide) ?_
        refine g_iloadN X60 hx (hb hby d0_72) (rfl : 72 + 1 = 73) rfl ?_
        refine g_castore X60 hx hZ eh60 A60 (charNar gc1 hc1) (by decide) (by rfl) (vs' := [(.int c0), (.int c1), (.int (0 : Int32))]) (by rfl) P60 (Or.inr g59) (hb hby d0_73) (rfl : 73 + 1 = 74) fun T61 hh61 X61 eh61 W61 P61 A61 => ?_
        refine g_dup X61 hx (hb hby d0_74) (rfl : 74 + 1 = 75) rfl ?_
        refine g_iconst X61 hx (2 : Int32) (hb hby d0_75) (rfl : 75 + 1 = 76) (by decide) ?_
        refine g_iloadN X61 hx (hb hby d0_76) (rfl : 76 + 1 = 77) rfl ?_
        refine g_castore X61 hx hZ eh61 A61 (charNar gc2 hc2) (by decide) (by rfl) (vs' := [(.int c0), (.int c1), (.int c2)]) (by rfl) P61 (Or.inr g59) (hb hby d0_77) (rfl : 77 + 1 = 78) fun T62 hh62 X62 eh62 W62 P62 A62 => ?_
        have F64 := ((((A56.ext E59).wr W60).wr W61).wr W62)
        have ne65 : a56 ≠ a59 := Nat.ne_of_lt (Nat.lt_of_lt_of_le A56.lt (Nat.le_of_eq q59.symm))
        have F66 := ((((f57.ext E59).other W60 (Or.inl ne65)).other W61 (Or.inl ne65)).other W62 (Or.inl ne65))
        have F67 := ((((f58.ext E59).other W60 (Or.inl ne65)).other W61 (Or.inl ne65)).other W62 (Or.inl ne65))
        have F68 := (staP I0 P62)
        refine g_special X62 hx hZ hown eh62 (rm_i1_3 hw a56 a59 k59 c0 c1 c2 cs F64 F66 F67 A62 F68 hc0 hc1 hc2 hcs) rfl (wd hw 9 rfl) (wd hw 10 rfl) (wd hw 11 rfl) (wd hw 7 rfl) (by decide) (a := a56) (argsL := [(.ref a59)]) (rest := [(.ref a56)]) rfl rfl (ps := [(.array .char)]) (by decide) rfl (W := 1) (Nat.le_of_eq rfl) (by decide) (by decide) (by decide) (by decide) (by rw [hml]; rfl) (hb hby d0_78) (rfl : 78 + 3 = 81) fun v63 T63 hh63 L63 X63 eh63 Q63 => ?_
        obtain ⟨b_63, kb_63, rfl, Pc63, G63_0, G63_1, G63_2, G63_3⟩ := Q63
        have P63 := P62.call Pc63 (allS (Or.inr g56) all0)
        show OGo p e below K T63 (mkF m 81 #[.val (.int ln), .val (.int c0), .val (.int c1), .val (.int c2)] [(.ref a56)])
        have C69 := CHr.ext E56 R0.1
        have R70 := R0.trans C69
        have C71 := CHr.ext E59 R70.1
        have R72 := R70.trans C71
        have C73 := CHr.wr W60 (Safe.exa hZ.alike B59 (by decide) (by decide)) R72.1
        have R74 := R72.trans C73
        have F76 := (B59.wr W60)
        have C75 := CHr.wr W61 (Safe.exa hZ.alike F76 (by decide) (by decide)) R74.1
        have R77 := R74.trans C75
        have F79 := (F76.wr W61)
        have C78 := CHr.wr W62 (Safe.exa hZ.alike F79 (by decide) (by decide)) R77.1
        have R80 := R77.trans C78
        have C81 := CHr.keep Pc63.1 (sfS (safeNull hZ.alike F66 F64 (wd hw 6 rfl)) sf0) R80.1
        have R82 := R80.trans C81
        exact g_retC (s := s) X63 hx hret hlk (sinceR s) (Nat.zero_le _) hZ (elW hw) es R82 rfl (Or.inr (Or.inr (Or.inr (Or.inr ⟨rfl, rfl, rfl⟩)))) (hb hby d0_81) (by decide) (by decide) eh63 hK ⟨a56, b_63, kb_63, rfl, P63, g56, G63_0, G63_1, G63_2, (by rw [q3, BL3]; exact G63_3)⟩
theorem d4_0 : decode method_2_code 0 = .ok (.iload_n 0, 1) := by decide +kernel
theorem d4_1 : decode method_2_code 1 = .ok (.ifCond .ne 7, 3) := by decide +kernel
theorem d4_4 : decode method_2_code 4 = .ok (.getstatic 7, 3) := by decide +kernel
theorem d4_7 : decode method_2_code 7 = .ok (.areturn, 1) := by decide +kernel
theorem d4_8 : decode method_2_code 8 = .ok (.iload_n 0, 1) := by decide +kernel
theorem d4_9 : decode method_2_code 9 = .ok (.iconst 1, 1) := by decide +kernel
theorem d4_10 : decode method_2_code 10 = .ok (.if_icmp .ne 7, 3) := by decide +kernel
theorem d4_13 : decode method_2_code 13 = .ok (.getstatic 13, 3) := by decide +kernel
theorem d4_16 : decode method_2_code 16 = .ok (.areturn, 1) := by decide +kernel
theorem d4_17 : decode method_2_code 17 = .ok (.iload_n 0, 1) := by decide +kernel
theorem d4_18 : decode method_2_code 18 = .ok (.iconst 2, 1) := by decide +kernel
theorem d4_19 : decode method_2_code 19 = .ok (.if_icmp .ne 7, 3) := by decide +kernel
theorem d4_22 : decode method_2_code 22 = .ok (.getstatic 16, 3) := by decide +kernel
theorem d4_25 : decode method_2_code 25 = .ok (.areturn, 1) := by decide +kernel
theorem d4_26 : decode method_2_code 26 = .ok (.iload_n 0, 1) := by decide +kernel
theorem d4_27 : decode method_2_code 27 = .ok (.iconst 3, 1) := by decide +kernel
theorem d4_28 : decode method_2_code 28 = .ok (.if_icmp .ne 7, 3) := by decide +kernel
theorem d4_31 : decode method_2_code 31 = .ok (.getstatic 19, 3) := by decide +kernel
theorem d4_34 : decode method_2_code 34 = .ok (.areturn, 1) := by decide +kernel
theorem d4_35 : decode method_2_code 35 = .ok (.iload_n 0, 1) := by decide +kernel
theorem d4_36 : decode method_2_code 36 = .ok (.iconst 4, 1) := by decide +kernel
theorem d4_37 : decode method_2_code 37 = .ok (.if_icmp .ne 7, 3) := by decide +kernel
theorem d4_40 : decode method_2_code 40 = .ok (.getstatic 22, 3) := by decide +kernel
theorem d4_43 : decode method_2_code 43 = .ok (.areturn, 1) := by decide +kernel
theorem d4_44 : decode method_2_code 44 = .ok (.iload_n 0, 1) := by decide +kernel
theorem d4_45 : decode method_2_code 45 = .ok (.iconst 5, 1) := by decide +kernel
theorem d4_46 : decode method_2_code 46 = .ok (.if_icmp .ne 7, 3) := by decide +kernel
theorem d4_49 : decode method_2_code 49 = .ok (.getstatic 25, 3) := by decide +kernel
theorem d4_52 : decode method_2_code 52 = .ok (.areturn, 1) := by decide +kernel
theorem d4_53 : decode method_2_code 53 = .ok (.getstatic 28, 3) := by decide +kernel
theorem d4_56 : decode method_2_code 56 = .ok (.areturn, 1) := by decide +kernel
theorem pn_rm_kind : plainFor (⟨"com/example/dosimeter/dosimeter/model/ResourceKeyEqualsPinLaw", "kind", "(I)Lcom/example/dosimeter/dosimeter/model/ResourceKind;"⟩ : MethodName) = true := by first | exact plainFor_of_name (by first | (simp [plainName, overriddenIn]; done) | decide +kernel) | decide +kernel
set_option maxRecDepth 65536 in
set_option maxHeartbeats 40000000 in
theorem rm_kind {l : Launch} {Z : State} {a0 : Array Value} (hw : ∀ d ∈ tables_1, d.before a0 Z = true) (i : Int32) (t0 : Addr) (t1 : Addr) (t2 : Addr) (t3 : Addr) (t4 : Addr) (t5 : Addr) (t6 : Addr) {h0 : Heap} (I0 : Sta Z h0 "com/example/dosimeter/dosimeter/model/ResourceKind" "VM" "Lcom/example/dosimeter/dosimeter/model/ResourceKind;" (.ref t0)) (I1 : Sta Z h0 "com/example/dosimeter/dosimeter/model/ResourceKind" "VOLUME" "Lcom/example/dosimeter/dosimeter/model/ResourceKind;" (.ref t1)) (I2 : Sta Z h0 "com/example/dosimeter/dosimeter/model/ResourceKind" "TEMPLATE" "Lcom/example/dosimeter/dosimeter/model/ResourceKind;" (.ref t2)) (I3 : Sta Z h0 "com/example/dosimeter/dosimeter/model/ResourceKind" "ISO" "Lcom/example/dosimeter/dosimeter/model/ResourceKind;" (.ref t3)) (I4 : Sta Z h0 "com/example/dosimeter/dosimeter/model/ResourceKind" "SNAPSHOT" "Lcom/example/dosimeter/dosimeter/model/ResourceKind;" (.ref t4)) (I5 : Sta Z h0 "com/example/dosimeter/dosimeter/model/ResourceKind" "IP_ADDRESS" "Lcom/example/dosimeter/dosimeter/model/ResourceKind;" (.ref t5)) (I6 : Sta Z h0 "com/example/dosimeter/dosimeter/model/ResourceKind" "NETWORK_DEVICE" "Lcom/example/dosimeter/dosimeter/model/ResourceKind;" (.ref t6)) (hi : i = 0 ∨ i = 1 ∨ i = 2 ∨ i = 3 ∨ i = 4 ∨ i = 5 ∨ i = 6) :
    OMet l (⟨"com/example/dosimeter/dosimeter/model/ResourceKeyEqualsPinLaw", "kind", "(I)Lcom/example/dosimeter/dosimeter/model/ResourceKind;"⟩ : MethodName) method_2_code 1 (Option.some (Jvm.ClassFile.FieldType.object "com/example/dosimeter/dosimeter/model/ResourceKind")) ({ frames := 0, cells := 0, slots := 0, locals := 0 } : Room) #[(.int i)] Z h0 (fun vR hR LR => vR = some (.ref (KD i t0 t1 t2 t3 t4 t5 t6)) ∧ OPr h0 [] hR LR) := by
  refine OMet.body pn_rm_kind (Ls := #[.val (.int i)]) (fun m => by first | (simp [entryFrame, mkF, argsToLocals, Value.category]; done) | rfl) ?_
  intro p e s m below meth c T0 K hK X0 hx hby hml hown hnm hret hlk hZ eh0
  have P0 := OPr.refl h0 []
  refine g_iloadN X0 hx (hb hby d4_0) (rfl : 0 + 1 = 1) rfl ?_
  by_cases q0 : i = (0 : Int32)
  · refine g_ifN X0 hx (hb hby d4_1) (XT.i0_ne_f q0) (rfl : 1 + 3 = 4) ?_
    refine g_gets X0 hx hZ hown (host := "") (Or.inl (wd hw 33 rfl)) Via.refl eh0 I0 (hb hby d4_4) (rfl : 4 + 3 = 7) fun T1 X1 eh1 => ?_
    exact g_ret X1 hx hret hlk rfl (Or.inr (Or.inr (Or.inr (Or.inr ⟨rfl, rfl, rfl⟩)))) (hb hby d4_7) (by decide) (by decide) eh1 hK ⟨(by rw [q0]; rfl), P0⟩
  · refine g_ifY X0 hx (hb hby d4_1) (XT.i0_ne_t q0) (by decide) (pc' := 8) (by decide) ?_
    refine g_iloadN X0 hx (hb hby d4_8) (rfl : 8 + 1 = 9) rfl ?_
    refine g_iconst X0 hx (1 : Int32) (hb hby d4_9) (rfl : 9 + 1 = 10) (by decide) ?_
    by_cases q1 : i = (1 : Int32)
    · refine g_icmpN X0 hx (hb hby d4_10) (XT.ii_ne_f q1) (rfl : 10 + 3 = 13) ?_
      refine g_gets X0 hx hZ hown (host := "") (Or.inl (wd hw 83 rfl)) Via.refl eh0 I1 (hb hby d4_13) (rfl : 13 + 3 = 16) fun T2 X2 eh2 => ?_
      exact g_ret X2 hx hret hlk rfl (Or.inr (Or.inr (Or.inr (Or.inr ⟨rfl, rfl, rfl⟩)))) (hb hby d4_16) (by decide) (by decide) eh2 hK ⟨(by rw [q1]; rfl), P0⟩
    · refine g_icmpY X0 hx (hb hby d4_10) (XT.ii_ne_t q1) (by decide) (pc' := 17) (by decide) ?_
      refine g_iloadN X0 hx (hb hby d4_17) (rfl : 17 + 1 = 18) rfl ?_
      refine g_iconst X0 hx (2 : Int32) (hb hby d4_18) (rfl : 18 + 1 = 19) (by decide) ?_
      by_cases q2 : i = (2 : Int32)
      · refine g_icmpN X0 hx (hb hby d4_19) (XT.ii_ne_f q2) (rfl : 19 + 3 = 22) ?_
        refine g_gets X0 hx hZ hown (host := "") (Or.inl (wd hw 85 rfl)) Via.refl eh0 I2 (hb hby d4_22) (rfl : 22 + 3 = 25) fun T3 X3 eh3 => ?_
        exact g_ret X3 hx hret hlk rfl (Or.inr (Or.inr (Or.inr (Or.inr ⟨rfl, rfl, rfl⟩)))) (hb hby d4_25) (by decide) (by decide) eh3 hK ⟨(by rw [q2]; rfl), P0⟩
      · refine g_icmpY X0 hx (hb hby d4_19) (XT.ii_ne_t q2) (by decide) (pc' := 26) (by decide) ?_
        refine g_iloadN X0 hx (hb hby d4_26) (rfl : 26 + 1 = 27) rfl ?_
        refine g_iconst X0 hx (3 : Int32) (hb hby d4_27) (rfl : 27 + 1 = 28) (by decide) ?_
        by_cases q3 : i = (3 : Int32)
        · refine g_icmpN X0 hx (hb hby d4_28) (XT.ii_ne_f q3) (rfl : 28 + 3 = 31) ?_
          refine g_gets X0 hx hZ hown (host := "") (Or.inl (wd hw 49 rfl)) Via.refl eh0 I3 (hb hby d4_31) (rfl : 31 + 3 = 34) fun T4 X4 eh4 => ?_
          exact g_ret X4 hx hret hlk rfl (Or.inr (Or.inr (Or.inr (Or.inr ⟨rfl, rfl, rfl⟩)))) (hb hby d4_34) (by decide) (by decide) eh4 hK ⟨(by rw [q3]; rfl), P0⟩
        · refine g_icmpY X0 hx (hb hby d4_28) (XT.ii_ne_t q3) (by decide) (pc' := 35) (by decide) ?_
          refine g_iloadN X0 hx (hb hby d4_35) (rfl : 35 + 1 = 36) rfl ?_
          refine g_iconst X0 hx (4 : Int32) (hb hby d4_36) (rfl : 36 + 1 = 37) (by decide) ?_
          by_cases q4 : i = (4 : Int32)
          · refine g_icmpN X0 hx (hb hby d4_37) (XT.ii_ne_f q4) (rfl : 37 + 3 = 40) ?_
            refine g_gets X0 hx hZ hown (host := "") (Or.inl (wd hw 89 rfl)) Via.refl eh0 I4 (hb hby d4_40) (rfl : 40 + 3 = 43) fun T5 X5 eh5 => ?_
            exact g_ret X5 hx hret hlk rfl (Or.inr (Or.inr (Or.inr (Or.inr ⟨rfl, rfl, rfl⟩)))) (hb hby d4_43) (by decide) (by decide) eh5 hK ⟨(by rw [q4]; rfl), P0⟩
          · refine g_icmpY X0 hx (hb hby d4_37) (XT.ii_ne_t q4) (by decide) (pc' := 44) (by decide) ?_
            refine g_iloadN X0 hx (hb hby d4_44) (rfl : 44 + 1 = 45) rfl ?_
            refine g_iconst X0 hx (5 : Int32) (hb hby d4_45) (rfl : 45 + 1 = 46) (by decide) ?_
            by_cases q5 : i = (5 : Int32)
            · refine g_icmpN X0 hx (hb hby d4_46) (XT.ii_ne_f q5) (rfl : 46 + 3 = 49) ?_
              refine g_gets X0 hx hZ hown (host := "") (Or.inl (wd hw 71 rfl)) Via.refl eh0 I5 (hb hby d4_49) (rfl : 49 + 3 = 52) fun T6 X6 eh6 => ?_
              exact g_ret X6 hx hret hlk rfl (Or.inr (Or.inr (Or.inr (Or.inr ⟨rfl, rfl, rfl⟩)))) (hb hby d4_52) (by decide) (by decide) eh6 hK ⟨(by rw [q5]; rfl), P0⟩
            · refine g_icmpY X0 hx (hb hby d4_46) (XT.ii_ne_t q5) (by decide) (pc' := 53) (by decide) ?_
              refine g_gets X0 hx hZ hown (host := "") (Or.inl (wd hw 87 rfl)) Via.refl eh0 I6 (hb hby d4_53) (rfl : 53 + 3 = 56) fun T7 X7 eh7 => ?_
              exact g_ret X7 hx hret hlk rfl (Or.inr (Or.inr (Or.inr (Or.inr ⟨rfl, rfl, rfl⟩)))) (hb hby d4_56) (by decide) (by decide) eh7 hK ⟨(by have q6 : i = 6 := hi.elim (fun q => absurd q q0) (fun r => r.elim (fun q => absurd q q1) (fun r => r.elim (fun q => absurd q q2) (fun r => r.elim (fun q => absurd q q3) (fun r => r.elim (fun q => absurd q q4) (fun r => r.elim (fun q => absurd q q5) id))))); rw [q6]; rfl), P0⟩
theorem d6_0 : decode jdk_30_method_1_code 0 = .ok (.aload_n 0, 1) := by decide +kernel
theorem d6_1 : decode jdk_30_method_1_code 1 = .ok (.invokespecial 1, 3) := by decide +kernel
theorem d6_4 : decode jdk_30_method_1_code 4 = .ok (.return_, 1) := by decide +kernel
theorem pn_rm_rec : plainFor (⟨"java/lang/Record", "<init>", "()V"⟩ : MethodName) = true := by first | exact plainFor_of_name (by first | (simp [plainName, overriddenIn]; done) | decide +kernel) | decide +kernel
set_option maxRecDepth 65536 in
set_option maxHeartbeats 40000000 in
theorem rm_rec {l : Launch} {Z : State} {a0 : Array Value} (hw : ∀ d ∈ tables_1, d.before a0 Z = true) (a : Addr) {h0 : Heap}   :
    OMet l (⟨"java/lang/Record", "<init>", "()V"⟩ : MethodName) jdk_30_method_1_code 1 (Option.none : Option Jvm.ClassFile.FieldType) ({ frames := 1, cells := 0, slots := 0, locals := 12 } : Room) #[(.ref a)] Z h0 (fun vR hR LR => vR = none ∧ OPr h0 [] hR LR) := by
  refine OMet.body pn_rm_rec (Ls := #[.val (.ref a)]) (fun m => by first | (simp [entryFrame, mkF, argsToLocals, Value.category]; done) | rfl) ?_
  intro p e s m below meth c T0 K hK X0 hx hby hml hown hnm hret hlk hZ eh0
  have P0 := OPr.refl h0 []
  refine g_aloadN X0 hx (hb hby d6_0) (rfl : 0 + 1 = 1) rfl rfl ?_
  refine g_inito X0 hx hZ hown (wd hw 44 rfl) (wd hw 17 rfl) (wd hw 18 rfl) eh0 (by rw [hml]; rfl) (hb hby d6_1) (rfl : 1 + 3 = 4) (by decide) (W := 0) (Nat.le_of_eq rfl) (by decide) fun T1 X1 eh1 => ?_
  exact g_ret0 X1 hx hret hlk (hb hby d6_4) (by decide) (by decide) eh1 hK ⟨rfl, P0⟩
theorem d5_0 : decode prog_24_method_1_code 0 = .ok (.aload_n 0, 1) := by decide +kernel
theorem d5_1 : decode prog_24_method_1_code 1 = .ok (.invokespecial 1, 3) := by decide +kernel
theorem d5_4 : decode prog_24_method_1_code 4 = .ok (.aload_n 0, 1) := by decide +kernel
theorem d5_5 : decode prog_24_method_1_code 5 = .ok (.aload_n 1, 1) := by decide +kernel
theorem d5_6 : decode prog_24_method_1_code 6 = .ok (.putfield 7, 3) := by decide +kernel
theorem d5_9 : decode prog_24_method_1_code 9 = .ok (.aload_n 0, 1) := by decide +kernel
theorem d5_10 : decode prog_24_method_1_code 10 = .ok (.aload_n 2, 1) := by decide +kernel
theorem d5_11 : decode prog_24_method_1_code 11 = .ok (.putfield 13, 3) := by decide +kernel
theorem d5_14 : decode prog_24_method_1_code 14 = .ok (.return_, 1) := by decide +kernel
theorem pn_rm_rki : plainFor (⟨"com/example/dosimeter/dosimeter/model/ResourceKey", "<init>", "(Lcom/example/dosimeter/dosimeter/model/ResourceKind;Ljava/lang/String;)V"⟩ : MethodName) = true := by first | exact plainFor_of_name (by first | (simp [plainName, overriddenIn]; done) | decide +kernel) | decide +kernel
set_option maxRecDepth 65536 in
set_option maxHeartbeats 40000000 in
theorem rm_rki {l : Launch} {Z : State} {a0 : Array Value} (hw : ∀ d ∈ tables_1, d.before a0 Z = true) (a : Addr) (k : Addr) (i : Addr) {h0 : Heap} (I0 : Exa Z h0 a "com/example/dosimeter/dosimeter/model/ResourceKey") (I1 : Fld Z h0 a "com/example/dosimeter/dosimeter/model/ResourceKey" "kind" "Lcom/example/dosimeter/dosimeter/model/ResourceKind;" .null) (I2 : Fld Z h0 a "com/example/dosimeter/dosimeter/model/ResourceKey" "id" "Ljava/lang/String;" .null)  :
    OMet l (⟨"com/example/dosimeter/dosimeter/model/ResourceKey", "<init>", "(Lcom/example/dosimeter/dosimeter/model/ResourceKind;Ljava/lang/String;)V"⟩ : MethodName) prog_24_method_1_code 3 (Option.none : Option Jvm.ClassFile.FieldType) ({ frames := 2, cells := 0, slots := 0, locals := 24 } : Room) #[(.ref a), (.ref k), (.ref i)] Z h0 (fun vR hR LR => vR = none ∧ OPr h0 [a] hR LR ∧ Exa Z hR a "com/example/dosimeter/dosimeter/model/ResourceKey" ∧ Fld Z hR a "com/example/dosimeter/dosimeter/model/ResourceKey" "kind" "Lcom/example/dosimeter/dosimeter/model/ResourceKind;" (.ref k) ∧ Fld Z hR a "com/example/dosimeter/dosimeter/model/ResourceKey" "id" "Ljava/lang/String;" (.ref i)) := by
  refine OMet.body pn_rm_rki (Ls := #[.val (.ref a), .val (.ref k), .val (.ref i)]) (fun m => by first | (simp [entryFrame, mkF, argsToLocals, Value.category]; done) | rfl) ?_
  intro p e s m below meth c T0 K hK X0 hx hby hml hown hnm hret hlk hZ eh0
  have P0 := OPr.refl h0 [a]
  refine g_aloadN X0 hx (hb hby d5_0) (rfl : 0 + 1 = 1) rfl rfl ?_
  refine g_special X0 hx hZ hown eh0 (rm_rec hw a) rfl (wd hw 39 rfl) (wd hw 40 rfl) (wd hw 43 rfl) (wd hw 42 rfl) (by decide) (a := a) (argsL := []) (rest := []) rfl rfl (ps := []) (by decide) rfl (W := 0) (Nat.le_of_eq rfl) (by decide) (by decide) (by decide) (by decide) (by rw [hml]; rfl) (hb hby d5_1) (rfl : 1 + 3 = 4) fun v1 T1 hh1 L1 X1 eh1 Q1 => ?_
  obtain ⟨rfl, Pc1⟩ := Q1
  have P1 := P0.call Pc1 all0
  show OGo p e below K T1 (mkF m 4 #[.val (.ref a), .val (.ref k), .val (.ref i)] [])
  refine g_aloadN X1 hx (hb hby d5_4) (rfl : 4 + 1 = 5) rfl rfl ?_
  refine g_aloadN X1 hx (hb hby d5_5) (rfl : 5 + 1 = 6) rfl rfl ?_
  have F2 := (fldP I1 Pc1 nin0)
  have F3 := (exaP I0 Pc1)
  refine g_putf X1 hx hZ hown (host := "") (Or.inl (wd hw 45 rfl)) Via.refl eh1 F2 F3 (Or.inr ⟨(wd hw 46 rfl), rfl, hnm⟩) (wd hw 28 rfl) (ty := (.object "com/example/dosimeter/dosimeter/model/ResourceKind")) (by decide) rfl rfl P1 (Or.inl (List.mem_of_getElem? (i := 0) rfl)) (hb hby d5_6) (rfl : 6 + 3 = 9) fun T4 hh4 X4 eh4 W4 P4 F4 => ?_
  refine g_aloadN X4 hx (hb hby d5_9) (rfl : 9 + 1 = 10) rfl rfl ?_
  refine g_aloadN X4 hx (hb hby d5_10) (rfl : 10 + 1 = 11) rfl rfl ?_
  have F5 := ((fldP I2 Pc1 nin0).other W4 (Or.inr (slot_ne (Or.inr (wd hw 48 rfl)) (Or.inr (wd hw 46 rfl)) (by decide) (t := (.object "java/lang/String")) (by decide) (t' := (.object "com/example/dosimeter/dosimeter/model/ResourceKind")) (by decide))))
  have F6 := (F3.wr W4)
  refine g_putf X4 hx hZ hown (host := "") (Or.inl (wd hw 47 rfl)) Via.refl eh4 F5 F6 (Or.inr ⟨(wd hw 48 rfl), rfl, hnm⟩) (wd hw 28 rfl) (ty := (.object "java/lang/String")) (by decide) rfl rfl P4 (Or.inl (List.mem_of_getElem? (i := 0) rfl)) (hb hby d5_11) (rfl : 11 + 3 = 14) fun T7 hh7 X7 eh7 W7 P7 F7 => ?_
  have F8 := (F6.wr W7)
  have F9 := (F4.other W7 (Or.inr (slot_ne (Or.inr (wd hw 46 rfl)) (Or.inr (wd hw 48 rfl)) (by decide) (t := (.object "com/example/dosimeter/dosimeter/model/ResourceKind")) (by decide) (t' := (.object "java/lang/String")) (by decide))))
  exact g_ret0 X7 hx hret hlk (hb hby d5_14) (by decide) (by decide) eh7 hK ⟨rfl, P7, F8, F9, F7⟩
theorem d9_0 : decode jdk_43_method_13_code 0 = .ok (.aload_n 0, 1) := by decide +kernel
theorem d9_1 : decode jdk_43_method_13_code 1 = .ok (.arraylength, 1) := by decide +kernel
theorem d9_2 : decode jdk_43_method_13_code 2 = .ok (.aload_n 1, 1) := by decide +kernel
theorem d9_3 : decode jdk_43_method_13_code 3 = .ok (.arraylength, 1) := by decide +kernel
theorem d9_4 : decode jdk_43_method_13_code 4 = .ok (.if_icmp .ne 30, 3) := by decide +kernel
theorem d9_7 : decode jdk_43_method_13_code 7 = .ok (.iconst 0, 1) := by decide +kernel
theorem d9_8 : decode jdk_43_method_13_code 8 = .ok (.istore_n 2, 1) := by decide +kernel
theorem d9_9 : decode jdk_43_method_13_code 9 = .ok (.iload_n 2, 1) := by decide +kernel
theorem d9_10 : decode jdk_43_method_13_code 10 = .ok (.aload_n 0, 1) := by decide +kernel
theorem d9_11 : decode jdk_43_method_13_code 11 = .ok (.arraylength, 1) := by decide +kernel
theorem d9_12 : decode jdk_43_method_13_code 12 = .ok (.if_icmp .ge 20, 3) := by decide +kernel
theorem d9_15 : decode jdk_43_method_13_code 15 = .ok (.aload_n 0, 1) := by decide +kernel
theorem d9_16 : decode jdk_43_method_13_code 16 = .ok (.iload_n 2, 1) := by decide +kernel
theorem d9_17 : decode jdk_43_method_13_code 17 = .ok (.baload, 1) := by decide +kernel
theorem d9_18 : decode jdk_43_method_13_code 18 = .ok (.aload_n 1, 1) := by decide +kernel
theorem d9_19 : decode jdk_43_method_13_code 19 = .ok (.iload_n 2, 1) := by decide +kernel
theorem d9_20 : decode jdk_43_method_13_code 20 = .ok (.baload, 1) := by decide +kernel
theorem d9_21 : decode jdk_43_method_13_code 21 = .ok (.if_icmp .eq 5, 3) := by decide +kernel
theorem d9_24 : decode jdk_43_method_13_code 24 = .ok (.iconst 0, 1) := by decide +kernel
theorem d9_25 : decode jdk_43_method_13_code 25 = .ok (.ireturn, 1) := by decide +kernel
theorem d9_26 : decode jdk_43_method_13_code 26 = .ok (.iinc 2 1, 3) := by decide +kernel
theorem d9_29 : decode jdk_43_method_13_code 29 = .ok (.goto (-20), 3) := by decide +kernel
theorem d9_32 : decode jdk_43_method_13_code 32 = .ok (.iconst 1, 1) := by decide +kernel
theorem d9_33 : decode jdk_43_method_13_code 33 = .ok (.ireturn, 1) := by decide +kernel
theorem d9_34 : decode jdk_43_method_13_code 34 = .ok (.iconst 0, 1) := by decide +kernel
theorem d9_35 : decode jdk_43_method_13_code 35 = .ok (.ireturn, 1) := by decide +kernel
theorem pn_rm_leq : plainFor (⟨"java/lang/StringLatin1", "equals", "([B[B)Z"⟩ : MethodName) = true := by first | exact plainFor_of_name (by first | (simp [plainName, overriddenIn]; done) | decide +kernel) | decide +kernel
set_option maxRecDepth 65536 in
set_option maxHeartbeats 40000000 in
theorem rm_leq {l : Launch} {Z : State} {a0 : Array Value} (hw : ∀ d ∈ tables_1, d.before a0 Z = true) (a : Addr) (ka : ClassId) (b : Addr) (kb : ClassId) (ln : Int32) (c0 : Int32) (c1 : Int32) (c2 : Int32) (lm : Int32) (d0 : Int32) (d1 : Int32) (d2 : Int32) {h0 : Heap} (I0 : OAry Z h0 a ka .byte (BL ln c0 c1 c2)) (I1 : OAry Z h0 b kb .byte (BL lm d0 d1 d2)) (hl : ln = 0 ∨ ln = 1 ∨ ln = 2 ∨ ln = 3) (hm : lm = 0 ∨ lm = 1 ∨ lm = 2 ∨ lm = 3) :
    OMet l (⟨"java/lang/StringLatin1", "equals", "([B[B)Z"⟩ : MethodName) jdk_43_method_13_code 3 (Option.some Jvm.ClassFile.FieldType.boolean) ({ frames := 0, cells := 0, slots := 0, locals := 0 } : Room) #[(.ref a), (.ref b)] Z h0 (fun vR hR LR => vR = some (.int (if (BL ln c0 c1 c2) = (BL lm d0 d1 d2) then 1 else 0 : Int32)) ∧ OPr h0 [] hR LR) := by
  refine OMet.body pn_rm_leq (Ls := #[.val (.ref a), .val (.ref b), .unset]) (fun m => by first | (simp [entryFrame, mkF, argsToLocals, Value.category]; done) | rfl) ?_
  intro p e s m below meth c T0 K hK X0 hx hby hml hown hnm hret hlk hZ eh0
  have P0 := OPr.refl h0 []
  rcases hl with rfl | rfl | rfl | rfl
  · rcases hm with rfl | rfl | rfl | rfl
    · have F1 := I0
      rw [BL0] at F1
      have F2 := I1
      rw [BL0] at F2
      refine g_aloadN X0 hx (hb hby d9_0) (rfl : 0 + 1 = 1) rfl rfl ?_
      refine g_len X0 hx hZ eh0 F1 (z := (0 : Int32)) rfl (hb hby d9_1) (rfl : 1 + 1 = 2) ?_
      refine g_aloadN X0 hx (hb hby d9_2) (rfl : 2 + 1 = 3) rfl rfl ?_
      refine g_len X0 hx hZ eh0 F2 (z := (0 : Int32)) rfl (hb hby d9_3) (rfl : 3 + 1 = 4) ?_
      refine g_icmpN X0 hx (hb hby d9_4) (XT.ii_ne_f (by decide)) (rfl : 4 + 3 = 7) ?_
      refine g_iconst X0 hx (0 : Int32) (hb hby d9_7) (rfl : 7 + 1 = 8) (by decide) ?_
      refine g_istoreN X0 hx (hb hby d9_8) (rfl : 8 + 1 = 9) (Ls' := #[.val (.ref a), .val (.ref b), .val (.int (0 : Int32))]) rfl ?_
      refine g_iloadN X0 hx (hb hby d9_9) (rfl : 9 + 1 = 10) rfl ?_
      refine g_aloadN X0 hx (hb hby d9_10) (rfl : 10 + 1 = 11) rfl rfl ?_
      refine g_len X0 hx hZ eh0 F1 (z := (0 : Int32)) rfl (hb hby d9_11) (rfl : 11 + 1 = 12) ?_
      refine g_icmpY X0 hx (hb hby d9_12) (XT.ii_ge_t (by decide)) (by decide) (pc' := 32) (by decide) ?_
      refine g_iconst X0 hx (1 : Int32) (hb hby d9_32) (rfl : 32 + 1 = 33) (by decide) ?_
      exact g_ret X0 hx hret hlk rfl (Or.inl ⟨rfl, Or.inr (Or.inl rfl), _, rfl⟩) (hb hby d9_33) (by decide) (by decide) eh0 hK ⟨(by rw [BL0, BL0]; simp), P0⟩
    · have F3 := I0
      rw [BL0] at F3
      have F4 := I1
      rw [BL1] at F4
      refine g_aloadN X0 hx (hb hby d9_0) (rfl : 0 + 1 = 1) rfl rfl ?_
      refine g_len X0 hx hZ eh0 F3 (z := (0 : Int32)) rfl (hb hby d9_1) (rfl : 1 + 1 = 2) ?_
      refine g_aloadN X0 hx (hb hby d9_2) (rfl : 2 + 1 = 3) rfl rfl ?_
      refine g_len X0 hx hZ eh0 F4 (z := (1 : Int32)) rfl (hb hby d9_3) (rfl : 3 + 1 = 4) ?_
      refine g_icmpY X0 hx (hb hby d9_4) (XT.ii_ne_t (by decide)) (by decide) (pc' := 34) (by decide) ?_
      refine g_iconst X0 hx (0 : Int32) (hb hby d9_34) (rfl : 34 + 1 = 35) (by decide) ?_
      exact g_ret X0 hx hret hlk rfl (Or.inl ⟨rfl, Or.inr (Or.inl rfl), _, rfl⟩) (hb hby d9_35) (by decide) (by decide) eh0 hK ⟨(by rw [BL0, BL1]; simp), P0⟩
    · have F5 := I0
      rw [BL0] at F5
      have F6 := I1
      rw [BL2] at F6
      refine g_aloadN X0 hx (hb hby d9_0) (rfl : 0 + 1 = 1) rfl rfl ?_
      refine g_len X0 hx hZ eh0 F5 (z := (0 : Int32)) rfl (hb hby d9_1) (rfl : 1 + 1 = 2) ?_
      refine g_aloadN X0 hx (hb hby d9_2) (rfl : 2 + 1 = 3) rfl rfl ?_
      refine g_len X0 hx hZ eh0 F6 (z := (2 : Int32)) rfl (hb hby d9_3) (rfl : 3 + 1 = 4) ?_
      refine g_icmpY X0 hx (hb hby d9_4) (XT.ii_ne_t (by decide)) (by decide) (pc' := 34) (by decide) ?_
      refine g_iconst X0 hx (0 : Int32) (hb hby d9_34) (rfl : 34 + 1 = 35) (by decide) ?_
      exact g_ret X0 hx hret hlk rfl (Or.inl ⟨rfl, Or.inr (Or.inl rfl), _, rfl⟩) (hb hby d9_35) (by decide) (by decide) eh0 hK ⟨(by rw [BL0, BL2]; simp), P0⟩
    · have F7 := I0
      rw [BL0] at F7
      have F8 := I1
      rw [BL3] at F8
      refine g_aloadN X0 hx (hb hby d9_0) (rfl : 0 + 1 = 1) rfl rfl ?_
      refine g_len X0 hx hZ eh0 F7 (z := (0 : Int32)) rfl (hb hby d9_1) (rfl : 1 + 1 = 2) ?_
      refine g_aloadN X0 hx (hb hby d9_2) (rfl : 2 + 1 = 3) rfl rfl ?_
      refine g_len X0 hx hZ eh0 F8 (z := (3 : Int32)) rfl (hb hby d9_3) (rfl : 3 + 1 = 4) ?_
      refine g_icmpY X0 hx (hb hby d9_4) (XT.ii_ne_t (by decide)) (by decide) (pc' := 34) (by decide) ?_
      refine g_iconst X0 hx (0 : Int32) (hb hby d9_34) (rfl : 34 + 1 = 35) (by decide) ?_
      exact g_ret X0 hx hret hlk rfl (Or.inl ⟨rfl, Or.inr (Or.inl rfl), _, rfl⟩) (hb hby d9_35) (by decide) (by decide) eh0 hK ⟨(by rw [BL0, BL3]; simp), P0⟩
  · rcases hm with rfl | rfl | rfl | rfl
    · have F9 := I0
      rw [BL1] at F9
      have F10 := I1
      rw [BL0] at F10
      refine g_aloadN X0 hx (hb hby d9_0) (rfl : 0 + 1 = 1) rfl rfl ?_
      refine g_len X0 hx hZ eh0 F9 (z := (1 : Int32)) rfl (hb hby d9_1) (rfl : 1 + 1 = 2) ?_
      refine g_aloadN X0 hx (hb hby d9_2) (rfl : 2 + 1 = 3) rfl rfl ?_
      refine g_len X0 hx hZ eh0 F10 (z := (0 : Int32)) rfl (hb hby d9_3) (rfl : 3 + 1 = 4) ?_
      refine g_icmpY X0 hx (hb hby d9_4) (XT.ii_ne_t (by decide)) (by decide) (pc' := 34) (by decide) ?_
      refine g_iconst X0 hx (0 : Int32) (hb hby d9_34) (rfl : 34 + 1 = 35) (by decide) ?_
      exact g_ret X0 hx hret hlk rfl (Or.inl ⟨rfl, Or.inr (Or.inl rfl), _, rfl⟩) (hb hby d9_35) (by decide) (by decide) eh0 hK ⟨(by rw [BL1, BL0]; simp), P0⟩
    · have F11 := I0
      rw [BL1] at F11
      have F12 := I1
      rw [BL1] at F12
      refine g_aloadN X0 hx (hb hby d9_0) (rfl : 0 + 1 = 1) rfl rfl ?_
      refine g_len X0 hx hZ eh0 F11 (z := (1 : Int32)) rfl (hb hby d9_1) (rfl : 1 + 1 = 2) ?_
      refine g_aloadN X0 hx (hb hby d9_2) (rfl : 2 + 1 = 3) rfl rfl ?_
      refine g_len X0 hx hZ eh0 F12 (z := (1 : Int32)) rfl (hb hby d9_3) (rfl : 3 + 1 = 4) ?_
      refine g_icmpN X0 hx (hb hby d9_4) (XT.ii_ne_f (by decide)) (rfl : 4 + 3 = 7) ?_
      refine g_iconst X0 hx (0 : Int32) (hb hby d9_7) (rfl : 7 + 1 = 8) (by decide) ?_
      refine g_istoreN X0 hx (hb hby d9_8) (rfl : 8 + 1 = 9) (Ls' := #[.val (.ref a), .val (.ref b), .val (.int (0 : Int32))]) rfl ?_
      refine g_iloadN X0 hx (hb hby d9_9) (rfl : 9 + 1 = 10) rfl ?_
      refine g_aloadN X0 hx (hb hby d9_10) (rfl : 10 + 1 = 11) rfl rfl ?_
      refine g_len X0 hx hZ eh0 F11 (z := (1 : Int32)) rfl (hb hby d9_11) (rfl : 11 + 1 = 12) ?_
      refine g_icmpN X0 hx (hb hby d9_12) (XT.ii_ge_f (by decide)) (rfl : 12 + 3 = 15) ?_
      refine g_aloadN X0 hx (hb hby d9_15) (rfl : 15 + 1 = 16) rfl rfl ?_
      refine g_iloadN X0 hx (hb hby d9_16) (rfl : 16 + 1 = 17) rfl ?_
      refine g_baload X0 hx hZ eh0 F11 (v := (.int (c0).toInt8.toInt32)) (by decide) (by rfl) (hb hby d9_17) (rfl : 17 + 1 = 18) ?_
      refine g_aloadN X0 hx (hb hby d9_18) (rfl : 18 + 1 = 19) rfl rfl ?_
      refine g_iloadN X0 hx (hb hby d9_19) (rfl : 19 + 1 = 20) rfl ?_
      refine g_baload X0 hx hZ eh0 F12 (v := (.int (d0).toInt8.toInt32)) (by decide) (by rfl) (hb hby d9_20) (rfl : 20 + 1 = 21) ?_
      by_cases e0 : (c0).toInt8.toInt32 = (d0).toInt8.toInt32
      · refine g_icmpY X0 hx (hb hby d9_21) (XT.ii_eq_t e0) (by decide) (pc' := 26) (by decide) ?_
        refine g_iinc X0 hx (1 : Int32) (hb hby d9_26) (rfl : 26 + 3 = 29) (by decide) rfl (z := (1 : Int32)) (by decide) (Ls' := #[.val (.ref a), .val (.ref b), .val (.int (1 : Int32))]) rfl ?_
        refine g_goto X0 hx (hb hby d9_29) (by decide) (pc' := 9) (by decide) ?_
        refine g_iloadN X0 hx (hb hby d9_9) (rfl : 9 + 1 = 10) rfl ?_
        refine g_aloadN X0 hx (hb hby d9_10) (rfl : 10 + 1 = 11) rfl rfl ?_
        refine g_len X0 hx hZ eh0 F11 (z := (1 : Int32)) rfl (hb hby d9_11) (rfl : 11 + 1 = 12) ?_
        refine g_icmpY X0 hx (hb hby d9_12) (XT.ii_ge_t (by decide)) (by decide) (pc' := 32) (by decide) ?_
        refine g_iconst X0 hx (1 : Int32) (hb hby d9_32) (rfl : 32 + 1 = 33) (by decide) ?_
        exact g_ret X0 hx hret hlk rfl (Or.inl ⟨rfl, Or.inr (Or.inl rfl), _, rfl⟩) (hb hby d9_33) (by decide) (by decide) eh0 hK ⟨(by rw [BL1, BL1]; simp [e0]), P0⟩
      · refine g_icmpN X0 hx (hb hby d9_21) (XT.ii_eq_f e0) (rfl : 21 + 3 = 24) ?_
        refine g_iconst X0 hx (0 : Int32) (hb hby d9_24) (rfl : 24 + 1 = 25) (by decide) ?_
        exact g_ret X0 hx hret hlk rfl (Or.inl ⟨rfl, Or.inr (Or.inl rfl), _, rfl⟩) (hb hby d9_25) (by decide) (by decide) eh0 hK ⟨(by rw [BL1, BL1]; simp [e0]), P0⟩
    · have F13 := I0
      rw [BL1] at F13
      have F14 := I1
      rw [BL2] at F14
      refine g_aloadN X0 hx (hb hby d9_0) (rfl : 0 + 1 = 1) rfl rfl ?_
      refine g_len X0 hx hZ eh0 F13 (z := (1 : Int32)) rfl (hb hby d9_1) (rfl : 1 + 1 = 2) ?_
      refine g_aloadN X0 hx (hb hby d9_2) (rfl : 2 + 1 = 3) rfl rfl ?_
      refine g_len X0 hx hZ eh0 F14 (z := (2 : Int32)) rfl (hb hby d9_3) (rfl : 3 + 1 = 4) ?_
      refine g_icmpY X0 hx (hb hby d9_4) (XT.ii_ne_t (by decide)) (by decide) (pc' := 34) (by decide) ?_
      refine g_iconst X0 hx (0 : Int32) (hb hby d9_34) (rfl : 34 + 1 = 35) (by decide) ?_
      exact g_ret X0 hx hret hlk rfl (Or.inl ⟨rfl, Or.inr (Or.inl rfl), _, rfl⟩) (hb hby d9_35) (by decide) (by decide) eh0 hK ⟨(by rw [BL1, BL2]; simp), P0⟩
    · have F15 := I0
      rw [BL1] at F15
      have F16 := I1
      rw [BL3] at F16
      refine g_aloadN X0 hx (hb hby d9_0) (rfl : 0 + 1 = 1) rfl rfl ?_
      refine g_len X0 hx hZ eh0 F15 (z := (1 : Int32)) rfl (hb hby d9_1) (rfl : 1 + 1 = 2) ?_
      refine g_aloadN X0 hx (hb hby d9_2) (rfl : 2 + 1 = 3) rfl rfl ?_
      refine g_len X0 hx hZ eh0 F16 (z := (3 : Int32)) rfl (hb hby d9_3) (rfl : 3 + 1 = 4) ?_
      refine g_icmpY X0 hx (hb hby d9_4) (XT.ii_ne_t (by decide)) (by decide) (pc' := 34) (by decide) ?_
      refine g_iconst X0 hx (0 : Int32) (hb hby d9_34) (rfl : 34 + 1 = 35) (by decide) ?_
      exact g_ret X0 hx hret hlk rfl (Or.inl ⟨rfl, Or.inr (Or.inl rfl), _, rfl⟩) (hb hby d9_35) (by decide) (by decide) eh0 hK ⟨(by rw [BL1, BL3]; simp), P0⟩
  · rcases hm with rfl | rfl | rfl | rfl
    · have F17 := I0
      rw [BL2] at F17
      have F18 := I1
      rw [BL0] at F18
      refine g_aloadN X0 hx (hb hby d9_0) (rfl : 0 + 1 = 1) rfl rfl ?_
      refine g_len X0 hx hZ eh0 F17 (z := (2 : Int32)) rfl (hb hby d9_1) (rfl : 1 + 1 = 2) ?_
      refine g_aloadN X0 hx (hb hby d9_2) (rfl : 2 + 1 = 3) rfl rfl ?_
      refine g_len X0 hx hZ eh0 F18 (z := (0 : Int32)) rfl (hb hby d9_3) (rfl : 3 + 1 = 4) ?_
      refine g_icmpY X0 hx (hb hby d9_4) (XT.ii_ne_t (by decide)) (by decide) (pc' := 34) (by decide) ?_
      refine g_iconst X0 hx (0 : Int32) (hb hby d9_34) (rfl : 34 + 1 = 35) (by decide) ?_
      exact g_ret X0 hx hret hlk rfl (Or.inl ⟨rfl, Or.inr (Or.inl rfl), _, rfl⟩) (hb hby d9_35) (by decide) (by decide) eh0 hK ⟨(by rw [BL2, BL0]; simp), P0⟩
    · have F19 := I0
      rw [BL2] at F19
      have F20 := I1
      rw [BL1] at F20
      refine g_aloadN X0 hx (hb hby d9_0) (rfl : 0 + 1 = 1) rfl rfl ?_
      refine g_len X0 hx hZ eh0 F19 (z := (2 : Int32)) rfl (hb hby d9_1) (rfl : 1 + 1 = 2) ?_
      refine g_aloadN X0 hx (hb hby d9_2) (rfl : 2 + 1 = 3) rfl rfl ?_
      refine g_len X0 hx hZ eh0 F20 (z := (1 : Int32)) rfl (hb hby d9_3) (rfl : 3 + 1 = 4) ?_
      refine g_icmpY X0 hx (hb hby d9_4) (XT.ii_ne_t (by decide)) (by decide) (pc' := 34) (by decide) ?_
      refine g_iconst X0 hx (0 : Int32) (hb hby d9_34) (rfl : 34 + 1 = 35) (by decide) ?_
      exact g_ret X0 hx hret hlk rfl (Or.inl ⟨rfl, Or.inr (Or.inl rfl), _, rfl⟩) (hb hby d9_35) (by decide) (by decide) eh0 hK ⟨(by rw [BL2, BL1]; simp), P0⟩
    · have F21 := I0
      rw [BL2] at F21
      have F22 := I1
      rw [BL2] at F22
      refine g_aloadN X0 hx (hb hby d9_0) (rfl : 0 + 1 = 1) rfl rfl ?_
      refine g_len X0 hx hZ eh0 F21 (z := (2 : Int32)) rfl (hb hby d9_1) (rfl : 1 + 1 = 2) ?_
      refine g_aloadN X0 hx (hb hby d9_2) (rfl : 2 + 1 = 3) rfl rfl ?_
      refine g_len X0 hx hZ eh0 F22 (z := (2 : Int32)) rfl (hb hby d9_3) (rfl : 3 + 1 = 4) ?_
      refine g_icmpN X0 hx (hb hby d9_4) (XT.ii_ne_f (by decide)) (rfl : 4 + 3 = 7) ?_
      refine g_iconst X0 hx (0 : Int32) (hb hby d9_7) (rfl : 7 + 1 = 8) (by decide) ?_
      refine g_istoreN X0 hx (hb hby d9_8) (rfl : 8 + 1 = 9) (Ls' := #[.val (.ref a), .val (.ref b), .val (.int (0 : Int32))]) rfl ?_
      refine g_iloadN X0 hx (hb hby d9_9) (rfl : 9 + 1 = 10) rfl ?_
      refine g_aloadN X0 hx (hb hby d9_10) (rfl : 10 + 1 = 11) rfl rfl ?_
      refine g_len X0 hx hZ eh0 F21 (z := (2 : Int32)) rfl (hb hby d9_11) (rfl : 11 + 1 = 12) ?_
      refine g_icmpN X0 hx (hb hby d9_12) (XT.ii_ge_f (by decide)) (rfl : 12 + 3 = 15) ?_
      refine g_aloadN X0 hx (hb hby d9_15) (rfl : 15 + 1 = 16) rfl rfl ?_
      refine g_iloadN X0 hx (hb hby d9_16) (rfl : 16 + 1 = 17) rfl ?_
      refine g_baload X0 hx hZ eh0 F21 (v := (.int (c0).toInt8.toInt32)) (by decide) (by rfl) (hb hby d9_17) (rfl : 17 + 1 = 18) ?_
      refine g_aloadN X0 hx (hb hby d9_18) (rfl : 18 + 1 = 19) rfl rfl ?_
      refine g_iloadN X0 hx (hb hby d9_19) (rfl : 19 + 1 = 20) rfl ?_
      refine g_baload X0 hx hZ eh0 F22 (v := (.int (d0).toInt8.toInt32)) (by decide) (by rfl) (hb hby d9_20) (rfl : 20 + 1 = 21) ?_
      by_cases e0 : (c0).toInt8.toInt32 = (d0).toInt8.toInt32
      · refine g_icmpY X0 hx (hb hby d9_21) (XT.ii_eq_t e0) (by decide) (pc' := 26) (by decide) ?_
        refine g_iinc X0 hx (1 : Int32) (hb hby d9_26) (rfl : 26 + 3 = 29) (by decide) rfl (z := (1 : Int32)) (by decide) (Ls' := #[.val (.ref a), .val (.ref b), .val (.int (1 : Int32))]) rfl ?_
        refine g_goto X0 hx (hb hby d9_29) (by decide) (pc' := 9) (by decide) ?_
        refine g_iloadN X0 hx (hb hby d9_9) (rfl : 9 + 1 = 10) rfl ?_
        refine g_aloadN X0 hx (hb hby d9_10) (rfl : 10 + 1 = 11) rfl rfl ?_
        refine g_len X0 hx hZ eh0 F21 (z := (2 : Int32)) rfl (hb hby d9_11) (rfl : 11 + 1 = 12) ?_
        refine g_icmpN X0 hx (hb hby d9_12) (XT.ii_ge_f (by decide)) (rfl : 12 + 3 = 15) ?_
        refine g_aloadN X0 hx (hb hby d9_15) (rfl : 15 + 1 = 16) rfl rfl ?_
        refine g_iloadN X0 hx (hb hby d9_16) (rfl : 16 + 1 = 17) rfl ?_
        refine g_baload X0 hx hZ eh0 F21 (v := (.int (c1).toInt8.toInt32)) (by decide) (by rfl) (hb hby d9_17) (rfl : 17 + 1 = 18) ?_
        refine g_aloadN X0 hx (hb hby d9_18) (rfl : 18 + 1 = 19) rfl rfl ?_
        refine g_iloadN X0 hx (hb hby d9_19) (rfl : 19 + 1 = 20) rfl ?_
        refine g_baload X0 hx hZ eh0 F22 (v := (.int (d1).toInt8.toInt32)) (by decide) (by rfl) (hb hby d9_20) (rfl : 20 + 1 = 21) ?_
        by_cases e1 : (c1).toInt8.toInt32 = (d1).toInt8.toInt32
        · refine g_icmpY X0 hx (hb hby d9_21) (XT.ii_eq_t e1) (by decide) (pc' := 26) (by decide) ?_
          refine g_iinc X0 hx (1 : Int32) (hb hby d9_26) (rfl : 26 + 3 = 29) (by decide) rfl (z := (2 : Int32)) (by decide) (Ls' := #[.val (.ref a), .val (.ref b), .val (.int (2 : Int32))]) rfl ?_
          refine g_goto X0 hx (hb hby d9_29) (by decide) (pc' := 9) (by decide) ?_
          refine g_iloadN X0 hx (hb hby d9_9) (rfl : 9 + 1 = 10) rfl ?_
          refine g_aloadN X0 hx (hb hby d9_10) (rfl : 10 + 1 = 11) rfl rfl ?_
          refine g_len X0 hx hZ eh0 F21 (z := (2 : Int32)) rfl (hb hby d9_11) (rfl : 11 + 1 = 12) ?_
          refine g_icmpY X0 hx (hb hby d9_12) (XT.ii_ge_t (by decide)) (by decide) (pc' := 32) (by decide) ?_
          refine g_iconst X0 hx (1 : Int32) (hb hby d9_32) (rfl : 32 + 1 = 33) (by decide) ?_
          exact g_ret X0 hx hret hlk rfl (Or.inl ⟨rfl, Or.inr (Or.inl rfl), _, rfl⟩) (hb hby d9_33) (by decide) (by decide) eh0 hK ⟨(by rw [BL2, BL2]; simp [e0, e1]), P0⟩
        · refine g_icmpN X0 hx (hb hby d9_21) (XT.ii_eq_f e1) (rfl : 21 + 3 = 24) ?_
          refine g_iconst X0 hx (0 : Int32) (hb hby d9_24) (rfl : 24 + 1 = 25) (by decide) ?_
          exact g_ret X0 hx hret hlk rfl (Or.inl ⟨rfl, Or.inr (Or.inl rfl), _, rfl⟩) (hb hby d9_25) (by decide) (by decide) eh0 hK ⟨(by rw [BL2, BL2]; simp [e0, e1]), P0⟩
      · refine g_icmpN X0 hx (hb hby d9_21) (XT.ii_eq_f e0) (rfl : 21 + 3 = 24) ?_
        refine g_iconst X0 hx (0 : Int32) (hb hby d9_24) (rfl : 24 + 1 = 25) (by decide) ?_
        exact g_ret X0 hx hret hlk rfl (Or.inl ⟨rfl, Or.inr (Or.inl rfl), _, rfl⟩) (hb hby d9_25) (by decide) (by decide) eh0 hK ⟨(by rw [BL2, BL2]; simp [e0]), P0⟩
    · have F23 := I0
      rw [BL2] at F23
      have F24 := I1
      rw [BL3] at F24
      refine g_aloadN X0 hx (hb hby d9_0) (rfl : 0 + 1 = 1) rfl rfl ?_
      refine g_len X0 hx hZ eh0 F23 (z := (2 : Int32)) rfl (hb hby d9_1) (rfl : 1 + 1 = 2) ?_
      refine g_aloadN X0 hx (hb hby d9_2) (rfl : 2 + 1 = 3) rfl rfl ?_
      refine g_len X0 hx hZ eh0 F24 (z := (3 : Int32)) rfl (hb hby d9_3) (rfl : 3 + 1 = 4) ?_
      refine g_icmpY X0 hx (hb hby d9_4) (XT.ii_ne_t (by decide)) (by decide) (pc' := 34) (by decide) ?_
      refine g_iconst X0 hx (0 : Int32) (hb hby d9_34) (rfl : 34 + 1 = 35) (by decide) ?_
      exact g_ret X0 hx hret hlk rfl (Or.inl ⟨rfl, Or.inr (Or.inl rfl), _, rfl⟩) (hb hby d9_35) (by decide) (by decide) eh0 hK ⟨(by rw [BL2, BL3]; simp), P0⟩
  · rcases hm with rfl | rfl | rfl | rfl
    · have F25 := I0
      rw [BL3] at F25
      have F26 := I1
      rw [BL0] at F26
      refine g_aloadN X0 hx (hb hby d9_0) (rfl : 0 + 1 = 1) rfl rfl ?_
      refine g_len X0 hx hZ eh0 F25 (z := (3 : Int32)) rfl (hb hby d9_1) (rfl : 1 + 1 = 2) ?_
      refine g_aloadN X0 hx (hb hby d9_2) (rfl : 2 + 1 = 3) rfl rfl ?_
      refine g_len X0 hx hZ eh0 F26 (z := (0 : Int32)) rfl (hb hby d9_3) (rfl : 3 + 1 = 4) ?_
      refine g_icmpY X0 hx (hb hby d9_4) (XT.ii_ne_t (by decide)) (by decide) (pc' := 34) (by decide) ?_
      refine g_iconst X0 hx (0 : Int32) (hb hby d9_34) (rfl : 34 + 1 = 35) (by decide) ?_
      exact g_ret X0 hx hret hlk rfl (Or.inl ⟨rfl, Or.inr (Or.inl rfl), _, rfl⟩) (hb hby d9_35) (by decide) (by decide) eh0 hK ⟨(by rw [BL3, BL0]; simp), P0⟩
    · have F27 := I0
      rw [BL3] at F27
      have F28 := I1
      rw [BL1] at F28
      refine g_aloadN X0 hx (hb hby d9_0) (rfl : 0 + 1 = 1) rfl rfl ?_
      refine g_len X0 hx hZ eh0 F27 (z := (3 : Int32)) rfl (hb hby d9_1) (rfl : 1 + 1 = 2) ?_
      refine g_aloadN X0 hx (hb hby d9_2) (rfl : 2 + 1 = 3) rfl rfl ?_
      refine g_len X0 hx hZ eh0 F28 (z := (1 : Int32)) rfl (hb hby d9_3) (rfl : 3 + 1 = 4) ?_
      refine g_icmpY X0 hx (hb hby d9_4) (XT.ii_ne_t (by decide)) (by decide) (pc' := 34) (by decide) ?_
      refine g_iconst X0 hx (0 : Int32) (hb hby d9_34) (rfl : 34 + 1 = 35) (by decide) ?_
      exact g_ret X0 hx hret hlk rfl (Or.inl ⟨rfl, Or.inr (Or.inl rfl), _, rfl⟩) (hb hby d9_35) (by decide) (by decide) eh0 hK ⟨(by rw [BL3, BL1]; simp), P0⟩
    · have F29 := I0
      rw [BL3] at F29
      have F30 := I1
      rw [BL2] at F30
      refine g_aloadN X0 hx (hb hby d9_0) (rfl : 0 + 1 = 1) rfl rfl ?_
      refine g_len X0 hx hZ eh0 F29 (z := (3 : Int32)) rfl (hb hby d9_1) (rfl : 1 + 1 = 2) ?_
      refine g_aloadN X0 hx (hb hby d9_2) (rfl : 2 + 1 = 3) rfl rfl ?_
      refine g_len X0 hx hZ eh0 F30 (z := (2 : Int32)) rfl (hb hby d9_3) (rfl : 3 + 1 = 4) ?_
      refine g_icmpY X0 hx (hb hby d9_4) (XT.ii_ne_t (by decide)) (by decide) (pc' := 34) (by decide) ?_
      refine g_iconst X0 hx (0 : Int32) (hb hby d9_34) (rfl : 34 + 1 = 35) (by decide) ?_
      exact g_ret X0 hx hret hlk rfl (Or.inl ⟨rfl, Or.inr (Or.inl rfl), _, rfl⟩) (hb hby d9_35) (by decide) (by decide) eh0 hK ⟨(by rw [BL3, BL2]; simp), P0⟩
    · have F31 := I0
      rw [BL3] at F31
      have F32 := I1
      rw [BL3] at F32
      refine g_aloadN X0 hx (hb hby d9_0) (rfl : 0 + 1 = 1) rfl rfl ?_
      refine g_len X0 hx hZ eh0 F31 (z := (3 : Int32)) rfl (hb hby d9_1) (rfl : 1 + 1 = 2) ?_
      refine g_aloadN X0 hx (hb hby d9_2) (rfl : 2 + 1 = 3) rfl rfl ?_
      refine g_len X0 hx hZ eh0 F32 (z := (3 : Int32)) rfl (hb hby d9_3) (rfl : 3 + 1 = 4) ?_
      refine g_icmpN X0 hx (hb hby d9_4) (XT.ii_ne_f (by decide)) (rfl : 4 + 3 = 7) ?_
      refine g_iconst X0 hx (0 : Int32) (hb hby d9_7) (rfl : 7 + 1 = 8) (by decide) ?_
      refine g_istoreN X0 hx (hb hby d9_8) (rfl : 8 + 1 = 9) (Ls' := #[.val (.ref a), .val (.ref b), .val (.int (0 : Int32))]) rfl ?_
      refine g_iloadN X0 hx (hb hby d9_9) (rfl : 9 + 1 = 10) rfl ?_
      refine g_aloadN X0 hx (hb hby d9_10) (rfl : 10 + 1 = 11) rfl rfl ?_
      refine g_len X0 hx hZ eh0 F31 (z := (3 : Int32)) rfl (hb hby d9_11) (rfl : 11 + 1 = 12) ?_
      refine g_icmpN X0 hx (hb hby d9_12) (XT.ii_ge_f (by decide)) (rfl : 12 + 3 = 15) ?_
      refine g_aloadN X0 hx (hb hby d9_15) (rfl : 15 + 1 = 16) rfl rfl ?_
      refine g_iloadN X0 hx (hb hby d9_16) (rfl : 16 + 1 = 17) rfl ?_
      refine g_baload X0 hx hZ eh0 F31 (v := (.int (c0).toInt8.toInt32)) (by decide) (by rfl) (hb hby d9_17) (rfl : 17 + 1 = 18) ?_
      refine g_aloadN X0 hx (hb hby d9_18) (rfl : 18 + 1 = 19) rfl rfl ?_
      refine g_iloadN X0 hx (hb hby d9_19) (rfl : 19 + 1 = 20) rfl ?_
      refine g_baload X0 hx hZ eh0 F32 (v := (.int (d0).toInt8.toInt32)) (by decide) (by rfl) (hb hby d9_20) (rfl : 20 + 1 = 21) ?_
      by_cases e0 : (c0).toInt8.toInt32 = (d0).toInt8.toInt32
      · refine g_icmpY X0 hx (hb hby d9_21) (XT.ii_eq_t e0) (by decide) (pc' := 26) (by decide) ?_
        refine g_iinc X0 hx (1 : Int32) (hb hby d9_26) (rfl : 26 + 3 = 29) (by decide) rfl (z := (1 : Int32)) (by decide) (Ls' := #[.val (.ref a), .val (.ref b), .val (.int (1 : Int32))]) rfl ?_
        refine g_goto X0 hx (hb hby d9_29) (by decide) (pc' := 9) (by decide) ?_
        refine g_iloadN X0 hx (hb hby d9_9) (rfl : 9 + 1 = 10) rfl ?_
        refine g_aloadN X0 hx (hb hby d9_10) (rfl : 10 + 1 = 11) rfl rfl ?_
        refine g_len X0 hx hZ eh0 F31 (z := (3 : Int32)) rfl (hb hby d9_11) (rfl : 11 + 1 = 12) ?_
        refine g_icmpN X0 hx (hb hby d9_12) (XT.ii_ge_f (by decide)) (rfl : 12 + 3 = 15) ?_
        refine g_aloadN X0 hx (hb hby d9_15) (rfl : 15 + 1 = 16) rfl rfl ?_
        refine g_iloadN X0 hx (hb hby d9_16) (rfl : 16 + 1 = 17) rfl ?_
        refine g_baload X0 hx hZ eh0 F31 (v := (.int (c1).toInt8.toInt32)) (by decide) (by rfl) (hb hby d9_17) (rfl : 17 + 1 = 18) ?_
        refine g_aloadN X0 hx (hb hby d9_18) (rfl : 18 + 1 = 19) rfl rfl ?_
        refine g_iloadN X0 hx (hb hby d9_19) (rfl : 19 + 1 = 20) rfl ?_
        refine g_baload X0 hx hZ eh0 F32 (v := (.int (d1).toInt8.toInt32)) (by decide) (by rfl) (hb hby d9_20) (rfl : 20 + 1 = 21) ?_
        by_cases e1 : (c1).toInt8.toInt32 = (d1).toInt8.toInt32
        · refine g_icmpY X0 hx (hb hby d9_21) (XT.ii_eq_t e1) (by decide) (pc' := 26) (by decide) ?_
          refine g_iinc X0 hx (1 : Int32) (hb hby d9_26) (rfl : 26 + 3 = 29) (by decide) rfl (z := (2 : Int32)) (by decide) (Ls' := #[.val (.ref a), .val (.ref b), .val (.int (2 : Int32))]) rfl ?_
          refine g_goto X0 hx (hb hby d9_29) (by decide) (pc' := 9) (by decide) ?_
          refine g_iloadN X0 hx (hb hby d9_9) (rfl : 9 + 1 = 10) rfl ?_
          refine g_aloadN X0 hx (hb hby d9_10) (rfl : 10 + 1 = 11) rfl rfl ?_
          refine g_len X0 hx hZ eh0 F31 (z := (3 : Int32)) rfl (hb hby d9_11) (rfl : 11 + 1 = 12) ?_
          refine g_icmpN X0 hx (hb hby d9_12) (XT.ii_ge_f (by decide)) (rfl : 12 + 3 = 15) ?_
          refine g_aloadN X0 hx (hb hby d9_15) (rfl : 15 + 1 = 16) rfl rfl ?_
          refine g_iloadN X0 hx (hb hby d9_16) (rfl : 16 + 1 = 17) rfl ?_
          refine g_baload X0 hx hZ eh0 F31 (v := (.int (c2).toInt8.toInt32)) (by decide) (by rfl) (hb hby d9_17) (rfl : 17 + 1 = 18) ?_
          refine g_aloadN X0 hx (hb hby d9_18) (rfl : 18 + 1 = 19) rfl rfl ?_
          refine g_iloadN X0 hx (hb hby d9_19) (rfl : 19 + 1 = 20) rfl ?_
          refine g_baload X0 hx hZ eh0 F32 (v := (.int (d2).toInt8.toInt32)) (by decide) (by rfl) (hb hby d9_20) (rfl : 20 + 1 = 21) ?_
          by_cases e2 : (c2).toInt8.toInt32 = (d2).toInt8.toInt32
          · refine g_icmpY X0 hx (hb hby d9_21) (XT.ii_eq_t e2) (by decide) (pc' := 26) (by decide) ?_
            refine g_iinc X0 hx (1 : Int32) (hb hby d9_26) (rfl : 26 + 3 = 29) (by decide) rfl (z := (3 : Int32)) (by decide) (Ls' := #[.val (.ref a), .val (.ref b), .val (.int (3 : Int32))]) rfl ?_
            refine g_goto X0 hx (hb hby d9_29) (by decide) (pc' := 9) (by decide) ?_
            refine g_iloadN X0 hx (hb hby d9_9) (rfl : 9 + 1 = 10) rfl ?_
            refine g_aloadN X0 hx (hb hby d9_10) (rfl : 10 + 1 = 11) rfl rfl ?_
            refine g_len X0 hx hZ eh0 F31 (z := (3 : Int32)) rfl (hb hby d9_11) (rfl : 11 + 1 = 12) ?_
            refine g_icmpY X0 hx (hb hby d9_12) (XT.ii_ge_t (by decide)) (by decide) (pc' := 32) (by decide) ?_
            refine g_iconst X0 hx (1 : Int32) (hb hby d9_32) (rfl : 32 + 1 = 33) (by decide) ?_
            exact g_ret X0 hx hret hlk rfl (Or.inl ⟨rfl, Or.inr (Or.inl rfl), _, rfl⟩) (hb hby d9_33) (by decide) (by decide) eh0 hK ⟨(by rw [BL3, BL3]; simp [e0, e1, e2]), P0⟩
          · refine g_icmpN X0 hx (hb hby d9_21) (XT.ii_eq_f e2) (rfl : 21 + 3 = 24) ?_
            refine g_iconst X0 hx (0 : Int32) (hb hby d9_24) (rfl : 24 + 1 = 25) (by decide) ?_
            exact g_ret X0 hx hret hlk rfl (Or.inl ⟨rfl, Or.inr (Or.inl rfl), _, rfl⟩) (hb hby d9_25) (by decide) (by decide) eh0 hK ⟨(by rw [BL3, BL3]; simp [e0, e1, e2]), P0⟩
        · refine g_icmpN X0 hx (hb hby d9_21) (XT.ii_eq_f e1) (rfl : 21 + 3 = 24) ?_
          refine g_iconst X0 hx (0 : Int32) (hb hby d9_24) (rfl : 24 + 1 = 25) (by decide) ?_
          exact g_ret X0 hx hret hlk rfl (Or.inl ⟨rfl, Or.inr (Or.inl rfl), _, rfl⟩) (hb hby d9_25) (by decide) (by decide) eh0 hK ⟨(by rw [BL3, BL3]; simp [e0, e1]), P0⟩
      · refine g_icmpN X0 hx (hb hby d9_21) (XT.ii_eq_f e0) (rfl : 21 + 3 = 24) ?_
        refine g_iconst X0 hx (0 : Int32) (hb hby d9_24) (rfl : 24 + 1 = 25) (by decide) ?_
        exact g_ret X0 hx hret hlk rfl (Or.inl ⟨rfl, Or.inr (Or.inl rfl), _, rfl⟩) (hb hby d9_25) (by decide) (by decide) eh0 hK ⟨(by rw [BL3, BL3]; simp [e0]), P0⟩
theorem d8_0 : decode jdk_42_method_66_code 0 = .ok (.aload_n 0, 1) := by decide +kernel
theorem d8_1 : decode jdk_42_method_66_code 1 = .ok (.aload_n 1, 1) := by decide +kernel
theorem d8_2 : decode jdk_42_method_66_code 2 = .ok (.if_acmp .ne 5, 3) := by decide +kernel
theorem d8_7 : decode jdk_42_method_66_code 7 = .ok (.aload_n 1, 1) := by decide +kernel
theorem d8_8 : decode jdk_42_method_66_code 8 = .ok (.instanceof 10, 3) := by decide +kernel
theorem d8_11 : decode jdk_42_method_66_code 11 = .ok (.ifCond .eq 43, 3) := by decide +kernel
theorem d8_14 : decode jdk_42_method_66_code 14 = .ok (.aload_n 1, 1) := by decide +kernel
theorem d8_15 : decode jdk_42_method_66_code 15 = .ok (.checkcast 10, 3) := by decide +kernel
theorem d8_18 : decode jdk_42_method_66_code 18 = .ok (.astore_n 2, 1) := by decide +kernel
theorem d8_19 : decode jdk_42_method_66_code 19 = .ok (.getstatic 38, 3) := by decide +kernel
theorem d8_22 : decode jdk_42_method_66_code 22 = .ok (.ifCond .eq 14, 3) := by decide +kernel
theorem d8_25 : decode jdk_42_method_66_code 25 = .ok (.aload_n 0, 1) := by decide +kernel
theorem d8_26 : decode jdk_42_method_66_code 26 = .ok (.getfield 15, 3) := by decide +kernel
theorem d8_29 : decode jdk_42_method_66_code 29 = .ok (.aload_n 2, 1) := by decide +kernel
theorem d8_30 : decode jdk_42_method_66_code 30 = .ok (.getfield 15, 3) := by decide +kernel
theorem d8_33 : decode jdk_42_method_66_code 33 = .ok (.if_icmp .ne 21, 3) := by decide +kernel
theorem d8_36 : decode jdk_42_method_66_code 36 = .ok (.aload_n 0, 1) := by decide +kernel
theorem d8_37 : decode jdk_42_method_66_code 37 = .ok (.getfield 9, 3) := by decide +kernel
theorem d8_40 : decode jdk_42_method_66_code 40 = .ok (.aload_n 2, 1) := by decide +kernel
theorem d8_41 : decode jdk_42_method_66_code 41 = .ok (.getfield 9, 3) := by decide +kernel
theorem d8_44 : decode jdk_42_method_66_code 44 = .ok (.invokestatic 541, 3) := by decide +kernel
theorem d8_47 : decode jdk_42_method_66_code 47 = .ok (.ifCond .eq 7, 3) := by decide +kernel
theorem d8_50 : decode jdk_42_method_66_code 50 = .ok (.iconst 1, 1) := by decide +kernel
theorem d8_51 : decode jdk_42_method_66_code 51 = .ok (.goto 4, 3) := by decide +kernel
theorem d8_54 : decode jdk_42_method_66_code 54 = .ok (.iconst 0, 1) := by decide +kernel
theorem d8_55 : decode jdk_42_method_66_code 55 = .ok (.ireturn, 1) := by decide +kernel
theorem pn_rm_seq : plainFor (⟨"java/lang/String", "equals", "(Ljava/lang/Object;)Z"⟩ : MethodName) = true := by first | exact plainFor_of_name (by first | (simp [plainName, overriddenIn]; done) | decide +kernel) | decide +kernel
set_option maxRecDepth 65536 in
set_option maxHeartbeats 40000000 in
theorem rm_seq {l : Launch} {Z : State} {a0 : Array Value} (hw : ∀ d ∈ tables_1, d.before a0 Z = true) (x : Addr) (y : Addr) (b : Addr) (kb : ClassId) (ln : Int32) (c0 : Int32) (c1 : Int32) (c2 : Int32) (d : Addr) (kd : ClassId) (lm : Int32) (d0 : Int32) (d1 : Int32) (d2 : Int32) (cs : Int32) {h0 : Heap} (I0 : Exa Z h0 x "java/lang/String") (I1 : Fld Z h0 x "java/lang/String" "value" "[B" (.ref b)) (I2 : Fld Z h0 x "java/lang/String" "coder" "B" (.int (0 : Int32))) (I3 : OAry Z h0 b kb .byte (BL ln c0 c1 c2)) (I4 : Exa Z h0 y "java/lang/String") (I5 : Fld Z h0 y "java/lang/String" "value" "[B" (.ref d)) (I6 : Fld Z h0 y "java/lang/String" "coder" "B" (.int (0 : Int32))) (I7 : OAry Z h0 d kd .byte (BL lm d0 d1 d2)) (I8 : Sta Z h0 "java/lang/String" "COMPACT_STRINGS" "Z" (.int cs)) (hl : ln = 0 ∨ ln = 1 ∨ ln = 2 ∨ ln = 3) (hm : lm = 0 ∨ lm = 1 ∨ lm = 2 ∨ lm = 3) (hcs : ¬ cs = 0) (hxy : x ≠ y) :
    OMet l (⟨"java/lang/String", "equals", "(Ljava/lang/Object;)Z"⟩ : MethodName) jdk_42_method_66_code 3 (Option.some Jvm.ClassFile.FieldType.boolean) ({ frames := 1, cells := 0, slots := 0, locals := 14 } : Room) #[(.ref x), (.ref y)] Z h0 (fun vR hR LR => vR = some (.int (if (BL ln c0 c1 c2) = (BL lm d0 d1 d2) then 1 else 0 : Int32)) ∧ OPr h0 [] hR LR) := by
  refine OMet.body pn_rm_seq (Ls := #[.val (.ref x), .val (.ref y), .unset]) (fun m => by first | (simp [entryFrame, mkF, argsToLocals, Value.category]; done) | rfl) ?_
  intro p e s m below meth c T0 K hK X0 hx hby hml hown hnm hret hlk hZ eh0
  have P0 := OPr.refl h0 []
  refine g_aloadN X0 hx (hb hby d8_0) (rfl : 0 + 1 = 1) rfl rfl ?_
  refine g_aloadN X0 hx (hb hby d8_1) (rfl : 1 + 1 = 2) rfl rfl ?_
  refine g_acmpY X0 hx (hb hby d8_2) rfl rfl (XT.aa_ne_t (fun q => hxy (Value.ref.inj q))) (by decide) (pc' := 7) (by decide) ?_
  refine g_aloadN X0 hx (hb hby d8_7) (rfl : 7 + 1 = 8) rfl rfl ?_
  refine g_instY X0 hx hZ hown (wd hw 65 rfl) eh0 (Ins.self I4) (hb hby d8_8) (rfl : 8 + 3 = 11) fun T1 X1 eh1 => ?_
  refine g_ifN X1 hx (hb hby d8_11) (XT.i0_eq_f (by decide)) (rfl : 11 + 3 = 14) ?_
  refine g_aloadN X1 hx (hb hby d8_14) (rfl : 14 + 1 = 15) rfl rfl ?_
  refine g_cast X1 hx hZ hown (wd hw 65 rfl) eh1 (Ins.self I4) (hb hby d8_15) (rfl : 15 + 3 = 18) fun T2 X2 eh2 => ?_
  refine g_astoreN X2 hx (hb hby d8_18) (rfl : 18 + 1 = 19) rfl (Ls' := #[.val (.ref x), .val (.ref y), .val (.ref y)]) rfl ?_
  refine g_gets X2 hx hZ hown (host := "") (Or.inl (wd hw 66 rfl)) Via.refl eh2 I8 (hb hby d8_19) (rfl : 19 + 3 = 22) fun T3 X3 eh3 => ?_
  refine g_ifN X3 hx (hb hby d8_22) (XT.i0_eq_f hcs) (rfl : 22 + 3 = 25) ?_
  refine g_aloadN X3 hx (hb hby d8_25) (rfl : 25 + 1 = 26) rfl rfl ?_
  refine g_getf X3 hx hZ hown (host := "") (Or.inl (wd hw 26 rfl)) Via.refl eh3 I2 (hb hby d8_26) (rfl : 26 + 3 = 29) fun T4 X4 eh4 => ?_
  refine g_aloadN X4 hx (hb hby d8_29) (rfl : 29 + 1 = 30) rfl rfl ?_
  refine g_getf X4 hx hZ hown (host := "") (Or.inl (wd hw 26 rfl)) Via.refl eh4 I6 (hb hby d8_30) (rfl : 30 + 3 = 33) fun T5 X5 eh5 => ?_
  refine g_icmpN X5 hx (hb hby d8_33) (XT.ii_ne_f (by decide)) (rfl : 33 + 3 = 36) ?_
  refine g_aloadN X5 hx (hb hby d8_36) (rfl : 36 + 1 = 37) rfl rfl ?_
  refine g_getf X5 hx hZ hown (host := "") (Or.inl (wd hw 25 rfl)) Via.refl eh5 I1 (hb hby d8_37) (rfl : 37 + 3 = 40) fun T6 X6 eh6 => ?_
  refine g_aloadN X6 hx (hb hby d8_40) (rfl : 40 + 1 = 41) rfl rfl ?_
  refine g_getf X6 hx hZ hown (host := "") (Or.inl (wd hw 25 rfl)) Via.refl eh6 I5 (hb hby d8_41) (rfl : 41 + 3 = 44) fun T7 X7 eh7 => ?_
  refine g_static X7 hx hZ hown eh7 (rm_leq hw b kb d kd ln c0 c1 c2 lm d0 d1 d2 I3 I7 hl hm) (wd hw 67 rfl) (wd hw 68 rfl) (wd hw 70 rfl) (wd hw 69 rfl) (by decide) (argsL := [(.ref b), (.ref d)]) (rest := []) rfl rfl (ps := [(.array .byte), (.array .byte)]) (rt := (some .boolean)) (by decide) rfl (W := 0) (Nat.le_of_eq rfl) (by decide) (by decide) (by decide) (by decide) (by rw [hml]; rfl) (hb hby d8_44) (rfl : 44 + 3 = 47) fun v8 T8 hh8 L8 X8 eh8 Q8 => ?_
  obtain ⟨rfl, Pc8⟩ := Q8
  have P8 := P0.call Pc8 all0
  show OGo p e below K T8 (mkF m 47 #[.val (.ref x), .val (.ref y), .val (.ref y)] [(.int (if (BL ln c0 c1 c2) = (BL lm d0 d1 d2) then 1 else 0 : Int32))])
  by_cases hq : (if (BL ln c0 c1 c2) = (BL lm d0 d1 d2) then 1 else 0 : Int32) = (0 : Int32)
  · refine g_ifY X8 hx (hb hby d8_47) (XT.i0_eq_t hq) (by decide) (pc' := 54) (by decide) ?_
    refine g_iconst X8 hx (0 : Int32) (hb hby d8_54) (rfl : 54 + 1 = 55) (by decide) ?_
    exact g_ret X8 hx hret hlk rfl (Or.inl ⟨rfl, Or.inr (Or.inl rfl), _, rfl⟩) (hb hby d8_55) (by decide) (by decide) eh8 hK ⟨(by rw [hq]), P8⟩
  · refine g_ifN X8 hx (hb hby d8_47) (XT.i0_eq_f hq) (rfl : 47 + 3 = 50) ?_
    refine g_iconst X8 hx (1 : Int32) (hb hby d8_50) (rfl : 50 + 1 = 51) (by decide) ?_
    refine g_goto X8 hx (hb hby d8_51) (by decide) (pc' := 55) (by decide) ?_
    exact g_ret X8 hx hret hlk rfl (Or.inl ⟨rfl, Or.inr (Or.inl rfl), _, rfl⟩) (hb hby d8_55) (by decide) (by decide) eh8 hK ⟨(by rw [if_pos (iteNe hq)]), P8⟩
theorem d8_5 : decode jdk_42_method_66_code 5 = .ok (.iconst 1, 1) := by decide +kernel
theorem d8_6 : decode jdk_42_method_66_code 6 = .ok (.ireturn, 1) := by decide +kernel
theorem pn_rm_sqs : plainFor (⟨"java/lang/String", "equals", "(Ljava/lang/Object;)Z"⟩ : MethodName) = true := by first | exact plainFor_of_name (by first | (simp [plainName, overriddenIn]; done) | decide +kernel) | decide +kernel
set_option maxRecDepth 65536 in
set_option maxHeartbeats 40000000 in
theorem rm_sqs {l : Launch} {Z : State} {a0 : Array Value} (hw : ∀ d ∈ tables_1, d.before a0 Z = true) (x : Addr) {h0 : Heap}   :
    OMet l (⟨"java/lang/String", "equals", "(Ljava/lang/Object;)Z"⟩ : MethodName) jdk_42_method_66_code 3 (Option.some Jvm.ClassFile.FieldType.boolean) ({ frames := 0, cells := 0, slots := 0, locals := 0 } : Room) #[(.ref x), (.ref x)] Z h0 (fun vR hR LR => vR = some (.int (1 : Int32)) ∧ OPr h0 [] hR LR) := by
  refine OMet.body pn_rm_sqs (Ls := #[.val (.ref x), .val (.ref x), .unset]) (fun m => by first | (simp [entryFrame, mkF, argsToLocals, Value.category]; done) | rfl) ?_
  intro p e s m below meth c T0 K hK X0 hx hby hml hown hnm hret hlk hZ eh0
  have P0 := OPr.refl h0 []
  refine g_aloadN X0 hx (hb hby d8_0) (rfl : 0 + 1 = 1) rfl rfl ?_
  refine g_aloadN X0 hx (hb hby d8_1) (rfl : 1 + 1 = 2) rfl rfl ?_
  refine g_acmpN X0 hx (hb hby d8_2) rfl rfl (XT.aa_ne_f rfl) (rfl : 2 + 3 = 5) ?_
  refine g_iconst X0 hx (1 : Int32) (hb hby d8_5) (rfl : 5 + 1 = 6) (by decide) ?_
  exact g_ret X0 hx hret hlk rfl (Or.inl ⟨rfl, Or.inr (Or.inl rfl), _, rfl⟩) (hb hby d8_6) (by decide) (by decide) eh0 hK ⟨rfl, P0⟩
theorem d7_0 : decode prog_24_method_3_code 0 = .ok (.aload_n 1, 1) := by decide +kernel
theorem d7_1 : decode prog_24_method_3_code 1 = .ok (.instanceof 8, 3) := by decide +kernel
theorem d7_4 : decode prog_24_method_3_code 4 = .ok (.ifCond .eq 37, 3) := by decide +kernel
theorem d7_7 : decode prog_24_method_3_code 7 = .ok (.aload_n 1, 1) := by decide +kernel
theorem d7_8 : decode prog_24_method_3_code 8 = .ok (.checkcast 8, 3) := by decide +kernel
theorem d7_11 : decode prog_24_method_3_code 11 = .ok (.astore_n 2, 1) := by decide +kernel
theorem d7_12 : decode prog_24_method_3_code 12 = .ok (.aload_n 0, 1) := by decide +kernel
theorem d7_13 : decode prog_24_method_3_code 13 = .ok (.getfield 7, 3) := by decide +kernel
theorem d7_16 : decode prog_24_method_3_code 16 = .ok (.aload_n 2, 1) := by decide +kernel
theorem d7_17 : decode prog_24_method_3_code 17 = .ok (.getfield 7, 3) := by decide +kernel
theorem d7_20 : decode prog_24_method_3_code 20 = .ok (.if_acmp .ne 21, 3) := by decide +kernel
theorem d7_23 : decode prog_24_method_3_code 23 = .ok (.aload_n 0, 1) := by decide +kernel
theorem d7_24 : decode prog_24_method_3_code 24 = .ok (.getfield 13, 3) := by decide +kernel
theorem d7_27 : decode prog_24_method_3_code 27 = .ok (.aload_n 2, 1) := by decide +kernel
theorem d7_28 : decode prog_24_method_3_code 28 = .ok (.getfield 13, 3) := by decide +kernel
theorem d7_31 : decode prog_24_method_3_code 31 = .ok (.invokevirtual 36, 3) := by decide +kernel
theorem d7_34 : decode prog_24_method_3_code 34 = .ok (.ifCond .eq 7, 3) := by decide +kernel
theorem d7_37 : decode prog_24_method_3_code 37 = .ok (.iconst 1, 1) := by decide +kernel
theorem d7_38 : decode prog_24_method_3_code 38 = .ok (.goto 4, 3) := by decide +kernel
theorem d7_41 : decode prog_24_method_3_code 41 = .ok (.iconst 0, 1) := by decide +kernel
theorem d7_42 : decode prog_24_method_3_code 42 = .ok (.ireturn, 1) := by decide +kernel
theorem pn_rm_keq : plainFor (⟨"com/example/dosimeter/dosimeter/model/ResourceKey", "equals", "(Ljava/lang/Object;)Z"⟩ : MethodName) = true := by first | exact plainFor_of_name (by first | (simp [plainName, overriddenIn]; done) | decide +kernel) | decide +kernel
set_option maxRecDepth 65536 in
set_option maxHeartbeats 40000000 in
theorem rm_keq {l : Launch} {Z : State} {a0 : Array Value} (hw : ∀ d ∈ tables_1, d.before a0 Z = true) (a : Addr) (o : Addr) (k1 : Addr) (k2 : Addr) (x : Addr) (y : Addr) (b : Addr) (kb : ClassId) (ln : Int32) (c0 : Int32) (c1 : Int32) (c2 : Int32) (d : Addr) (kd : ClassId) (lm : Int32) (d0 : Int32) (d1 : Int32) (d2 : Int32) (cs : Int32) {h0 : Heap} (I0 : Exa Z h0 a "com/example/dosimeter/dosimeter/model/ResourceKey") (I1 : Fld Z h0 a "com/example/dosimeter/dosimeter/model/ResourceKey" "kind" "Lcom/example/dosimeter/dosimeter/model/ResourceKind;" (.ref k1)) (I2 : Fld Z h0 a "com/example/dosimeter/dosimeter/model/ResourceKey" "id" "Ljava/lang/String;" (.ref x)) (I3 : Exa Z h0 o "com/example/dosimeter/dosimeter/model/ResourceKey") (I4 : Fld Z h0 o "com/example/dosimeter/dosimeter/model/ResourceKey" "kind" "Lcom/example/dosimeter/dosimeter/model/ResourceKind;" (.ref k2)) (I5 : Fld Z h0 o "com/example/dosimeter/dosimeter/model/ResourceKey" "id" "Ljava/lang/String;" (.ref y)) (I6 : Exa Z h0 x "java/lang/String") (I7 : Fld Z h0 x "java/lang/String" "value" "[B" (.ref b)) (I8 : Fld Z h0 x "java/lang/String" "coder" "B" (.int (0 : Int32))) (I9 : OAry Z h0 b kb .byte (BL ln c0 c1 c2)) (I10 : Exa Z h0 y "java/lang/String") (I11 : Fld Z h0 y "java/lang/String" "value" "[B" (.ref d)) (I12 : Fld Z h0 y "java/lang/String" "coder" "B" (.int (0 : Int32))) (I13 : OAry Z h0 d kd .byte (BL lm d0 d1 d2)) (I14 : Sta Z h0 "java/lang/String" "COMPACT_STRINGS" "Z" (.int cs)) (hl : ln = 0 ∨ ln = 1 ∨ ln = 2 ∨ ln = 3) (hm : lm = 0 ∨ lm = 1 ∨ lm = 2 ∨ lm = 3) (hcs : ¬ cs = 0) (hxy : x ≠ y) :
    OMet l (⟨"com/example/dosimeter/dosimeter/model/ResourceKey", "equals", "(Ljava/lang/Object;)Z"⟩ : MethodName) prog_24_method_3_code 3 (Option.some Jvm.ClassFile.FieldType.boolean) ({ frames := 2, cells := 0, slots := 0, locals := 28 } : Room) #[(.ref a), (.ref o)] Z h0 (fun vR hR LR => vR = some (.int (if k1 = k2 ∧ (BL ln c0 c1 c2) = (BL lm d0 d1 d2) then 1 else 0 : Int32)) ∧ OPr h0 [] hR LR) := by
  refine OMet.body pn_rm_keq (Ls := #[.val (.ref a), .val (.ref o), .unset]) (fun m => by first | (simp [entryFrame, mkF, argsToLocals, Value.category]; done) | rfl) ?_
  intro p e s m below meth c T0 K hK X0 hx hby hml hown hnm hret hlk hZ eh0
  have P0 := OPr.refl h0 []
  refine g_aloadN X0 hx (hb hby d7_0) (rfl : 0 + 1 = 1) rfl rfl ?_
  refine g_instY X0 hx hZ hown (wd hw 56 rfl) eh0 (Ins.self I3) (hb hby d7_1) (rfl : 1 + 3 = 4) fun T1 X1 eh1 => ?_
  refine g_ifN X1 hx (hb hby d7_4) (XT.i0_eq_f (by decide)) (rfl : 4 + 3 = 7) ?_
  refine g_aloadN X1 hx (hb hby d7_7) (rfl : 7 + 1 = 8) rfl rfl ?_
  refine g_cast X1 hx hZ hown (wd hw 56 rfl) eh1 (Ins.self I3) (hb hby d7_8) (rfl : 8 + 3 = 11) fun T2 X2 eh2 => ?_
  refine g_astoreN X2 hx (hb hby d7_11) (rfl : 11 + 1 = 12) rfl (Ls' := #[.val (.ref a), .val (.ref o), .val (.ref o)]) rfl ?_
  refine g_aloadN X2 hx (hb hby d7_12) (rfl : 12 + 1 = 13) rfl rfl ?_
  refine g_getf X2 hx hZ hown (host := "") (Or.inl (wd hw 45 rfl)) Via.refl eh2 I1 (hb hby d7_13) (rfl : 13 + 3 = 16) fun T3 X3 eh3 => ?_
  refine g_aloadN X3 hx (hb hby d7_16) (rfl : 16 + 1 = 17) rfl rfl ?_
  refine g_getf X3 hx hZ hown (host := "") (Or.inl (wd hw 45 rfl)) Via.refl eh3 I4 (hb hby d7_17) (rfl : 17 + 3 = 20) fun T4 X4 eh4 => ?_
  by_cases hk : ((.ref k1) : Value) = (.ref k2)
  · refine g_acmpN X4 hx (hb hby d7_20) rfl rfl (XT.aa_ne_f hk) (rfl : 20 + 3 = 23) ?_
    refine g_aloadN X4 hx (hb hby d7_23) (rfl : 23 + 1 = 24) rfl rfl ?_
    refine g_getf X4 hx hZ hown (host := "") (Or.inl (wd hw 47 rfl)) Via.refl eh4 I2 (hb hby d7_24) (rfl : 24 + 3 = 27) fun T5 X5 eh5 => ?_
    refine g_aloadN X5 hx (hb hby d7_27) (rfl : 27 + 1 = 28) rfl rfl ?_
    refine g_getf X5 hx hZ hown (host := "") (Or.inl (wd hw 47 rfl)) Via.refl eh5 I5 (hb hby d7_28) (rfl : 28 + 3 = 31) fun T6 X6 eh6 => ?_
    refine g_virtual X6 hx hZ hown eh6 (rm_seq hw x y b kb ln c0 c1 c2 d kd lm d0 d1 d2 cs I6 I7 I8 I9 I10 I11 I12 I13 I14 hl hm hcs hxy) (C := "java/lang/String") (wd hw 58 rfl) (wd hw 59 rfl) (notFace_of_selects (args := #[]) (mvT hZ (wd hw 61 rfl))) (wd hw 61 rfl) (wd hw 60 rfl) (wd hw 62 rfl) (wd hw 7 rfl) (by decide) (a := x) I6 (argsL := [(.ref y)]) (rest := []) rfl rfl (ps := [(.object "java/lang/Object")]) (rt := (some .boolean)) (by decide) rfl (W := 0) (Nat.le_of_eq rfl) (by decide) (by decide) (by decide) (by decide) (by rw [hml]; rfl) (hb hby d7_31) (rfl : 31 + 3 = 34) fun v7 T7 hh7 L7 X7 eh7 Q7 => ?_
    obtain ⟨rfl, Pc7⟩ := Q7
    have P7 := P0.call Pc7 all0
    show OGo p e below K T7 (mkF m 34 #[.val (.ref a), .val (.ref o), .val (.ref o)] [(.int (if (BL ln c0 c1 c2) = (BL lm d0 d1 d2) then 1 else 0 : Int32))])
    by_cases hq : (if (BL ln c0 c1 c2) = (BL lm d0 d1 d2) then 1 else 0 : Int32) = (0 : Int32)
    · refine g_ifY X7 hx (hb hby d7_34) (XT.i0_eq_t hq) (by decide) (pc' := 41) (by decide) ?_
      refine g_iconst X7 hx (0 : Int32) (hb hby d7_41) (rfl : 41 + 1 = 42) (by decide) ?_
      exact g_ret X7 hx hret hlk rfl (Or.inl ⟨rfl, Or.inr (Or.inl rfl), _, rfl⟩) (hb hby d7_42) (by decide) (by decide) eh7 hK ⟨(by rw [if_neg (fun q => by rw [if_pos q.2] at hq; exact absurd hq (by decide))]), P7⟩
    · refine g_ifN X7 hx (hb hby d7_34) (XT.i0_eq_f hq) (rfl : 34 + 3 = 37) ?_
      refine g_iconst X7 hx (1 : Int32) (hb hby d7_37) (rfl : 37 + 1 = 38) (by decide) ?_
      refine g_goto X7 hx (hb hby d7_38) (by decide) (pc' := 42) (by decide) ?_
      exact g_ret X7 hx hret hlk rfl (Or.inl ⟨rfl, Or.inr (Or.inl rfl), _, rfl⟩) (hb hby d7_42) (by decide) (by decide) eh7 hK ⟨(by rw [if_pos ⟨Value.ref.inj hk, iteNe hq⟩]), P7⟩
  · refine g_acmpY X4 hx (hb hby d7_20) rfl rfl (XT.aa_ne_t hk) (by decide) (pc' := 41) (by decide) ?_
    refine g_iconst X4 hx (0 : Int32) (hb hby d7_41) (rfl : 41 + 1 = 42) (by decide) ?_
    exact g_ret X4 hx hret hlk rfl (Or.inl ⟨rfl, Or.inr (Or.inl rfl), _, rfl⟩) (hb hby d7_42) (by decide) (by decide) eh4 hK ⟨(by rw [if_neg (fun q => hk (by rw [q.1]))]), P0⟩
theorem pn_rm_kes : plainFor (⟨"com/example/dosimeter/dosimeter/model/ResourceKey", "equals", "(Ljava/lang/Object;)Z"⟩ : MethodName) = true := by first | exact plainFor_of_name (by first | (simp [plainName, overriddenIn]; done) | decide +kernel) | decide +kernel
set_option maxRecDepth 65536 in
set_option maxHeartbeats 40000000 in
theorem rm_kes {l : Launch} {Z : State} {a0 : Array Value} (hw : ∀ d ∈ tables_1, d.before a0 Z = true) (a : Addr) (k1 : Addr) (x : Addr) {h0 : Heap} (I0 : Exa Z h0 a "com/example/dosimeter/dosimeter/model/ResourceKey") (I1 : Fld Z h0 a "com/example/dosimeter/dosimeter/model/ResourceKey" "kind" "Lcom/example/dosimeter/dosimeter/model/ResourceKind;" (.ref k1)) (I2 : Fld Z h0 a "com/example/dosimeter/dosimeter/model/ResourceKey" "id" "Ljava/lang/String;" (.ref x)) (I3 : Exa Z h0 x "java/lang/String")  :
    OMet l (⟨"com/example/dosimeter/dosimeter/model/ResourceKey", "equals", "(Ljava/lang/Object;)Z"⟩ : MethodName) prog_24_method_3_code 3 (Option.some Jvm.ClassFile.FieldType.boolean) ({ frames := 1, cells := 0, slots := 0, locals := 14 } : Room) #[(.ref a), (.ref a)] Z h0 (fun vR hR LR => vR = some (.int (1 : Int32)) ∧ OPr h0 [] hR LR) := by
  refine OMet.body pn_rm_kes (Ls := #[.val (.ref a), .val (.ref a), .unset]) (fun m => by first | (simp [entryFrame, mkF, argsToLocals, Value.category]; done) | rfl) ?_
  intro p e s m below meth c T0 K hK X0 hx hby hml hown hnm hret hlk hZ eh0
  have P0 := OPr.refl h0 []
  refine g_aloadN X0 hx (hb hby d7_0) (rfl : 0 + 1 = 1) rfl rfl ?_
  refine g_instY X0 hx hZ hown (wd hw 56 rfl) eh0 (Ins.self I0) (hb hby d7_1) (rfl : 1 + 3 = 4) fun T1 X1 eh1 => ?_
  refine g_ifN X1 hx (hb hby d7_4) (XT.i0_eq_f (by decide)) (rfl : 4 + 3 = 7) ?_
  refine g_aloadN X1 hx (hb hby d7_7) (rfl : 7 + 1 = 8) rfl rfl ?_
  refine g_cast X1 hx hZ hown (wd hw 56 rfl) eh1 (Ins.self I0) (hb hby d7_8) (rfl : 8 + 3 = 11) fun T2 X2 eh2 => ?_
  refine g_astoreN X2 hx (hb hby d7_11) (rfl : 11 + 1 = 12) rfl (Ls' := #[.val (.ref a), .val (.ref a), .val (.ref a)]) rfl ?_
  refine g_aloadN X2 hx (hb hby d7_12) (rfl : 12 + 1 = 13) rfl rfl ?_
  refine g_getf X2 hx hZ hown (host := "") (Or.inl (wd hw 45 rfl)) Via.refl eh2 I1 (hb hby d7_13) (rfl : 13 + 3 = 16) fun T3 X3 eh3 => ?_
  refine g_aloadN X3 hx (hb hby d7_16) (rfl : 16 + 1 = 17) rfl rfl ?_
  refine g_getf X3 hx hZ hown (host := "") (Or.inl (wd hw 45 rfl)) Via.refl eh3 I1 (hb hby d7_17) (rfl : 17 + 3 = 20) fun T4 X4 eh4 => ?_
  refine g_acmpN X4 hx (hb hby d7_20) rfl rfl (XT.aa_ne_f rfl) (rfl : 20 + 3 = 23) ?_
  refine g_aloadN X4 hx (hb hby d7_23) (rfl : 23 + 1 = 24) rfl rfl ?_
  refine g_getf X4 hx hZ hown (host := "") (Or.inl (wd hw 47 rfl)) Via.refl eh4 I2 (hb hby d7_24) (rfl : 24 + 3 = 27) fun T5 X5 eh5 => ?_
  refine g_aloadN X5 hx (hb hby d7_27) (rfl : 27 + 1 = 28) rfl rfl ?_
  refine g_getf X5 hx hZ hown (host := "") (Or.inl (wd hw 47 rfl)) Via.refl eh5 I2 (hb hby d7_28) (rfl : 28 + 3 = 31) fun T6 X6 eh6 => ?_
  refine g_virtual X6 hx hZ hown eh6 (rm_sqs hw x) (C := "java/lang/String") (wd hw 58 rfl) (wd hw 59 rfl) (notFace_of_selects (args := #[]) (mvT hZ (wd hw 61 rfl))) (wd hw 61 rfl) (wd hw 60 rfl) (wd hw 62 rfl) (wd hw 7 rfl) (by decide) (a := x) I3 (argsL := [(.ref x)]) (rest := []) rfl rfl (ps := [(.object "java/lang/Object")]) (rt := (some .boolean)) (by decide) rfl (W := 0) (Nat.le_of_eq rfl) (by decide) (by decide) (by decide) (by decide) (by rw [hml]; rfl) (hb hby d7_31) (rfl : 31 + 3 = 34) fun v7 T7 hh7 L7 X7 eh7 Q7 => ?_
  obtain ⟨rfl, Pc7⟩ := Q7
  have P7 := P0.call Pc7 all0
  show OGo p e below K T7 (mkF m 34 #[.val (.ref a), .val (.ref a), .val (.ref a)] [(.int (1 : Int32))])
  refine g_ifN X7 hx (hb hby d7_34) (XT.i0_eq_f (by decide)) (rfl : 34 + 3 = 37) ?_
  refine g_iconst X7 hx (1 : Int32) (hb hby d7_37) (rfl : 37 + 1 = 38) (by decide) ?_
  refine g_goto X7 hx (hb hby d7_38) (by decide) (pc' := 42) (by decide) ?_
  exact g_ret X7 hx hret hlk rfl (Or.inl ⟨rfl, Or.inr (Or.inl rfl), _, rfl⟩) (hb hby d7_42) (by decide) (by decide) eh7 hK ⟨rfl, P7⟩
theorem pn_rm_ken : plainFor (⟨"com/example/dosimeter/dosimeter/model/ResourceKey", "equals", "(Ljava/lang/Object;)Z"⟩ : MethodName) = true := by first | exact plainFor_of_name (by first | (simp [plainName, overriddenIn]; done) | decide +kernel) | decide +kernel
set_option maxRecDepth 65536 in
set_option maxHeartbeats 40000000 in
theorem rm_ken {l : Launch} {Z : State} {a0 : Array Value} (hw : ∀ d ∈ tables_1, d.before a0 Z = true) (a : Addr) {h0 : Heap}   :
    OMet l (⟨"com/example/dosimeter/dosimeter/model/ResourceKey", "equals", "(Ljava/lang/Object;)Z"⟩ : MethodName) prog_24_method_3_code 3 (Option.some Jvm.ClassFile.FieldType.boolean) ({ frames := 0, cells := 0, slots := 0, locals := 0 } : Room) #[(.ref a), .null] Z h0 (fun vR hR LR => vR = some (.int (0 : Int32)) ∧ OPr h0 [] hR LR) := by
  refine OMet.body pn_rm_ken (Ls := #[.val (.ref a), .val .null, .unset]) (fun m => by first | (simp [entryFrame, mkF, argsToLocals, Value.category]; done) | rfl) ?_
  intro p e s m below meth c T0 K hK X0 hx hby hml hown hnm hret hlk hZ eh0
  have P0 := OPr.refl h0 []
  refine g_aloadN X0 hx (hb hby d7_0) (rfl : 0 + 1 = 1) rfl rfl ?_
  refine g_instN0 X0 hx (hb hby d7_1) (rfl : 1 + 3 = 4) ?_
  refine g_ifY X0 hx (hb hby d7_4) (XT.i0_eq_t (by decide)) (by decide) (pc' := 41) (by decide) ?_
  refine g_iconst X0 hx (0 : Int32) (hb hby d7_41) (rfl : 41 + 1 = 42) (by decide) ?_
  exact g_ret X0 hx hret hlk rfl (Or.inl ⟨rfl, Or.inr (Or.inl rfl), _, rfl⟩) (hb hby d7_42) (by decide) (by decide) eh0 hK ⟨rfl, P0⟩
theorem pn_rm_ket : plainFor (⟨"com/example/dosimeter/dosimeter/model/ResourceKey", "equals", "(Ljava/lang/Object;)Z"⟩ : MethodName) = true := by first | exact plainFor_of_name (by first | (simp [plainName, overriddenIn]; done) | decide +kernel) | decide +kernel
set_option maxRecDepth 65536 in
set_option maxHeartbeats 40000000 in
theorem rm_ket {l : Launch} {Z : State} {a0 : Array Value} (hw : ∀ d ∈ tables_1, d.before a0 Z = true) (a : Addr) (x : Addr) {h0 : Heap} (I0 : Exa Z h0 x "java/lang/String")  :
    OMet l (⟨"com/example/dosimeter/dosimeter/model/ResourceKey", "equals", "(Ljava/lang/Object;)Z"⟩ : MethodName) prog_24_method_3_code 3 (Option.some Jvm.ClassFile.FieldType.boolean) ({ frames := 0, cells := 0, slots := 0, locals := 0 } : Room) #[(.ref a), (.ref x)] Z h0 (fun vR hR LR => vR = some (.int (0 : Int32)) ∧ OPr h0 [] hR LR) := by
  refine OMet.body pn_rm_ket (Ls := #[.val (.ref a), .val (.ref x), .unset]) (fun m => by first | (simp [entryFrame, mkF, argsToLocals, Value.category]; done) | rfl) ?_
  intro p e s m below meth c T0 K hK X0 hx hby hml hown hnm hret hlk hZ eh0
  have P0 := OPr.refl h0 []
  refine g_aloadN X0 hx (hb hby d7_0) (rfl : 0 + 1 = 1) rfl rfl ?_
  refine g_instNo X0 hx hZ hown (wd hw 56 rfl) eh0 I0 (noIns (wd hw 63 rfl) (wd hw 28 rfl) (NS.step (wd hw 63 rfl) (nsRoot (wd hw 64 rfl) (wd hw 28 rfl) (by decide)) (by decide)) (by decide)) (hb hby d7_1) (rfl : 1 + 3 = 4) fun T1 X1 eh1 => ?_
  refine g_ifY X1 hx (hb hby d7_4) (XT.i0_eq_t (by decide)) (by decide) (pc' := 41) (by decide) ?_
  refine g_iconst X1 hx (0 : Int32) (hb hby d7_41) (rfl : 41 + 1 = 42) (by decide) ?_
  exact g_ret X1 hx hret hlk rfl (Or.inl ⟨rfl, Or.inr (Or.inl rfl), _, rfl⟩) (hb hby d7_42) (by decide) (by decide) eh1 hK ⟨rfl, P0⟩
theorem pn_rm0 : plainFor x = true := by first | exact plainFor_of_name (by first | (simp [plainName, overriddenIn]; done) | decide +kernel) | decide +kernel
set_option maxRecDepth 65536 in
set_option maxHeartbeats 40000000 in
theorem rm0 {l : Launch} {Z : State} {a0 : Array Value} (hw : ∀ d ∈ tables_1, d.before a0 Z = true) (p1 : Int32) (p2 : Int32) (p3 : Int32) (p4 : Int32) (p5 : Int32) (t0 : Addr) (t1 : Addr) (t2 : Addr) (t3 : Addr) (t4 : Addr) (t5 : Addr) (t6 : Addr) (cs : Int32) {h0 : Heap} (I0 : Sta Z h0 "com/example/dosimeter/dosimeter/model/ResourceKind" "VM" "Lcom/example/dosimeter/dosimeter/model/ResourceKind;" (.ref t0)) (I1 : Sta Z h0 "com/example/dosimeter/dosimeter/model/ResourceKind" "VOLUME" "Lcom/example/dosimeter/dosimeter/model/ResourceKind;" (.ref t1)) (I2 : Sta Z h0 "com/example/dosimeter/dosimeter/model/ResourceKind" "TEMPLATE" "Lcom/example/dosimeter/dosimeter/model/ResourceKind;" (.ref t2)) (I3 : Sta Z h0 "com/example/dosimeter/dosimeter/model/ResourceKind" "ISO" "Lcom/example/dosimeter/dosimeter/model/ResourceKind;" (.ref t3)) (I4 : Sta Z h0 "com/example/dosimeter/dosimeter/model/ResourceKind" "SNAPSHOT" "Lcom/example/dosimeter/dosimeter/model/ResourceKind;" (.ref t4)) (I5 : Sta Z h0 "com/example/dosimeter/dosimeter/model/ResourceKind" "IP_ADDRESS" "Lcom/example/dosimeter/dosimeter/model/ResourceKind;" (.ref t5)) (I6 : Sta Z h0 "com/example/dosimeter/dosimeter/model/ResourceKind" "NETWORK_DEVICE" "Lcom/example/dosimeter/dosimeter/model/ResourceKind;" (.ref t6)) (I7 : Fld Z h0 t0 "java/lang/Enum" "ordinal" "I" (.int (0 : Int32))) (I8 : Fld Z h0 t1 "java/lang/Enum" "ordinal" "I" (.int (1 : Int32))) (I9 : Fld Z h0 t2 "java/lang/Enum" "ordinal" "I" (.int (2 : Int32))) (I10 : Fld Z h0 t3 "java/lang/Enum" "ordinal" "I" (.int (3 : Int32))) (I11 : Fld Z h0 t4 "java/lang/Enum" "ordinal" "I" (.int (4 : Int32))) (I12 : Fld Z h0 t5 "java/lang/Enum" "ordinal" "I" (.int (5 : Int32))) (I13 : Fld Z h0 t6 "java/lang/Enum" "ordinal" "I" (.int (6 : Int32))) (I14 : Sta Z h0 "java/lang/String" "COMPACT_STRINGS" "Z" (.int cs)) (hcs : ¬ cs = 0) :
    OMetC l x code maxLocals ret room_1 #[(.int p1), (.int p2), (.int p3), (.int p4), (.int p5)] Z consts_1 h0 (fun vR hR LR => vR = some (.int (1 : Int32)) ∧ OPr h0 [] hR LR) := by
  refine OMetC.body pn_rm0 (Ls := #[.val (.int p1), .val (.int p2), .val (.int p3), .val (.int p4), .val (.int p5), .unset, .unset, .unset, .unset, .unset, .unset, .unset, .unset, .unset, .unset, .unset, .unset, .unset, .unset, .unset]) (fun m => by first | (simp [entryFrame, mkF, argsToLocals, Value.category, maxLocals]; done) | rfl) ?_
  intro p e s m below meth c T0 K hK X0 hx hby hml hown hnm hret hlk hZ eh0 es R0
  have P0 := OPr.refl h0 []
  have key : ∀ (i1 i2 la lb x0 x1 x2 y0 y1 y2 : Int32) (h1 : i1 = 0 ∨ i1 = 1 ∨ i1 = 2 ∨ i1 = 3 ∨ i1 = 4 ∨ i1 = 5 ∨ i1 = 6) (h2 : i2 = 0 ∨ i2 = 1 ∨ i2 = 2 ∨ i2 = 3 ∨ i2 = 4 ∨ i2 = 5 ∨ i2 = 6) (hla : la = 0 ∨ la = 1 ∨ la = 2 ∨ la = 3) (hlb : lb = 0 ∨ lb = 1 ∨ lb = 2 ∨ lb = 3) (hx0 : ¬ 255 < x0) (hx1 : ¬ 255 < x1) (hx2 : ¬ 255 < x2) (hy0 : ¬ 255 < y0) (hy1 : ¬ 255 < y1) (hy2 : ¬ 255 < y2) (gx0 : ¬ x0 < 0) (gx1 : ¬ x1 < 0) (gx2 : ¬ x2 < 0) (gy0 : ¬ y0 < 0) (gy1 : ¬ y1 < 0) (gy2 : ¬ y2 < 0), OGo p e below K T0 (mkF m 136 #[.val (.int p1), .val (.int p2), .val (.int p3), .val (.int p4), .val (.int p5), .val (.int i1), .val (.int i2), .val (.int la), .val (.int x0), .val (.int x1), .val (.int x2), .val (.int lb), .val (.int y0), .val (.int y1), .val (.int y2), .unset, .unset, .unset, .unset, .unset] []) := by
    intro i1 i2 la lb x0 x1 x2 y0 y1 y2 h1 h2 hla hlb hx0 hx1 hx2 hy0 hy1 hy2 gx0 gx1 gx2 gy0 gy1 gy2
    refine g_iload X0 hx (hb hby at_136) (rfl : 136 + 2 = 138) rfl ?_
    refine g_iload X0 hx (hb hby at_138) (rfl : 138 + 2 = 140) rfl ?_
    refine g_iload X0 hx (hb hby at_140) (rfl : 140 + 2 = 142) rfl ?_
    refine g_iload X0 hx (hb hby at_142) (rfl : 142 + 2 = 144) rfl ?_
    refine g_staticC (s := s) X0 hx hZ hown eh0 (sinceR s) (Nat.zero_le _) (elW hw) R0 (rm_id hw la x0 x1 x2 cs I14 hla hx0 hx1 hx2 gx0 gx1 gx2 hcs) (wd hw 1 rfl) (wd hw 2 rfl) (wd hw 4 rfl) (wd hw 3 rfl) (by decide) (argsL := [(.int la), (.int x0), (.int x1), (.int x2)]) (rest := []) rfl rfl (ps := [.int, .char, .char, .char]) (rt := (some (.object "java/lang/String"))) (by decide) rfl (W := 0) (Nat.le_of_eq rfl) (by decide) (by decide) (by decide) (by decide) (by rw [hml]; rfl) (hb hby at_144) (rfl : 144 + 3 = 147) fun v1 T1 hh1 L1 vm1 n1 X1 eh1 Q1 hS1 hk1 hZ1 ho1 C1 => ?_
    obtain ⟨x_1, b_1, kb_1, rfl, Pc1, G1_0, G1_1, G1_2, G1_3, G1_4⟩ := Q1
    have P1 := P0.call Pc1 all0
    show OGo p e below K T1 (mkF m 147 #[.val (.int p1), .val (.int p2), .val (.int p3), .val (.int p4), .val (.int p5), .val (.int i1), .val (.int i2), .val (.int la), .val (.int x0), .val (.int x1), .val (.int x2), .val (.int lb), .val (.int y0), .val (.int y1), .val (.int y2), .unset, .unset, .unset, .unset, .unset] [(.ref x_1)])
    have R2 := R0.trans C1
    refine g_astore X1 hx (hb hby at_147) (rfl : 147 + 2 = 149) rfl (Ls' := #[.val (.int p1), .val (.int p2), .val (.int p3), .val (.int p4), .val (.int p5), .val (.int i1), .val (.int i2), .val (.int la), .val (.int x0), .val (.int x1), .val (.int x2), .val (.int lb), .val (.int y0), .val (.int y1), .val (.int y2), .val (.ref x_1), .unset, .unset, .unset, .unset]) rfl ?_
    refine g_new X1 hx hZ1 ho1 (wd hw 27 rfl) (wd hw 28 rfl) (wd hw 29 rfl) eh1 P1 (hb hby at_149) (rfl : 149 + 3 = 152) (by decide) (by decide) fun T3 hh3 a3 q3 g3 X3 eh3 E3 P3 A3 D3 => ?_
    have f4 : Fld Z hh3 a3 "com/example/dosimeter/dosimeter/model/ResourceKey" "kind" "Lcom/example/dosimeter/dosimeter/model/ResourceKind;" .null := D3 (Or.inr (wd hw 46 rfl)) (ty := (.object "com/example/dosimeter/dosimeter/model/ResourceKind")) (by decide)
    have f5 : Fld Z hh3 a3 "com/example/dosimeter/dosimeter/model/ResourceKey" "id" "Ljava/lang/String;" .null := D3 (Or.inr (wd hw 48 rfl)) (ty := (.object "java/lang/String")) (by decide)
    refine g_dup X3 hx (hb hby at_152) (rfl : 152 + 1 = 153) rfl ?_
    refine g_iload X3 hx (hb hby at_153) (rfl : 153 + 2 = 155) rfl ?_
    have F7 := (staP I0 P3)
    have F8 := (staP I1 P3)
    have F9 := (staP I2 P3)
    have F10 := (staP I3 P3)
    have F11 := (staP I4 P3)
    have F12 := (staP I5 P3)
    have F13 := (staP I6 P3)
    refine g_static X3 hx hZ1 ho1 eh3 (rm_kind hw i1 t0 t1 t2 t3 t4 t5 t6 F7 F8 F9 F10 F11 F12 F13 h1) (wd hw 30 rfl) (wd hw 31 rfl) (wd hw 32 rfl) (wd hw 3 rfl) (by decide) (argsL := [(.int i1)]) (rest := [(.ref a3), (.ref a3)]) rfl rfl (ps := [.int]) (rt := (some (.object "com/example/dosimeter/dosimeter/model/ResourceKind"))) (by decide) rfl (W := 2) (Nat.le_of_eq rfl) (by decide) (by decide) (by decide) (by decide) (by rw [hml]; rfl) (hb hby at_155) (rfl : 155 + 3 = 158) fun v6 T6 hh6 L6 X6 eh6 Q6 => ?_
    obtain ⟨rfl, Pc6⟩ := Q6
    have P6 := P3.call Pc6 all0
    show OGo p e below K T6 (mkF m 158 #[.val (.int p1), .val (.int p2), .val (.int p3), .val (.int p4), .val (.int p5), .val (.int i1), .val (.int i2), .val (.int la), .val (.int x0), .val (.int x1), .val (.int x2), .val (.int lb), .val (.int y0), .val (.int y1), .val (.int y2), .val (.ref x_1), .unset, .unset, .unset, .unset] [(.ref (KD i1 t0 t1 t2 t3 t4 t5 t6)), (.ref a3), (.ref a3)])
    refine g_iload X6 hx (hb hby at_158) (rfl : 158 + 2 = 160) rfl ?_
    refine g_iload X6 hx (hb hby at_160) (rfl : 160 + 2 = 162) rfl ?_
    refine g_iload X6 hx (hb hby at_162) (rfl : 162 + 2 = 164) rfl ?_
    refine g_iload X6 hx (hb hby at_164) (rfl : 164 + 2 = 166) rfl ?_
    have C15 := CHr.ext E3 R2.1
    have R16 := R2.trans C15
    have C17 := CHr.keep Pc6.1 sf0 R16.1
    have R18 := R16.trans C17
    have F19 := (staP I14 P6)
    refine g_staticC (s := s) X6 hx hZ1 ho1 eh6 hS1 (Nat.le_trans (Nat.le_trans hk1 E3.1) Pc6.size) (elW hw) R18 (rm_id hw la x0 x1 x2 cs F19 hla hx0 hx1 hx2 gx0 gx1 gx2 hcs) (wd hw 1 rfl) (wd hw 2 rfl) (wd hw 4 rfl) (wd hw 3 rfl) (by decide) (argsL := [(.int la), (.int x0), (.int x1), (.int x2)]) (rest := [(.ref (KD i1 t0 t1 t2 t3 t4 t5 t6)), (.ref a3), (.ref a3)]) rfl rfl (ps := [.int, .char, .char, .char]) (rt := (some (.object "java/lang/String"))) (by decide) rfl (W := 3) (Nat.le_of_eq rfl) (by decide) (by decide) (by decide) (by decide) (by rw [hml]; rfl) (hb hby at_166) (rfl : 166 + 3 = 169) fun v14 T14 hh14 L14 vm14 n14 X14 eh14 Q14 hS14 hk14 hZ14 ho14 C14 => ?_
    obtain ⟨x_14, b_14, kb_14, rfl, Pc14, G14_0, G14_1, G14_2, G14_3, G14_4⟩ := Q14
    have P14 := P6.call Pc14 all0
    show OGo p e below K T14 (mkF m 169 #[.val (.int p1), .val (.int p2), .val (.int p3), .val (.int p4), .val (.int p5), .val (.int i1), .val (.int i2), .val (.int la), .val (.int x0), .val (.int x1), .val (.int x2), .val (.int lb), .val (.int y0), .val (.int y1), .val (.int y2), .val (.ref x_1), .unset, .unset, .unset, .unset] [(.ref x_14), (.ref (KD i1 t0 t1 t2 t3 t4 t5 t6)), (.ref a3), (.ref a3)])
    have R20 := R18.trans C14
    have F22 := (exaP (exaP A3 Pc6) Pc14)
    have F23 := (fldP (fldP f4 Pc6 nin0) Pc14 nin0)
    have F24 := (fldP (fldP f5 Pc6 nin0) Pc14 nin0)
    refine g_special X14 hx hZ14 ho14 eh14 (rm_rki hw a3 (KD i1 t0 t1 t2 t3 t4 t5 t6) x_14 F22 F23 F24) rfl (wd hw 36 rfl) (wd hw 37 rfl) (wd hw 38 rfl) (wd hw 29 rfl) (by decide) (a := a3) (argsL := [(.ref (KD i1 t0 t1 t2 t3 t4 t5 t6)), (.ref x_14)]) (rest := [(.ref a3)]) rfl rfl (ps := [(.object "com/example/dosimeter/dosimeter/model/ResourceKind"), (.object "java/lang/String")]) (by decide) rfl (W := 1) (Nat.le_of_eq rfl) (by decide) (by decide) (by decide) (by decide) (by rw [hml]; rfl) (hb hby at_169) (rfl : 169 + 3 = 172) fun v21 T21 hh21 L21 X21 eh21 Q21 => ?_
    obtain ⟨rfl, Pc21, G21_0, G21_1, G21_2⟩ := Q21
    have P21 := P14.call Pc21 (allS (Or.inr g3) all0)
    show OGo p e below K T21 (mkF m 172 #[.val (.int p1), .val (.int p2), .val (.int p3), .val (.int p4), .val (.int p5), .val (.int i1), .val (.int i2), .val (.int la), .val (.int x0), .val (.int x1), .val (.int x2), .val (.int lb), .val (.int y0), .val (.int y1), .val (.int y2), .val (.ref x_1), .unset, .unset, .unset, .unset] [(.ref a3)])
    refine g_astore X21 hx (hb hby at_172) (rfl : 172 + 2 = 174) rfl (Ls' := #[.val (.int p1), .val (.int p2), .val (.int p3), .val (.int p4), .val (.int p5), .val (.int i1), .val (.int i2), .val (.int la), .val (.int x0), .val (.int x1), .val (.int x2), .val (.int lb), .val (.int y0), .val (.int y1), .val (.int y2), .val (.ref x_1), .val (.ref a3), .unset, .unset, .unset]) rfl ?_
    refine g_new X21 hx hZ14 ho14 (wd hw 27 rfl) (wd hw 28 rfl) (wd hw 29 rfl) eh21 P21 (hb hby at_174) (rfl : 174 + 3 = 177) (by decide) (by decide) fun T25 hh25 a25 q25 g25 X25 eh25 E25 P25 A25 D25 => ?_
    have f26 : Fld Z hh25 a25 "com/example/dosimeter/dosimeter/model/ResourceKey" "kind" "Lcom/example/dosimeter/dosimeter/model/ResourceKind;" .null := D25 (Or.inr (wd hw 46 rfl)) (ty := (.object "com/example/dosimeter/dosimeter/model/ResourceKind")) (by decide)
    have f27 : Fld Z hh25 a25 "com/example/dosimeter/dosimeter/model/ResourceKey" "id" "Ljava/lang/String;" .null := D25 (Or.inr (wd hw 48 rfl)) (ty := (.object "java/lang/String")) (by decide)
    refine g_dup X25 hx (hb hby at_177) (rfl : 177 + 1 = 178) rfl ?_
    refine g_iload X25 hx (hb hby at_178) (rfl : 178 + 2 = 180) rfl ?_
    have F29 := ((staP (staP (staP F7 Pc6) Pc14) Pc21).ext E25)
    have F30 := ((staP (staP (staP F8 Pc6) Pc14) Pc21).ext E25)
    have F31 := ((staP (staP (staP F9 Pc6) Pc14) Pc21).ext E25)
    have F32 := ((staP (staP (staP F10 Pc6) Pc14) Pc21).ext E25)
    have F33 := ((staP (staP (staP F11 Pc6) Pc14) Pc21).ext E25)
    have F34 := ((staP (staP (staP F12 Pc6) Pc14) Pc21).ext E25)
    have F35 := ((staP (staP (staP F13 Pc6) Pc14) Pc21).ext E25)
    refine g_static X25 hx hZ14 ho14 eh25 (rm_kind hw i2 t0 t1 t2 t3 t4 t5 t6 F29 F30 F31 F32 F33 F34 F35 h2) (wd hw 30 rfl) (wd hw 31 rfl) (wd hw 32 rfl) (wd hw 3 rfl) (by decide) (argsL := [(.int i2)]) (rest := [(.ref a25), (.ref a25)]) rfl rfl (ps := [.int]) (rt := (some (.object "com/example/dosimeter/dosimeter/model/ResourceKind"))) (by decide) rfl (W := 2) (Nat.le_of_eq rfl) (by decide) (by decide) (by decide) (by decide) (by rw [hml]; rfl) (hb hby at_180) (rfl : 180 + 3 = 183) fun v28 T28 hh28 L28 X28 eh28 Q28 => ?_
    obtain ⟨rfl, Pc28⟩ := Q28
    have P28 := P25.call Pc28 all0
    show OGo p e below K T28 (mkF m 183 #[.val (.int p1), .val (.int p2), .val (.int p3), .val (.int p4), .val (.int p5), .val (.int i1), .val (.int i2), .val (.int la), .val (.int x0), .val (.int x1), .val (.int x2), .val (.int lb), .val (.int y0), .val (.int y1), .val (.int y2), .val (.ref x_1), .val (.ref a3), .unset, .unset, .unset] [(.ref (KD i2 t0 t1 t2 t3 t4 t5 t6)), (.ref a25), (.ref a25)])
    refine g_iload X28 hx (hb hby at_183) (rfl : 183 + 2 = 185) rfl ?_
    refine g_iload X28 hx (hb hby at_185) (rfl : 185 + 2 = 187) rfl ?_
    refine g_iload X28 hx (hb hby at_187) (rfl : 187 + 2 = 189) rfl ?_
    refine g_iload X28 hx (hb hby at_189) (rfl : 189 + 2 = 191) rfl ?_
    have C37 := CHr.keep Pc21.1 (sfS (Safe.exa hZ14.alike F22 (by decide) (by decide)) sf0) R20.1
    have R38 := R20.trans C37
    have C39 := CHr.ext E25 R38.1
    have R40 := R38.trans C39
    have C41 := CHr.keep Pc28.1 sf0 R40.1
    have R42 := R40.trans C41
    have F43 := (staP ((staP (staP F19 Pc14) Pc21).ext E25) Pc28)
    refine g_staticC (s := s) X28 hx hZ14 ho14 eh28 hS14 (Nat.le_trans (Nat.le_trans (Nat.le_trans hk14 Pc21.size) E25.1) Pc28.size) (elW hw) R42 (rm_id hw lb y0 y1 y2 cs F43 hlb hy0 hy1 hy2 gy0 gy1 gy2 hcs) (wd hw 1 rfl) (wd hw 2 rfl) (wd hw 4 rfl) (wd hw 3 rfl) (by decide) (argsL := [(.int lb), (.int y0), (.int y1), (.int y2)]) (rest := [(.ref (KD i2 t0 t1 t2 t3 t4 t5 t6)), (.ref a25), (.ref a25)]) rfl rfl (ps := [.int, .char, .char, .char]) (rt := (some (.object "java/lang/String"))) (by decide) rfl (W := 3) (Nat.le_of_eq rfl) (by decide) (by decide) (by decide) (by decide) (by rw [hml]; rfl) (hb hby at_191) (rfl : 191 + 3 = 194) fun v36 T36 hh36 L36 vm36 n36 X36 eh36 Q36 hS36 hk36 hZ36 ho36 C36 => ?_
    obtain ⟨x_36, b_36, kb_36, rfl, Pc36, G36_0, G36_1, G36_2, G36_3, G36_4⟩ := Q36
    have P36 := P28.call Pc36 all0
    show OGo p e below K T36 (mkF m 194 #[.val (.int p1), .val (.int p2), .val (.int p3), .val (.int p4), .val (.int p5), .val (.int i1), .val (.int i2), .val (.int la), .val (.int x0), .val (.int x1), .val (.int x2), .val (.int lb), .val (.int y0), .val (.int y1), .val (.int y2), .val (.ref x_1), .val (.ref a3), .unset, .unset, .unset] [(.ref x_36), (.ref (KD i2 t0 t1 t2 t3 t4 t5 t6)), (.ref a25), (.ref a25)])
    have R44 := R42.trans C36
    have F46 := (exaP (exaP A25 Pc28) Pc36)
    have F47 := (fldP (fldP f26 Pc28 nin0) Pc36 nin0)
    have F48 := (fldP (fldP f27 Pc28 nin0) Pc36 nin0)
    refine g_special X36 hx hZ36 ho36 eh36 (rm_rki hw a25 (KD i2 t0 t1 t2 t3 t4 t5 t6) x_36 F46 F47 F48) rfl (wd hw 36 rfl) (wd hw 37 rfl) (wd hw 38 rfl) (wd hw 29 rfl) (by decide) (a := a25) (argsL := [(.ref (KD i2 t0 t1 t2 t3 t4 t5 t6)), (.ref x_36)]) (rest := [(.ref a25)]) rfl rfl (ps := [(.object "com/example/dosimeter/dosimeter/model/ResourceKind"), (.object "java/lang/String")]) (by decide) rfl (W := 1) (Nat.le_of_eq rfl) (by decide) (by decide) (by decide) (by decide) (by rw [hml]; rfl) (hb hby at_194) (rfl : 194 + 3 = 197) fun v45 T45 hh45 L45 X45 eh45 Q45 => ?_
    obtain ⟨rfl, Pc45, G45_0, G45_1, G45_2⟩ := Q45
    have P45 := P36.call Pc45 (allS (Or.inr g25) all0)
    show OGo p e below K T45 (mkF m 197 #[.val (.int p1), .val (.int p2), .val (.int p3), .val (.int p4), .val (.int p5), .val (.int i1), .val (.int i2), .val (.int la), .val (.int x0), .val (.int x1), .val (.int x2), .val (.int lb), .val (.int y0), .val (.int y1), .val (.int y2), .val (.ref x_1), .val (.ref a3), .unset, .unset, .unset] [(.ref a25)])
    refine g_astore X45 hx (hb hby at_197) (rfl : 197 + 2 = 199) rfl (Ls' := #[.val (.int p1), .val (.int p2), .val (.int p3), .val (.int p4), .val (.int p5), .val (.int i1), .val (.int i2), .val (.int la), .val (.int x0), .val (.int x1), .val (.int x2), .val (.int lb), .val (.int y0), .val (.int y1), .val (.int y2), .val (.ref x_1), .val (.ref a3), .val (.ref a25), .unset, .unset]) rfl ?_
    refine g_iload X45 hx (hb hby at_199) (rfl : 199 + 2 = 201) rfl ?_
    refine g_iload X45 hx (hb hby at_201) (rfl : 201 + 2 = 203) rfl ?_
    have hiff := keyIff h1 h2 hla hlb hx0 gx0 hx1 gx1 hx2 gx2 hy0 gy0 hy1 gy1 hy2 gy2 I7 I8 I9 I10 I11 I12 I13
    have fin : ∀ (sm ex : Int32) (hex : ex = if (i1 = i2 ∧ la = lb ∧ (la < 1 ∨ x0 = y0) ∧ (la < 2 ∨ x1 = y1) ∧ (la < 3 ∨ x2 = y2)) then 1 else 0), OGo p e below K T45 (mkF m 271 #[.val (.int p1), .val (.int p2), .val (.int p3), .val (.int p4), .val (.int p5), .val (.int i1), .val (.int i2), .val (.int la), .val (.int x0), .val (.int x1), .val (.int x2), .val (.int lb), .val (.int y0), .val (.int y1), .val (.int y2), .val (.ref x_1), .val (.ref a3), .val (.ref a25), .val (.int sm), .val (.int ex)] []) := by
      intro sm ex hex
      refine g_aload X45 hx (hb hby at_271) (rfl : 271 + 2 = 273) rfl rfl ?_
      refine g_aload X45 hx (hb hby at_273) (rfl : 273 + 2 = 275) rfl rfl ?_
      have F50 := (exaP ((exaP G14_1 Pc21).ext E25) Pc28)
      have ne51 : x_14 ≠ x_36 := Nat.ne_of_lt (Nat.lt_of_lt_of_le F50.lt G36_0)
      have F52 := (exaP (exaP (exaP (G21_0.ext E25) Pc28) Pc36) Pc45)
      have ne53 : a3 ≠ a25 := Nat.ne_of_lt (Nat.lt_of_lt_of_le G21_0.lt (Nat.le_of_eq q25.symm))
      have F54 := (fldP (fldP (fldP (G21_1.ext E25) Pc28 nin0) Pc36 nin0) Pc45 (ninS ne53 nin0))
      have F55 := (fldP (fldP (fldP (G21_2.ext E25) Pc28 nin0) Pc36 nin0) Pc45 (ninS ne53 nin0))
      have F56 := (exaP (exaP F50 Pc36) Pc45)
      have F57 := (exaP A3 Pc6)
      have ne58 : a3 ≠ x_14 := Nat.ne_of_lt (Nat.lt_of_lt_of_le F57.lt G14_0)
      have F59 := (exaP G14_1 Pc21)
      have ne60 : x_14 ≠ a25 := Nat.ne_of_lt (Nat.lt_of_lt_of_le F59.lt (Nat.le_of_eq q25.symm))
      have F61 := (fldP (fldP (fldP ((fldP G14_2 Pc21 (ninS (Ne.symm ne58) nin0)).ext E25) Pc28 nin0) Pc36 nin0) Pc45 (ninS ne60 nin0))
      have F62 := (fldP (fldP (fldP ((fldP G14_3 Pc21 (ninS (Ne.symm ne58) nin0)).ext E25) Pc28 nin0) Pc36 nin0) Pc45 (ninS ne60 nin0))
      have ne63 : a3 ≠ b_14 := neAry F22 (wd hw 28 rfl) G14_4
      have F64 := (aryP G14_4 Pc21 (ninS (Ne.symm ne63) nin0))
      have ne65 : b_14 ≠ a25 := Nat.ne_of_lt (Nat.lt_of_lt_of_le (aryLt F64) (Nat.le_of_eq q25.symm))
      have F66 := (aryP (aryP (aryP (aryE (aryP G14_4 Pc21 (ninS (Ne.symm ne63) nin0)) E25) Pc28 nin0) Pc36 nin0) Pc45 (ninS ne65 nin0))
      have F67 := (exaP G36_1 Pc45)
      have F68 := (exaP A25 Pc28)
      have ne69 : a25 ≠ x_36 := Nat.ne_of_lt (Nat.lt_of_lt_of_le F68.lt G36_0)
      have F70 := (fldP G36_2 Pc45 (ninS (Ne.symm ne69) nin0))
      have F71 := (fldP G36_3 Pc45 (ninS (Ne.symm ne69) nin0))
      have ne72 : a25 ≠ b_36 := neAry F46 (wd hw 28 rfl) G36_4
      have F73 := (aryP G36_4 Pc45 (ninS (Ne.symm ne72) nin0))
      have F74 := (staP (staP F43 Pc36) Pc45)
      refine g_virtual X45 hx hZ36 ho36 eh45 (rm_keq hw a3 a25 (KD i1 t0 t1 t2 t3 t4 t5 t6) (KD i2 t0 t1 t2 t3 t4 t5 t6) x_14 x_36 b_14 kb_14 la x0 x1 x2 b_36 kb_36 lb y0 y1 y2 cs F52 F54 F55 G45_0 G45_1 G45_2 F56 F61 F62 F66 F67 F70 F71 F73 F74 hla hlb hcs ne51) (C := "com/example/dosimeter/dosimeter/model/ResourceKey") (wd hw 51 rfl) (wd hw 52 rfl) (notFace_of_selects (args := #[]) (mvT hZ36 (wd hw 54 rfl))) (wd hw 54 rfl) (wd hw 53 rfl) (wd hw 55 rfl) (wd hw 29 rfl) (by decide) (a := a3) F52 (argsL := [(.ref a25)]) (rest := []) rfl rfl (ps := [(.object "java/lang/Object")]) (rt := (some .boolean)) (by decide) rfl (W := 0) (Nat.le_of_eq rfl) (by decide) (by decide) (by decide) (by decide) (by rw [hml]; rfl) (hb hby at_275) (rfl : 275 + 3 = 278) fun v49 T49 hh49 L49 X49 eh49 Q49 => ?_
      obtain ⟨rfl, Pc49⟩ := Q49
      have P49 := P45.call Pc49 all0
      show OGo p e below K T49 (mkF m 278 #[.val (.int p1), .val (.int p2), .val (.int p3), .val (.int p4), .val (.int p5), .val (.int i1), .val (.int i2), .val (.int la), .val (.int x0), .val (.int x1), .val (.int x2), .val (.int lb), .val (.int y0), .val (.int y1), .val (.int y2), .val (.ref x_1), .val (.ref a3), .val (.ref a25), .val (.int sm), .val (.int ex)] [(.int (if (KD i1 t0 t1 t2 t3 t4 t5 t6) = (KD i2 t0 t1 t2 t3 t4 t5 t6) ∧ (BL la x0 x1 x2) = (BL lb y0 y1 y2) then 1 else 0 : Int32))])
      refine g_iload X49 hx (hb hby at_278) (rfl : 278 + 2 = 280) rfl ?_
      refine g_icmpN X49 hx (hb hby at_280) (XT.ii_ne_f ((iteIff hiff).trans hex.symm)) (rfl : 280 + 3 = 283) ?_
      refine g_aload X49 hx (hb hby at_283) (rfl : 283 + 2 = 285) rfl rfl ?_
      refine g_aload X49 hx (hb hby at_285) (rfl : 285 + 2 = 287) rfl rfl ?_
      have F76 := (exaP G45_0 Pc49)
      have F77 := (fldP G45_1 Pc49 nin0)
      have F78 := (fldP G45_2 Pc49 nin0)
      have F79 := (exaP F52 Pc49)
      have F80 := (fldP F54 Pc49 nin0)
      have F81 := (fldP F55 Pc49 nin0)
      have F82 := (exaP F67 Pc49)
      have F83 := (fldP F70 Pc49 nin0)
      have F84 := (fldP F71 Pc49 nin0)
      have F85 := (aryP F73 Pc49 nin0)
      have F86 := (exaP F56 Pc49)
      have F87 := (fldP F61 Pc49 nin0)
      have F88 := (fldP F62 Pc49 nin0)
      have F89 := (aryP F66 Pc49 nin0)
      have F90 := (staP F74 Pc49)
      refine g_virtual X49 hx hZ36 ho36 eh49 (rm_keq hw a25 a3 (KD i2 t0 t1 t2 t3 t4 t5 t6) (KD i1 t0 t1 t2 t3 t4 t5 t6) x_36 x_14 b_36 kb_36 lb y0 y1 y2 b_14 kb_14 la x0 x1 x2 cs F76 F77 F78 F79 F80 F81 F82 F83 F84 F85 F86 F87 F88 F89 F90 hlb hla hcs (Ne.symm ne51)) (C := "com/example/dosimeter/dosimeter/model/ResourceKey") (wd hw 51 rfl) (wd hw 52 rfl) (notFace_of_selects (args := #[]) (mvT hZ36 (wd hw 54 rfl))) (wd hw 54 rfl) (wd hw 53 rfl) (wd hw 55 rfl) (wd hw 29 rfl) (by decide) (a := a25) F76 (argsL := [(.ref a3)]) (rest := []) rfl rfl (ps := [(.object "java/lang/Object")]) (rt := (some .boolean)) (by decide) rfl (W := 0) (Nat.le_of_eq rfl) (by decide) (by decide) (by decide) (by decide) (by rw [hml]; rfl) (hb hby at_287) (rfl : 287 + 3 = 290) fun v75 T75 hh75 L75 X75 eh75 Q75 => ?_
      obtain ⟨rfl, Pc75⟩ := Q75
      have P75 := P49.call Pc75 all0
      show OGo p e below K T75 (mkF m 290 #[.val (.int p1), .val (.int p2), .val (.int p3), .val (.int p4), .val (.int p5), .val (.int i1), .val (.int i2), .val (.int la), .val (.int x0), .val (.int x1), .val (.int x2), .val (.int lb), .val (.int y0), .val (.int y1), .val (.int y2), .val (.ref x_1), .val (.ref a3), .val (.ref a25), .val (.int sm), .val (.int ex)] [(.int (if (KD i2 t0 t1 t2 t3 t4 t5 t6) = (KD i1 t0 t1 t2 t3 t4 t5 t6) ∧ (BL lb y0 y1 y2) = (BL la x0 x1 x2) then 1 else 0 : Int32))])
      refine g_iload X75 hx (hb hby at_290) (rfl : 290 + 2 = 292) rfl ?_
      refine g_icmpN X75 hx (hb hby at_292) (XT.ii_ne_f ((iteIff (swIff.trans hiff)).trans hex.symm)) (rfl : 292 + 3 = 295) ?_
      refine g_aload X75 hx (hb hby at_295) (rfl : 295 + 2 = 297) rfl rfl ?_
      refine g_aload X75 hx (hb hby at_297) (rfl : 297 + 2 = 299) rfl rfl ?_
      have F92 := (exaP F79 Pc75)
      have F93 := (fldP F80 Pc75 nin0)
      have F94 := (fldP F81 Pc75 nin0)
      have F95 := (exaP F86 Pc75)
      refine g_virtual X75 hx hZ36 ho36 eh75 (rm_kes hw a3 (KD i1 t0 t1 t2 t3 t4 t5 t6) x_14 F92 F93 F94 F95) (C := "com/example/dosimeter/dosimeter/model/ResourceKey") (wd hw 51 rfl) (wd hw 52 rfl) (notFace_of_selects (args := #[]) (mvT hZ36 (wd hw 54 rfl))) (wd hw 54 rfl) (wd hw 53 rfl) (wd hw 55 rfl) (wd hw 29 rfl) (by decide) (a := a3) F92 (argsL := [(.ref a3)]) (rest := []) rfl rfl (ps := [(.object "java/lang/Object")]) (rt := (some .boolean)) (by decide) rfl (W := 0) (Nat.le_of_eq rfl) (by decide) (by decide) (by decide) (by decide) (by rw [hml]; rfl) (hb hby at_299) (rfl : 299 + 3 = 302) fun v91 T91 hh91 L91 X91 eh91 Q91 => ?_
      obtain ⟨rfl, Pc91⟩ := Q91
      have P91 := P75.call Pc91 all0
      show OGo p e below K T91 (mkF m 302 #[.val (.int p1), .val (.int p2), .val (.int p3), .val (.int p4), .val (.int p5), .val (.int i1), .val (.int i2), .val (.int la), .val (.int x0), .val (.int x1), .val (.int x2), .val (.int lb), .val (.int y0), .val (.int y1), .val (.int y2), .val (.ref x_1), .val (.ref a3), .val (.ref a25), .val (.int sm), .val (.int ex)] [(.int (1 : Int32))])
      refine g_ifN X91 hx (hb hby at_302) (XT.i0_eq_f (by decide)) (rfl : 302 + 3 = 305) ?_
      refine g_aload X91 hx (hb hby at_305) (rfl : 305 + 2 = 307) rfl rfl ?_
      refine g_anull X91 hx (hb hby at_307) (rfl : 307 + 1 = 308) ?_
      have F97 := (exaP F92 Pc91)
      refine g_virtual X91 hx hZ36 ho36 eh91 (rm_ken hw a3) (C := "com/example/dosimeter/dosimeter/model/ResourceKey") (wd hw 51 rfl) (wd hw 52 rfl) (notFace_of_selects (args := #[]) (mvT hZ36 (wd hw 54 rfl))) (wd hw 54 rfl) (wd hw 53 rfl) (wd hw 55 rfl) (wd hw 29 rfl) (by decide) (a := a3) F97 (argsL := [.null]) (rest := []) rfl rfl (ps := [(.object "java/lang/Object")]) (rt := (some .boolean)) (by decide) rfl (W := 0) (Nat.le_of_eq rfl) (by decide) (by decide) (by decide) (by decide) (by rw [hml]; rfl) (hb hby at_308) (rfl : 308 + 3 = 311) fun v96 T96 hh96 L96 X96 eh96 Q96 => ?_
      obtain ⟨rfl, Pc96⟩ := Q96
      have P96 := P91.call Pc96 all0
      show OGo p e below K T96 (mkF m 311 #[.val (.int p1), .val (.int p2), .val (.int p3), .val (.int p4), .val (.int p5), .val (.int i1), .val (.int i2), .val (.int la), .val (.int x0), .val (.int x1), .val (.int x2), .val (.int lb), .val (.int y0), .val (.int y1), .val (.int y2), .val (.ref x_1), .val (.ref a3), .val (.ref a25), .val (.int sm), .val (.int ex)] [(.int (0 : Int32))])
      refine g_ifN X96 hx (hb hby at_311) (XT.i0_ne_f (by decide)) (rfl : 311 + 3 = 314) ?_
      refine g_aload X96 hx (hb hby at_314) (rfl : 314 + 2 = 316) rfl rfl ?_
      refine g_aload X96 hx (hb hby at_316) (rfl : 316 + 2 = 318) rfl rfl ?_
      have F99 := (exaP (exaP (exaP (exaP (exaP (exaP (exaP ((exaP (exaP (exaP (G1_1.ext E3) Pc6) Pc14) Pc21).ext E25) Pc28) Pc36) Pc45) Pc49) Pc75) Pc91) Pc96)
      have F100 := (exaP F97 Pc96)
      refine g_virtual X96 hx hZ36 ho36 eh96 (rm_ket hw a3 x_1 F99) (C := "com/example/dosimeter/dosimeter/model/ResourceKey") (wd hw 51 rfl) (wd hw 52 rfl) (notFace_of_selects (args := #[]) (mvT hZ36 (wd hw 54 rfl))) (wd hw 54 rfl) (wd hw 53 rfl) (wd hw 55 rfl) (wd hw 29 rfl) (by decide) (a := a3) F100 (argsL := [(.ref x_1)]) (rest := []) rfl rfl (ps := [(.object "java/lang/Object")]) (rt := (some .boolean)) (by decide) rfl (W := 0) (Nat.le_of_eq rfl) (by decide) (by decide) (by decide) (by decide) (by rw [hml]; rfl) (hb hby at_318) (rfl : 318 + 3 = 321) fun v98 T98 hh98 L98 X98 eh98 Q98 => ?_
      obtain ⟨rfl, Pc98⟩ := Q98
      have P98 := P96.call Pc98 all0
      show OGo p e below K T98 (mkF m 321 #[.val (.int p1), .val (.int p2), .val (.int p3), .val (.int p4), .val (.int p5), .val (.int i1), .val (.int i2), .val (.int la), .val (.int x0), .val (.int x1), .val (.int x2), .val (.int lb), .val (.int y0), .val (.int y1), .val (.int y2), .val (.ref x_1), .val (.ref a3), .val (.ref a25), .val (.int sm), .val (.int ex)] [(.int (0 : Int32))])
      refine g_ifN X98 hx (hb hby at_321) (XT.i0_ne_f (by decide)) (rfl : 321 + 3 = 324) ?_
      refine g_iconst X98 hx (1 : Int32) (hb hby at_324) (rfl : 324 + 1 = 325) (by decide) ?_
      refine g_goto X98 hx (hb hby at_325) (by decide) (pc' := 329) (by decide) ?_
      have C101 := CHr.keep Pc45.1 (sfS (Safe.exa hZ36.alike F46 (by decide) (by decide)) sf0) R44.1
      have R102 := R44.trans C101
      have C103 := CHr.keep Pc49.1 sf0 R102.1
      have R104 := R102.trans C103
      have C105 := CHr.keep Pc75.1 sf0 R104.1
      have R106 := R104.trans C105
      have C107 := CHr.keep Pc91.1 sf0 R106.1
      have R108 := R106.trans C107
      have C109 := CHr.keep Pc96.1 sf0 R108.1
      have R110 := R108.trans C109
      have C111 := CHr.keep Pc98.1 sf0 R110.1
      have R112 := R110.trans C111
      exact g_retC (s := s) X98 hx hret hlk hS36 (Nat.le_trans (Nat.le_trans (Nat.le_trans (Nat.le_trans (Nat.le_trans (Nat.le_trans hk36 Pc45.size) Pc49.size) Pc75.size) Pc91.size) Pc96.size) Pc98.size) hZ36 (elW hw) es R112 rfl (Or.inl ⟨rfl, Or.inr (Or.inl rfl), _, rfl⟩) (hb hby at_329) (by decide) (by decide) eh98 hK ⟨rfl, P98⟩
    by_cases hlab : la = lb
    · refine g_icmpN X45 hx (hb hby at_203) (XT.ii_ne_f hlab) (rfl : 203 + 3 = 206) ?_
      refine g_iload X45 hx (hb hby at_206) (rfl : 206 + 2 = 208) rfl ?_
      refine g_iconst X45 hx (1 : Int32) (hb hby at_208) (rfl : 208 + 1 = 209) (by decide) ?_
      by_cases hs0 : la < (1 : Int32)
      · refine g_icmpY X45 hx (hb hby at_209) (XT.ii_lt_t hs0) (by decide) (pc' := 219) (by decide) ?_
        refine g_iload X45 hx (hb hby at_219) (rfl : 219 + 2 = 221) rfl ?_
        refine g_iconst X45 hx (2 : Int32) (hb hby at_221) (rfl : 221 + 1 = 222) (by decide) ?_
        refine g_icmpY X45 hx (hb hby at_222) (XT.ii_lt_t (ltUp10 hs0)) (by decide) (pc' := 232) (by decide) ?_
        refine g_iload X45 hx (hb hby at_232) (rfl : 232 + 2 = 234) rfl ?_
        refine g_iconst X45 hx (3 : Int32) (hb hby at_234) (rfl : 234 + 1 = 235) (by decide) ?_
        refine g_icmpY X45 hx (hb hby at_235) (XT.ii_lt_t (ltUp20 hs0)) (by decide) (pc' := 245) (by decide) ?_
        refine g_iconst X45 hx (1 : Int32) (hb hby at_245) (rfl : 245 + 1 = 246) (by decide) ?_
        refine g_goto X45 hx (hb hby at_246) (by decide) (pc' := 250) (by decide) ?_
        refine g_istore X45 hx (hb hby at_250) (rfl : 250 + 2 = 252) (Ls' := #[.val (.int p1), .val (.int p2), .val (.int p3), .val (.int p4), .val (.int p5), .val (.int i1), .val (.int i2), .val (.int la), .val (.int x0), .val (.int x1), .val (.int x2), .val (.int lb), .val (.int y0), .val (.int y1), .val (.int y2), .val (.ref x_1), .val (.ref a3), .val (.ref a25), .val (.int (1 : Int32)), .unset]) rfl ?_
        refine g_iload X45 hx (hb hby at_252) (rfl : 252 + 2 = 254) rfl ?_
        refine g_iload X45 hx (hb hby at_254) (rfl : 254 + 2 = 256) rfl ?_
        by_cases hi : i1 = i2
        · refine g_icmpN X45 hx (hb hby at_256) (XT.ii_ne_f hi) (rfl : 256 + 3 = 259) ?_
          refine g_iload X45 hx (hb hby at_259) (rfl : 259 + 2 = 261) rfl ?_
          refine g_ifN X45 hx (hb hby at_261) (XT.i0_eq_f (by decide)) (rfl : 261 + 3 = 264) ?_
          refine g_iconst X45 hx (1 : Int32) (hb hby at_264) (rfl : 264 + 1 = 265) (by decide) ?_
          refine g_goto X45 hx (hb hby at_265) (by decide) (pc' := 269) (by decide) ?_
          refine g_istore X45 hx (hb hby at_269) (rfl : 269 + 2 = 271) (Ls' := #[.val (.int p1), .val (.int p2), .val (.int p3), .val (.int p4), .val (.int p5), .val (.int i1), .val (.int i2), .val (.int la), .val (.int x0), .val (.int x1), .val (.int x2), .val (.int lb), .val (.int y0), .val (.int y1), .val (.int y2), .val (.ref x_1), .val (.ref a3), .val (.ref a25), .val (.int (1 : Int32)), .val (.int (1 : Int32))]) rfl ?_
          exact fin _ _ (by rw [if_pos ⟨hi, hlab, Or.inl hs0, Or.inl (ltUp10 hs0), Or.inl (ltUp20 hs0)⟩])
        · refine g_icmpY X45 hx (hb hby at_256) (XT.ii_ne_t hi) (by decide) (pc' := 268) (by decide) ?_
          refine g_iconst X45 hx (0 : Int32) (hb hby at_268) (rfl : 268 + 1 = 269) (by decide) ?_
          refine g_istore X45 hx (hb hby at_269) (rfl : 269 + 2 = 271) (Ls' := #[.val (.int p1), .val (.int p2), .val (.int p3), .val (.int p4), .val (.int p5), .val (.int i1), .val (.int i2), .val (.int la), .val (.int x0), .val (.int x1), .val (.int x2), .val (.int lb), .val (.int y0), .val (.int y1), .val (.int y2), .val (.ref x_1), .val (.ref a3), .val (.ref a25), .val (.int (1 : Int32)), .val (.int (0 : Int32))]) rfl ?_
          exact fin _ _ (by rw [if_neg (fun q => hi q.1)])
      · refine g_icmpN X45 hx (hb hby at_209) (XT.ii_lt_f hs0) (rfl : 209 + 3 = 212) ?_
        refine g_iload X45 hx (hb hby at_212) (rfl : 212 + 2 = 214) rfl ?_
        refine g_iload X45 hx (hb hby at_214) (rfl : 214 + 2 = 216) rfl ?_
        by_cases hv0 : x0 = y0
        · refine g_icmpN X45 hx (hb hby at_216) (XT.ii_ne_f hv0) (rfl : 216 + 3 = 219) ?_
          refine g_iload X45 hx (hb hby at_219) (rfl : 219 + 2 = 221) rfl ?_
          refine g_iconst X45 hx (2 : Int32) (hb hby at_221) (rfl : 221 + 1 = 222) (by decide) ?_
          by_cases hs1 : la < (2 : Int32)
          · refine g_icmpY X45 hx (hb hby at_222) (XT.ii_lt_t hs1) (by decide) (pc' := 232) (by decide) ?_
            refine g_iload X45 hx (hb hby at_232) (rfl : 232 + 2 = 234) rfl ?_
            refine g_iconst X45 hx (3 : Int32) (hb hby at_234) (rfl : 234 + 1 = 235) (by decide) ?_
            refine g_icmpY X45 hx (hb hby at_235) (XT.ii_lt_t (ltUp21 hs1)) (by decide) (pc' := 245) (by decide) ?_
            refine g_iconst X45 hx (1 : Int32) (hb hby at_245) (rfl : 245 + 1 = 246) (by decide) ?_
            refine g_goto X45 hx (hb hby at_246) (by decide) (pc' := 250) (by decide) ?_
            refine g_istore X45 hx (hb hby at_250) (rfl : 250 + 2 = 252) (Ls' := #[.val (.int p1), .val (.int p2), .val (.int p3), .val (.int p4), .val (.int p5), .val (.int i1), .val (.int i2), .val (.int la), .val (.int x0), .val (.int x1), .val (.int x2), .val (.int lb), .val (.int y0), .val (.int y1), .val (.int y2), .val (.ref x_1), .val (.ref a3), .val (.ref a25), .val (.int (1 : Int32)), .unset]) rfl ?_
            refine g_iload X45 hx (hb hby at_252) (rfl : 252 + 2 = 254) rfl ?_
            refine g_iload X45 hx (hb hby at_254) (rfl : 254 + 2 = 256) rfl ?_
            by_cases hi : i1 = i2
            · refine g_icmpN X45 hx (hb hby at_256) (XT.ii_ne_f hi) (rfl : 256 + 3 = 259) ?_
              refine g_iload X45 hx (hb hby at_259) (rfl : 259 + 2 = 261) rfl ?_
              refine g_ifN X45 hx (hb hby at_261) (XT.i0_eq_f (by decide)) (rfl : 261 + 3 = 264) ?_
              refine g_iconst X45 hx (1 : Int32) (hb hby at_264) (rfl : 264 + 1 = 265) (by decide) ?_
              refine g_goto X45 hx (hb hby at_265) (by decide) (pc' := 269) (by decide) ?_
              refine g_istore X45 hx (hb hby at_269) (rfl : 269 + 2 = 271) (Ls' := #[.val (.int p1), .val (.int p2), .val (.int p3), .val (.int p4), .val (.int p5), .val (.int i1), .val (.int i2), .val (.int la), .val (.int x0), .val (.int x1), .val (.int x2), .val (.int lb), .val (.int y0), .val (.int y1), .val (.int y2), .val (.ref x_1), .val (.ref a3), .val (.ref a25), .val (.int (1 : Int32)), .val (.int (1 : Int32))]) rfl ?_
              exact fin _ _ (by rw [if_pos ⟨hi, hlab, Or.inr hv0, Or.inl hs1, Or.inl (ltUp21 hs1)⟩])
            · refine g_icmpY X45 hx (hb hby at_256) (XT.ii_ne_t hi) (by decide) (pc' := 268) (by decide) ?_
              refine g_iconst X45 hx (0 : Int32) (hb hby at_268) (rfl : 268 + 1 = 269) (by decide) ?_
              refine g_istore X45 hx (hb hby at_269) (rfl : 269 + 2 = 271) (Ls' := #[.val (.int p1), .val (.int p2), .val (.int p3), .val (.int p4), .val (.int p5), .val (.int i1), .val (.int i2), .val (.int la), .val (.int x0), .val (.int x1), .val (.int x2), .val (.int lb), .val (.int y0), .val (.int y1), .val (.int y2), .val (.ref x_1), .val (.ref a3), .val (.ref a25), .val (.int (1 : Int32)), .val (.int (0 : Int32))]) rfl ?_
              exact fin _ _ (by rw [if_neg (fun q => hi q.1)])
          · refine g_icmpN X45 hx (hb hby at_222) (XT.ii_lt_f hs1) (rfl : 222 + 3 = 225) ?_
            refine g_iload X45 hx (hb hby at_225) (rfl : 225 + 2 = 227) rfl ?_
            refine g_iload X45 hx (hb hby at_227) (rfl : 227 + 2 = 229) rfl ?_
            by_cases hv1 : x1 = y1
            · refine g_icmpN X45 hx (hb hby at_229) (XT.ii_ne_f hv1) (rfl : 229 + 3 = 232) ?_
              refine g_iload X45 hx (hb hby at_232) (rfl : 232 + 2 = 234) rfl ?_
              refine g_iconst X45 hx (3 : Int32) (hb hby at_234) (rfl : 234 + 1 = 235) (by decide) ?_
              by_cases hs2 : la < (3 : Int32)
              · refine g_icmpY X45 hx (hb hby at_235) (XT.ii_lt_t hs2) (by decide) (pc' := 245) (by decide) ?_
                refine g_iconst X45 hx (1 : Int32) (hb hby at_245) (rfl : 245 + 1 = 246) (by decide) ?_
                refine g_goto X45 hx (hb hby at_246) (by decide) (pc' := 250) (by decide) ?_
                refine g_istore X45 hx (hb hby at_250) (rfl : 250 + 2 = 252) (Ls' := #[.val (.int p1), .val (.int p2), .val (.int p3), .val (.int p4), .val (.int p5), .val (.int i1), .val (.int i2), .val (.int la), .val (.int x0), .val (.int x1), .val (.int x2), .val (.int lb), .val (.int y0), .val (.int y1), .val (.int y2), .val (.ref x_1), .val (.ref a3), .val (.ref a25), .val (.int (1 : Int32)), .unset]) rfl ?_
                refine g_iload X45 hx (hb hby at_252) (rfl : 252 + 2 = 254) rfl ?_
                refine g_iload X45 hx (hb hby at_254) (rfl : 254 + 2 = 256) rfl ?_
                by_cases hi : i1 = i2
                · refine g_icmpN X45 hx (hb hby at_256) (XT.ii_ne_f hi) (rfl : 256 + 3 = 259) ?_
                  refine g_iload X45 hx (hb hby at_259) (rfl : 259 + 2 = 261) rfl ?_
                  refine g_ifN X45 hx (hb hby at_261) (XT.i0_eq_f (by decide)) (rfl : 261 + 3 = 264) ?_
                  refine g_iconst X45 hx (1 : Int32) (hb hby at_264) (rfl : 264 + 1 = 265) (by decide) ?_
                  refine g_goto X45 hx (hb hby at_265) (by decide) (pc' := 269) (by decide) ?_
                  refine g_istore X45 hx (hb hby at_269) (rfl : 269 + 2 = 271) (Ls' := #[.val (.int p1), .val (.int p2), .val (.int p3), .val (.int p4), .val (.int p5), .val (.int i1), .val (.int i2), .val (.int la), .val (.int x0), .val (.int x1), .val (.int x2), .val (.int lb), .val (.int y0), .val (.int y1), .val (.int y2), .val (.ref x_1), .val (.ref a3), .val (.ref a25), .val (.int (1 : Int32)), .val (.int (1 : Int32))]) rfl ?_
                  exact fin _ _ (by rw [if_pos ⟨hi, hlab, Or.inr hv0, Or.inr hv1, Or.inl hs2⟩])
                · refine g_icmpY X45 hx (hb hby at_256) (XT.ii_ne_t hi) (by decide) (pc' := 268) (by decide) ?_
                  refine g_iconst X45 hx (0 : Int32) (hb hby at_268) (rfl : 268 + 1 = 269) (by decide) ?_
                  refine g_istore X45 hx (hb hby at_269) (rfl : 269 + 2 = 271) (Ls' := #[.val (.int p1), .val (.int p2), .val (.int p3), .val (.int p4), .val (.int p5), .val (.int i1), .val (.int i2), .val (.int la), .val (.int x0), .val (.int x1), .val (.int x2), .val (.int lb), .val (.int y0), .val (.int y1), .val (.int y2), .val (.ref x_1), .val (.ref a3), .val (.ref a25), .val (.int (1 : Int32)), .val (.int (0 : Int32))]) rfl ?_
                  exact fin _ _ (by rw [if_neg (fun q => hi q.1)])
              · refine g_icmpN X45 hx (hb hby at_235) (XT.ii_lt_f hs2) (rfl : 235 + 3 = 238) ?_
                refine g_iload X45 hx (hb hby at_238) (rfl : 238 + 2 = 240) rfl ?_
                refine g_iload X45 hx (hb hby at_240) (rfl : 240 + 2 = 242) rfl ?_
                by_cases hv2 : x2 = y2
                · refine g_icmpN X45 hx (hb hby at_242) (XT.ii_ne_f hv2) (rfl : 242 + 3 = 245) ?_
                  refine g_iconst X45 hx (1 : Int32) (hb hby at_245) (rfl : 245 + 1 = 246) (by decide) ?_
                  refine g_goto X45 hx (hb hby at_246) (by decide) (pc' := 250) (by decide) ?_
                  refine g_istore X45 hx (hb hby at_250) (rfl : 250 + 2 = 252) (Ls' := #[.val (.int p1), .val (.int p2), .val (.int p3), .val (.int p4), .val (.int p5), .val (.int i1), .val (.int i2), .val (.int la), .val (.int x0), .val (.int x1), .val (.int x2), .val (.int lb), .val (.int y0), .val (.int y1), .val (.int y2), .val (.ref x_1), .val (.ref a3), .val (.ref a25), .val (.int (1 : Int32)), .unset]) rfl ?_
                  refine g_iload X45 hx (hb hby at_252) (rfl : 252 + 2 = 254) rfl ?_
                  refine g_iload X45 hx (hb hby at_254) (rfl : 254 + 2 = 256) rfl ?_
                  by_cases hi : i1 = i2
                  · refine g_icmpN X45 hx (hb hby at_256) (XT.ii_ne_f hi) (rfl : 256 + 3 = 259) ?_
                    refine g_iload X45 hx (hb hby at_259) (rfl : 259 + 2 = 261) rfl ?_
                    refine g_ifN X45 hx (hb hby at_261) (XT.i0_eq_f (by decide)) (rfl : 261 + 3 = 264) ?_
                    refine g_iconst X45 hx (1 : Int32) (hb hby at_264) (rfl : 264 + 1 = 265) (by decide) ?_
                    refine g_goto X45 hx (hb hby at_265) (by decide) (pc' := 269) (by decide) ?_
                    refine g_istore X45 hx (hb hby at_269) (rfl : 269 + 2 = 271) (Ls' := #[.val (.int p1), .val (.int p2), .val (.int p3), .val (.int p4), .val (.int p5), .val (.int i1), .val (.int i2), .val (.int la), .val (.int x0), .val (.int x1), .val (.int x2), .val (.int lb), .val (.int y0), .val (.int y1), .val (.int y2), .val (.ref x_1), .val (.ref a3), .val (.ref a25), .val (.int (1 : Int32)), .val (.int (1 : Int32))]) rfl ?_
                    exact fin _ _ (by rw [if_pos ⟨hi, hlab, Or.inr hv0, Or.inr hv1, Or.inr hv2⟩])
                  · refine g_icmpY X45 hx (hb hby at_256) (XT.ii_ne_t hi) (by decide) (pc' := 268) (by decide) ?_
                    refine g_iconst X45 hx (0 : Int32) (hb hby at_268) (rfl : 268 + 1 = 269) (by decide) ?_
                    refine g_istore X45 hx (hb hby at_269) (rfl : 269 + 2 = 271) (Ls' := #[.val (.int p1), .val (.int p2), .val (.int p3), .val (.int p4), .val (.int p5), .val (.int i1), .val (.int i2), .val (.int la), .val (.int x0), .val (.int x1), .val (.int x2), .val (.int lb), .val (.int y0), .val (.int y1), .val (.int y2), .val (.ref x_1), .val (.ref a3), .val (.ref a25), .val (.int (1 : Int32)), .val (.int (0 : Int32))]) rfl ?_
                    exact fin _ _ (by rw [if_neg (fun q => hi q.1)])
                · refine g_icmpY X45 hx (hb hby at_242) (XT.ii_ne_t hv2) (by decide) (pc' := 249) (by decide) ?_
                  refine g_iconst X45 hx (0 : Int32) (hb hby at_249) (rfl : 249 + 1 = 250) (by decide) ?_
                  refine g_istore X45 hx (hb hby at_250) (rfl : 250 + 2 = 252) (Ls' := #[.val (.int p1), .val (.int p2), .val (.int p3), .val (.int p4), .val (.int p5), .val (.int i1), .val (.int i2), .val (.int la), .val (.int x0), .val (.int x1), .val (.int x2), .val (.int lb), .val (.int y0), .val (.int y1), .val (.int y2), .val (.ref x_1), .val (.ref a3), .val (.ref a25), .val (.int (0 : Int32)), .unset]) rfl ?_
                  refine g_iload X45 hx (hb hby at_252) (rfl : 252 + 2 = 254) rfl ?_
                  refine g_iload X45 hx (hb hby at_254) (rfl : 254 + 2 = 256) rfl ?_
                  by_cases hi : i1 = i2
                  · refine g_icmpN X45 hx (hb hby at_256) (XT.ii_ne_f hi) (rfl : 256 + 3 = 259) ?_
                    refine g_iload X45 hx (hb hby at_259) (rfl : 259 + 2 = 261) rfl ?_
                    refine g_ifY X45 hx (hb hby at_261) (XT.i0_eq_t (by decide)) (by decide) (pc' := 268) (by decide) ?_
                    refine g_iconst X45 hx (0 : Int32) (hb hby at_268) (rfl : 268 + 1 = 269) (by decide) ?_
                    refine g_istore X45 hx (hb hby at_269) (rfl : 269 + 2 = 271) (Ls' := #[.val (.int p1), .val (.int p2), .val (.int p3), .val (.int p4), .val (.int p5), .val (.int i1), .val (.int i2), .val (.int la), .val (.int x0), .val (.int x1), .val (.int x2), .val (.int lb), .val (.int y0), .val (.int y1), .val (.int y2), .val (.ref x_1), .val (.ref a3), .val (.ref a25), .val (.int (0 : Int32)), .val (.int (0 : Int32))]) rfl ?_
                    exact fin _ _ (by rw [if_neg (fun q => q.2.2.2.2.elim hs2 hv2)])
                  · refine g_icmpY X45 hx (hb hby at_256) (XT.ii_ne_t hi) (by decide) (pc' := 268) (by decide) ?_
                    refine g_iconst X45 hx (0 : Int32) (hb hby at_268) (rfl : 268 + 1 = 269) (by decide) ?_
                    refine g_istore X45 hx (hb hby at_269) (rfl : 269 + 2 = 271) (Ls' := #[.val (.int p1), .val (.int p2), .val (.int p3), .val (.int p4), .val (.int p5), .val (.int i1), .val (.int i2), .val (.int la), .val (.int x0), .val (.int x1), .val (.int x2), .val (.int lb), .val (.int y0), .val (.int y1), .val (.int y2), .val (.ref x_1), .val (.ref a3), .val (.ref a25), .val (.int (0 : Int32)), .val (.int (0 : Int32))]) rfl ?_
                    exact fin _ _ (by rw [if_neg (fun q => hi q.1)])
            · refine g_icmpY X45 hx (hb hby at_229) (XT.ii_ne_t hv1) (by decide) (pc' := 249) (by decide) ?_
              refine g_iconst X45 hx (0 : Int32) (hb hby at_249) (rfl : 249 + 1 = 250) (by decide) ?_
              refine g_istore X45 hx (hb hby at_250) (rfl : 250 + 2 = 252) (Ls' := #[.val (.int p1), .val (.int p2), .val (.int p3), .val (.int p4), .val (.int p5), .val (.int i1), .val (.int i2), .val (.int la), .val (.int x0), .val (.int x1), .val (.int x2), .val (.int lb), .val (.int y0), .val (.int y1), .val (.int y2), .val (.ref x_1), .val (.ref a3), .val (.ref a25), .val (.int (0 : Int32)), .unset]) rfl ?_
              refine g_iload X45 hx (hb hby at_252) (rfl : 252 + 2 = 254) rfl ?_
              refine g_iload X45 hx (hb hby at_254) (rfl : 254 + 2 = 256) rfl ?_
              by_cases hi : i1 = i2
              · refine g_icmpN X45 hx (hb hby at_256) (XT.ii_ne_f hi) (rfl : 256 + 3 = 259) ?_
                refine g_iload X45 hx (hb hby at_259) (rfl : 259 + 2 = 261) rfl ?_
                refine g_ifY X45 hx (hb hby at_261) (XT.i0_eq_t (by decide)) (by decide) (pc' := 268) (by decide) ?_
                refine g_iconst X45 hx (0 : Int32) (hb hby at_268) (rfl : 268 + 1 = 269) (by decide) ?_
                refine g_istore X45 hx (hb hby at_269) (rfl : 269 + 2 = 271) (Ls' := #[.val (.int p1), .val (.int p2), .val (.int p3), .val (.int p4), .val (.int p5), .val (.int i1), .val (.int i2), .val (.int la), .val (.int x0), .val (.int x1), .val (.int x2), .val (.int lb), .val (.int y0), .val (.int y1), .val (.int y2), .val (.ref x_1), .val (.ref a3), .val (.ref a25), .val (.int (0 : Int32)), .val (.int (0 : Int32))]) rfl ?_
                exact fin _ _ (by rw [if_neg (fun q => q.2.2.2.1.elim hs1 hv1)])
              · refine g_icmpY X45 hx (hb hby at_256) (XT.ii_ne_t hi) (by decide) (pc' := 268) (by decide) ?_
                refine g_iconst X45 hx (0 : Int32) (hb hby at_268) (rfl : 268 + 1 = 269) (by decide) ?_
                refine g_istore X45 hx (hb hby at_269) (rfl : 269 + 2 = 271) (Ls' := #[.val (.int p1), .val (.int p2), .val (.int p3), .val (.int p4), .val (.int p5), .val (.int i1), .val (.int i2), .val (.int la), .val (.int x0), .val (.int x1), .val (.int x2), .val (.int lb), .val (.int y0), .val (.int y1), .val (.int y2), .val (.ref x_1), .val (.ref a3), .val (.ref a25), .val (.int (0 : Int32)), .val (.int (0 : Int32))]) rfl ?_
                exact fin _ _ (by rw [if_neg (fun q => hi q.1)])
        · refine g_icmpY X45 hx (hb hby at_216) (XT.ii_ne_t hv0) (by decide) (pc' := 249) (by decide) ?_
          refine g_iconst X45 hx (0 : Int32) (hb hby at_249) (rfl : 249 + 1 = 250) (by decide) ?_
          refine g_istore X45 hx (hb hby at_250) (rfl : 250 + 2 = 252) (Ls' := #[.val (.int p1), .val (.int p2), .val (.int p3), .val (.int p4), .val (.int p5), .val (.int i1), .val (.int i2), .val (.int la), .val (.int x0), .val (.int x1), .val (.int x2), .val (.int lb), .val (.int y0), .val (.int y1), .val (.int y2), .val (.ref x_1), .val (.ref a3), .val (.ref a25), .val (.int (0 : Int32)), .unset]) rfl ?_
          refine g_iload X45 hx (hb hby at_252) (rfl : 252 + 2 = 254) rfl ?_
          refine g_iload X45 hx (hb hby at_254) (rfl : 254 + 2 = 256) rfl ?_
          by_cases hi : i1 = i2
          · refine g_icmpN X45 hx (hb hby at_256) (XT.ii_ne_f hi) (rfl : 256 + 3 = 259) ?_
            refine g_iload X45 hx (hb hby at_259) (rfl : 259 + 2 = 261) rfl ?_
            refine g_ifY X45 hx (hb hby at_261) (XT.i0_eq_t (by decide)) (by decide) (pc' := 268) (by decide) ?_
            refine g_iconst X45 hx (0 : Int32) (hb hby at_268) (rfl : 268 + 1 = 269) (by decide) ?_
            refine g_istore X45 hx (hb hby at_269) (rfl : 269 + 2 = 271) (Ls' := #[.val (.int p1), .val (.int p2), .val (.int p3), .val (.int p4), .val (.int p5), .val (.int i1), .val (.int i2), .val (.int la), .val (.int x0), .val (.int x1), .val (.int x2), .val (.int lb), .val (.int y0), .val (.int y1), .val (.int y2), .val (.ref x_1), .val (.ref a3), .val (.ref a25), .val (.int (0 : Int32)), .val (.int (0 : Int32))]) rfl ?_
            exact fin _ _ (by rw [if_neg (fun q => q.2.2.1.elim hs0 hv0)])
          · refine g_icmpY X45 hx (hb hby at_256) (XT.ii_ne_t hi) (by decide) (pc' := 268) (by decide) ?_
            refine g_iconst X45 hx (0 : Int32) (hb hby at_268) (rfl : 268 + 1 = 269) (by decide) ?_
            refine g_istore X45 hx (hb hby at_269) (rfl : 269 + 2 = 271) (Ls' := #[.val (.int p1), .val (.int p2), .val (.int p3), .val (.int p4), .val (.int p5), .val (.int i1), .val (.int i2), .val (.int la), .val (.int x0), .val (.int x1), .val (.int x2), .val (.int lb), .val (.int y0), .val (.int y1), .val (.int y2), .val (.ref x_1), .val (.ref a3), .val (.ref a25), .val (.int (0 : Int32)), .val (.int (0 : Int32))]) rfl ?_
            exact fin _ _ (by rw [if_neg (fun q => hi q.1)])
    · refine g_icmpY X45 hx (hb hby at_203) (XT.ii_ne_t hlab) (by decide) (pc' := 249) (by decide) ?_
      refine g_iconst X45 hx (0 : Int32) (hb hby at_249) (rfl : 249 + 1 = 250) (by decide) ?_
      refine g_istore X45 hx (hb hby at_250) (rfl : 250 + 2 = 252) (Ls' := #[.val (.int p1), .val (.int p2), .val (.int p3), .val (.int p4), .val (.int p5), .val (.int i1), .val (.int i2), .val (.int la), .val (.int x0), .val (.int x1), .val (.int x2), .val (.int lb), .val (.int y0), .val (.int y1), .val (.int y2), .val (.ref x_1), .val (.ref a3), .val (.ref a25), .val (.int (0 : Int32)), .unset]) rfl ?_
      refine g_iload X45 hx (hb hby at_252) (rfl : 252 + 2 = 254) rfl ?_
      refine g_iload X45 hx (hb hby at_254) (rfl : 254 + 2 = 256) rfl ?_
      by_cases hi : i1 = i2
      · refine g_icmpN X45 hx (hb hby at_256) (XT.ii_ne_f hi) (rfl : 256 + 3 = 259) ?_
        refine g_iload X45 hx (hb hby at_259) (rfl : 259 + 2 = 261) rfl ?_
        refine g_ifY X45 hx (hb hby at_261) (XT.i0_eq_t (by decide)) (by decide) (pc' := 268) (by decide) ?_
        refine g_iconst X45 hx (0 : Int32) (hb hby at_268) (rfl : 268 + 1 = 269) (by decide) ?_
        refine g_istore X45 hx (hb hby at_269) (rfl : 269 + 2 = 271) (Ls' := #[.val (.int p1), .val (.int p2), .val (.int p3), .val (.int p4), .val (.int p5), .val (.int i1), .val (.int i2), .val (.int la), .val (.int x0), .val (.int x1), .val (.int x2), .val (.int lb), .val (.int y0), .val (.int y1), .val (.int y2), .val (.ref x_1), .val (.ref a3), .val (.ref a25), .val (.int (0 : Int32)), .val (.int (0 : Int32))]) rfl ?_
        exact fin _ _ (by rw [if_neg (fun q => hlab q.2.1)])
      · refine g_icmpY X45 hx (hb hby at_256) (XT.ii_ne_t hi) (by decide) (pc' := 268) (by decide) ?_
        refine g_iconst X45 hx (0 : Int32) (hb hby at_268) (rfl : 268 + 1 = 269) (by decide) ?_
        refine g_istore X45 hx (hb hby at_269) (rfl : 269 + 2 = 271) (Ls' := #[.val (.int p1), .val (.int p2), .val (.int p3), .val (.int p4), .val (.int p5), .val (.int i1), .val (.int i2), .val (.int la), .val (.int x0), .val (.int x1), .val (.int x2), .val (.int lb), .val (.int y0), .val (.int y1), .val (.int y2), .val (.ref x_1), .val (.ref a3), .val (.ref a25), .val (.int (0 : Int32)), .val (.int (0 : Int32))]) rfl ?_
        exact fin _ _ (by rw [if_neg (fun q => hi q.1)])
  refine g_iloadN X0 hx (hb hby at_0) (rfl : 0 + 1 = 1) rfl ?_
  refine g_ldcI X0 hx hZ hown (wd hw 0 rfl) (hb hby at_1) (rfl : 1 + 2 = 3) ?_
  refine g_iand X0 hx (hb hby at_3) (rfl : 3 + 1 = 4) (z := (p1 &&& (2147483647 : Int32))) rfl ?_
  refine g_bipush X0 hx (7 : Int32) (hb hby at_4) (rfl : 4 + 2 = 6) (by decide) ?_
  refine g_irem X0 hx (hb hby at_6) (rfl : 6 + 1 = 7) (by decide) ?_
  refine g_istore X0 hx (hb hby at_7) (rfl : 7 + 2 = 9) (Ls' := #[.val (.int p1), .val (.int p2), .val (.int p3), .val (.int p4), .val (.int p5), .val (.int ((p1 &&& (2147483647 : Int32)) % (7 : Int32))), .unset, .unset, .unset, .unset, .unset, .unset, .unset, .unset, .unset, .unset, .unset, .unset, .unset, .unset]) rfl ?_
  refine g_iload X0 hx (hb hby at_9) (rfl : 9 + 2 = 11) rfl ?_
  refine g_iconst X0 hx (1 : Int32) (hb hby at_11) (rfl : 11 + 1 = 12) (by decide) ?_
  refine g_iand X0 hx (hb hby at_12) (rfl : 12 + 1 = 13) (z := (p5 &&& (1 : Int32))) rfl ?_
  by_cases m1 : (p5 &&& (1 : Int32)) = (0 : Int32)
  · refine g_ifY X0 hx (hb hby at_13) (XT.i0_eq_t m1) (by decide) (pc' := 21) (by decide) ?_
    refine g_iloadN X0 hx (hb hby at_21) (rfl : 21 + 1 = 22) rfl ?_
    refine g_ldcI X0 hx hZ hown (wd hw 0 rfl) (hb hby at_22) (rfl : 22 + 2 = 24) ?_
    refine g_iand X0 hx (hb hby at_24) (rfl : 24 + 1 = 25) (z := (p2 &&& (2147483647 : Int32))) rfl ?_
    refine g_bipush X0 hx (7 : Int32) (hb hby at_25) (rfl : 25 + 2 = 27) (by decide) ?_
    refine g_irem X0 hx (hb hby at_27) (rfl : 27 + 1 = 28) (by decide) ?_
    refine g_istore X0 hx (hb hby at_28) (rfl : 28 + 2 = 30) (Ls' := #[.val (.int p1), .val (.int p2), .val (.int p3), .val (.int p4), .val (.int p5), .val (.int ((p1 &&& (2147483647 : Int32)) % (7 : Int32))), .val (.int ((p2 &&& (2147483647 : Int32)) % (7 : Int32))), .unset, .unset, .unset, .unset, .unset, .unset, .unset, .unset, .unset, .unset, .unset, .unset, .unset]) rfl ?_
    refine g_iloadN X0 hx (hb hby at_30) (rfl : 30 + 1 = 31) rfl ?_
    refine g_bipush X0 hx (16 : Int32) (hb hby at_31) (rfl : 31 + 2 = 33) (by decide) ?_
    refine g_iushr X0 hx (hb hby at_33) (rfl : 33 + 1 = 34) (z := (XT.ushr p3 (16 : Int32))) rfl ?_
    refine g_iconst X0 hx (3 : Int32) (hb hby at_34) (rfl : 34 + 1 = 35) (by decide) ?_
    refine g_iand X0 hx (hb hby at_35) (rfl : 35 + 1 = 36) (z := ((XT.ushr p3 (16 : Int32)) &&& (3 : Int32))) rfl ?_
    refine g_istore X0 hx (hb hby at_36) (rfl : 36 + 2 = 38) (Ls' := #[.val (.int p1), .val (.int p2), .val (.int p3), .val (.int p4), .val (.int p5), .val (.int ((p1 &&& (2147483647 : Int32)) % (7 : Int32))), .val (.int ((p2 &&& (2147483647 : Int32)) % (7 : Int32))), .val (.int ((XT.ushr p3 (16 : Int32)) &&& (3 : Int32))), .unset, .unset, .unset, .unset, .unset, .unset, .unset, .unset, .unset, .unset, .unset, .unset]) rfl ?_
    refine g_iloadN X0 hx (hb hby at_38) (rfl : 38 + 1 = 39) rfl ?_
    refine g_sipush X0 hx (255 : Int32) (hb hby at_39) (rfl : 39 + 3 = 42) (by decide) ?_
    refine g_iand X0 hx (hb hby at_42) (rfl : 42 + 1 = 43) (z := (p3 &&& (255 : Int32))) rfl ?_
    refine g_i2c X0 hx (hb hby at_43) (rfl : 43 + 1 = 44) ?_
    refine g_istore X0 hx (hb hby at_44) (rfl : 44 + 2 = 46) (Ls' := #[.val (.int p1), .val (.int p2), .val (.int p3), .val (.int p4), .val (.int p5), .val (.int ((p1 &&& (2147483647 : Int32)) % (7 : Int32))), .val (.int ((p2 &&& (2147483647 : Int32)) % (7 : Int32))), .val (.int ((XT.ushr p3 (16 : Int32)) &&& (3 : Int32))), .val (.int ((p3 &&& (255 : Int32))).toUInt32.toUInt16.toUInt32.toInt32), .unset, .unset, .unset, .unset, .unset, .unset, .unset, .unset, .unset, .unset, .unset]) rfl ?_
    refine g_iloadN X0 hx (hb hby at_46) (rfl : 46 + 1 = 47) rfl ?_
    refine g_bipush X0 hx (8 : Int32) (hb hby at_47) (rfl : 47 + 2 = 49) (by decide) ?_
    refine g_iushr X0 hx (hb hby at_49) (rfl : 49 + 1 = 50) (z := (XT.ushr p3 (8 : Int32))) rfl ?_
    refine g_sipush X0 hx (255 : Int32) (hb hby at_50) (rfl : 50 + 3 = 53) (by decide) ?_
    refine g_iand X0 hx (hb hby at_53) (rfl : 53 + 1 = 54) (z := ((XT.ushr p3 (8 : Int32)) &&& (255 : Int32))) rfl ?_
    refine g_i2c X0 hx (hb hby at_54) (rfl : 54 + 1 = 55) ?_
    refine g_istore X0 hx (hb hby at_55) (rfl : 55 + 2 = 57) (Ls' := #[.val (.int p1), .val (.int p2), .val (.int p3), .val (.int p4), .val (.int p5), .val (.int ((p1 &&& (2147483647 : Int32)) % (7 : Int32))), .val (.int ((p2 &&& (2147483647 : Int32)) % (7 : Int32))), .val (.int ((XT.ushr p3 (16 : Int32)) &&& (3 : Int32))), .val (.int ((p3 &&& (255 : Int32))).toUInt32.toUInt16.toUInt32.toInt32), .val (.int (((XT.ushr p3 (8 : Int32)) &&& (255 : Int32))).toUInt32.toUInt16.toUInt32.toInt32), .unset, .unset, .unset, .unset, .unset, .unset, .unset, .unset, .unset, .unset]) rfl ?_
    refine g_iloadN X0 hx (hb hby at_57) (rfl : 57 + 1 = 58) rfl ?_
    refine g_bipush X0 hx (24 : Int32) (hb hby at_58) (rfl : 58 + 2 = 60) (by decide) ?_
    refine g_iushr X0 hx (hb hby at_60) (rfl : 60 + 1 = 61) (z := (XT.ushr p3 (24 : Int32))) rfl ?_
    refine g_sipush X0 hx (255 : Int32) (hb hby at_61) (rfl : 61 + 3 = 64) (by decide) ?_
    refine g_iand X0 hx (hb hby at_64) (rfl : 64 + 1 = 65) (z := ((XT.ushr p3 (24 : Int32)) &&& (255 : Int32))) rfl ?_
    refine g_i2c X0 hx (hb hby at_65) (rfl : 65 + 1 = 66) ?_
    refine g_istore X0 hx (hb hby at_66) (rfl : 66 + 2 = 68) (Ls' := #[.val (.int p1), .val (.int p2), .val (.int p3), .val (.int p4), .val (.int p5), .val (.int ((p1 &&& (2147483647 : Int32)) % (7 : Int32))), .val (.int ((p2 &&& (2147483647 : Int32)) % (7 : Int32))), .val (.int ((XT.ushr p3 (16 : Int32)) &&& (3 : Int32))), .val (.int ((p3 &&& (255 : Int32))).toUInt32.toUInt16.toUInt32.toInt32), .val (.int (((XT.ushr p3 (8 : Int32)) &&& (255 : Int32))).toUInt32.toUInt16.toUInt32.toInt32), .val (.int (((XT.ushr p3 (24 : Int32)) &&& (255 : Int32))).toUInt32.toUInt16.toUInt32.toInt32), .unset, .unset, .unset, .unset, .unset, .unset, .unset, .unset, .unset]) rfl ?_
    refine g_iloadN X0 hx (hb hby at_68) (rfl : 68 + 1 = 69) rfl ?_
    refine g_bipush X0 hx (16 : Int32) (hb hby at_69) (rfl : 69 + 2 = 71) (by decide) ?_
    refine g_iushr X0 hx (hb hby at_71) (rfl : 71 + 1 = 72) (z := (XT.ushr p4 (16 : Int32))) rfl ?_
    refine g_iconst X0 hx (3 : Int32) (hb hby at_72) (rfl : 72 + 1 = 73) (by decide) ?_
    refine g_iand X0 hx (hb hby at_73) (rfl : 73 + 1 = 74) (z := ((XT.ushr p4 (16 : Int32)) &&& (3 : Int32))) rfl ?_
    refine g_istore X0 hx (hb hby at_74) (rfl : 74 + 2 = 76) (Ls' := #[.val (.int p1), .val (.int p2), .val (.int p3), .val (.int p4), .val (.int p5), .val (.int ((p1 &&& (2147483647 : Int32)) % (7 : Int32))), .val (.int ((p2 &&& (2147483647 : Int32)) % (7 : Int32))), .val (.int ((XT.ushr p3 (16 : Int32)) &&& (3 : Int32))), .val (.int ((p3 &&& (255 : Int32))).toUInt32.toUInt16.toUInt32.toInt32), .val (.int (((XT.ushr p3 (8 : Int32)) &&& (255 : Int32))).toUInt32.toUInt16.toUInt32.toInt32), .val (.int (((XT.ushr p3 (24 : Int32)) &&& (255 : Int32))).toUInt32.toUInt16.toUInt32.toInt32), .val (.int ((XT.ushr p4 (16 : Int32)) &&& (3 : Int32))), .unset, .unset, .unset, .unset, .unset, .unset, .unset, .unset]) rfl ?_
    refine g_iloadN X0 hx (hb hby at_76) (rfl : 76 + 1 = 77) rfl ?_
    refine g_sipush X0 hx (255 : Int32) (hb hby at_77) (rfl : 77 + 3 = 80) (by decide) ?_
    refine g_iand X0 hx (hb hby at_80) (rfl : 80 + 1 = 81) (z := (p4 &&& (255 : Int32))) rfl ?_
    refine g_i2c X0 hx (hb hby at_81) (rfl : 81 + 1 = 82) ?_
    refine g_istore X0 hx (hb hby at_82) (rfl : 82 + 2 = 84) (Ls' := #[.val (.int p1), .val (.int p2), .val (.int p3), .val (.int p4), .val (.int p5), .val (.int ((p1 &&& (2147483647 : Int32)) % (7 : Int32))), .val (.int ((p2 &&& (2147483647 : Int32)) % (7 : Int32))), .val (.int ((XT.ushr p3 (16 : Int32)) &&& (3 : Int32))), .val (.int ((p3 &&& (255 : Int32))).toUInt32.toUInt16.toUInt32.toInt32), .val (.int (((XT.ushr p3 (8 : Int32)) &&& (255 : Int32))).toUInt32.toUInt16.toUInt32.toInt32), .val (.int (((XT.ushr p3 (24 : Int32)) &&& (255 : Int32))).toUInt32.toUInt16.toUInt32.toInt32), .val (.int ((XT.ushr p4 (16 : Int32)) &&& (3 : Int32))), .val (.int ((p4 &&& (255 : Int32))).toUInt32.toUInt16.toUInt32.toInt32), .unset, .unset, .unset, .unset, .unset, .unset, .unset]) rfl ?_
    refine g_iloadN X0 hx (hb hby at_84) (rfl : 84 + 1 = 85) rfl ?_
    refine g_bipush X0 hx (8 : Int32) (hb hby at_85) (rfl : 85 + 2 = 87) (by decide) ?_
    refine g_iushr X0 hx (hb hby at_87) (rfl : 87 + 1 = 88) (z := (XT.ushr p4 (8 : Int32))) rfl ?_
    refine g_sipush X0 hx (255 : Int32) (hb hby at_88) (rfl : 88 + 3 = 91) (by decide) ?_
    refine g_iand X0 hx (hb hby at_91) (rfl : 91 + 1 = 92) (z := ((XT.ushr p4 (8 : Int32)) &&& (255 : Int32))) rfl ?_
    refine g_i2c X0 hx (hb hby at_92) (rfl : 92 + 1 = 93) ?_
    refine g_istore X0 hx (hb hby at_93) (rfl : 93 + 2 = 95) (Ls' := #[.val (.int p1), .val (.int p2), .val (.int p3), .val (.int p4), .val (.int p5), .val (.int ((p1 &&& (2147483647 : Int32)) % (7 : Int32))), .val (.int ((p2 &&& (2147483647 : Int32)) % (7 : Int32))), .val (.int ((XT.ushr p3 (16 : Int32)) &&& (3 : Int32))), .val (.int ((p3 &&& (255 : Int32))).toUInt32.toUInt16.toUInt32.toInt32), .val (.int (((XT.ushr p3 (8 : Int32)) &&& (255 : Int32))).toUInt32.toUInt16.toUInt32.toInt32), .val (.int (((XT.ushr p3 (24 : Int32)) &&& (255 : Int32))).toUInt32.toUInt16.toUInt32.toInt32), .val (.int ((XT.ushr p4 (16 : Int32)) &&& (3 : Int32))), .val (.int ((p4 &&& (255 : Int32))).toUInt32.toUInt16.toUInt32.toInt32), .val (.int (((XT.ushr p4 (8 : Int32)) &&& (255 : Int32))).toUInt32.toUInt16.toUInt32.toInt32), .unset, .unset, .unset, .unset, .unset, .unset]) rfl ?_
    refine g_iloadN X0 hx (hb hby at_95) (rfl : 95 + 1 = 96) rfl ?_
    refine g_bipush X0 hx (24 : Int32) (hb hby at_96) (rfl : 96 + 2 = 98) (by decide) ?_
    refine g_iushr X0 hx (hb hby at_98) (rfl : 98 + 1 = 99) (z := (XT.ushr p4 (24 : Int32))) rfl ?_
    refine g_sipush X0 hx (255 : Int32) (hb hby at_99) (rfl : 99 + 3 = 102) (by decide) ?_
    refine g_iand X0 hx (hb hby at_102) (rfl : 102 + 1 = 103) (z := ((XT.ushr p4 (24 : Int32)) &&& (255 : Int32))) rfl ?_
    refine g_i2c X0 hx (hb hby at_103) (rfl : 103 + 1 = 104) ?_
    refine g_istore X0 hx (hb hby at_104) (rfl : 104 + 2 = 106) (Ls' := #[.val (.int p1), .val (.int p2), .val (.int p3), .val (.int p4), .val (.int p5), .val (.int ((p1 &&& (2147483647 : Int32)) % (7 : Int32))), .val (.int ((p2 &&& (2147483647 : Int32)) % (7 : Int32))), .val (.int ((XT.ushr p3 (16 : Int32)) &&& (3 : Int32))), .val (.int ((p3 &&& (255 : Int32))).toUInt32.toUInt16.toUInt32.toInt32), .val (.int (((XT.ushr p3 (8 : Int32)) &&& (255 : Int32))).toUInt32.toUInt16.toUInt32.toInt32), .val (.int (((XT.ushr p3 (24 : Int32)) &&& (255 : Int32))).toUInt32.toUInt16.toUInt32.toInt32), .val (.int ((XT.ushr p4 (16 : Int32)) &&& (3 : Int32))), .val (.int ((p4 &&& (255 : Int32))).toUInt32.toUInt16.toUInt32.toInt32), .val (.int (((XT.ushr p4 (8 : Int32)) &&& (255 : Int32))).toUInt32.toUInt16.toUInt32.toInt32), .val (.int (((XT.ushr p4 (24 : Int32)) &&& (255 : Int32))).toUInt32.toUInt16.toUInt32.toInt32), .unset, .unset, .unset, .unset, .unset]) rfl ?_
    refine g_iload X0 hx (hb hby at_106) (rfl : 106 + 2 = 108) rfl ?_
    refine g_iconst X0 hx (2 : Int32) (hb hby at_108) (rfl : 108 + 1 = 109) (by decide) ?_
    refine g_iand X0 hx (hb hby at_109) (rfl : 109 + 1 = 110) (z := (p5 &&& (2 : Int32))) rfl ?_
    by_cases m2 : (p5 &&& (2 : Int32)) = (0 : Int32)
    · refine g_ifY X0 hx (hb hby at_110) (XT.i0_eq_t m2) (by decide) (pc' := 125) (by decide) ?_
      refine g_iload X0 hx (hb hby at_125) (rfl : 125 + 2 = 127) rfl ?_
      refine g_iconst X0 hx (4 : Int32) (hb hby at_127) (rfl : 127 + 1 = 128) (by decide) ?_
      refine g_iand X0 hx (hb hby at_128) (rfl : 128 + 1 = 129) (z := (p5 &&& (4 : Int32))) rfl ?_
      by_cases m4 : (p5 &&& (4 : Int32)) = (0 : Int32)
      · refine g_ifY X0 hx (hb hby at_129) (XT.i0_eq_t m4) (by decide) (pc' := 136) (by decide) ?_
        exact key _ _ _ _ _ _ _ _ _ _ (k7 _) (k7 _) (k4 _) (k4 _) (k8 _).1 (k8 _).1 (k8 _).1 (k8 _).1 (k8 _).1 (k8 _).1 (k8 _).2 (k8 _).2 (k8 _).2 (k8 _).2 (k8 _).2 (k8 _).2
      · refine g_ifN X0 hx (hb hby at_129) (XT.i0_eq_f m4) (rfl : 129 + 3 = 132) ?_
        refine g_iload X0 hx (hb hby at_132) (rfl : 132 + 2 = 134) rfl ?_
        refine g_istore X0 hx (hb hby at_134) (rfl : 134 + 2 = 136) (Ls' := #[.val (.int p1), .val (.int p2), .val (.int p3), .val (.int p4), .val (.int p5), .val (.int ((p1 &&& (2147483647 : Int32)) % (7 : Int32))), .val (.int ((p2 &&& (2147483647 : Int32)) % (7 : Int32))), .val (.int ((XT.ushr p3 (16 : Int32)) &&& (3 : Int32))), .val (.int ((p3 &&& (255 : Int32))).toUInt32.toUInt16.toUInt32.toInt32), .val (.int (((XT.ushr p3 (8 : Int32)) &&& (255 : Int32))).toUInt32.toUInt16.toUInt32.toInt32), .val (.int (((XT.ushr p3 (24 : Int32)) &&& (255 : Int32))).toUInt32.toUInt16.toUInt32.toInt32), .val (.int ((XT.ushr p3 (16 : Int32)) &&& (3 : Int32))), .val (.int ((p4 &&& (255 : Int32))).toUInt32.toUInt16.toUInt32.toInt32), .val (.int (((XT.ushr p4 (8 : Int32)) &&& (255 : Int32))).toUInt32.toUInt16.toUInt32.toInt32), .val (.int (((XT.ushr p4 (24 : Int32)) &&& (255 : Int32))).toUInt32.toUInt16.toUInt32.toInt32), .unset, .unset, .unset, .unset, .unset]) rfl ?_
        exact key _ _ _ _ _ _ _ _ _ _ (k7 _) (k7 _) (k4 _) (k4 _) (k8 _).1 (k8 _).1 (k8 _).1 (k8 _).1 (k8 _).1 (k8 _).1 (k8 _).2 (k8 _).2 (k8 _).2 (k8 _).2 (k8 _).2 (k8 _).2
    · refine g_ifN X0 hx (hb hby at_110) (XT.i0_eq_f m2) (rfl : 110 + 3 = 113) ?_
      refine g_iload X0 hx (hb hby at_113) (rfl : 113 + 2 = 115) rfl ?_
      refine g_istore X0 hx (hb hby at_115) (rfl : 115 + 2 = 117) (Ls' := #[.val (.int p1), .val (.int p2), .val (.int p3), .val (.int p4), .val (.int p5), .val (.int ((p1 &&& (2147483647 : Int32)) % (7 : Int32))), .val (.int ((p2 &&& (2147483647 : Int32)) % (7 : Int32))), .val (.int ((XT.ushr p3 (16 : Int32)) &&& (3 : Int32))), .val (.int ((p3 &&& (255 : Int32))).toUInt32.toUInt16.toUInt32.toInt32), .val (.int (((XT.ushr p3 (8 : Int32)) &&& (255 : Int32))).toUInt32.toUInt16.toUInt32.toInt32), .val (.int (((XT.ushr p3 (24 : Int32)) &&& (255 : Int32))).toUInt32.toUInt16.toUInt32.toInt32), .val (.int ((XT.ushr p4 (16 : Int32)) &&& (3 : Int32))), .val (.int ((p3 &&& (255 : Int32))).toUInt32.toUInt16.toUInt32.toInt32), .val (.int (((XT.ushr p4 (8 : Int32)) &&& (255 : Int32))).toUInt32.toUInt16.toUInt32.toInt32), .val (.int (((XT.ushr p4 (24 : Int32)) &&& (255 : Int32))).toUInt32.toUInt16.toUInt32.toInt32), .unset, .unset, .unset, .unset, .unset]) rfl ?_
      refine g_iload X0 hx (hb hby at_117) (rfl : 117 + 2 = 119) rfl ?_
      refine g_istore X0 hx (hb hby at_119) (rfl : 119 + 2 = 121) (Ls' := #[.val (.int p1), .val (.int p2), .val (.int p3), .val (.int p4), .val (.int p5), .val (.int ((p1 &&& (2147483647 : Int32)) % (7 : Int32))), .val (.int ((p2 &&& (2147483647 : Int32)) % (7 : Int32))), .val (.int ((XT.ushr p3 (16 : Int32)) &&& (3 : Int32))), .val (.int ((p3 &&& (255 : Int32))).toUInt32.toUInt16.toUInt32.toInt32), .val (.int (((XT.ushr p3 (8 : Int32)) &&& (255 : Int32))).toUInt32.toUInt16.toUInt32.toInt32), .val (.int (((XT.ushr p3 (24 : Int32)) &&& (255 : Int32))).toUInt32.toUInt16.toUInt32.toInt32), .val (.int ((XT.ushr p4 (16 : Int32)) &&& (3 : Int32))), .val (.int ((p3 &&& (255 : Int32))).toUInt32.toUInt16.toUInt32.toInt32), .val (.int (((XT.ushr p3 (8 : Int32)) &&& (255 : Int32))).toUInt32.toUInt16.toUInt32.toInt32), .val (.int (((XT.ushr p4 (24 : Int32)) &&& (255 : Int32))).toUInt32.toUInt16.toUInt32.toInt32), .unset, .unset, .unset, .unset, .unset]) rfl ?_
      refine g_iload X0 hx (hb hby at_121) (rfl : 121 + 2 = 123) rfl ?_
      refine g_istore X0 hx (hb hby at_123) (rfl : 123 + 2 = 125) (Ls' := #[.val (.int p1), .val (.int p2), .val (.int p3), .val (.int p4), .val (.int p5), .val (.int ((p1 &&& (2147483647 : Int32)) % (7 : Int32))), .val (.int ((p2 &&& (2147483647 : Int32)) % (7 : Int32))), .val (.int ((XT.ushr p3 (16 : Int32)) &&& (3 : Int32))), .val (.int ((p3 &&& (255 : Int32))).toUInt32.toUInt16.toUInt32.toInt32), .val (.int (((XT.ushr p3 (8 : Int32)) &&& (255 : Int32))).toUInt32.toUInt16.toUInt32.toInt32), .val (.int (((XT.ushr p3 (24 : Int32)) &&& (255 : Int32))).toUInt32.toUInt16.toUInt32.toInt32), .val (.int ((XT.ushr p4 (16 : Int32)) &&& (3 : Int32))), .val (.int ((p3 &&& (255 : Int32))).toUInt32.toUInt16.toUInt32.toInt32), .val (.int (((XT.ushr p3 (8 : Int32)) &&& (255 : Int32))).toUInt32.toUInt16.toUInt32.toInt32), .val (.int (((XT.ushr p3 (24 : Int32)) &&& (255 : Int32))).toUInt32.toUInt16.toUInt32.toInt32), .unset, .unset, .unset, .unset, .unset]) rfl ?_
      refine g_iload X0 hx (hb hby at_125) (rfl : 125 + 2 = 127) rfl ?_
      refine g_iconst X0 hx (4 : Int32) (hb hby at_127) (rfl : 127 + 1 = 128) (by decide) ?_
      refine g_iand X0 hx (hb hby at_128) (rfl : 128 + 1 = 129) (z := (p5 &&& (4 : Int32))) rfl ?_
      by_cases m4 : (p5 &&& (4 : Int32)) = (0 : Int32)
      · refine g_ifY X0 hx (hb hby at_129) (XT.i0_eq_t m4) (by decide) (pc' := 136) (by decide) ?_
        exact key _ _ _ _ _ _ _ _ _ _ (k7 _) (k7 _) (k4 _) (k4 _) (k8 _).1 (k8 _).1 (k8 _).1 (k8 _).1 (k8 _).1 (k8 _).1 (k8 _).2 (k8 _).2 (k8 _).2 (k8 _).2 (k8 _).2 (k8 _).2
      · refine g_ifN X0 hx (hb hby at_129) (XT.i0_eq_f m4) (rfl : 129 + 3 = 132) ?_
        refine g_iload X0 hx (hb hby at_132) (rfl : 132 + 2 = 134) rfl ?_
        refine g_istore X0 hx (hb hby at_134) (rfl : 134 + 2 = 136) (Ls' := #[.val (.int p1), .val (.int p2), .val (.int p3), .val (.int p4), .val (.int p5), .val (.int ((p1 &&& (2147483647 : Int32)) % (7 : Int32))), .val (.int ((p2 &&& (2147483647 : Int32)) % (7 : Int32))), .val (.int ((XT.ushr p3 (16 : Int32)) &&& (3 : Int32))), .val (.int ((p3 &&& (255 : Int32))).toUInt32.toUInt16.toUInt32.toInt32), .val (.int (((XT.ushr p3 (8 : Int32)) &&& (255 : Int32))).toUInt32.toUInt16.toUInt32.toInt32), .val (.int (((XT.ushr p3 (24 : Int32)) &&& (255 : Int32))).toUInt32.toUInt16.toUInt32.toInt32), .val (.int ((XT.ushr p3 (16 : Int32)) &&& (3 : Int32))), .val (.int ((p3 &&& (255 : Int32))).toUInt32.toUInt16.toUInt32.toInt32), .val (.int (((XT.ushr p3 (8 : Int32)) &&& (255 : Int32))).toUInt32.toUInt16.toUInt32.toInt32), .val (.int (((XT.ushr p3 (24 : Int32)) &&& (255 : Int32))).toUInt32.toUInt16.toUInt32.toInt32), .unset, .unset, .unset, .unset, .unset]) rfl ?_
        exact key _ _ _ _ _ _ _ _ _ _ (k7 _) (k7 _) (k4 _) (k4 _) (k8 _).1 (k8 _).1 (k8 _).1 (k8 _).1 (k8 _).1 (k8 _).1 (k8 _).2 (k8 _).2 (k8 _).2 (k8 _).2 (k8 _).2 (k8 _).2
  · refine g_ifN X0 hx (hb hby at_13) (XT.i0_eq_f m1) (rfl : 13 + 3 = 16) ?_
    refine g_iload X0 hx (hb hby at_16) (rfl : 16 + 2 = 18) rfl ?_
    refine g_goto X0 hx (hb hby at_18) (by decide) (pc' := 28) (by decide) ?_
    refine g_istore X0 hx (hb hby at_28) (rfl : 28 + 2 = 30) (Ls' := #[.val (.int p1), .val (.int p2), .val (.int p3), .val (.int p4), .val (.int p5), .val (.int ((p1 &&& (2147483647 : Int32)) % (7 : Int32))), .val (.int ((p1 &&& (2147483647 : Int32)) % (7 : Int32))), .unset, .unset, .unset, .unset, .unset, .unset, .unset, .unset, .unset, .unset, .unset, .unset, .unset]) rfl ?_
    refine g_iloadN X0 hx (hb hby at_30) (rfl : 30 + 1 = 31) rfl ?_
    refine g_bipush X0 hx (16 : Int32) (hb hby at_31) (rfl : 31 + 2 = 33) (by decide) ?_
    refine g_iushr X0 hx (hb hby at_33) (rfl : 33 + 1 = 34) (z := (XT.ushr p3 (16 : Int32))) rfl ?_
    refine g_iconst X0 hx (3 : Int32) (hb hby at_34) (rfl : 34 + 1 = 35) (by decide) ?_
    refine g_iand X0 hx (hb hby at_35) (rfl : 35 + 1 = 36) (z := ((XT.ushr p3 (16 : Int32)) &&& (3 : Int32))) rfl ?_
    refine g_istore X0 hx (hb hby at_36) (rfl : 36 + 2 = 38) (Ls' := #[.val (.int p1), .val (.int p2), .val (.int p3), .val (.int p4), .val (.int p5), .val (.int ((p1 &&& (2147483647 : Int32)) % (7 : Int32))), .val (.int ((p1 &&& (2147483647 : Int32)) % (7 : Int32))), .val (.int ((XT.ushr p3 (16 : Int32)) &&& (3 : Int32))), .unset, .unset, .unset, .unset, .unset, .unset, .unset, .unset, .unset, .unset, .unset, .unset]) rfl ?_
    refine g_iloadN X0 hx (hb hby at_38) (rfl : 38 + 1 = 39) rfl ?_
    refine g_sipush X0 hx (255 : Int32) (hb hby at_39) (rfl : 39 + 3 = 42) (by decide) ?_
    refine g_iand X0 hx (hb hby at_42) (rfl : 42 + 1 = 43) (z := (p3 &&& (255 : Int32))) rfl ?_
    refine g_i2c X0 hx (hb hby at_43) (rfl : 43 + 1 = 44) ?_
    refine g_istore X0 hx (hb hby at_44) (rfl : 44 + 2 = 46) (Ls' := #[.val (.int p1), .val (.int p2), .val (.int p3), .val (.int p4), .val (.int p5), .val (.int ((p1 &&& (2147483647 : Int32)) % (7 : Int32))), .val (.int ((p1 &&& (2147483647 : Int32)) % (7 : Int32))), .val (.int ((XT.ushr p3 (16 : Int32)) &&& (3 : Int32))), .val (.int ((p3 &&& (255 : Int32))).toUInt32.toUInt16.toUInt32.toInt32), .unset, .unset, .unset, .unset, .unset, .unset, .unset, .unset, .unset, .unset, .unset]) rfl ?_
    refine g_iloadN X0 hx (hb hby at_46) (rfl : 46 + 1 = 47) rfl ?_
    refine g_bipush X0 hx (8 : Int32) (hb hby at_47) (rfl : 47 + 2 = 49) (by decide) ?_
    refine g_iushr X0 hx (hb hby at_49) (rfl : 49 + 1 = 50) (z := (XT.ushr p3 (8 : Int32))) rfl ?_
    refine g_sipush X0 hx (255 : Int32) (hb hby at_50) (rfl : 50 + 3 = 53) (by decide) ?_
    refine g_iand X0 hx (hb hby at_53) (rfl : 53 + 1 = 54) (z := ((XT.ushr p3 (8 : Int32)) &&& (255 : Int32))) rfl ?_
    refine g_i2c X0 hx (hb hby at_54) (rfl : 54 + 1 = 55) ?_
    refine g_istore X0 hx (hb hby at_55) (rfl : 55 + 2 = 57) (Ls' := #[.val (.int p1), .val (.int p2), .val (.int p3), .val (.int p4), .val (.int p5), .val (.int ((p1 &&& (2147483647 : Int32)) % (7 : Int32))), .val (.int ((p1 &&& (2147483647 : Int32)) % (7 : Int32))), .val (.int ((XT.ushr p3 (16 : Int32)) &&& (3 : Int32))), .val (.int ((p3 &&& (255 : Int32))).toUInt32.toUInt16.toUInt32.toInt32), .val (.int (((XT.ushr p3 (8 : Int32)) &&& (255 : Int32))).toUInt32.toUInt16.toUInt32.toInt32), .unset, .unset, .unset, .unset, .unset, .unset, .unset, .unset, .unset, .unset]) rfl ?_
    refine g_iloadN X0 hx (hb hby at_57) (rfl : 57 + 1 = 58) rfl ?_
    refine g_bipush X0 hx (24 : Int32) (hb hby at_58) (rfl : 58 + 2 = 60) (by decide) ?_
    refine g_iushr X0 hx (hb hby at_60) (rfl : 60 + 1 = 61) (z := (XT.ushr p3 (24 : Int32))) rfl ?_
    refine g_sipush X0 hx (255 : Int32) (hb hby at_61) (rfl : 61 + 3 = 64) (by decide) ?_
    refine g_iand X0 hx (hb hby at_64) (rfl : 64 + 1 = 65) (z := ((XT.ushr p3 (24 : Int32)) &&& (255 : Int32))) rfl ?_
    refine g_i2c X0 hx (hb hby at_65) (rfl : 65 + 1 = 66) ?_
    refine g_istore X0 hx (hb hby at_66) (rfl : 66 + 2 = 68) (Ls' := #[.val (.int p1), .val (.int p2), .val (.int p3), .val (.int p4), .val (.int p5), .val (.int ((p1 &&& (2147483647 : Int32)) % (7 : Int32))), .val (.int ((p1 &&& (2147483647 : Int32)) % (7 : Int32))), .val (.int ((XT.ushr p3 (16 : Int32)) &&& (3 : Int32))), .val (.int ((p3 &&& (255 : Int32))).toUInt32.toUInt16.toUInt32.toInt32), .val (.int (((XT.ushr p3 (8 : Int32)) &&& (255 : Int32))).toUInt32.toUInt16.toUInt32.toInt32), .val (.int (((XT.ushr p3 (24 : Int32)) &&& (255 : Int32))).toUInt32.toUInt16.toUInt32.toInt32), .unset, .unset, .unset, .unset, .unset, .unset, .unset, .unset, .unset]) rfl ?_
    refine g_iloadN X0 hx (hb hby at_68) (rfl : 68 + 1 = 69) rfl ?_
    refine g_bipush X0 hx (16 : Int32) (hb hby at_69) (rfl : 69 + 2 = 71) (by decide) ?_
    refine g_iushr X0 hx (hb hby at_71) (rfl : 71 + 1 = 72) (z := (XT.ushr p4 (16 : Int32))) rfl ?_
    refine g_iconst X0 hx (3 : Int32) (hb hby at_72) (rfl : 72 + 1 = 73) (by decide) ?_
    refine g_iand X0 hx (hb hby at_73) (rfl : 73 + 1 = 74) (z := ((XT.ushr p4 (16 : Int32)) &&& (3 : Int32))) rfl ?_
    refine g_istore X0 hx (hb hby at_74) (rfl : 74 + 2 = 76) (Ls' := #[.val (.int p1), .val (.int p2), .val (.int p3), .val (.int p4), .val (.int p5), .val (.int ((p1 &&& (2147483647 : Int32)) % (7 : Int32))), .val (.int ((p1 &&& (2147483647 : Int32)) % (7 : Int32))), .val (.int ((XT.ushr p3 (16 : Int32)) &&& (3 : Int32))), .val (.int ((p3 &&& (255 : Int32))).toUInt32.toUInt16.toUInt32.toInt32), .val (.int (((XT.ushr p3 (8 : Int32)) &&& (255 : Int32))).toUInt32.toUInt16.toUInt32.toInt32), .val (.int (((XT.ushr p3 (24 : Int32)) &&& (255 : Int32))).toUInt32.toUInt16.toUInt32.toInt32), .val (.int ((XT.ushr p4 (16 : Int32)) &&& (3 : Int32))), .unset, .unset, .unset, .unset, .unset, .unset, .unset, .unset]) rfl ?_
    refine g_iloadN X0 hx (hb hby at_76) (rfl : 76 + 1 = 77) rfl ?_
    refine g_sipush X0 hx (255 : Int32) (hb hby at_77) (rfl : 77 + 3 = 80) (by decide) ?_
    refine g_iand X0 hx (hb hby at_80) (rfl : 80 + 1 = 81) (z := (p4 &&& (255 : Int32))) rfl ?_
    refine g_i2c X0 hx (hb hby at_81) (rfl : 81 + 1 = 82) ?_
    refine g_istore X0 hx (hb hby at_82) (rfl : 82 + 2 = 84) (Ls' := #[.val (.int p1), .val (.int p2), .val (.int p3), .val (.int p4), .val (.int p5), .val (.int ((p1 &&& (2147483647 : Int32)) % (7 : Int32))), .val (.int ((p1 &&& (2147483647 : Int32)) % (7 : Int32))), .val (.int ((XT.ushr p3 (16 : Int32)) &&& (3 : Int32))), .val (.int ((p3 &&& (255 : Int32))).toUInt32.toUInt16.toUInt32.toInt32), .val (.int (((XT.ushr p3 (8 : Int32)) &&& (255 : Int32))).toUInt32.toUInt16.toUInt32.toInt32), .val (.int (((XT.ushr p3 (24 : Int32)) &&& (255 : Int32))).toUInt32.toUInt16.toUInt32.toInt32), .val (.int ((XT.ushr p4 (16 : Int32)) &&& (3 : Int32))), .val (.int ((p4 &&& (255 : Int32))).toUInt32.toUInt16.toUInt32.toInt32), .unset, .unset, .unset, .unset, .unset, .unset, .unset]) rfl ?_
    refine g_iloadN X0 hx (hb hby at_84) (rfl : 84 + 1 = 85) rfl ?_
    refine g_bipush X0 hx (8 : Int32) (hb hby at_85) (rfl : 85 + 2 = 87) (by decide) ?_
    refine g_iushr X0 hx (hb hby at_87) (rfl : 87 + 1 = 88) (z := (XT.ushr p4 (8 : Int32))) rfl ?_
    refine g_sipush X0 hx (255 : Int32) (hb hby at_88) (rfl : 88 + 3 = 91) (by decide) ?_
    refine g_iand X0 hx (hb hby at_91) (rfl : 91 + 1 = 92) (z := ((XT.ushr p4 (8 : Int32)) &&& (255 : Int32))) rfl ?_
    refine g_i2c X0 hx (hb hby at_92) (rfl : 92 + 1 = 93) ?_
    refine g_istore X0 hx (hb hby at_93) (rfl : 93 + 2 = 95) (Ls' := #[.val (.int p1), .val (.int p2), .val (.int p3), .val (.int p4), .val (.int p5), .val (.int ((p1 &&& (2147483647 : Int32)) % (7 : Int32))), .val (.int ((p1 &&& (2147483647 : Int32)) % (7 : Int32))), .val (.int ((XT.ushr p3 (16 : Int32)) &&& (3 : Int32))), .val (.int ((p3 &&& (255 : Int32))).toUInt32.toUInt16.toUInt32.toInt32), .val (.int (((XT.ushr p3 (8 : Int32)) &&& (255 : Int32))).toUInt32.toUInt16.toUInt32.toInt32), .val (.int (((XT.ushr p3 (24 : Int32)) &&& (255 : Int32))).toUInt32.toUInt16.toUInt32.toInt32), .val (.int ((XT.ushr p4 (16 : Int32)) &&& (3 : Int32))), .val (.int ((p4 &&& (255 : Int32))).toUInt32.toUInt16.toUInt32.toInt32), .val (.int (((XT.ushr p4 (8 : Int32)) &&& (255 : Int32))).toUInt32.toUInt16.toUInt32.toInt32), .unset, .unset, .unset, .unset, .unset, .unset]) rfl ?_
    refine g_iloadN X0 hx (hb hby at_95) (rfl : 95 + 1 = 96) rfl ?_
    refine g_bipush X0 hx (24 : Int32) (hb hby at_96) (rfl : 96 + 2 = 98) (by decide) ?_
    refine g_iushr X0 hx (hb hby at_98) (rfl : 98 + 1 = 99) (z := (XT.ushr p4 (24 : Int32))) rfl ?_
    refine g_sipush X0 hx (255 : Int32) (hb hby at_99) (rfl : 99 + 3 = 102) (by decide) ?_
    refine g_iand X0 hx (hb hby at_102) (rfl : 102 + 1 = 103) (z := ((XT.ushr p4 (24 : Int32)) &&& (255 : Int32))) rfl ?_
    refine g_i2c X0 hx (hb hby at_103) (rfl : 103 + 1 = 104) ?_
    refine g_istore X0 hx (hb hby at_104) (rfl : 104 + 2 = 106) (Ls' := #[.val (.int p1), .val (.int p2), .val (.int p3), .val (.int p4), .val (.int p5), .val (.int ((p1 &&& (2147483647 : Int32)) % (7 : Int32))), .val (.int ((p1 &&& (2147483647 : Int32)) % (7 : Int32))), .val (.int ((XT.ushr p3 (16 : Int32)) &&& (3 : Int32))), .val (.int ((p3 &&& (255 : Int32))).toUInt32.toUInt16.toUInt32.toInt32), .val (.int (((XT.ushr p3 (8 : Int32)) &&& (255 : Int32))).toUInt32.toUInt16.toUInt32.toInt32), .val (.int (((XT.ushr p3 (24 : Int32)) &&& (255 : Int32))).toUInt32.toUInt16.toUInt32.toInt32), .val (.int ((XT.ushr p4 (16 : Int32)) &&& (3 : Int32))), .val (.int ((p4 &&& (255 : Int32))).toUInt32.toUInt16.toUInt32.toInt32), .val (.int (((XT.ushr p4 (8 : Int32)) &&& (255 : Int32))).toUInt32.toUInt16.toUInt32.toInt32), .val (.int (((XT.ushr p4 (24 : Int32)) &&& (255 : Int32))).toUInt32.toUInt16.toUInt32.toInt32), .unset, .unset, .unset, .unset, .unset]) rfl ?_
    refine g_iload X0 hx (hb hby at_106) (rfl : 106 + 2 = 108) rfl ?_
    refine g_iconst X0 hx (2 : Int32) (hb hby at_108) (rfl : 108 + 1 = 109) (by decide) ?_
    refine g_iand X0 hx (hb hby at_109) (rfl : 109 + 1 = 110) (z := (p5 &&& (2 : Int32))) rfl ?_
    by_cases m2 : (p5 &&& (2 : Int32)) = (0 : Int32)
    · refine g_ifY X0 hx (hb hby at_110) (XT.i0_eq_t m2) (by decide) (pc' := 125) (by decide) ?_
      refine g_iload X0 hx (hb hby at_125) (rfl : 125 + 2 = 127) rfl ?_
      refine g_iconst X0 hx (4 : Int32) (hb hby at_127) (rfl : 127 + 1 = 128) (by decide) ?_
      refine g_iand X0 hx (hb hby at_128) (rfl : 128 + 1 = 129) (z := (p5 &&& (4 : Int32))) rfl ?_
      by_cases m4 : (p5 &&& (4 : Int32)) = (0 : Int32)
      · refine g_ifY X0 hx (hb hby at_129) (XT.i0_eq_t m4) (by decide) (pc' := 136) (by decide) ?_
        exact key _ _ _ _ _ _ _ _ _ _ (k7 _) (k7 _) (k4 _) (k4 _) (k8 _).1 (k8 _).1 (k8 _).1 (k8 _).1 (k8 _).1 (k8 _).1 (k8 _).2 (k8 _).2 (k8 _).2 (k8 _).2 (k8 _).2 (k8 _).2
      · refine g_ifN X0 hx (hb hby at_129) (XT.i0_eq_f m4) (rfl : 129 + 3 = 132) ?_
        refine g_iload X0 hx (hb hby at_132) (rfl : 132 + 2 = 134) rfl ?_
        refine g_istore X0 hx (hb hby at_134) (rfl : 134 + 2 = 136) (Ls' := #[.val (.int p1), .val (.int p2), .val (.int p3), .val (.int p4), .val (.int p5), .val (.int ((p1 &&& (2147483647 : Int32)) % (7 : Int32))), .val (.int ((p1 &&& (2147483647 : Int32)) % (7 : Int32))), .val (.int ((XT.ushr p3 (16 : Int32)) &&& (3 : Int32))), .val (.int ((p3 &&& (255 : Int32))).toUInt32.toUInt16.toUInt32.toInt32), .val (.int (((XT.ushr p3 (8 : Int32)) &&& (255 : Int32))).toUInt32.toUInt16.toUInt32.toInt32), .val (.int (((XT.ushr p3 (24 : Int32)) &&& (255 : Int32))).toUInt32.toUInt16.toUInt32.toInt32), .val (.int ((XT.ushr p3 (16 : Int32)) &&& (3 : Int32))), .val (.int ((p4 &&& (255 : Int32))).toUInt32.toUInt16.toUInt32.toInt32), .val (.int (((XT.ushr p4 (8 : Int32)) &&& (255 : Int32))).toUInt32.toUInt16.toUInt32.toInt32), .val (.int (((XT.ushr p4 (24 : Int32)) &&& (255 : Int32))).toUInt32.toUInt16.toUInt32.toInt32), .unset, .unset, .unset, .unset, .unset]) rfl ?_
        exact key _ _ _ _ _ _ _ _ _ _ (k7 _) (k7 _) (k4 _) (k4 _) (k8 _).1 (k8 _).1 (k8 _).1 (k8 _).1 (k8 _).1 (k8 _).1 (k8 _).2 (k8 _).2 (k8 _).2 (k8 _).2 (k8 _).2 (k8 _).2
    · refine g_ifN X0 hx (hb hby at_110) (XT.i0_eq_f m2) (rfl : 110 + 3 = 113) ?_
      refine g_iload X0 hx (hb hby at_113) (rfl : 113 + 2 = 115) rfl ?_
      refine g_istore X0 hx (hb hby at_115) (rfl : 115 + 2 = 117) (Ls' := #[.val (.int p1), .val (.int p2), .val (.int p3), .val (.int p4), .val (.int p5), .val (.int ((p1 &&& (2147483647 : Int32)) % (7 : Int32))), .val (.int ((p1 &&& (2147483647 : Int32)) % (7 : Int32))), .val (.int ((XT.ushr p3 (16 : Int32)) &&& (3 : Int32))), .val (.int ((p3 &&& (255 : Int32))).toUInt32.toUInt16.toUInt32.toInt32), .val (.int (((XT.ushr p3 (8 : Int32)) &&& (255 : Int32))).toUInt32.toUInt16.toUInt32.toInt32), .val (.int (((XT.ushr p3 (24 : Int32)) &&& (255 : Int32))).toUInt32.toUInt16.toUInt32.toInt32), .val (.int ((XT.ushr p4 (16 : Int32)) &&& (3 : Int32))), .val (.int ((p3 &&& (255 : Int32))).toUInt32.toUInt16.toUInt32.toInt32), .val (.int (((XT.ushr p4 (8 : Int32)) &&& (255 : Int32))).toUInt32.toUInt16.toUInt32.toInt32), .val (.int (((XT.ushr p4 (24 : Int32)) &&& (255 : Int32))).toUInt32.toUInt16.toUInt32.toInt32), .unset, .unset, .unset, .unset, .unset]) rfl ?_
      refine g_iload X0 hx (hb hby at_117) (rfl : 117 + 2 = 119) rfl ?_
      refine g_istore X0 hx (hb hby at_119) (rfl : 119 + 2 = 121) (Ls' := #[.val (.int p1), .val (.int p2), .val (.int p3), .val (.int p4), .val (.int p5), .val (.int ((p1 &&& (2147483647 : Int32)) % (7 : Int32))), .val (.int ((p1 &&& (2147483647 : Int32)) % (7 : Int32))), .val (.int ((XT.ushr p3 (16 : Int32)) &&& (3 : Int32))), .val (.int ((p3 &&& (255 : Int32))).toUInt32.toUInt16.toUInt32.toInt32), .val (.int (((XT.ushr p3 (8 : Int32)) &&& (255 : Int32))).toUInt32.toUInt16.toUInt32.toInt32), .val (.int (((XT.ushr p3 (24 : Int32)) &&& (255 : Int32))).toUInt32.toUInt16.toUInt32.toInt32), .val (.int ((XT.ushr p4 (16 : Int32)) &&& (3 : Int32))), .val (.int ((p3 &&& (255 : Int32))).toUInt32.toUInt16.toUInt32.toInt32), .val (.int (((XT.ushr p3 (8 : Int32)) &&& (255 : Int32))).toUInt32.toUInt16.toUInt32.toInt32), .val (.int (((XT.ushr p4 (24 : Int32)) &&& (255 : Int32))).toUInt32.toUInt16.toUInt32.toInt32), .unset, .unset, .unset, .unset, .unset]) rfl ?_
      refine g_iload X0 hx (hb hby at_121) (rfl : 121 + 2 = 123) rfl ?_
      refine g_istore X0 hx (hb hby at_123) (rfl : 123 + 2 = 125) (Ls' := #[.val (.int p1), .val (.int p2), .val (.int p3), .val (.int p4), .val (.int p5), .val (.int ((p1 &&& (2147483647 : Int32)) % (7 : Int32))), .val (.int ((p1 &&& (2147483647 : Int32)) % (7 : Int32))), .val (.int ((XT.ushr p3 (16 : Int32)) &&& (3 : Int32))), .val (.int ((p3 &&& (255 : Int32))).toUInt32.toUInt16.toUInt32.toInt32), .val (.int (((XT.ushr p3 (8 : Int32)) &&& (255 : Int32))).toUInt32.toUInt16.toUInt32.toInt32), .val (.int (((XT.ushr p3 (24 : Int32)) &&& (255 : Int32))).toUInt32.toUInt16.toUInt32.toInt32), .val (.int ((XT.ushr p4 (16 : Int32)) &&& (3 : Int32))), .val (.int ((p3 &&& (255 : Int32))).toUInt32.toUInt16.toUInt32.toInt32), .val (.int (((XT.ushr p3 (8 : Int32)) &&& (255 : Int32))).toUInt32.toUInt16.toUInt32.toInt32), .val (.int (((XT.ushr p3 (24 : Int32)) &&& (255 : Int32))).toUInt32.toUInt16.toUInt32.toInt32), .unset, .unset, .unset, .unset, .unset]) rfl ?_
      refine g_iload X0 hx (hb hby at_125) (rfl : 125 + 2 = 127) rfl ?_
      refine g_iconst X0 hx (4 : Int32) (hb hby at_127) (rfl : 127 + 1 = 128) (by decide) ?_
      refine g_iand X0 hx (hb hby at_128) (rfl : 128 + 1 = 129) (z := (p5 &&& (4 : Int32))) rfl ?_
      by_cases m4 : (p5 &&& (4 : Int32)) = (0 : Int32)
      · refine g_ifY X0 hx (hb hby at_129) (XT.i0_eq_t m4) (by decide) (pc' := 136) (by decide) ?_
        exact key _ _ _ _ _ _ _ _ _ _ (k7 _) (k7 _) (k4 _) (k4 _) (k8 _).1 (k8 _).1 (k8 _).1 (k8 _).1 (k8 _).1 (k8 _).1 (k8 _).2 (k8 _).2 (k8 _).2 (k8 _).2 (k8 _).2 (k8 _).2
      · refine g_ifN X0 hx (hb hby at_129) (XT.i0_eq_f m4) (rfl : 129 + 3 = 132) ?_
        refine g_iload X0 hx (hb hby at_132) (rfl : 132 + 2 = 134) rfl ?_
        refine g_istore X0 hx (hb hby at_134) (rfl : 134 + 2 = 136) (Ls' := #[.val (.int p1), .val (.int p2), .val (.int p3), .val (.int p4), .val (.int p5), .val (.int ((p1 &&& (2147483647 : Int32)) % (7 : Int32))), .val (.int ((p1 &&& (2147483647 : Int32)) % (7 : Int32))), .val (.int ((XT.ushr p3 (16 : Int32)) &&& (3 : Int32))), .val (.int ((p3 &&& (255 : Int32))).toUInt32.toUInt16.toUInt32.toInt32), .val (.int (((XT.ushr p3 (8 : Int32)) &&& (255 : Int32))).toUInt32.toUInt16.toUInt32.toInt32), .val (.int (((XT.ushr p3 (24 : Int32)) &&& (255 : Int32))).toUInt32.toUInt16.toUInt32.toInt32), .val (.int ((XT.ushr p3 (16 : Int32)) &&& (3 : Int32))), .val (.int ((p3 &&& (255 : Int32))).toUInt32.toUInt16.toUInt32.toInt32), .val (.int (((XT.ushr p3 (8 : Int32)) &&& (255 : Int32))).toUInt32.toUInt16.toUInt32.toInt32), .val (.int (((XT.ushr p3 (24 : Int32)) &&& (255 : Int32))).toUInt32.toUInt16.toUInt32.toInt32), .unset, .unset, .unset, .unset, .unset]) rfl ?_
        exact key _ _ _ _ _ _ _ _ _ _ (k7 _) (k7 _) (k4 _) (k4 _) (k8 _).1 (k8 _).1 (k8 _).1 (k8 _).1 (k8 _).1 (k8 _).1 (k8 _).2 (k8 _).2 (k8 _).2 (k8 _).2 (k8 _).2 (k8 _).2
set_option maxRecDepth 65536 in
set_option maxHeartbeats 40000000 in
theorem comes_1 {Post : Tables → Env → Array Value → State → Outcome → State → Prop} (hpost : ∀ tb e args s v u, (limb_1_1.after args s (.returned v) u = true ∧ limb_1_2.after args s (.returned v) u = true ∧ True) → Jvm.Pilot.@@N@@.Jvm.D.FramedW s (.returned v) u (Jvm.fieldLocs frame_1_writes args s ++ Jvm.arrayLocs frame_1_arrays args s ++ Jvm.staticLocs frame_1_statics s) 32 1216 → Post tb e args s (.returned v) u) :
    ArmFor flags0 classFile x code maxLocals ret World_1 tables_1 room_1 Calls_1 rest_1 Pre_1 Post := by
  intro l hfl _ _ p e ha hc hk s m args below hf hA hF happ hP
  obtain ⟨hcalls, hrest, hpre⟩ := hP
  obtain ⟨-, -, -, hnamed, -, -, -, hat⟩ := (Spec.applies_iff hf).mp happ
  obtain ⟨hg, hn⟩ := and_e (Cond.before_iff.mp (show (Jvm.Cond.and given_1 narrow_1).before args s = true from hpre))
  obtain ⟨h1, hgg⟩ := and_e hg
  obtain ⟨w0, w1, w2, w3, w4, rfl⟩ : ∃ w0 w1 w2 w3 w4 : Value, args = #[w0, w1, w2, w3, w4] := by
    have hs : args.size = 5 := by simpa [Cond.value, given_1] using h1
    obtain ⟨L⟩ := args
    match L, hs with
    | [w0, w1, w2, w3, w4], _ => exact ⟨w0, w1, w2, w3, w4, rfl⟩
  have hw := fun d (hd : d ∈ tables_1) => atoms_spec (ws := Jvm.Cond.code x code maxLocals ret :: tables_1) hat d (List.mem_cons_of_mem _ hd)
  have hfit : Fit s := fun {y c} hc i hi => by
    obtain ⟨ha, rfl⟩ := Array.getElem?_eq_some_iff.mp hc
    have q := List.all_eq_true.mp ((Array.all_eq_true_iff_forall_mem.mp hF) _ (Array.getElem_mem ha)) i (List.mem_range.mpr hi)
    simpa [Array.getElem?_eq_getElem hi] using q
  obtain ⟨ga0, gb0⟩ := and_e hgg
  obtain ⟨i0, ea0⟩ := is_v ga0
  obtain rfl : w0 = (.int i0) := Option.some.inj ea0
  obtain ⟨ga1, gb1⟩ := and_e gb0
  obtain ⟨i1, ea1⟩ := is_v ga1
  obtain rfl : w1 = (.int i1) := Option.some.inj ea1
  obtain ⟨ga2, gb2⟩ := and_e gb1
  obtain ⟨i2, ea2⟩ := is_v ga2
  obtain rfl : w2 = (.int i2) := Option.some.inj ea2
  obtain ⟨ga3, gb3⟩ := and_e gb2
  obtain ⟨i3, ea3⟩ := is_v ga3
  obtain rfl : w3 = (.int i3) := Option.some.inj ea3
  obtain ⟨i4, ea4⟩ := is_v gb3
  obtain rfl : w4 = (.int i4) := Option.some.inj ea4
  obtain ⟨hsets, hown0⟩ := atoms_of _ (rest_1_c_eq ▸ (show rest_1_c.before _ s = true from hrest))
  obtain ⟨x0, hn_0⟩ := and_e hn
  obtain ⟨x3, hn_1⟩ := and_e hn_0
  obtain ⟨o0, hn_2⟩ := and_e hn_1
  obtain ⟨o3, hn_3⟩ := and_e hn_2
  obtain ⟨x5, hn_4⟩ := and_e hn_3
  obtain ⟨x1, hn_5⟩ := and_e hn_4
  obtain ⟨o5, hn_6⟩ := and_e hn_5
  obtain ⟨x2, hn_7⟩ := and_e hn_6
  obtain ⟨o2, hn_8⟩ := and_e hn_7
  obtain ⟨x6, hn_9⟩ := and_e hn_8
  obtain ⟨x4, hn_10⟩ := and_e hn_9
  obtain ⟨o4, hn_11⟩ := and_e hn_10
  obtain ⟨o1, hn_12⟩ := and_e hn_11
  have o6 := hn_12
  obtain ⟨b0, v0, S0, E0⟩ := exSta x0 (Or.inr ⟨wd hw 34 rfl, wd hw 35 rfl⟩)
  have F0 := eqFld v0 o0
  obtain ⟨b1, v1, S1, E1⟩ := exSta x1 (Or.inr ⟨wd hw 34 rfl, wd hw 84 rfl⟩)
  have F1 := eqFld v1 o1
  obtain ⟨b2, v2, S2, E2⟩ := exSta x2 (Or.inr ⟨wd hw 34 rfl, wd hw 86 rfl⟩)
  have F2 := eqFld v2 o2
  obtain ⟨b3, v3, S3, E3⟩ := exSta x3 (Or.inr ⟨wd hw 34 rfl, wd hw 50 rfl⟩)
  have F3 := eqFld v3 o3
  obtain ⟨b4, v4, S4, E4⟩ := exSta x4 (Or.inr ⟨wd hw 34 rfl, wd hw 90 rfl⟩)
  have F4 := eqFld v4 o4
  obtain ⟨b5, v5, S5, E5⟩ := exSta x5 (Or.inr ⟨wd hw 34 rfl, wd hw 72 rfl⟩)
  have F5 := eqFld v5 o5
  obtain ⟨b6, v6, S6, E6⟩ := exSta x6 (Or.inr ⟨wd hw 34 rfl, wd hw 88 rfl⟩)
  have F6 := eqFld v6 o6
  obtain ⟨cs, ecs⟩ := is_v (Cond.before_iff.mp (hsets _ (List.mem_of_getElem? (i := 1) rfl)))
  have Scs := Sta.start ecs (Or.inl (hsets _ (List.mem_of_getElem? (i := 0) rfl)))
  have hcs : ¬ cs = 0 := by have q := not_v (Cond.before_iff.mp (hsets _ (List.mem_of_getElem? (i := 2) rfl))); rw [eqI ecs (Term.int_eval _)] at q; simpa using q
  have hch := CHv.start (elW hw) hcalls.1 (hsets _ (List.mem_of_getElem? (i := 2) rfl)) (wd hw 20 rfl) (wd hw 6 rfl)
  obtain ⟨n, o, r1, r2, r3, _, L, rfl, ⟨rfl, Pf⟩, -, hq⟩ := (rm0 hw i0 i1 i2 i3 i4 b0 b1 b2 b3 b4 b5 b6 cs S0 S1 S2 S3 S4 S5 S6 F0 F1 F2 F3 F4 F5 F6 Scs hcs) tables_1 p e ha hc hk s m _ below hf ((Spec.applies_iff_loose hf).mp happ).1 ⟨rfl, State.Warmed39.refl s, rfl, hch⟩ trivial
  obtain ⟨z1, z2, z3, z4⟩ := hq
  refine ⟨n, _, r1, r2, r3, hpost _ _ _ _ _ _ ⟨Cond.after_iff.mpr rfl, Cond.after_iff.mpr (eq_i res_at (Term.int_eval (1)) rfl), trivial⟩ ⟨z1, z2, z3, (z4.sift fun y hy => Or.inr (Pf.fr y hy)).mono (by decide) (by decide)⟩⟩
theorem main_1_1 : Claimed_1_1 := comes_1 fun _ _ _ _ _ _ h hF => ⟨h.1, hF⟩
theorem main_1_2 : Claimed_1_2 := comes_1 fun _ _ _ _ _ _ h hF => ⟨h.2.1, hF⟩
end Jvm.Pilot.@@N@@
namespace Jvm.Pilot.@@N@@
open Jvm Jvm.ClassFile Sem Op Lib Jvm.Free Jvm.Stand Jvm.Pilot.@@N@@.Jvm.D
/-! MADE BY PROGRAM (witnessworld.py) out of the Statement's table words and the real class files: 23 classes; the members and pool entries that the words name. The judged class is class 1, her method 3. -/
namespace start1
open Jvm.ClassFile
def u (s : String) : CpInfo := .utf8 (stringToUtf16 s)
/-- a pool by its gaps: so many unusable entries, then the entry; so many at the end -/
def gap : Nat → List CpInfo → List CpInfo
  | 0, r => r
  | n + 1, r => .unusable :: gap n r
def poolList (es : List (Nat × CpInfo)) (last : Nat) : List CpInfo := es.foldr (fun e r => gap e.1 (e.2 :: r)) (gap last [])
def pool (es : List (Nat × CpInfo)) (last : Nat) : Array CpInfo := ⟨poolList es last⟩
def fileOf (pool : Array CpInfo) (this : Nat) (attrs : Array Attribute := #[]) (ms : Array MethodInfo := #[]) (fl : Nat := 33) (sup : Nat := 0) (ifs : Array Nat := #[]) (fds : Array FieldInfo := #[]) : ClassFile where
  minorVersion := 0
  majorVersion := 65
  constantPool := pool
  accessFlags := fl
  thisClass := this
  superClass := sup
  interfaces := ifs
  fields := fds
  methods := ms
  attributes := attrs
def plain (name : String) (sup : Option ClassId) : Class where
  name := name
  kind := .ordinary
  loader := none
  accessFlags := 33
  super := sup
  interfaces := #[]
  cf := none
  fields := #[]
  methods := #[]
  instanceTypes := #[]
  staticTypes := #[]
  resolved := #[]
  callSites := []
  init := .initialized
  statics := none
  mirror := none

def pool0 : Array CpInfo := pool [(5, u "<init>"), (0, u "()V"), (1, .class_ 10), (1, u "java/lang/Object")] 113

def k0c0 : Code := { maxStack := 0, maxLocals := 1, code := object_method_1_code, exceptionTable := #[], attributes := #[] }
def k0m0 : Method := { name := "<init>", desc := "()V", sig := { parameters := [], returnType := none }, accessFlags := 1, code := some k0c0 }
/-- java/lang/Object -/
def k0 : Class := { plain "java/lang/Object" none with
  accessFlags := 33
  interfaces := #[]
  cf := some (fileOf pool0 8 #[] #[{ accessFlags := 1, nameIndex := 5, descriptorIndex := 6, attributes := #[] }] 33 0 #[] #[])
  fields := #[]
  methods := #[k0m0]
  instanceTypes := #[]
  staticTypes := #[]
  resolved := Array.replicate 124 none
  statics := none }

def pool1 : Array CpInfo := pool [(2, .class_ 4), (1, u "java/lang/Object"), (0, u "<init>"), (0, u "()V"), (0, .fieldref 8 9), (0, .class_ 10), (0, .nameAndType 11 12), (0, u "com/example/dosimeter/dosimeter/model/ResourceKind"), (0, u "VM"), (0, u "Lcom/example/dosimeter/dosimeter/model/ResourceKind;"), (0, .fieldref 8 14), (0, .nameAndType 15 12), (0, u "VOLUME"), (0, .fieldref 8 17), (0, .nameAndType 18 12), (0, u "TEMPLATE"), (0, .fieldref 8 20), (0, .nameAndType 21 12), (0, u "ISO"), (0, .fieldref 8 23), (0, .nameAndType 24 12), (0, u "SNAPSHOT"), (0, .fieldref 8 26), (0, .nameAndType 27 12), (0, u "IP_ADDRESS"), (0, .fieldref 8 29), (0, .nameAndType 30 12), (0, u "NETWORK_DEVICE"), (0, .class_ 32), (0, u "java/lang/String"), (0, .methodref 31 34), (0, .nameAndType 5 35), (0, u "([C)V"), (0, .integer 2147483647), (0, .methodref 38 39), (0, .class_ 40), (0, .nameAndType 41 42), (0, u "com/example/dosimeter/dosimeter/model/ResourceKeyEqualsPinLaw"), (0, u "id"), (0, u "(ICCC)Ljava/lang/String;"), (0, .class_ 44), (0, u "com/example/dosimeter/dosimeter/model/ResourceKey"), (0, .methodref 38 46), (0, .nameAndType 47 48), (0, u "kind"), (0, u "(I)Lcom/example/dosimeter/dosimeter/model/ResourceKind;"), (0, .methodref 43 50), (0, .nameAndType 5 51), (0, u "(Lcom/example/dosimeter/dosimeter/model/ResourceKind;Ljava/lang/String;)V"), (0, .methodref 43 53), (0, .nameAndType 54 55), (0, u "equals"), (0, u "(Ljava/lang/Object;)Z"), (3, u "law"), (0, u "(IIIII)Z")] 2

def k1m0 : Method := { name := "<init>", desc := "()V", sig := { parameters := [], returnType := none }, accessFlags := 1, code := none }
def k1c1 : Code := { maxStack := 2, maxLocals := 1, code := method_2_code, exceptionTable := #[], attributes := #[] }
def k1m1 : Method := { name := "kind", desc := "(I)Lcom/example/dosimeter/dosimeter/model/ResourceKind;", sig := { parameters := [.int], returnType := some (.object "com/example/dosimeter/dosimeter/model/ResourceKind") }, accessFlags := 10, code := some k1c1 }
def k1c2 : Code := { maxStack := 6, maxLocals := 4, code := method_3_code, exceptionTable := #[], attributes := #[] }
def k1m2 : Method := { name := "id", desc := "(ICCC)Ljava/lang/String;", sig := { parameters := [.int, .char, .char, .char], returnType := some (.object "java/lang/String") }, accessFlags := 10, code := some k1c2 }
def k1c3 : Code := { maxStack := 7, maxLocals := 20, code := code, exceptionTable := #[], attributes := #[] }
def k1m3 : Method := { name := "law", desc := "(IIIII)Z", sig := { parameters := [.int, .int, .int, .int, .int], returnType := some .boolean }, accessFlags := 9, code := some k1c3 }
/-- com/example/dosimeter/dosimeter/model/ResourceKeyEqualsPinLaw -/
def k1 : Class := { plain "com/example/dosimeter/dosimeter/model/ResourceKeyEqualsPinLaw" (some 0) with
  accessFlags := 49
  interfaces := #[]
  cf := some (fileOf pool1 38 #[] #[{ accessFlags := 1, nameIndex := 5, descriptorIndex := 6, attributes := #[] }, { accessFlags := 10, nameIndex := 47, descriptorIndex := 48, attributes := #[] }, { accessFlags := 10, nameIndex := 41, descriptorIndex := 42, attributes := #[] }, { accessFlags := 9, nameIndex := 59, descriptorIndex := 60, attributes := #[] }] 49 2 #[] #[])
  fields := #[]
  methods := #[k1m0, k1m1, k1m2, k1m3]
  instanceTypes := #[]
  staticTypes := #[]
  resolved := Array.replicate 63 none
  statics := none }

def pool2 : Array CpInfo := pool [(1, .class_ 2), (0, u "java/io/Serializable"), (0, .class_ 4), (0, u "java/lang/Object")] 2

/-- java/io/Serializable -/
def k2 : Class := { plain "java/io/Serializable" (some 0) with
  accessFlags := 1537
  interfaces := #[]
  cf := some (fileOf pool2 1 #[] #[] 1537 3 #[] #[])
  fields := #[]
  methods := #[]
  instanceTypes := #[]
  staticTypes := #[]
  resolved := Array.replicate 7 none
  statics := none }

def pool3 : Array CpInfo := pool [(1, .class_ 2), (0, u "java/lang/Comparable"), (0, .class_ 4), (0, u "java/lang/Object")] 7

/-- java/lang/Comparable -/
def k3 : Class := { plain "java/lang/Comparable" (some 0) with
  accessFlags := 1537
  interfaces := #[]
  cf := some (fileOf pool3 1 #[] #[] 1537 3 #[] #[])
  fields := #[]
  methods := #[]
  instanceTypes := #[]
  staticTypes := #[]
  resolved := Array.replicate 12 none
  statics := none }

def pool4 : Array CpInfo := pool [(2, .class_ 4), (1, u "java/lang/CharSequence"), (42, .class_ 48), (0, u "java/lang/CharSequence$1CodePointIterator"), (10, .class_ 60), (0, u "java/lang/CharSequence$1CharIterator"), (5, .class_ 67), (0, u "java/lang/Object")] 63

/-- java/lang/CharSequence -/
def k4 : Class := { plain "java/lang/CharSequence" (some 0) with
  accessFlags := 1537
  interfaces := #[]
  cf := some (fileOf pool4 2 #[.nestMembers #[47, 59]] #[] 1537 66 #[] #[])
  fields := #[]
  methods := #[]
  instanceTypes := #[]
  staticTypes := #[]
  resolved := Array.replicate 131 none
  statics := none }

def pool5 : Array CpInfo := pool [(1, .class_ 2), (0, u "java/lang/constant/Constable"), (0, .class_ 4), (0, u "java/lang/Object")] 6

/-- java/lang/constant/Constable -/
def k5 : Class := { plain "java/lang/constant/Constable" (some 0) with
  accessFlags := 1537
  interfaces := #[]
  cf := some (fileOf pool5 1 #[] #[] 1537 3 #[] #[])
  fields := #[]
  methods := #[]
  instanceTypes := #[]
  staticTypes := #[]
  resolved := Array.replicate 11 none
  statics := none }

def pool6 : Array CpInfo := pool [(1, .class_ 2), (0, u "java/lang/constant/ConstantDesc"), (0, .class_ 4), (0, u "java/lang/Object")] 32

/-- java/lang/constant/ConstantDesc -/
def k6 : Class := { plain "java/lang/constant/ConstantDesc" (some 0) with
  accessFlags := 1537
  interfaces := #[]
  cf := some (fileOf pool6 1 #[] #[] 1537 3 #[] #[])
  fields := #[]
  methods := #[]
  instanceTypes := #[]
  staticTypes := #[]
  resolved := Array.replicate 37 none
  statics := none }

def pool7 : Array CpInfo := pool [(1, .methodref 2 3), (0, .class_ 4), (0, .nameAndType 5 6), (0, u "java/lang/Object"), (0, u "<init>"), (0, u "()V"), (0, .string 8), (0, u ""), (0, .fieldref 10 11), (0, .class_ 12), (0, .nameAndType 13 14), (0, u "java/lang/String"), (0, u "value"), (0, u "[B"), (0, .fieldref 10 16), (0, .nameAndType 17 18), (0, u "coder"), (0, u "B"), (2, u "hash"), (0, u "I"), (2, u "hashIsZero"), (0, u "Z"), (0, .methodref 10 28), (0, .nameAndType 5 29), (0, u "([CIILjava/lang/Void;)V"), (8, .fieldref 10 39), (0, .nameAndType 40 26), (0, u "COMPACT_STRINGS"), (1, .class_ 44), (1, u "java/lang/StringUTF16"), (0, u "compress"), (1, .methodref 42 48), (0, .nameAndType 49 50), (0, u "coderFromArrayLen"), (0, u "([BI)B"), (56, .class_ 109), (1, u "java/lang/StringLatin1"), (67, .methodref 42 178), (0, .nameAndType 45 179), (0, u "([CII)[B"), (361, .methodref 107 542), (0, .nameAndType 543 544), (0, u "equals"), (0, u "([B[B)Z"), (28, u "(Ljava/lang/Object;)Z"), (1, .class_ 576), (0, u "java/lang/CharSequence"), (22, u "CASE_INSENSITIVE_ORDER"), (0, u "Ljava/util/Comparator;"), (409, u "([C)V"), (90, u "serialPersistentFields"), (0, u "[Ljava/io/ObjectStreamField;"), (0, .class_ 1104), (0, u "java/lang/String$CaseInsensitiveComparator"), (1, .class_ 1107), (0, u "java/io/Serializable"), (0, .class_ 1109), (0, u "java/lang/Comparable"), (0, .class_ 1111), (0, u "java/lang/constant/Constable"), (0, .class_ 1113), (0, u "java/lang/constant/ConstantDesc"), (2, u "serialVersionUID"), (0, u "J"), (3, u "REPL"), (0, u "C"), (2, u "LATIN1"), (1, u "UTF16")] 323

def k7m0 : Method := { name := "<init>", desc := "()V", sig := { parameters := [], returnType := none }, accessFlags := 1, code := none }
def k7c1 : Code := { maxStack := 5, maxLocals := 2, code := jdk_42_method_3_code, exceptionTable := #[], attributes := #[] }
def k7m1 : Method := { name := "<init>", desc := "([C)V", sig := { parameters := [(.array .char)], returnType := none }, accessFlags := 1, code := some k7c1 }
def k7c2 : Code := { maxStack := 2, maxLocals := 3, code := jdk_42_method_66_code, exceptionTable := #[], attributes := #[] }
def k7m2 : Method := { name := "equals", desc := "(Ljava/lang/Object;)Z", sig := { parameters := [(.object "java/lang/Object")], returnType := some .boolean }, accessFlags := 1, code := some k7c2 }
def k7c3 : Code := { maxStack := 4, maxLocals := 6, code := jdk_42_method_149_code, exceptionTable := #[], attributes := #[] }
def k7m3 : Method := { name := "<init>", desc := "([CIILjava/lang/Void;)V", sig := { parameters := [(.array .char), .int, .int, (.object "java/lang/Void")], returnType := none }, accessFlags := 2, code := some k7c3 }
/-- java/lang/String -/
def k7 : Class := { plain "java/lang/String" (some 0) with
  accessFlags := 49
  interfaces := #[2, 3, 4, 5, 6]
  cf := some (fileOf pool7 10 #[.nestMembers #[1103]] #[{ accessFlags := 1, nameIndex := 5, descriptorIndex := 6, attributes := #[] }, { accessFlags := 1, nameIndex := 5, descriptorIndex := 1010, attributes := #[] }, { accessFlags := 1, nameIndex := 543, descriptorIndex := 573, attributes := #[] }, { accessFlags := 2, nameIndex := 5, descriptorIndex := 29, attributes := #[] }] 49 2 #[1106, 1108, 575, 1110, 1112] #[{ accessFlags := 18, nameIndex := 13, descriptorIndex := 14, attributes := #[] }, { accessFlags := 18, nameIndex := 17, descriptorIndex := 18, attributes := #[] }, { accessFlags := 2, nameIndex := 21, descriptorIndex := 22, attributes := #[] }, { accessFlags := 2, nameIndex := 25, descriptorIndex := 26, attributes := #[] }, { accessFlags := 26, nameIndex := 1116, descriptorIndex := 1117, attributes := #[] }, { accessFlags := 24, nameIndex := 40, descriptorIndex := 26, attributes := #[] }, { accessFlags := 26, nameIndex := 1101, descriptorIndex := 1102, attributes := #[] }, { accessFlags := 26, nameIndex := 1121, descriptorIndex := 1122, attributes := #[] }, { accessFlags := 25, nameIndex := 599, descriptorIndex := 600, attributes := #[] }, { accessFlags := 24, nameIndex := 1125, descriptorIndex := 18, attributes := #[] }, { accessFlags := 24, nameIndex := 1127, descriptorIndex := 18, attributes := #[] }])
  fields := #[{ name := "value", type := (.array .byte), accessFlags := 18, slot := 0, constantValue := 0 }, { name := "coder", type := .byte, accessFlags := 18, slot := 1, constantValue := 0 }, { name := "hash", type := .int, accessFlags := 2, slot := 2, constantValue := 0 }, { name := "hashIsZero", type := .boolean, accessFlags := 2, slot := 3, constantValue := 0 }, { name := "serialVersionUID", type := .long, accessFlags := 26, slot := 0, constantValue := 0 }, { name := "COMPACT_STRINGS", type := .boolean, accessFlags := 24, slot := 1, constantValue := 0 }, { name := "serialPersistentFields", type := (.array (.object "java/io/ObjectStreamField")), accessFlags := 26, slot := 2, constantValue := 0 }, { name := "REPL", type := .char, accessFlags := 26, slot := 3, constantValue := 0 }, { name := "CASE_INSENSITIVE_ORDER", type := (.object "java/util/Comparator"), accessFlags := 25, slot := 4, constantValue := 0 }, { name := "LATIN1", type := .byte, accessFlags := 24, slot := 5, constantValue := 0 }, { name := "UTF16", type := .byte, accessFlags := 24, slot := 6, constantValue := 0 }]
  methods := #[k7m0, k7m1, k7m2, k7m3]
  instanceTypes := #[(.array .byte), .byte, .int, .boolean]
  staticTypes := #[.long, .boolean, (.array (.object "java/io/ObjectStreamField")), .char, (.object "java/util/Comparator"), .byte, .byte]
  resolved := Array.replicate 1451 none
  statics := some 0 }

def pool8 : Array CpInfo := pool [(1, .methodref 2 3), (0, .class_ 4), (0, .nameAndType 5 6), (0, u "java/lang/Object"), (0, u "<init>"), (0, u "()V"), (0, .class_ 8), (0, u "java/lang/Record")] 13

def k8c0 : Code := { maxStack := 1, maxLocals := 1, code := jdk_30_method_1_code, exceptionTable := #[], attributes := #[] }
def k8m0 : Method := { name := "<init>", desc := "()V", sig := { parameters := [], returnType := none }, accessFlags := 4, code := some k8c0 }
/-- java/lang/Record -/
def k8 : Class := { plain "java/lang/Record" (some 0) with
  accessFlags := 1057
  interfaces := #[]
  cf := some (fileOf pool8 7 #[] #[{ accessFlags := 4, nameIndex := 5, descriptorIndex := 6, attributes := #[] }] 1057 2 #[] #[])
  fields := #[]
  methods := #[k8m0]
  instanceTypes := #[]
  staticTypes := #[]
  resolved := Array.replicate 22 none
  statics := none }

def pool9 : Array CpInfo := pool [(1, .methodref 2 3), (0, .class_ 4), (0, .nameAndType 5 6), (0, u "java/lang/Record"), (0, u "<init>"), (0, u "()V"), (0, .fieldref 8 9), (0, .class_ 10), (0, .nameAndType 11 12), (0, u "com/example/dosimeter/dosimeter/model/ResourceKey"), (0, u "kind"), (0, u "Lcom/example/dosimeter/dosimeter/model/ResourceKind;"), (0, .fieldref 8 14), (0, .nameAndType 15 16), (0, u "id"), (0, u "Ljava/lang/String;"), (18, u "(Lcom/example/dosimeter/dosimeter/model/ResourceKind;Ljava/lang/String;)V"), (0, .methodref 37 38), (0, .class_ 39), (0, .nameAndType 40 41), (0, u "java/lang/String"), (0, u "equals"), (0, u "(Ljava/lang/Object;)Z")] 38

def k9c0 : Code := { maxStack := 2, maxLocals := 3, code := prog_24_method_1_code, exceptionTable := #[], attributes := #[] }
def k9m0 : Method := { name := "<init>", desc := "(Lcom/example/dosimeter/dosimeter/model/ResourceKind;Ljava/lang/String;)V", sig := { parameters := [(.object "com/example/dosimeter/dosimeter/model/ResourceKind"), (.object "java/lang/String")], returnType := none }, accessFlags := 1, code := some k9c0 }
def k9c1 : Code := { maxStack := 2, maxLocals := 3, code := prog_24_method_3_code, exceptionTable := #[], attributes := #[] }
def k9m1 : Method := { name := "equals", desc := "(Ljava/lang/Object;)Z", sig := { parameters := [(.object "java/lang/Object")], returnType := some .boolean }, accessFlags := 1, code := some k9c1 }
/-- com/example/dosimeter/dosimeter/model/ResourceKey -/
def k9 : Class := { plain "com/example/dosimeter/dosimeter/model/ResourceKey" (some 8) with
  accessFlags := 49
  interfaces := #[]
  cf := some (fileOf pool9 8 #[] #[{ accessFlags := 1, nameIndex := 5, descriptorIndex := 35, attributes := #[] }, { accessFlags := 1, nameIndex := 40, descriptorIndex := 41, attributes := #[] }] 49 2 #[] #[{ accessFlags := 18, nameIndex := 11, descriptorIndex := 12, attributes := #[] }, { accessFlags := 18, nameIndex := 15, descriptorIndex := 16, attributes := #[] }])
  fields := #[{ name := "kind", type := (.object "com/example/dosimeter/dosimeter/model/ResourceKind"), accessFlags := 18, slot := 0, constantValue := 0 }, { name := "id", type := (.object "java/lang/String"), accessFlags := 18, slot := 1, constantValue := 0 }]
  methods := #[k9m0, k9m1]
  instanceTypes := #[(.object "com/example/dosimeter/dosimeter/model/ResourceKind"), (.object "java/lang/String")]
  staticTypes := #[]
  resolved := Array.replicate 80 none
  statics := none }

def pool10 : Array CpInfo := pool [(2, .class_ 4), (1, u "java/lang/Enum"), (0, u "name"), (0, u "Ljava/lang/String;"), (2, u "ordinal"), (0, u "I"), (1, .class_ 14), (1, u "java/lang/Object"), (4, u "hash"), (86, .class_ 108), (1, u "java/lang/Enum$EnumDesc"), (2, .class_ 112), (0, u "java/lang/constant/Constable"), (0, .class_ 114), (0, u "java/lang/Comparable"), (0, .class_ 116), (0, u "java/io/Serializable")] 87

/-- java/lang/Enum -/
def k10 : Class := { plain "java/lang/Enum" (some 0) with
  accessFlags := 1057
  interfaces := #[5, 3, 2]
  cf := some (fileOf pool10 2 #[.nestMembers #[106]] #[] 1057 12 #[111, 113, 115] #[{ accessFlags := 18, nameIndex := 5, descriptorIndex := 6, attributes := #[] }, { accessFlags := 18, nameIndex := 9, descriptorIndex := 10, attributes := #[] }, { accessFlags := 2, nameIndex := 19, descriptorIndex := 10, attributes := #[] }])
  fields := #[{ name := "name", type := (.object "java/lang/String"), accessFlags := 18, slot := 0, constantValue := 0 }, { name := "ordinal", type := .int, accessFlags := 18, slot := 1, constantValue := 0 }, { name := "hash", type := .int, accessFlags := 2, slot := 2, constantValue := 0 }]
  methods := #[]
  instanceTypes := #[(.object "java/lang/String"), .int, .int]
  staticTypes := #[]
  resolved := Array.replicate 204 none
  statics := none }

def pool11 : Array CpInfo := pool [(1, .class_ 2), (0, u "com/example/dosimeter/dosimeter/model/ResourceKind"), (2, u "VM"), (0, u "Lcom/example/dosimeter/dosimeter/model/ResourceKind;"), (2, u "VOLUME"), (2, u "TEMPLATE"), (2, u "ISO"), (2, u "SNAPSHOT"), (2, u "IP_ADDRESS"), (2, u "NETWORK_DEVICE"), (2, u "$VALUES"), (0, u "[Lcom/example/dosimeter/dosimeter/model/ResourceKind;"), (6, .class_ 37), (1, u "java/lang/Enum"), (47, u "details"), (0, u "Ljava/util/Set;")] 59

/-- com/example/dosimeter/dosimeter/model/ResourceKind -/
def k11 : Class := { plain "com/example/dosimeter/dosimeter/model/ResourceKind" (some 10) with
  accessFlags := 16433
  interfaces := #[]
  cf := some (fileOf pool11 1 #[] #[] 16433 35 #[] #[{ accessFlags := 16409, nameIndex := 5, descriptorIndex := 6, attributes := #[] }, { accessFlags := 16409, nameIndex := 9, descriptorIndex := 6, attributes := #[] }, { accessFlags := 16409, nameIndex := 12, descriptorIndex := 6, attributes := #[] }, { accessFlags := 16409, nameIndex := 15, descriptorIndex := 6, attributes := #[] }, { accessFlags := 16409, nameIndex := 18, descriptorIndex := 6, attributes := #[] }, { accessFlags := 16409, nameIndex := 21, descriptorIndex := 6, attributes := #[] }, { accessFlags := 16409, nameIndex := 24, descriptorIndex := 6, attributes := #[] }, { accessFlags := 18, nameIndex := 85, descriptorIndex := 86, attributes := #[] }, { accessFlags := 4122, nameIndex := 27, descriptorIndex := 28, attributes := #[] }])
  fields := #[{ name := "VM", type := (.object "com/example/dosimeter/dosimeter/model/ResourceKind"), accessFlags := 16409, slot := 0, constantValue := 0 }, { name := "VOLUME", type := (.object "com/example/dosimeter/dosimeter/model/ResourceKind"), accessFlags := 16409, slot := 1, constantValue := 0 }, { name := "TEMPLATE", type := (.object "com/example/dosimeter/dosimeter/model/ResourceKind"), accessFlags := 16409, slot := 2, constantValue := 0 }, { name := "ISO", type := (.object "com/example/dosimeter/dosimeter/model/ResourceKind"), accessFlags := 16409, slot := 3, constantValue := 0 }, { name := "SNAPSHOT", type := (.object "com/example/dosimeter/dosimeter/model/ResourceKind"), accessFlags := 16409, slot := 4, constantValue := 0 }, { name := "IP_ADDRESS", type := (.object "com/example/dosimeter/dosimeter/model/ResourceKind"), accessFlags := 16409, slot := 5, constantValue := 0 }, { name := "NETWORK_DEVICE", type := (.object "com/example/dosimeter/dosimeter/model/ResourceKind"), accessFlags := 16409, slot := 6, constantValue := 0 }, { name := "details", type := (.object "java/util/Set"), accessFlags := 18, slot := 3, constantValue := 0 }, { name := "$VALUES", type := (.array (.object "com/example/dosimeter/dosimeter/model/ResourceKind")), accessFlags := 4122, slot := 7, constantValue := 0 }]
  methods := #[]
  instanceTypes := #[(.object "java/lang/String"), .int, .int, (.object "java/util/Set")]
  staticTypes := #[(.object "com/example/dosimeter/dosimeter/model/ResourceKind"), (.object "com/example/dosimeter/dosimeter/model/ResourceKind"), (.object "com/example/dosimeter/dosimeter/model/ResourceKind"), (.object "com/example/dosimeter/dosimeter/model/ResourceKind"), (.object "com/example/dosimeter/dosimeter/model/ResourceKind"), (.object "com/example/dosimeter/dosimeter/model/ResourceKind"), (.object "com/example/dosimeter/dosimeter/model/ResourceKind"), (.array (.object "com/example/dosimeter/dosimeter/model/ResourceKind"))]
  resolved := Array.replicate 146 none
  statics := some 1 }

def pool12 : Array CpInfo := pool [(4, .class_ 6), (1, u "java/lang/Object"), (0, u "<init>"), (0, u "()V"), (5, .class_ 16), (1, u "java/lang/StringLatin1"), (104, u "$assertionsDisabled"), (0, u "Z"), (98, .class_ 223), (1, u "java/lang/StringLatin1$LinesSpliterator"), (57, u "equals"), (0, u "([B[B)Z"), (107, .class_ 391), (0, u "java/lang/StringLatin1$CharsSpliterator")] 3

def k12m0 : Method := { name := "<init>", desc := "()V", sig := { parameters := [], returnType := none }, accessFlags := 0, code := none }
def k12c1 : Code := { maxStack := 3, maxLocals := 3, code := jdk_43_method_13_code, exceptionTable := #[], attributes := #[] }
def k12m1 : Method := { name := "equals", desc := "([B[B)Z", sig := { parameters := [(.array .byte), (.array .byte)], returnType := some .boolean }, accessFlags := 9, code := some k12c1 }
/-- java/lang/StringLatin1 -/
def k12 : Class := { plain "java/lang/StringLatin1" (some 0) with
  accessFlags := 48
  interfaces := #[]
  cf := some (fileOf pool12 14 #[.nestMembers #[390, 221]] #[{ accessFlags := 0, nameIndex := 7, descriptorIndex := 8, attributes := #[] }, { accessFlags := 9, nameIndex := 281, descriptorIndex := 282, attributes := #[] }] 48 4 #[] #[{ accessFlags := 4120, nameIndex := 121, descriptorIndex := 122, attributes := #[] }])
  fields := #[{ name := "$assertionsDisabled", type := .boolean, accessFlags := 4120, slot := 0, constantValue := 0 }]
  methods := #[k12m0, k12m1]
  instanceTypes := #[]
  staticTypes := #[.boolean]
  resolved := Array.replicate 395 none
  statics := none }

def pool13 : Array CpInfo := pool [(6, .class_ 8), (1, u "java/lang/Object"), (0, u "<init>"), (0, u "()V"), (1, .class_ 14), (1, u "java/lang/StringUTF16"), (31, u "$assertionsDisabled"), (0, u "Z"), (13, u "HI_BYTE_SHIFT"), (0, u "I"), (2, u "LO_BYTE_SHIFT"), (49, .methodref 12 116), (0, .nameAndType 117 118), (0, u "compress"), (0, u "([CI[BII)I"), (3, u "([CII)[B"), (138, u "coderFromArrayLen"), (0, u "([BI)B"), (106, .class_ 371), (1, u "java/lang/StringUTF16$LinesSpliterator"), (58, u "MAX_LENGTH"), (196, .class_ 628), (0, u "java/lang/StringUTF16$CodePointsSpliterator"), (0, .class_ 630), (0, u "java/lang/StringUTF16$CharsSpliterator")] 4

def k13m0 : Method := { name := "<init>", desc := "()V", sig := { parameters := [], returnType := none }, accessFlags := 0, code := none }
def k13c1 : Code := { maxStack := 2, maxLocals := 2, code := jdk_52_method_15_code, exceptionTable := #[], attributes := #[] }
def k13m1 : Method := { name := "coderFromArrayLen", desc := "([BI)B", sig := { parameters := [(.array .byte), .int], returnType := some .byte }, accessFlags := 8, code := some k13c1 }
def k13c2 : Code := { maxStack := 5, maxLocals := 6, code := jdk_52_method_16_code, exceptionTable := #[], attributes := #[] }
def k13m2 : Method := { name := "compress", desc := "([CII)[B", sig := { parameters := [(.array .char), .int, .int], returnType := some (.array .byte) }, accessFlags := 9, code := some k13c2 }
def k13c3 : Code := { maxStack := 3, maxLocals := 7, code := jdk_52_method_21_code, exceptionTable := #[], attributes := #[] }
def k13m3 : Method := { name := "compress", desc := "([CI[BII)I", sig := { parameters := [(.array .char), .int, (.array .byte), .int, .int], returnType := some .int }, accessFlags := 9, code := some k13c3 }
/-- java/lang/StringUTF16 -/
def k13 : Class := { plain "java/lang/StringUTF16" (some 0) with
  accessFlags := 48
  interfaces := #[]
  cf := some (fileOf pool13 12 #[.nestMembers #[627, 629, 369]] #[{ accessFlags := 0, nameIndex := 9, descriptorIndex := 10, attributes := #[] }, { accessFlags := 8, nameIndex := 261, descriptorIndex := 262, attributes := #[] }, { accessFlags := 9, nameIndex := 117, descriptorIndex := 122, attributes := #[] }, { accessFlags := 9, nameIndex := 117, descriptorIndex := 118, attributes := #[] }] 48 6 #[] #[{ accessFlags := 26, nameIndex := 61, descriptorIndex := 62, attributes := #[] }, { accessFlags := 26, nameIndex := 65, descriptorIndex := 62, attributes := #[] }, { accessFlags := 24, nameIndex := 430, descriptorIndex := 62, attributes := #[] }, { accessFlags := 4120, nameIndex := 46, descriptorIndex := 47, attributes := #[] }])
  fields := #[{ name := "HI_BYTE_SHIFT", type := .int, accessFlags := 26, slot := 0, constantValue := 0 }, { name := "LO_BYTE_SHIFT", type := .int, accessFlags := 26, slot := 1, constantValue := 0 }, { name := "MAX_LENGTH", type := .int, accessFlags := 24, slot := 2, constantValue := 0 }, { name := "$assertionsDisabled", type := .boolean, accessFlags := 4120, slot := 3, constantValue := 0 }]
  methods := #[k13m0, k13m1, k13m2, k13m3]
  instanceTypes := #[]
  staticTypes := #[.int, .int, .int, .boolean]
  resolved := Array.replicate 635 none
  statics := none }

def pool14 : Array CpInfo := pool [(2, .class_ 4), (1, u "java/lang/Object"), (0, u "<init>"), (0, u "()V"), (17, .class_ 26), (1, u "jdk/internal/util/Preconditions"), (28, .class_ 56), (0, u "jdk/internal/util/Preconditions$4"), (57, .class_ 115), (0, u "jdk/internal/util/Preconditions$1"), (7, u "SIOOBE_FORMATTER"), (0, u "Ljava/util/function/BiFunction;"), (0, .class_ 126), (0, u "jdk/internal/util/Preconditions$2"), (3, u "AIOOBE_FORMATTER"), (0, .class_ 132), (0, u "jdk/internal/util/Preconditions$3"), (3, u "IOOBE_FORMATTER")] 57

def k14m0 : Method := { name := "<init>", desc := "()V", sig := { parameters := [], returnType := none }, accessFlags := 1, code := none }
/-- jdk/internal/util/Preconditions -/
def k14 : Class := { plain "jdk/internal/util/Preconditions" (some 0) with
  accessFlags := 33
  interfaces := #[]
  cf := some (fileOf pool14 24 #[.nestMembers #[55, 131, 125, 114]] #[{ accessFlags := 1, nameIndex := 5, descriptorIndex := 6, attributes := #[] }] 33 2 #[] #[{ accessFlags := 25, nameIndex := 123, descriptorIndex := 124, attributes := #[] }, { accessFlags := 25, nameIndex := 130, descriptorIndex := 124, attributes := #[] }, { accessFlags := 25, nameIndex := 136, descriptorIndex := 124, attributes := #[] }])
  fields := #[{ name := "SIOOBE_FORMATTER", type := (.object "java/util/function/BiFunction"), accessFlags := 25, slot := 0, constantValue := 0 }, { name := "AIOOBE_FORMATTER", type := (.object "java/util/function/BiFunction"), accessFlags := 25, slot := 1, constantValue := 0 }, { name := "IOOBE_FORMATTER", type := (.object "java/util/function/BiFunction"), accessFlags := 25, slot := 2, constantValue := 0 }]
  methods := #[k14m0]
  instanceTypes := #[]
  staticTypes := #[(.object "java/util/function/BiFunction"), (.object "java/util/function/BiFunction"), (.object "java/util/function/BiFunction")]
  resolved := Array.replicate 194 none
  statics := some 2 }

def pool15 : Array CpInfo := pool [(9, u "<init>"), (6, .class_ 18), (1, u "java/lang/Object"), (0, u "()V"), (1, .class_ 23), (1, u "jdk/internal/util/ArraysSupport"), (0, u "LOG2_ARRAY_LONG_INDEX_SCALE"), (0, u "I"), (2, u "U"), (0, u "Ljdk/internal/misc/Unsafe;"), (8, u "BIG_ENDIAN"), (0, u "Z"), (8, u "LOG2_BYTE_BIT_SIZE"), (4, u "LOG2_ARRAY_INT_INDEX_SCALE"), (54, u "JLA"), (0, u "Ljdk/internal/access/JavaLangAccess;"), (11, u "LOG2_ARRAY_BOOLEAN_INDEX_SCALE"), (9, u "LOG2_ARRAY_BYTE_INDEX_SCALE"), (5, u "LOG2_ARRAY_CHAR_INDEX_SCALE"), (5, u "LOG2_ARRAY_SHORT_INDEX_SCALE"), (18, u "LOG2_ARRAY_FLOAT_INDEX_SCALE"), (24, u "LOG2_ARRAY_DOUBLE_INDEX_SCALE"), (89, u "T_BOOLEAN"), (2, u "T_CHAR"), (1, u "T_FLOAT"), (1, u "T_DOUBLE"), (1, u "T_BYTE"), (1, u "T_SHORT"), (1, u "T_INT"), (1, u "T_LONG"), (1, u "SOFT_MAX_ARRAY_LENGTH")] 83

def k15m0 : Method := { name := "<init>", desc := "()V", sig := { parameters := [], returnType := none }, accessFlags := 2, code := none }
/-- jdk/internal/util/ArraysSupport -/
def k15 : Class := { plain "jdk/internal/util/ArraysSupport" (some 0) with
  accessFlags := 33
  interfaces := #[]
  cf := some (fileOf pool15 21 #[] #[{ accessFlags := 2, nameIndex := 9, descriptorIndex := 19, attributes := #[] }] 33 16 #[] #[{ accessFlags := 24, nameIndex := 28, descriptorIndex := 29, attributes := #[] }, { accessFlags := 26, nameIndex := 38, descriptorIndex := 39, attributes := #[] }, { accessFlags := 25, nameIndex := 121, descriptorIndex := 25, attributes := #[] }, { accessFlags := 25, nameIndex := 131, descriptorIndex := 25, attributes := #[] }, { accessFlags := 25, nameIndex := 137, descriptorIndex := 25, attributes := #[] }, { accessFlags := 25, nameIndex := 143, descriptorIndex := 25, attributes := #[] }, { accessFlags := 25, nameIndex := 53, descriptorIndex := 25, attributes := #[] }, { accessFlags := 25, nameIndex := 24, descriptorIndex := 25, attributes := #[] }, { accessFlags := 25, nameIndex := 162, descriptorIndex := 25, attributes := #[] }, { accessFlags := 25, nameIndex := 187, descriptorIndex := 25, attributes := #[] }, { accessFlags := 26, nameIndex := 48, descriptorIndex := 25, attributes := #[] }, { accessFlags := 25, nameIndex := 277, descriptorIndex := 25, attributes := #[] }, { accessFlags := 25, nameIndex := 280, descriptorIndex := 25, attributes := #[] }, { accessFlags := 25, nameIndex := 282, descriptorIndex := 25, attributes := #[] }, { accessFlags := 25, nameIndex := 284, descriptorIndex := 25, attributes := #[] }, { accessFlags := 25, nameIndex := 286, descriptorIndex := 25, attributes := #[] }, { accessFlags := 25, nameIndex := 288, descriptorIndex := 25, attributes := #[] }, { accessFlags := 25, nameIndex := 290, descriptorIndex := 25, attributes := #[] }, { accessFlags := 25, nameIndex := 292, descriptorIndex := 25, attributes := #[] }, { accessFlags := 26, nameIndex := 108, descriptorIndex := 109, attributes := #[] }, { accessFlags := 25, nameIndex := 294, descriptorIndex := 25, attributes := #[] }])
  fields := #[{ name := "U", type := (.object "jdk/internal/misc/Unsafe"), accessFlags := 24, slot := 0, constantValue := 0 }, { name := "BIG_ENDIAN", type := .boolean, accessFlags := 26, slot := 1, constantValue := 0 }, { name := "LOG2_ARRAY_BOOLEAN_INDEX_SCALE", type := .int, accessFlags := 25, slot := 2, constantValue := 0 }, { name := "LOG2_ARRAY_BYTE_INDEX_SCALE", type := .int, accessFlags := 25, slot := 3, constantValue := 0 }, { name := "LOG2_ARRAY_CHAR_INDEX_SCALE", type := .int, accessFlags := 25, slot := 4, constantValue := 0 }, { name := "LOG2_ARRAY_SHORT_INDEX_SCALE", type := .int, accessFlags := 25, slot := 5, constantValue := 0 }, { name := "LOG2_ARRAY_INT_INDEX_SCALE", type := .int, accessFlags := 25, slot := 6, constantValue := 0 }, { name := "LOG2_ARRAY_LONG_INDEX_SCALE", type := .int, accessFlags := 25, slot := 7, constantValue := 0 }, { name := "LOG2_ARRAY_FLOAT_INDEX_SCALE", type := .int, accessFlags := 25, slot := 8, constantValue := 0 }, { name := "LOG2_ARRAY_DOUBLE_INDEX_SCALE", type := .int, accessFlags := 25, slot := 9, constantValue := 0 }, { name := "LOG2_BYTE_BIT_SIZE", type := .int, accessFlags := 26, slot := 10, constantValue := 0 }, { name := "T_BOOLEAN", type := .int, accessFlags := 25, slot := 11, constantValue := 0 }, { name := "T_CHAR", type := .int, accessFlags := 25, slot := 12, constantValue := 0 }, { name := "T_FLOAT", type := .int, accessFlags := 25, slot := 13, constantValue := 0 }, { name := "T_DOUBLE", type := .int, accessFlags := 25, slot := 14, constantValue := 0 }, { name := "T_BYTE", type := .int, accessFlags := 25, slot := 15, constantValue := 0 }, { name := "T_SHORT", type := .int, accessFlags := 25, slot := 16, constantValue := 0 }, { name := "T_INT", type := .int, accessFlags := 25, slot := 17, constantValue := 0 }, { name := "T_LONG", type := .int, accessFlags := 25, slot := 18, constantValue := 0 }, { name := "JLA", type := (.object "jdk/internal/access/JavaLangAccess"), accessFlags := 26, slot := 19, constantValue := 0 }, { name := "SOFT_MAX_ARRAY_LENGTH", type := .int, accessFlags := 25, slot := 20, constantValue := 0 }]
  methods := #[k15m0]
  instanceTypes := #[]
  staticTypes := #[(.object "jdk/internal/misc/Unsafe"), .boolean, .int, .int, .int, .int, .int, .int, .int, .int, .int, .int, .int, .int, .int, .int, .int, .int, .int, (.object "jdk/internal/access/JavaLangAccess"), .int]
  resolved := Array.replicate 378 none
  statics := none }

def pool16 : Array CpInfo := pool [(1, u "java/lang/Cloneable"), (0, .class_ 1), (0, u "java/lang/Object"), (0, .class_ 3)] 3

/-- java/lang/Cloneable -/
def k16 : Class := { plain "java/lang/Cloneable" (some 0) with
  accessFlags := 1537
  interfaces := #[]
  cf := some (fileOf pool16 2 #[] #[] 1537 4 #[] #[])
  fields := #[]
  methods := #[]
  instanceTypes := #[]
  staticTypes := #[]
  resolved := Array.replicate 8 none
  statics := none }

/-- the primitive byte -/
def k17 : Class := { plain "byte" none with kind := .primitive 'B', accessFlags := 0x411 }
/-- [B -/
def k18 : Class := { plain "[B" (some 0) with kind := .array 17 .byte, interfaces := #[16, 2], accessFlags := 1041 }

/-- the primitive char -/
def k19 : Class := { plain "char" none with kind := .primitive 'C', accessFlags := 0x411 }
/-- [C -/
def k20 : Class := { plain "[C" (some 0) with kind := .array 19 .char, interfaces := #[16, 2], accessFlags := 1041 }

/-- the primitive int -/
def k21 : Class := { plain "int" none with kind := .primitive 'I', accessFlags := 0x411 }
/-- [I -/
def k22 : Class := { plain "[I" (some 0) with kind := .array 21 .int, interfaces := #[16, 2], accessFlags := 1041 }

def heap : Heap := #[{ cls := 7, slots := #[.long 0, .int 1, .null, .int 0, .null, .int 0, .int 0], vm := .statics 7 },
  { cls := 11, slots := #[.ref 3, .ref 6, .ref 7, .ref 4, .ref 9, .ref 5, .ref 8, .null], vm := .statics 11 },
  { cls := 14, slots := #[.null, .null, .null], vm := .statics 14 },
  { cls := 11, slots := #[.null, .int 0, .int 0, .null], vm := .none },
  { cls := 11, slots := #[.null, .int 3, .int 0, .null], vm := .none },
  { cls := 11, slots := #[.null, .int 5, .int 0, .null], vm := .none },
  { cls := 11, slots := #[.null, .int 1, .int 0, .null], vm := .none },
  { cls := 11, slots := #[.null, .int 2, .int 0, .null], vm := .none },
  { cls := 11, slots := #[.null, .int 6, .int 0, .null], vm := .none },
  { cls := 11, slots := #[.null, .int 4, .int 0, .null], vm := .none }]
def classes : Array Class := #[k0, k1, k2, k3, k4, k5, k6, k7, k8, k9, k10, k11, k12, k13, k14, k15, k16, k17, k18, k19, k20, k21, k22]
def interned : List (Array UInt16 × Addr) := []
def slotsUsed : Nat := 46
def theMethod : MethodId := ⟨1, 3⟩
def args0 : Array Value := #[.int 5, .int 3, .int 4, .int 1, .int 1]
def aboutOver (below : List Frame) : State where
  vm := { classes := classes, interned := interned.toArray }
  heap := heap
  slotsUsed := slotsUsed
  threads := #[{ frames := .invoking theMethod args0 :: below }]
def below0 : List Frame := [.native { method := ⟨0, 0⟩, args := #[] }]
def about1 : State := aboutOver below0
def p0 : Program := .bare "" "" ""
def e0 : Env := launch0.env 0 0 0
theorem w_frames : about1.frames = Frame.invoking theMethod args0 :: below0 := rfl
set_option maxRecDepth 65536 in
theorem w_args : argsFit about1.vm theMethod args0 = true := by decide +kernel
set_option maxRecDepth 65536 in
theorem w_heap : heapFits about1 = true := by decide +kernel
set_option maxRecDepth 65536 in
theorem w_runnable : about1.curStatus? = some .runnable := by decide +kernel
set_option maxRecDepth 65536 in
theorem w_alone : about1.alone = true := by decide +kernel
set_option maxRecDepth 65536 in
theorem w_named : about1.methodNamed? x = some theMethod := by decide +kernel
set_option maxRecDepth 65536 in
theorem w_hears : about1.hears theMethod below0 = true := by decide +kernel
set_option maxRecDepth 65536 in
theorem w_ripe : about1.ripe theMethod args0 below0 = true := by decide +kernel
theorem w_running : about1.status = .running := rfl
set_option maxRecDepth 65536 in
theorem w_room : about1.hasRoom e0.platform room_1 = true :=
  launch0.hasRoom_least _ room_1 (by decide +kernel) (by decide +kernel) (by decide +kernel) (by decide +kernel) (by decide +kernel) (by decide +kernel)
theorem allAtoms_all (ts : List Jvm.Cond) (a : Array Jvm.Value) (st : Jvm.State) : (allAtoms ts).before a st = ts.all (fun c => c.before a st) := by
  induction ts with
  | nil => rfl
  | cons c t ih =>
    show (Jvm.Cond.and c (allAtoms t)).before a st = _
    rw [Jvm.Cond.before_and, ih, List.all_cons]
def words1 : List Jvm.Cond := Jvm.Cond.code x code maxLocals ret :: tables_1
/-- a 'code' word, met by the world's own term for the bytes: nothing is compared byte by byte -/
theorem code_word {y : MethodName} {bytes : ByteArray} {mx : Nat} {rt : Option FieldType} {a : Array Value} {s : State} {m : MethodId} {meth : Method} {c : Code} (h1 : s.methodNamed? y = some m) (h2 : s.vm.method? m = some meth) (h3 : meth.code = some c) (h4 : c.code = bytes)
    (h5 : (c.maxLocals == mx && c.exceptionTable.isEmpty && decide (c.maxStack ≤ mostOperands) && decide (meth.sig.returnType = rt) && !meth.locks && decide (parseMethodDescriptor y.desc = some meth.sig)) = true) : (Jvm.Cond.code y bytes mx rt).before a s = true := by
  simp only [Bool.and_eq_true, beq_iff_eq, Bool.not_eq_true', decide_eq_true_eq] at h5
  obtain ⟨⟨⟨⟨⟨g1, g2⟩, g3⟩, g4⟩, g5⟩, g6⟩ := h5
  simp [Cond.before, Cond.holds, Cond.value, h1, h2, h3, h4, g1, g2, g3, g4, g5, g6]
def isCode : Jvm.Cond → Bool
  | .code _ _ _ _ => true
  | _ => false
theorem all_split {L : List Jvm.Cond} {P : Jvm.Cond → Bool} (h1 : L.all (fun c => isCode c || P c) = true) (h2 : ∀ c ∈ L.filter isCode, P c = true) : L.all P = true := by
  refine List.all_eq_true.mpr fun c hc => ?_
  have h := List.all_eq_true.mp h1 c hc
  rcases Bool.eq_false_or_eq_true (isCode c) with hi | hi
  · exact h2 c (List.mem_filter.mpr ⟨hc, hi⟩)
  · simpa [hi] using h
set_option maxRecDepth 65536 in
theorem w_c0 : (Jvm.Cond.code x code maxLocals ret).before args0 about1 = true := code_word (m := ⟨1, 3⟩) (meth := k1m3) (c := k1c3) (by decide +kernel) rfl rfl rfl (by decide +kernel)
set_option maxRecDepth 65536 in
theorem w_c1 : (Jvm.Cond.code ({ cls := "com/example/dosimeter/dosimeter/model/ResourceKeyEqualsPinLaw", name := "id", desc := "(ICCC)Ljava/lang/String;" } : Jvm.MethodName) method_3_code (4 : Nat) (Option.some (Jvm.ClassFile.FieldType.object "java/lang/String"))).before args0 about1 = true := code_word (m := ⟨1, 2⟩) (meth := k1m2) (c := k1c2) (by decide +kernel) rfl rfl rfl (by decide +kernel)
set_option maxRecDepth 65536 in
theorem w_c2 : (Jvm.Cond.code ({ cls := "java/lang/String", name := "<init>", desc := "([C)V" } : Jvm.MethodName) jdk_42_method_3_code (2 : Nat) (Option.none : Option Jvm.ClassFile.FieldType)).before args0 about1 = true := code_word (m := ⟨7, 1⟩) (meth := k7m1) (c := k7c1) (by decide +kernel) rfl rfl rfl (by decide +kernel)
set_option maxRecDepth 65536 in
theorem w_c3 : (Jvm.Cond.code ({ cls := "java/lang/String", name := "<init>", desc := "([CIILjava/lang/Void;)V" } : Jvm.MethodName) jdk_42_method_149_code (6 : Nat) (Option.none : Option Jvm.ClassFile.FieldType)).before args0 about1 = true := code_word (m := ⟨7, 3⟩) (meth := k7m3) (c := k7c3) (by decide +kernel) rfl rfl rfl (by decide +kernel)
set_option maxRecDepth 65536 in
theorem w_c4 : (Jvm.Cond.code ({ cls := "java/lang/Object", name := "<init>", desc := "()V" } : Jvm.MethodName) object_method_1_code (1 : Nat) (Option.none : Option Jvm.ClassFile.FieldType)).before args0 about1 = true := code_word (m := ⟨0, 0⟩) (meth := k0m0) (c := k0c0) (by decide +kernel) rfl rfl rfl (by decide +kernel)
set_option maxRecDepth 65536 in
theorem w_c5 : (Jvm.Cond.code ({ cls := "com/example/dosimeter/dosimeter/model/ResourceKeyEqualsPinLaw", name := "kind", desc := "(I)Lcom/example/dosimeter/dosimeter/model/ResourceKind;" } : Jvm.MethodName) method_2_code (1 : Nat) (Option.some (Jvm.ClassFile.FieldType.object "com/example/dosimeter/dosimeter/model/ResourceKind"))).before args0 about1 = true := code_word (m := ⟨1, 1⟩) (meth := k1m1) (c := k1c1) (by decide +kernel) rfl rfl rfl (by decide +kernel)
set_option maxRecDepth 65536 in
theorem w_c6 : (Jvm.Cond.code ({ cls := "com/example/dosimeter/dosimeter/model/ResourceKey", name := "<init>", desc := "(Lcom/example/dosimeter/dosimeter/model/ResourceKind;Ljava/lang/String;)V" } : Jvm.MethodName) prog_24_method_1_code (3 : Nat) (Option.none : Option Jvm.ClassFile.FieldType)).before args0 about1 = true := code_word (m := ⟨9, 0⟩) (meth := k9m0) (c := k9c0) (by decide +kernel) rfl rfl rfl (by decide +kernel)
set_option maxRecDepth 65536 in
theorem w_c7 : (Jvm.Cond.code ({ cls := "java/lang/Record", name := "<init>", desc := "()V" } : Jvm.MethodName) jdk_30_method_1_code (1 : Nat) (Option.none : Option Jvm.ClassFile.FieldType)).before args0 about1 = true := code_word (m := ⟨8, 0⟩) (meth := k8m0) (c := k8c0) (by decide +kernel) rfl rfl rfl (by decide +kernel)
set_option maxRecDepth 65536 in
theorem w_c8 : (Jvm.Cond.code ({ cls := "com/example/dosimeter/dosimeter/model/ResourceKey", name := "equals", desc := "(Ljava/lang/Object;)Z" } : Jvm.MethodName) prog_24_method_3_code (3 : Nat) (Option.some Jvm.ClassFile.FieldType.boolean)).before args0 about1 = true := code_word (m := ⟨9, 1⟩) (meth := k9m1) (c := k9c1) (by decide +kernel) rfl rfl rfl (by decide +kernel)
set_option maxRecDepth 65536 in
theorem w_c9 : (Jvm.Cond.code ({ cls := "java/lang/String", name := "equals", desc := "(Ljava/lang/Object;)Z" } : Jvm.MethodName) jdk_42_method_66_code (3 : Nat) (Option.some Jvm.ClassFile.FieldType.boolean)).before args0 about1 = true := code_word (m := ⟨7, 2⟩) (meth := k7m2) (c := k7c2) (by decide +kernel) rfl rfl rfl (by decide +kernel)
set_option maxRecDepth 65536 in
theorem w_c10 : (Jvm.Cond.code ({ cls := "java/lang/StringLatin1", name := "equals", desc := "([B[B)Z" } : Jvm.MethodName) jdk_43_method_13_code (3 : Nat) (Option.some Jvm.ClassFile.FieldType.boolean)).before args0 about1 = true := code_word (m := ⟨12, 1⟩) (meth := k12m1) (c := k12c1) (by decide +kernel) rfl rfl rfl (by decide +kernel)
set_option maxRecDepth 65536 in
theorem w_c11 : (Jvm.Cond.code ({ cls := "java/lang/StringUTF16", name := "compress", desc := "([CII)[B" } : Jvm.MethodName) jdk_52_method_16_code (6 : Nat) (Option.some (Jvm.ClassFile.FieldType.array Jvm.ClassFile.FieldType.byte))).before args0 about1 = true := code_word (m := ⟨13, 2⟩) (meth := k13m2) (c := k13c2) (by decide +kernel) rfl rfl rfl (by decide +kernel)
set_option maxRecDepth 65536 in
theorem w_c12 : (Jvm.Cond.code ({ cls := "java/lang/StringUTF16", name := "compress", desc := "([CI[BII)I" } : Jvm.MethodName) jdk_52_method_21_code (7 : Nat) (Option.some Jvm.ClassFile.FieldType.int)).before args0 about1 = true := code_word (m := ⟨13, 3⟩) (meth := k13m3) (c := k13c3) (by decide +kernel) rfl rfl rfl (by decide +kernel)
set_option maxRecDepth 65536 in
theorem w_c13 : (Jvm.Cond.code ({ cls := "java/lang/StringUTF16", name := "coderFromArrayLen", desc := "([BI)B" } : Jvm.MethodName) jdk_52_method_15_code (2 : Nat) (Option.some Jvm.ClassFile.FieldType.byte)).before args0 about1 = true := code_word (m := ⟨13, 1⟩) (meth := k13m1) (c := k13c1) (by decide +kernel) rfl rfl rfl (by decide +kernel)
def codes1 : List Jvm.Cond := [Jvm.Cond.code x code maxLocals ret, Jvm.Cond.code ({ cls := "com/example/dosimeter/dosimeter/model/ResourceKeyEqualsPinLaw", name := "id", desc := "(ICCC)Ljava/lang/String;" } : Jvm.MethodName) method_3_code (4 : Nat) (Option.some (Jvm.ClassFile.FieldType.object "java/lang/String")), Jvm.Cond.code ({ cls := "java/lang/String", name := "<init>", desc := "([C)V" } : Jvm.MethodName) jdk_42_method_3_code (2 : Nat) (Option.none : Option Jvm.ClassFile.FieldType), Jvm.Cond.code ({ cls := "java/lang/String", name := "<init>", desc := "([CIILjava/lang/Void;)V" } : Jvm.MethodName) jdk_42_method_149_code (6 : Nat) (Option.none : Option Jvm.ClassFile.FieldType), Jvm.Cond.code ({ cls := "java/lang/Object", name := "<init>", desc := "()V" } : Jvm.MethodName) object_method_1_code (1 : Nat) (Option.none : Option Jvm.ClassFile.FieldType), Jvm.Cond.code ({ cls := "com/example/dosimeter/dosimeter/model/ResourceKeyEqualsPinLaw", name := "kind", desc := "(I)Lcom/example/dosimeter/dosimeter/model/ResourceKind;" } : Jvm.MethodName) method_2_code (1 : Nat) (Option.some (Jvm.ClassFile.FieldType.object "com/example/dosimeter/dosimeter/model/ResourceKind")), Jvm.Cond.code ({ cls := "com/example/dosimeter/dosimeter/model/ResourceKey", name := "<init>", desc := "(Lcom/example/dosimeter/dosimeter/model/ResourceKind;Ljava/lang/String;)V" } : Jvm.MethodName) prog_24_method_1_code (3 : Nat) (Option.none : Option Jvm.ClassFile.FieldType), Jvm.Cond.code ({ cls := "java/lang/Record", name := "<init>", desc := "()V" } : Jvm.MethodName) jdk_30_method_1_code (1 : Nat) (Option.none : Option Jvm.ClassFile.FieldType), Jvm.Cond.code ({ cls := "com/example/dosimeter/dosimeter/model/ResourceKey", name := "equals", desc := "(Ljava/lang/Object;)Z" } : Jvm.MethodName) prog_24_method_3_code (3 : Nat) (Option.some Jvm.ClassFile.FieldType.boolean), Jvm.Cond.code ({ cls := "java/lang/String", name := "equals", desc := "(Ljava/lang/Object;)Z" } : Jvm.MethodName) jdk_42_method_66_code (3 : Nat) (Option.some Jvm.ClassFile.FieldType.boolean), Jvm.Cond.code ({ cls := "java/lang/StringLatin1", name := "equals", desc := "([B[B)Z" } : Jvm.MethodName) jdk_43_method_13_code (3 : Nat) (Option.some Jvm.ClassFile.FieldType.boolean), Jvm.Cond.code ({ cls := "java/lang/StringUTF16", name := "compress", desc := "([CII)[B" } : Jvm.MethodName) jdk_52_method_16_code (6 : Nat) (Option.some (Jvm.ClassFile.FieldType.array Jvm.ClassFile.FieldType.byte)), Jvm.Cond.code ({ cls := "java/lang/StringUTF16", name := "compress", desc := "([CI[BII)I" } : Jvm.MethodName) jdk_52_method_21_code (7 : Nat) (Option.some Jvm.ClassFile.FieldType.int), Jvm.Cond.code ({ cls := "java/lang/StringUTF16", name := "coderFromArrayLen", desc := "([BI)B" } : Jvm.MethodName) jdk_52_method_15_code (2 : Nat) (Option.some Jvm.ClassFile.FieldType.byte)]
set_option maxRecDepth 65536 in
theorem codes_eq : words1.filter isCode = codes1 := rfl
theorem w_codes : ∀ c ∈ words1.filter isCode, c.before args0 about1 = true := by
  rw [codes_eq]
  intro c hc
  simp only [codes1, List.mem_cons, List.not_mem_nil, or_false] at hc
  rcases hc with rfl | rfl | rfl | rfl | rfl | rfl | rfl | rfl | rfl | rfl | rfl | rfl | rfl | rfl
  · exact w_c0
  · exact w_c1
  · exact w_c2
  · exact w_c3
  · exact w_c4
  · exact w_c5
  · exact w_c6
  · exact w_c7
  · exact w_c8
  · exact w_c9
  · exact w_c10
  · exact w_c11
  · exact w_c12
  · exact w_c13
set_option maxRecDepth 65536 in
theorem w_t1 : (words1.take 24).all (fun c => isCode c || c.before args0 about1) = true := by decide +kernel
set_option maxRecDepth 65536 in
theorem w_t2 : ((words1.drop 24).take 24).all (fun c => isCode c || c.before args0 about1) = true := by decide +kernel
set_option maxRecDepth 65536 in
theorem w_t3 : (((words1.drop 24).drop 24).take 24).all (fun c => isCode c || c.before args0 about1) = true := by decide +kernel
set_option maxRecDepth 65536 in
theorem w_t4 : (((words1.drop 24).drop 24).drop 24).all (fun c => isCode c || c.before args0 about1) = true := by decide +kernel
theorem w_tables : (allAtoms (Jvm.Cond.code x code maxLocals ret :: tables_1)).before args0 about1 = true := by
  rw [allAtoms_all]
  show words1.all (fun c => c.before args0 about1) = true
  refine all_split ?_ w_codes
  rw [← List.take_append_drop 24 words1, List.all_append, w_t1, ← List.take_append_drop 24 (words1.drop 24), List.all_append, w_t2, ← List.take_append_drop 24 ((words1.drop 24).drop 24), List.all_append, w_t3, w_t4]
  rfl
set_option maxRecDepth 65536 in
theorem w_rest : rest_1_c.before args0 about1 = true := by decide +kernel
set_option maxRecDepth 65536 in
theorem w_case : (Jvm.Cond.and given_1 narrow_1).before args0 about1 = true := by decide +kernel
set_option maxRecDepth 65536 in
theorem w_consts : constsHeld consts_1 about1 := Jvm.Lit.constsHeldB_iff.mp (by decide +kernel)
theorem w_applies : (headSpec (Jvm.Cond.code x code maxLocals ret :: tables_1) room_1).applies x e0.platform about1 = true :=
  (Spec.applies_iff w_frames).mpr ⟨w_running, w_runnable, w_alone, w_named, w_hears, w_ripe, w_room, w_tables⟩
theorem atStart : AtStart classFile x code maxLocals ret World_1 tables_1 room_1 Calls_1 rest_1 Pre_1 launch0 p0 e0 about1 theMethod args0 below0 :=
  ⟨lists_1, trivial, launch0.admits_env _ _ _, launch0.least_env, fairChoices_fair.cas, fairChoices_fair.clock, w_frames, w_args, w_heap, w_applies, ⟨w_consts, trivial⟩, w_rest, w_case⟩
end start1
theorem witness_1 : WitnessClaimed_1 := ⟨start1.p0, start1.e0, start1.about1, start1.theMethod, start1.args0, start1.below0, start1.atStart⟩
end Jvm.Pilot.@@N@@
