import JvmDerived
import JvmDerived.Pilot.@@N@@Statement
import JvmDerived.Pilot.@@N@@Code
set_option linter.unusedVariables false
set_option linter.unusedSimpArgs false
namespace Jvm.Pilot.@@N@@
open Jvm Jvm.ClassFile Sem Op Lib Jvm.Free Jvm.Stand Jvm.LawKit Jvm.RoadKit Bundle Jvm.Pilot.@@N@@.Jvm.D

section Own
variable {p : Program} {l : Launch} {e : Env} {R : Room} {s : State} {m : MethodId} {args : Array Value} {below : List Frame} {meth : Method} {c : Code} {T : State} {locs : List Loc} {cells slots : Nat} {Z : State} {a0 : Array Value} {h h' h0 : Heap} {K : Outcome → State → Prop} {pc pc' : Nat} {Ls : Array Slot} {st : List Value} {own : String} {ws ws' : List Addr} {L L' : List Loc}
/-- what is left to show at a point of a walk -/
def OGo (p : Program) (e : Env) (below : List Frame) (K : Outcome → State → Prop) (T : State) (g : JFrame) : Prop :=
  ∃ s₂ o, Steps p.tables e below (T.setTop g) s₂ ∧ s₂.status = .running ∧ Ended s₂ below o ∧ K o s₂
theorem OGo.via {T' : State} {g g' : JFrame} (k : OGo p e below K T' g') (q : ∀ t, Steps p.tables e below (T'.setTop g') t → Steps p.tables e below (T.setTop g) t) : OGo p e below K T g := by
  obtain ⟨s₂, o, h1, h2⟩ := k; exact ⟨s₂, o, q _ h1, h2⟩
theorem OGo.tr {T' : State} {g g' : JFrame} (k : OGo p e below K T' g') (q : Steps p.tables e below (T.setTop g) (T'.setTop g')) : OGo p e below K T g := k.via fun _ r => q.trans r
/-- the cells of h0 stand in h but for those at ws; cells of statics stand; what was written is at ws or new -/
def OPr (h0 : Heap) (ws : List Addr) (h : Heap) (L : List Loc) : Prop := Keep h0 h ws ∧ (∀ (x : Addr) (c : Cell), h0[x]? = some c → c.vm.isStatics = true → h[x]? = some c) ∧ ∀ y ∈ L, y.base ∈ ws ∨ h0.size ≤ y.base
theorem OPr.refl (h : Heap) (ws : List Addr) : OPr h ws h [] := ⟨Keep.refl h ws, fun _ _ q _ => q, fun _ q => nomatch q⟩
theorem OPr.size (P : OPr h0 ws h L) : h0.size ≤ h.size := P.1.1
theorem OPr.ge (P : OPr h0 ws h L) {a : Addr} (q : a = h.size) : h0.size ≤ a := q ▸ P.1.1
theorem OPr.ext (P : OPr h0 ws h L) (E : Ext h h') : OPr h0 ws h' L := ⟨P.1.ext E, fun x c q r => E.2 _ _ (P.2.1 x c q r), P.2.2⟩
theorem OPr.wr {a : Addr} {sl : Nat} {v : Value} (P : OPr h0 ws h L) (W : Wr h h' a sl v) (q : a ∈ ws ∨ h0.size ≤ a) : OPr h0 ws h' (L ++ [⟨a, sl⟩]) := by
  refine ⟨P.1.wr W q, fun x c r1 r2 => ?_, fun y hy => ?_⟩
  · obtain ⟨c', e1, -, -, -, e5, -, e7⟩ := wr_at W (P.2.1 x c r1 r2)
    have ne : x ≠ a := fun u => by rw [(e7 u).2.2] at r2; cases r2
    rw [← e5 ne]; exact e1
  · rcases List.mem_append.mp hy with u | u
    · exact P.2.2 y u
    · cases List.mem_singleton.mp u; exact q
theorem OPr.call (P : OPr h0 ws h L) (P' : OPr h ws' h' L') (q : ∀ x ∈ ws', x ∈ ws ∨ h0.size ≤ x) : OPr h0 ws h' (L ++ L') := by
  refine ⟨P.1.trans P'.1 q, fun x c r1 r2 => P'.2.1 x c (P.2.1 x c r1 r2) r2, fun y hy => ?_⟩
  rcases List.mem_append.mp hy with u | u
  · exact P.2.2 y u
  · rcases P'.2.2 y u with v | v
    · exact q _ v
    · exact Or.inr (Nat.le_trans P.1.1 v)
theorem OPr.fr (P : OPr h0 [] h L) : Fr h0.size L := fun y hy => (P.2.2 y hy).elim (fun q => nomatch q) id
theorem fldP {a : Addr} {C n d : String} {v : Value} (F : Fld Z h0 a C n d v) (P : OPr h0 ws h L) (q : a ∉ ws) : Fld Z h a C n d v := F.keep P.1 q
theorem exaP {a : Addr} {C : String} (F : Exa Z h0 a C) (P : OPr h0 ws h L) : Exa Z h a C := F.keep P.1
theorem staP {C n d : String} {v : Value} (F : Sta Z h0 C n d v) (P : OPr h0 ws h L) : Sta Z h C n d v := by
  obtain ⟨cf, i, k, f, sa, cell, h1, h2, h3, h4, h5, h6, h7⟩ := F
  exact ⟨cf, i, k, f, sa, cell, h1, h2, h3, h4, P.2.1 _ _ h5 h6, h6, h7⟩
/-- an array, told whole -/
def OAry (Z : State) (h : Heap) (a : Addr) (k : ClassId) (ty : FieldType) (vs : List Value) : Prop := ∃ c : Cell, Arr Z h a c ty ∧ c.cls = k ∧ c.slots.toList = vs ∧ vs.length < 2 ^ 31 ∧ ∀ v ∈ vs, fits ty v = true
theorem aryP {a : Addr} {k : ClassId} {ty : FieldType} {vs : List Value} (F : OAry Z h0 a k ty vs) (P : OPr h0 ws h L) (q : a ∉ ws) : OAry Z h a k ty vs := by
  obtain ⟨c, A, r⟩ := F; exact ⟨c, ⟨P.1.2.1 a c A.1 q, A.2⟩, r⟩
theorem aryE {a : Addr} {k : ClassId} {ty : FieldType} {vs : List Value} (F : OAry Z h a k ty vs) (E : Ext h h') : OAry Z h' a k ty vs := by
  obtain ⟨c, A, r⟩ := F; exact ⟨c, A.ext E, r⟩
theorem aryO {a b : Addr} {k : ClassId} {ty : FieldType} {vs : List Value} {sl : Nat} {v : Value} (F : OAry Z h b k ty vs) (W : Wr h h' a sl v) (q : b ≠ a) : OAry Z h' b k ty vs := by
  obtain ⟨c, A, r⟩ := F; exact ⟨c, A.other W q, r⟩
theorem aryLt {a : Addr} {k : ClassId} {ty : FieldType} {vs : List Value} (F : OAry Z h a k ty vs) : a < h.size := by obtain ⟨c, A, -⟩ := F; exact A.lt
theorem arySet {a : Addr} {k : ClassId} {ty : FieldType} {vs vs' : List Value} {j : Nat} {v : Value} (F : OAry Z h a k ty vs) (W : Wr h h' a j v) (hf : fits ty v = true) (e : vs.set j v = vs') : OAry Z h' a k ty vs' := by
  obtain ⟨c, A, r1, rfl, r3, r4⟩ := F
  subst e
  refine ⟨_, A.same W, r1, ?_, by simpa using r3, fun u hu => ?_⟩
  · show (c.slots.setIfInBounds j v).toList = _
    simp
  · rcases List.mem_or_eq_of_mem_set hu with z | rfl
    · exact r4 u z
    · exact hf
theorem aryIn {c : Cell} {vs : List Value} {j : Int32} {v : Value} (q : c.slots.toList = vs) (hj : ¬ j < 0) (hv : vs[j.toNatClampNeg]? = some v) : ¬ (j < 0 ∨ c.slots.size ≤ j.toNatClampNeg) ∧ c.slots[j.toNatClampNeg]? = some v := by
  subst q
  have hv' : c.slots[j.toNatClampNeg]? = some v := by simpa using hv
  exact ⟨fun u => u.elim hj fun u => by have := (Array.getElem?_eq_some_iff.mp hv').1; omega, hv'⟩
theorem aryFit {a : Addr} {k : ClassId} {ty : FieldType} {vs : List Value} {c : Cell} (A : Arr Z h a c ty) (q : c.slots.toList = vs) (r : ∀ v ∈ vs, fits ty v = true) : FitC Z c := fun i v hv => by
  subst q
  obtain ⟨hs, k, hk, comp, hkind⟩ := A.2.1
  have e : Z.slotType? c.cls .none i = some ty := by simp [State.slotType?, hk, hkind]
  have m : v ∈ c.slots.toList := by obtain ⟨hi, rfl⟩ := Array.getElem?_eq_some_iff.mp hv; simp
  simp [State.fitsSlot, e, r v m]
/-- what a method that returned has left -/
def OFin (s : State) (rm : Room) (Q : Option Value → Heap → List Loc → Prop) (o : Outcome) (U' : State) : Prop := ∃ v L, o = .returned v ∧ Q v U'.heap L ∧ FrameEnd s o U' L rm.cells rm.slots
/-- a method's contract, at given arguments and a given heap -/
def OMet (l : Launch) (y : MethodName) (bytes : ByteArray) (maxL : Nat) (ret : Option FieldType) (rm : Room) (as : Array Value) (Z : State) (h0 : Heap) (Q : Option Value → Heap → List Loc → Prop) : Prop :=
  ∀ ws : List Jvm.Cond, MetFree l y (head1 (Jvm.Cond.code y bytes maxL ret :: ws) rm) (fun a U => a = as ∧ Z.Warmed39 U.vm ∧ U.heap = h0) (fun _ _ _ _ _ => True) (fun _ U o U' => OFin U rm Q o U')
theorem OMet.body {y : MethodName} {bytes : ByteArray} {maxL : Nat} {ret : Option FieldType} {rm : Room} {as : Array Value} {Q : Option Value → Heap → List Loc → Prop} {Ls : Array Slot} (hpl : plainFor y = true) (hef : ∀ m, entryFrame m as maxL = mkF m 0 Ls [])
    (H : ∀ (p : Program) (e : Env) (s : State) (m : MethodId) (below : List Frame) (meth : Method) (c : Code) (T : State) (K : Outcome → State → Prop), K = OFin s rm Q → Stand p l e rm s m as below meth c T [] 0 0 → p.tables.exec = Jvm.exec → c.code = bytes → c.maxLocals = maxL → s.vm.findClass y.cls = some m.cls → meth.name = y.name → meth.sig.returnType = ret → meth.locks = false → Z.Warmed39 s.vm → T.heap = h0 → OGo p e below K T (mkF m 0 Ls [])) :
    OMet l y bytes maxL ret rm as Z h0 Q := fun ws => by
  refine MetFree.of_bodySF hpl hisR ?_
  intro p e s m args below meth c s₁ Bd hml0 hP hK
  obtain ⟨rfl, hZ, hh⟩ := hP
  have e0 : s₁.heap = h0 := by rw [← hh, Bd.state]; rfl
  have k := H p e s m below meth c s₁ _ rfl (Stand.of_body Bd) Bd.exec Bd.bytes hml0 (findClass_of_methodNamed Bd.named) (name_of_methodNamed Bd.named Bd.method).1 Bd.returns Bd.notSynchronized hZ e0
  rw [← hef m] at k
  exact k
theorem g_ret {rm : Room} {Q : Option Value → Heap → List Loc → Prop} {t : FieldType} {w : Value} {i : Instr} (X : Stand p l e rm s m args below meth c T locs cells slots) (hx : p.tables.exec = Jvm.exec) (hret : meth.sig.returnType = some t) (hlk : meth.locks = false) (hn : narrow t w = w)
    (hi : (i = .ireturn ∧ (t = .int ∨ t = .boolean ∨ t = .byte ∨ t = .char ∨ t = .short) ∧ ∃ z, w = .int z) ∨ (i = .lreturn ∧ t = .long ∧ ∃ z, w = .long z) ∨ (i = .dreturn ∧ t = .double ∧ ∃ z, w = .double z) ∨ (i = .freturn ∧ t = .float ∧ ∃ z, w = .float z) ∨ (i = .areturn ∧ t.isReference = true ∧ w.isRef = true))
    (hd : decode c.code pc = .ok (i, 1)) (hc : cells ≤ rm.cells) (hs : slots ≤ rm.slots) (eT : T.heap = h) (hK : K = OFin s rm Q) (hQ : Q (some w) h locs) : OGo p e below K T (mkF m pc Ls (w :: st)) := by
  subst hK
  obtain ⟨fs, hr, hrun, hended, hW, hsame⟩ := X.leave (v := some w) (fun h => by rw [hret] at h; cases h) hlk
  exact ⟨_, _, retOut X hx hret hn hi hd hr, hrun, hended, _, _, rfl, by show Q _ T.heap _; rw [eT]; exact hQ, ⟨_, rfl⟩, hW, hsame.mono hc hs⟩
theorem g_ret0 {rm : Room} {Q : Option Value → Heap → List Loc → Prop} (X : Stand p l e rm s m args below meth c T locs cells slots) (hx : p.tables.exec = Jvm.exec) (hret : meth.sig.returnType = none) (hlk : meth.locks = false)
    (hd : decode c.code pc = .ok (.return_, 1)) (hc : cells ≤ rm.cells) (hs : slots ≤ rm.slots) (eT : T.heap = h) (hK : K = OFin s rm Q) (hQ : Q none h locs) : OGo p e below K T (mkF m pc Ls []) := by
  subst hK
  obtain ⟨fs, hr, hrun, hended, hW, hsame⟩ := X.leave (v := none) (fun _ => rfl) hlk
  exact ⟨_, _, X.returnOut hx hret hd hr, hrun, hended, _, _, rfl, by show Q _ T.heap _; rw [eT]; exact hQ, ⟨_, rfl⟩, hW, hsame.mono hc hs⟩
theorem g_getf (X : Stand p l e R s m args below meth c T locs cells slots) (hx : p.tables.exec = Jvm.exec) (hZ : Z.Warmed39 s.vm) (hown : s.vm.findClass own = some m.cls) {R0 O n d host : String} {index : Nat} (w : (Jvm.Cond.fieldLink own index R0 n d).before a0 Z = true ∨ (Jvm.Cond.fieldLinkNest own index R0 n d host).before a0 Z = true) (via : Via Z R0 O n d)
    (eT : T.heap = h) {a : Addr} {v : Value} (F : Fld Z h a O n d v) (hd : decode c.code pc = .ok (.getfield index, 3)) (hp : pc + 3 = pc')
    (k : ∀ T', Stand p l e R s m args below meth c T' locs cells slots → T'.heap = h → OGo p e below K T' (mkF m pc' Ls (v :: st))) : OGo p e below K T (mkF m pc Ls (.ref a :: st)) := by
  subst hp
  obtain ⟨T', X', e', q⟩ := getF X hx hZ hown w via eT F (g := mkF m pc Ls (.ref a :: st)) rfl rfl hd
  exact (k T' X' e').via q
theorem g_gets (X : Stand p l e R s m args below meth c T locs cells slots) (hx : p.tables.exec = Jvm.exec) (hZ : Z.Warmed39 s.vm) (hown : s.vm.findClass own = some m.cls) {R0 O n d host : String} {index : Nat} (w : (Jvm.Cond.fieldLink own index R0 n d).before a0 Z = true ∨ (Jvm.Cond.fieldLinkNest own index R0 n d host).before a0 Z = true) (via : Via Z R0 O n d)
    (eT : T.heap = h) {v : Value} (F : Sta Z h O n d v) (hd : decode c.code pc = .ok (.getstatic index, 3)) (hp : pc + 3 = pc')
    (k : ∀ T', Stand p l e R s m args below meth c T' locs cells slots → T'.heap = h → OGo p e below K T' (mkF m pc' Ls (v :: st))) : OGo p e below K T (mkF m pc Ls st) := by
  subst hp
  obtain ⟨T', X', e', q⟩ := getS2 X hx hZ hown w via eT F (g := mkF m pc Ls st) rfl hd
  exact (k T' X' e').via q
theorem g_putf (X : Stand p l e R s m args below meth c T locs cells slots) (hx : p.tables.exec = Jvm.exec) (hZ : Z.Warmed39 s.vm) (hown : s.vm.findClass own = some m.cls) {R0 O n d host C : String} {index kk : Nat} {ty : FieldType} (w : (Jvm.Cond.fieldLink own index R0 n d).before a0 Z = true ∨ (Jvm.Cond.fieldLinkNest own index R0 n d host).before a0 Z = true) (via : Via Z R0 O n d)
    (eT : T.heap = h) {a : Addr} {v old : Value} (F : Fld Z h a O n d old) (E : Exa Z h a C) (L : (Jvm.Cond.lays C O n d).before a0 Z = true ∨ ((Jvm.Cond.laysFinal C O n d).before a0 Z = true ∧ own = O ∧ meth.name = "<init>")) (wi : (Jvm.Cond.instantiable C kk).before a0 Z = true)
    (hty : parseFieldDescriptor d = some ty) (hn : narrow ty v = v) (hf : fits ty v = true) (P : OPr h0 ws h locs) (q : a ∈ ws ∨ h0.size ≤ a) (hd : decode c.code pc = .ok (.putfield index, 3)) (hp : pc + 3 = pc')
    (k : ∀ T' h', Stand p l e R s m args below meth c T' (locs ++ [⟨a, RoadKit.slotOf Z O n d⟩]) cells slots → T'.heap = h' → Wr h h' a (RoadKit.slotOf Z O n d) v → OPr h0 ws h' (locs ++ [⟨a, RoadKit.slotOf Z O n d⟩]) → Fld Z h' a O n d v → OGo p e below K T' (mkF m pc' Ls st)) : OGo p e below K T (mkF m pc Ls (v :: .ref a :: st)) := by
  subst hp
  obtain ⟨T', h', X', e', W', r⟩ := putF X hx hZ hown w via eT F E L wi hty hn hf (g := mkF m pc Ls (v :: .ref a :: st)) rfl rfl hd
  exact (k T' h' X' e' W' (P.wr W' q) (F.same W')).via r
theorem g_new (X : Stand p l e R s m args below meth c T locs cells slots) (hx : p.tables.exec = Jvm.exec) (hZ : Z.Warmed39 s.vm) (hown : s.vm.findClass own = some m.cls) {C : String} {index n : Nat} (w : (Jvm.Cond.classLink own index C).before a0 Z = true) (wi : (Jvm.Cond.instantiable C n).before a0 Z = true) (wz : (Jvm.Cond.initialized C).before a0 Z = true) (eT : T.heap = h)
    (P : OPr h0 ws h locs) (hd : decode c.code pc = .ok (.new index, 3)) (hp : pc + 3 = pc') (hc : cells + 1 ≤ R.cells) (hl : slots + n ≤ R.slots)
    (k : ∀ T' h' a, a = h.size → h0.size ≤ a → Stand p l e R s m args below meth c T' locs (cells + 1) (slots + n) → T'.heap = h' → Ext h h' → OPr h0 ws h' locs → Exa Z h' a C → (∀ {O nm d : String} {ty : FieldType}, Laid Z a0 C O nm d → parseFieldDescriptor d = some ty → Fld Z h' a O nm d (defaultValue ty)) → OGo p e below K T' (mkF m pc' Ls (.ref a :: st))) : OGo p e below K T (mkF m pc Ls st) := by
  subst hp
  obtain ⟨T', h', X', e', E', A', D', -, r⟩ := newO X hx hZ hown w wi wz eT (g := mkF m pc Ls st) rfl hd hc hl
  exact (k T' h' h.size rfl P.1.1 X' e' E' (P.ext E') A' D').via r
theorem g_inito (X : Stand p l e R s m args below meth c T locs cells slots) (hx : p.tables.exec = Jvm.exec) (hZ : Z.Warmed39 s.vm) (hown : s.vm.findClass own = some m.cls) {idx : Nat} (w1 : (Jvm.Cond.methodLink own idx Lib.objectInit).before a0 Z = true) (w2 : (Jvm.Cond.instanceMethod Lib.objectInit).before a0 Z = true)
    (w3 : (Jvm.Cond.code Lib.objectInit ⟨#[0xb1]⟩ 1 none).before a0 Z = true) (eT : T.heap = h) (hsize : Ls.size = c.maxLocals) {a : Addr} (hd : decode c.code pc = .ok (.invokespecial idx, 3)) (hp : pc + 3 = pc')
    (hf : 1 ≤ R.frames) {W : Nat} (hW : (st.map fun v => v.category).sum ≤ W) (hl : W + 12 ≤ R.locals)
    (k : ∀ T', Stand p l e R s m args below meth c T' locs cells slots → T'.heap = h → OGo p e below K T' (mkF m pc' Ls st)) : OGo p e below K T (mkF m pc Ls (.ref a :: st)) := by
  subst hp
  obtain ⟨T', X', e', q⟩ := initO X hx hZ hown w1 w2 w3 eT (g := mkF m pc Ls (.ref a :: st)) rfl hsize rfl hd hf (W := W) (by show 2 * 0 + _ ≤ _; omega) hl
  exact (k T' X' e').via q
theorem OMet.back {y : MethodName} {bytes : ByteArray} {maxL : Nat} {ret : Option FieldType} {rm : Room} {as : Array Value} {Q : Option Value → Heap → List Loc → Prop} {len W : Nat} (hM : OMet l y bytes maxL ret rm as Z h Q) (hZ : Z.Warmed39 s.vm) (wc : (Jvm.Cond.code y bytes maxL ret).before a0 Z = true) (wz : (Jvm.Cond.initialized y.cls).before a0 Z = true) (hf : rm.frames + 1 ≤ R.frames) (hl : W + (maxL + 11) + rm.locals ≤ R.locals) :
    Back l R p e below s args y len W (fun A a => a = as ∧ A.U.heap = h ∧ A.cells + rm.cells ≤ R.cells ∧ A.slots + rm.slots ≤ R.slots)
      (fun A _ v B => ∃ L, Q v B.U.heap L ∧ B.locs = A.locs ++ L ∧ B.cells = A.cells + rm.cells ∧ B.slots = A.slots + rm.slots) := backOf (hM []) hZ wc wz hf hl
theorem g_special (X : Stand p l e R s m args below meth c T locs cells slots) (hx : p.tables.exec = Jvm.exec) (hZ : Z.Warmed39 s.vm) (hown : s.vm.findClass own = some m.cls) (eT : T.heap = h) {y : MethodName} {bytes : ByteArray} {maxL index : Nat} {rm : Room} {as : Array Value} {Q : Option Value → Heap → List Loc → Prop} (hM : OMet l y bytes maxL none rm as Z h Q) (hy1 : y.name = "<init>")
    (w1 : (Jvm.Cond.methodLink own index y).before a0 Z = true) (w2 : (Jvm.Cond.instanceMethod y).before a0 Z = true) (w3 : (Jvm.Cond.code y bytes maxL none).before a0 Z = true) (wz : (Jvm.Cond.initialized y.cls).before a0 Z = true) (hy : y.cls ≠ "java/lang/invoke/MethodHandle" ∧ y.cls ≠ "java/lang/invoke/VarHandle")
    {a : Addr} {argsL rest : List Value} (has : (.ref a :: argsL).toArray = as) (hst : st = argsL.reverse ++ .ref a :: rest) {W : Nat} {ps : List FieldType} (hde : parseMethodDescriptor y.desc = some ⟨ps, none⟩) (hlen : argsL.length = ps.length) (hW : (rest.map fun v => v.category).sum ≤ W) (hf : rm.frames + 1 ≤ R.frames) (hl : W + (maxL + 11) + rm.locals ≤ R.locals) (hc : cells + rm.cells ≤ R.cells) (hs : slots + rm.slots ≤ R.slots)
    (hsize : Ls.size = c.maxLocals) (hd : decode c.code pc = .ok (.invokespecial index, 3)) (hp : pc + 3 = pc')
    (k : ∀ v T' h' L, Stand p l e R s m args below meth c T' (locs ++ L) (cells + rm.cells) (slots + rm.slots) → T'.heap = h' → Q v h' L → OGo p e below K T' (mkF m pc' Ls (v.toList ++ rest))) : OGo p e below K T (mkF m pc Ls st) := by
  subst hp has
  obtain ⟨v, vm₁, ⟨T', L', c', n'⟩, -, X', ⟨Lc, hQ, l1, y1, z1⟩, r⟩ := X.specialBack hx (y := y) hy1 hown (mvT hZ w1) (mvT hZ w2) (mvT hZ w3) hy (hM.back (W := W) hZ w3 wz hf hl) (g := mkF m pc Ls st) rfl hsize (Steps.refl _) (a := a) (argsL := argsL) (rest := rest) (lenOf hde hlen) hst (by show 2 * 0 + _ ≤ _; omega) hd (fun _ _ => ⟨rfl, eT, hc, hs⟩)
  dsimp only [Pt.U, Pt.locs, Pt.cells, Pt.slots] at X' l1 y1 z1 r hQ
  subst l1 y1 z1
  exact (k v T' _ Lc X' rfl hQ).tr r
theorem g_virtual (X : Stand p l e R s m args below meth c T locs cells slots) (hx : p.tables.exec = Jvm.exec) (hZ : Z.Warmed39 s.vm) (hown : s.vm.findClass own = some m.cls) (eT : T.heap = h) {y z : MethodName} {bytes : ByteArray} {maxL index : Nat} {ret : Option FieldType} {rm : Room} {as : Array Value} {Q : Option Value → Heap → List Loc → Prop} (hM : OMet l z bytes maxL ret rm as Z h Q) {C : String}
    (w1 : (Jvm.Cond.methodLink own index y).before a0 Z = true) (w2 : (Jvm.Cond.declares y).before a0 Z = true) (nf : NotFace s y) (w3 : (Jvm.Cond.selects C y z).before a0 Z = true) (w4 : (Jvm.Cond.instanceMethod z).before a0 Z = true) (w5 : (Jvm.Cond.code z bytes maxL ret).before a0 Z = true) (wz : (Jvm.Cond.initialized z.cls).before a0 Z = true) (hy : y.cls ≠ "java/lang/invoke/MethodHandle" ∧ y.cls ≠ "java/lang/invoke/VarHandle")
    {a : Addr} (E : Exa Z h a C) {argsL rest : List Value} (has : (.ref a :: argsL).toArray = as) (hst : st = argsL.reverse ++ .ref a :: rest) {W : Nat} {ps : List FieldType} {rt : Option FieldType} (hde : parseMethodDescriptor y.desc = some ⟨ps, rt⟩) (hlen : argsL.length = ps.length) (hW : (rest.map fun v => v.category).sum ≤ W) (hf : rm.frames + 1 ≤ R.frames) (hl : W + (maxL + 11) + rm.locals ≤ R.locals) (hc : cells + rm.cells ≤ R.cells) (hs : slots + rm.slots ≤ R.slots)
    (hsize : Ls.size = c.maxLocals) (hd : decode c.code pc = .ok (.invokevirtual index, 3)) (hp : pc + 3 = pc')
    (k : ∀ v T' h' L, Stand p l e R s m args below meth c T' (locs ++ L) (cells + rm.cells) (slots + rm.slots) → T'.heap = h' → Q v h' L → OGo p e below K T' (mkF m pc' Ls (v.toList ++ rest))) : OGo p e below K T (mkF m pc Ls st) := by
  subst hp has
  obtain ⟨cB, kB, q1, q2, q3⟩ := isOf (T := T) hZ eT E
  obtain ⟨v, vm₁, ⟨T', L', c', n'⟩, -, X', ⟨Lc, hQ, l1, y1, z1⟩, r⟩ := X.virtualBack hx (y := y) (z := z) hown (mvT hZ w1) (mvT hZ w2) nf (mvT hZ w3) (mvT hZ w4) hy (hM.back (W := W) hZ w5 wz hf hl) q1 q3 (g := mkF m pc Ls st) rfl hsize (Steps.refl _) (argsL := argsL) (rest := rest) (lenOf hde hlen) hst (by show 2 * 0 + _ ≤ _; omega) hd (fun _ _ => ⟨rfl, eT, hc, hs⟩)
  dsimp only [Pt.U, Pt.locs, Pt.cells, Pt.slots] at X' l1 y1 z1 r hQ
  subst l1 y1 z1
  exact (k v T' _ Lc X' rfl hQ).tr r
theorem g_virtualUp (X : Stand p l e R s m args below meth c T locs cells slots) (hx : p.tables.exec = Jvm.exec) (hZ : Z.Warmed39 s.vm) (hown : s.vm.findClass own = some m.cls) (eT : T.heap = h) {y z : MethodName} {bytes : ByteArray} {maxL index : Nat} {ret : Option FieldType} {rm : Room} {as : Array Value} {Q : Option Value → Heap → List Loc → Prop} (hM : OMet l z bytes maxL ret rm as Z h Q) {C owner : String}
    (w1 : (Jvm.Cond.methodLink own index y).before a0 Z = true) (w0 : (Jvm.Cond.sameMethod y.cls owner y.name y.desc).before a0 Z = true) (w2 : (Jvm.Cond.declares ⟨owner, y.name, y.desc⟩).before a0 Z = true) (nf : NotFace s ⟨owner, y.name, y.desc⟩) (w3 : (Jvm.Cond.selects C y z).before a0 Z = true) (w4 : (Jvm.Cond.instanceMethod z).before a0 Z = true) (w5 : (Jvm.Cond.code z bytes maxL ret).before a0 Z = true) (wz : (Jvm.Cond.initialized z.cls).before a0 Z = true) (hy : owner ≠ "java/lang/invoke/MethodHandle" ∧ owner ≠ "java/lang/invoke/VarHandle")
    {a : Addr} (E : Exa Z h a C) {argsL rest : List Value} (has : (.ref a :: argsL).toArray = as) (hst : st = argsL.reverse ++ .ref a :: rest) {W : Nat} {ps : List FieldType} {rt : Option FieldType} (hde : parseMethodDescriptor y.desc = some ⟨ps, rt⟩) (hlen : argsL.length = ps.length) (hW : (rest.map fun v => v.category).sum ≤ W) (hf : rm.frames + 1 ≤ R.frames) (hl : W + (maxL + 11) + rm.locals ≤ R.locals) (hc : cells + rm.cells ≤ R.cells) (hs : slots + rm.slots ≤ R.slots)
    (hsize : Ls.size = c.maxLocals) (hd : decode c.code pc = .ok (.invokevirtual index, 3)) (hp : pc + 3 = pc')
    (k : ∀ v T' h' L, Stand p l e R s m args below meth c T' (locs ++ L) (cells + rm.cells) (slots + rm.slots) → T'.heap = h' → Q v h' L → OGo p e below K T' (mkF m pc' Ls (v.toList ++ rest))) : OGo p e below K T (mkF m pc Ls st) := by
  subst hp has
  obtain ⟨cB, kB, q1, q2, q3⟩ := isOf (T := T) hZ eT E
  obtain ⟨v, vm₁, ⟨T', L', c', n'⟩, -, X', ⟨Lc, hQ, l1, y1, z1⟩, r⟩ := X.virtualBackUp hx (x := y) (y := z) (owner := owner) hown (mvT hZ w1) (mvT hZ w0) (mvT hZ w2) hy (mvT hZ w3) (mvT hZ w4) (hM.back (W := W) hZ w5 wz hf hl) q1 q3 (g := mkF m pc Ls st) rfl hsize (Steps.refl _) (argsL := argsL) (rest := rest) (lenOf hde hlen) hst (by show 2 * 0 + _ ≤ _; omega) hd (fun _ _ => ⟨rfl, eT, hc, hs⟩)
  dsimp only [Pt.U, Pt.locs, Pt.cells, Pt.slots] at X' l1 y1 z1 r hQ
  subst l1 y1 z1
  exact (k v T' _ Lc X' rfl hQ).tr r
theorem g_static (X : Stand p l e R s m args below meth c T locs cells slots) (hx : p.tables.exec = Jvm.exec) (hZ : Z.Warmed39 s.vm) (hown : s.vm.findClass own = some m.cls) (eT : T.heap = h) {y : MethodName} {bytes : ByteArray} {maxL index : Nat} {ret : Option FieldType} {rm : Room} {as : Array Value} {Q : Option Value → Heap → List Loc → Prop} (hM : OMet l y bytes maxL ret rm as Z h Q)
    (w1 : (Jvm.Cond.methodLink own index y).before a0 Z = true) (w2 : (Jvm.Cond.static y).before a0 Z = true) (w3 : (Jvm.Cond.code y bytes maxL ret).before a0 Z = true) (wz : (Jvm.Cond.initialized y.cls).before a0 Z = true) (hy : y.cls ≠ "java/lang/invoke/MethodHandle" ∧ y.cls ≠ "java/lang/invoke/VarHandle")
    {argsL rest : List Value} (has : argsL.toArray = as) (hst : st = argsL.reverse ++ rest) {W : Nat} {ps : List FieldType} {rt : Option FieldType} (hde : parseMethodDescriptor y.desc = some ⟨ps, rt⟩) (hlen : argsL.length = ps.length) (hW : (rest.map fun v => v.category).sum ≤ W) (hf : rm.frames + 1 ≤ R.frames) (hl : W + (maxL + 11) + rm.locals ≤ R.locals) (hc : cells + rm.cells ≤ R.cells) (hs : slots + rm.slots ≤ R.slots)
    (hsize : Ls.size = c.maxLocals) (hd : decode c.code pc = .ok (.invokestatic index, 3)) (hp : pc + 3 = pc')
    (k : ∀ v T' h' L, Stand p l e R s m args below meth c T' (locs ++ L) (cells + rm.cells) (slots + rm.slots) → T'.heap = h' → Q v h' L → OGo p e below K T' (mkF m pc' Ls (v.toList ++ rest))) : OGo p e below K T (mkF m pc Ls st) := by
  subst hp has
  obtain ⟨v, vm₁, ⟨T', L', c', n'⟩, -, X', ⟨Lc, hQ, l1, y1, z1⟩, r⟩ := Jvm.LawKit.callS X hx (y := y) hown (mvT hZ w1) (mvT hZ w2) (mvT hZ wz) (mvT hZ w3) hy (hM.back (W := W) hZ w3 wz hf hl) (g := mkF m pc Ls st) rfl hsize (argsL := argsL) (rest := rest) (lenOf hde hlen) hst (by show 2 * 0 + _ ≤ _; omega) hd (fun _ _ => ⟨rfl, eT, hc, hs⟩)
  dsimp only [Pt.U, Pt.locs, Pt.cells, Pt.slots] at X' l1 y1 z1 r hQ
  subst l1 y1 z1
  exact (k v T' _ Lc X' rfl hQ).via r
theorem g_face (X : Stand p l e R s m args below meth c T locs cells slots) (hx : p.tables.exec = Jvm.exec) (hZ : Z.Warmed39 s.vm) (hown : s.vm.findClass own = some m.cls) (eT : T.heap = h) {y z : MethodName} {bytes : ByteArray} {maxL index count : Nat} {ret : Option FieldType} {rm : Room} {as : Array Value} {Q : Option Value → Heap → List Loc → Prop} (hM : OMet l z bytes maxL ret rm as Z h Q) {C : String}
    (w1 : (Jvm.Cond.methodLink own index y).before a0 Z = true) (w2 : (Jvm.Cond.declares y).before a0 Z = true) (w6 : (Jvm.Cond.interfaceMethod y.cls y.cls y.name y.desc).before a0 Z = true) (w3 : (Jvm.Cond.selects C y z).before a0 Z = true) (w4 : (Jvm.Cond.instanceMethod z).before a0 Z = true) (w7 : (Jvm.Cond.publicMethod z).before a0 Z = true) (w8 : (Jvm.Cond.unhidden C y.name y.desc).before a0 Z = true) (w9 : (Jvm.Cond.castable C y.cls).before a0 Z = true) (w5 : (Jvm.Cond.code z bytes maxL ret).before a0 Z = true) (wz : (Jvm.Cond.initialized z.cls).before a0 Z = true) (hy : y.cls ≠ "java/lang/invoke/MethodHandle" ∧ y.cls ≠ "java/lang/invoke/VarHandle")
    {a : Addr} (E : Exa Z h a C) {argsL rest : List Value} (has : (.ref a :: argsL).toArray = as) (hst : st = argsL.reverse ++ .ref a :: rest) {W : Nat} {ps : List FieldType} {rt : Option FieldType} (hde : parseMethodDescriptor y.desc = some ⟨ps, rt⟩) (hlen : argsL.length = ps.length) (hW : (rest.map fun v => v.category).sum ≤ W) (hf : rm.frames + 1 ≤ R.frames) (hl : W + (maxL + 11) + rm.locals ≤ R.locals) (hc : cells + rm.cells ≤ R.cells) (hs : slots + rm.slots ≤ R.slots)
    (hsize : Ls.size = c.maxLocals) (hd : decode c.code pc = .ok (.invokeinterface index count, 5)) (hp : pc + 5 = pc')
    (k : ∀ v T' h' L, Stand p l e R s m args below meth c T' (locs ++ L) (cells + rm.cells) (slots + rm.slots) → T'.heap = h' → Q v h' L → OGo p e below K T' (mkF m pc' Ls (v.toList ++ rest))) : OGo p e below K T (mkF m pc Ls st) := by
  subst hp has
  obtain ⟨cB, kB, q1, q2, q3⟩ := isOf (T := T) hZ eT E
  obtain ⟨v, vm₁, ⟨T', L', c', n'⟩, -, X', ⟨Lc, hQ, l1, y1, z1⟩, r⟩ := X.interfaceBack hx (xi := y) (y := z) hown (mvT hZ w1) (mvT hZ w2) (mvT hZ w6 (by simp [Jvm.Cond.onTables, Jvm.Cond.keepsFace, Jvm.Cond.keeps, Jvm.Cond.steady, Jvm.Cond.faceAtom, hy.1, hy.2])) (mvT hZ w3) (mvT hZ w4) (mvT hZ w7) (mvT hZ w8) (mvT hZ w9) hy (hM.back (W := W) hZ w5 wz hf hl) q1 q2 q3 (g := mkF m pc Ls st) rfl hsize (Steps.refl _) (argsL := argsL) (rest := rest) (lenOf hde hlen) hst (by show 2 * 0 + _ ≤ _; omega) hd (fun _ _ => ⟨rfl, eT, hc, hs⟩)
  dsimp only [Pt.U, Pt.locs, Pt.cells, Pt.slots] at X' l1 y1 z1 r hQ
  subst l1 y1 z1
  exact (k v T' _ Lc X' rfl hQ).tr r
theorem g_aloadN (X : Stand p l e R s m args below meth c T locs cells slots) (hx : p.tables.exec = Jvm.exec) {k : Fin 4} {v : Value} (hd : decode c.code pc = .ok (.aload_n k, 1)) (hp : pc + 1 = pc') (hl : Ls[k.val]? = some (.val v)) (hv : v.isRef = true)
    (k : OGo p e below K T (mkF m pc' Ls (v :: st))) : OGo p e below K T (mkF m pc Ls (st)) := by
  subst hp; exact k.via fun _ q => XS.aloadN X.here hx rfl hd hl hv q
theorem g_aload (X : Stand p l e R s m args below meth c T locs cells slots) (hx : p.tables.exec = Jvm.exec) {k : Nat} {v : Value} (hd : decode c.code pc = .ok (.aload k, 2)) (hp : pc + 2 = pc') (hl : Ls[k]? = some (.val v)) (hv : v.isRef = true)
    (k : OGo p e below K T (mkF m pc' Ls (v :: st))) : OGo p e below K T (mkF m pc Ls (st)) := by
  subst hp; exact k.via fun _ q => XS.aload X.here hx rfl hd hl hv q
theorem g_iloadN (X : Stand p l e R s m args below meth c T locs cells slots) (hx : p.tables.exec = Jvm.exec) {k : Fin 4} {v : Int32} (hd : decode c.code pc = .ok (.iload_n k, 1)) (hp : pc + 1 = pc') (hl : Ls[k.val]? = some (.val (.int v)))
    (k : OGo p e below K T (mkF m pc' Ls (.int v :: st))) : OGo p e below K T (mkF m pc Ls (st)) := by
  subst hp; exact k.via fun _ q => XS.iloadN X.here hx rfl hd hl q
theorem g_iload (X : Stand p l e R s m args below meth c T locs cells slots) (hx : p.tables.exec = Jvm.exec) {k : Nat} {v : Int32} (hd : decode c.code pc = .ok (.iload k, 2)) (hp : pc + 2 = pc') (hl : Ls[k]? = some (.val (.int v)))
    (k : OGo p e below K T (mkF m pc' Ls (.int v :: st))) : OGo p e below K T (mkF m pc Ls (st)) := by
  subst hp; exact k.via fun _ q => XS.iload X.here hx rfl hd hl q
theorem g_lloadN (X : Stand p l e R s m args below meth c T locs cells slots) (hx : p.tables.exec = Jvm.exec) {k : Fin 4} {v : Int64} (hd : decode c.code pc = .ok (.lload_n k, 1)) (hp : pc + 1 = pc') (hl : Ls[k.val]? = some (.val (.long v)))
    (k : OGo p e below K T (mkF m pc' Ls (.long v :: st))) : OGo p e below K T (mkF m pc Ls (st)) := by
  subst hp; exact k.via fun _ q => XT.lloadN X.here hx rfl hd hl q
theorem g_lload (X : Stand p l e R s m args below meth c T locs cells slots) (hx : p.tables.exec = Jvm.exec) {k : Nat} {v : Int64} (hd : decode c.code pc = .ok (.lload k, 2)) (hp : pc + 2 = pc') (hl : Ls[k]? = some (.val (.long v)))
    (k : OGo p e below K T (mkF m pc' Ls (.long v :: st))) : OGo p e below K T (mkF m pc Ls (st)) := by
  subst hp; exact k.via fun _ q => XT.lload X.here hx rfl hd hl q
theorem g_istoreN (X : Stand p l e R s m args below meth c T locs cells slots) (hx : p.tables.exec = Jvm.exec) {k : Fin 4} {x : Int32} {Ls' : Array Slot} (hd : decode c.code pc = .ok (.istore_n k, 1)) (hp : pc + 1 = pc') (hl : storeLocals Ls k.val (.int x) = some Ls')
    (k : OGo p e below K T (mkF m pc' Ls' (st))) : OGo p e below K T (mkF m pc Ls (.int x :: st)) := by
  subst hp; exact k.via fun _ q => XS.istoreN X.here hx rfl hd rfl hl q
theorem g_istore (X : Stand p l e R s m args below meth c T locs cells slots) (hx : p.tables.exec = Jvm.exec) {k : Nat} {x : Int32} {Ls' : Array Slot} (hd : decode c.code pc = .ok (.istore k, 2)) (hp : pc + 2 = pc') (hl : storeLocals Ls k (.int x) = some Ls')
    (k : OGo p e below K T (mkF m pc' Ls' (st))) : OGo p e below K T (mkF m pc Ls (.int x :: st)) := by
  subst hp; exact k.via fun _ q => XS.istore X.here hx rfl hd rfl hl q
theorem g_lstoreN (X : Stand p l e R s m args below meth c T locs cells slots) (hx : p.tables.exec = Jvm.exec) {k : Fin 4} {x : Int64} {Ls' : Array Slot} (hd : decode c.code pc = .ok (.lstore_n k, 1)) (hp : pc + 1 = pc') (hl : storeLocals Ls k.val (.long x) = some Ls')
    (k : OGo p e below K T (mkF m pc' Ls' (st))) : OGo p e below K T (mkF m pc Ls (.long x :: st)) := by
  subst hp; exact k.via fun _ q => XT.lstoreN X.here hx rfl hd rfl hl q
theorem g_lstore (X : Stand p l e R s m args below meth c T locs cells slots) (hx : p.tables.exec = Jvm.exec) {k : Nat} {x : Int64} {Ls' : Array Slot} (hd : decode c.code pc = .ok (.lstore k, 2)) (hp : pc + 2 = pc') (hl : storeLocals Ls k (.long x) = some Ls')
    (k : OGo p e below K T (mkF m pc' Ls' (st))) : OGo p e below K T (mkF m pc Ls (.long x :: st)) := by
  subst hp; exact k.via fun _ q => XT.lstore X.here hx rfl hd rfl hl q
theorem g_astoreN (X : Stand p l e R s m args below meth c T locs cells slots) (hx : p.tables.exec = Jvm.exec) {k : Fin 4} {x : Value} {Ls' : Array Slot} (hd : decode c.code pc = .ok (.astore_n k, 1)) (hp : pc + 1 = pc') (hv : x.isRef = true) (hl : storeLocals Ls k.val x = some Ls')
    (k : OGo p e below K T (mkF m pc' Ls' (st))) : OGo p e below K T (mkF m pc Ls (x :: st)) := by
  subst hp; exact k.via fun _ q => XS.astoreN X.here hx rfl hd rfl hv hl q
theorem g_astore (X : Stand p l e R s m args below meth c T locs cells slots) (hx : p.tables.exec = Jvm.exec) {k : Nat} {x : Value} {Ls' : Array Slot} (hd : decode c.code pc = .ok (.astore k, 2)) (hp : pc + 2 = pc') (hv : x.isRef = true) (hl : storeLocals Ls k x = some Ls')
    (k : OGo p e below K T (mkF m pc' Ls' (st))) : OGo p e below K T (mkF m pc Ls (x :: st)) := by
  subst hp; exact k.via fun _ q => XS.astore X.here hx rfl hd rfl hv hl q
theorem g_iconst (X : Stand p l e R s m args below meth c T locs cells slots) (hx : p.tables.exec = Jvm.exec) {i : Int} (v : Int32) (hd : decode c.code pc = .ok (.iconst i, 1)) (hp : pc + 1 = pc') (hv : Int32.ofInt i = v)
    (k : OGo p e below K T (mkF m pc' Ls (.int v :: st))) : OGo p e below K T (mkF m pc Ls st) := by
  subst hp; exact k.via fun _ q => XT.iconstV X.here hx rfl v hd hv q
theorem g_bipush (X : Stand p l e R s m args below meth c T locs cells slots) (hx : p.tables.exec = Jvm.exec) {i : Int} (v : Int32) (hd : decode c.code pc = .ok (.bipush i, 2)) (hp : pc + 2 = pc') (hv : (Int8.ofInt i).toInt32 = v)
    (k : OGo p e below K T (mkF m pc' Ls (.int v :: st))) : OGo p e below K T (mkF m pc Ls st) := by
  subst hp; exact k.via fun _ q => XT.bipushV X.here hx rfl v hd hv q
theorem g_sipush (X : Stand p l e R s m args below meth c T locs cells slots) (hx : p.tables.exec = Jvm.exec) {i : Int} (v : Int32) (hd : decode c.code pc = .ok (.sipush i, 3)) (hp : pc + 3 = pc') (hv : (Int16.ofInt i).toInt32 = v)
    (k : OGo p e below K T (mkF m pc' Ls (.int v :: st))) : OGo p e below K T (mkF m pc Ls st) := by
  subst hp; exact k.via fun _ q => XT.sipushV X.here hx rfl v hd hv q
theorem g_lconst (X : Stand p l e R s m args below meth c T locs cells slots) (hx : p.tables.exec = Jvm.exec) {i : Fin 2} (v : Int64) (hd : decode c.code pc = .ok (.lconst i, 1)) (hp : pc + 1 = pc') (hv : Int64.ofNat i = v)
    (k : OGo p e below K T (mkF m pc' Ls (.long v :: st))) : OGo p e below K T (mkF m pc Ls st) := by
  subst hp; exact k.via fun _ q => XT.lconstV X.here hx rfl v hd hv q
theorem g_anull (X : Stand p l e R s m args below meth c T locs cells slots) (hx : p.tables.exec = Jvm.exec)  (hd : decode c.code pc = .ok (.aconst_null, 1)) (hp : pc + 1 = pc')
    (k : OGo p e below K T (mkF m pc' Ls (.null :: st))) : OGo p e below K T (mkF m pc Ls (st)) := by
  subst hp; exact k.via fun _ q => XS.aconstNull X.here hx rfl hd  q
theorem g_ldcI (X : Stand p l e R s m args below meth c T locs cells slots) (hx : p.tables.exec = Jvm.exec) (hZ : Z.Warmed39 s.vm) (hown : s.vm.findClass own = some m.cls) {index : Nat} {v : Int32} (w : (Jvm.Cond.constant own index v).before a0 Z = true) (hd : decode c.code pc = .ok (.ldc index, 2)) (hp : pc + 2 = pc')
    (k : OGo p e below K T (mkF m pc' Ls (.int v :: st))) : OGo p e below K T (mkF m pc Ls st) := by
  subst hp; exact k.via fun _ q => X.ldcI hx hown (mvT hZ w) rfl hd q
theorem g_ldc2J (X : Stand p l e R s m args below meth c T locs cells slots) (hx : p.tables.exec = Jvm.exec) (hZ : Z.Warmed39 s.vm) (hown : s.vm.findClass own = some m.cls) {index : Nat} {v : Int64} (w : (Jvm.Cond.constantLong own index v).before a0 Z = true) (hd : decode c.code pc = .ok (.ldc2_w index, 3)) (hp : pc + 3 = pc')
    (k : OGo p e below K T (mkF m pc' Ls (.long v :: st))) : OGo p e below K T (mkF m pc Ls st) := by
  subst hp; exact k.via fun _ q => X.ldc2J hx hown (mvT hZ w) rfl hd q
theorem g_iadd (X : Stand p l e R s m args below meth c T locs cells slots) (hx : p.tables.exec = Jvm.exec) {x y z : Int32} (hd : decode c.code pc = .ok (.iadd, 1)) (hp : pc + 1 = pc') (hz : x + y = z)
    (k : OGo p e below K T (mkF m pc' Ls (.int z :: st))) : OGo p e below K T (mkF m pc Ls (.int y :: .int x :: st)) := by
  subst hp hz; exact k.via fun _ q => XS.iadd X.here hx rfl hd rfl q
theorem g_isub (X : Stand p l e R s m args below meth c T locs cells slots) (hx : p.tables.exec = Jvm.exec) {x y z : Int32} (hd : decode c.code pc = .ok (.isub, 1)) (hp : pc + 1 = pc') (hz : x - y = z)
    (k : OGo p e below K T (mkF m pc' Ls (.int z :: st))) : OGo p e below K T (mkF m pc Ls (.int y :: .int x :: st)) := by
  subst hp hz; exact k.via fun _ q => XS.isub X.here hx rfl hd rfl q
theorem g_iand (X : Stand p l e R s m args below meth c T locs cells slots) (hx : p.tables.exec = Jvm.exec) {x y z : Int32} (hd : decode c.code pc = .ok (.iand, 1)) (hp : pc + 1 = pc') (hz : x &&& y = z)
    (k : OGo p e below K T (mkF m pc' Ls (.int z :: st))) : OGo p e below K T (mkF m pc Ls (.int y :: .int x :: st)) := by
  subst hp hz; exact k.via fun _ q => XS.iand X.here hx rfl hd rfl q
theorem g_imul (X : Stand p l e R s m args below meth c T locs cells slots) (hx : p.tables.exec = Jvm.exec) {x y z : Int32} (hd : decode c.code pc = .ok (.imul, 1)) (hp : pc + 1 = pc') (hz : x * y = z)
    (k : OGo p e below K T (mkF m pc' Ls (.int z :: st))) : OGo p e below K T (mkF m pc Ls (.int y :: .int x :: st)) := by
  subst hp hz; exact k.via fun _ q => XS.imul X.here hx rfl hd rfl q
theorem g_ixor (X : Stand p l e R s m args below meth c T locs cells slots) (hx : p.tables.exec = Jvm.exec) {x y z : Int32} (hd : decode c.code pc = .ok (.ixor, 1)) (hp : pc + 1 = pc') (hz : x ^^^ y = z)
    (k : OGo p e below K T (mkF m pc' Ls (.int z :: st))) : OGo p e below K T (mkF m pc Ls (.int y :: .int x :: st)) := by
  subst hp hz; exact k.via fun _ q => XT.ixor X.here hx rfl hd rfl q
theorem g_ior (X : Stand p l e R s m args below meth c T locs cells slots) (hx : p.tables.exec = Jvm.exec) {x y z : Int32} (hd : decode c.code pc = .ok (.ior, 1)) (hp : pc + 1 = pc') (hz : x ||| y = z)
    (k : OGo p e below K T (mkF m pc' Ls (.int z :: st))) : OGo p e below K T (mkF m pc Ls (.int y :: .int x :: st)) := by
  subst hp hz; exact k.via fun _ q => XT.ior X.here hx rfl hd rfl q
theorem g_ishl (X : Stand p l e R s m args below meth c T locs cells slots) (hx : p.tables.exec = Jvm.exec) {x y z : Int32} (hd : decode c.code pc = .ok (.ishl, 1)) (hp : pc + 1 = pc') (hz : x <<< (y &&& 31) = z)
    (k : OGo p e below K T (mkF m pc' Ls (.int z :: st))) : OGo p e below K T (mkF m pc Ls (.int y :: .int x :: st)) := by
  subst hp hz; exact k.via fun _ q => XT.ishl X.here hx rfl hd rfl q
theorem g_ishr (X : Stand p l e R s m args below meth c T locs cells slots) (hx : p.tables.exec = Jvm.exec) {x y z : Int32} (hd : decode c.code pc = .ok (.ishr, 1)) (hp : pc + 1 = pc') (hz : x >>> (y &&& 31) = z)
    (k : OGo p e below K T (mkF m pc' Ls (.int z :: st))) : OGo p e below K T (mkF m pc Ls (.int y :: .int x :: st)) := by
  subst hp hz; exact k.via fun _ q => XT.ishr X.here hx rfl hd rfl q
theorem g_iushr (X : Stand p l e R s m args below meth c T locs cells slots) (hx : p.tables.exec = Jvm.exec) {x y z : Int32} (hd : decode c.code pc = .ok (.iushr, 1)) (hp : pc + 1 = pc') (hz : XT.ushr x y = z)
    (k : OGo p e below K T (mkF m pc' Ls (.int z :: st))) : OGo p e below K T (mkF m pc Ls (.int y :: .int x :: st)) := by
  subst hp hz; exact k.via fun _ q => XT.iushr X.here hx rfl hd rfl q
theorem g_ladd (X : Stand p l e R s m args below meth c T locs cells slots) (hx : p.tables.exec = Jvm.exec) {x y z : Int64} (hd : decode c.code pc = .ok (.ladd, 1)) (hp : pc + 1 = pc') (hz : x + y = z)
    (k : OGo p e below K T (mkF m pc' Ls (.long z :: st))) : OGo p e below K T (mkF m pc Ls (.long y :: .long x :: st)) := by
  subst hp hz; exact k.via fun _ q => XT.ladd X.here hx rfl hd rfl q
theorem g_lsub (X : Stand p l e R s m args below meth c T locs cells slots) (hx : p.tables.exec = Jvm.exec) {x y z : Int64} (hd : decode c.code pc = .ok (.lsub, 1)) (hp : pc + 1 = pc') (hz : x - y = z)
    (k : OGo p e below K T (mkF m pc' Ls (.long z :: st))) : OGo p e below K T (mkF m pc Ls (.long y :: .long x :: st)) := by
  subst hp hz; exact k.via fun _ q => XT.lsub X.here hx rfl hd rfl q
theorem g_lmul (X : Stand p l e R s m args below meth c T locs cells slots) (hx : p.tables.exec = Jvm.exec) {x y z : Int64} (hd : decode c.code pc = .ok (.lmul, 1)) (hp : pc + 1 = pc') (hz : x * y = z)
    (k : OGo p e below K T (mkF m pc' Ls (.long z :: st))) : OGo p e below K T (mkF m pc Ls (.long y :: .long x :: st)) := by
  subst hp hz; exact k.via fun _ q => XT.lmul X.here hx rfl hd rfl q
theorem g_land (X : Stand p l e R s m args below meth c T locs cells slots) (hx : p.tables.exec = Jvm.exec) {x y z : Int64} (hd : decode c.code pc = .ok (.land, 1)) (hp : pc + 1 = pc') (hz : x &&& y = z)
    (k : OGo p e below K T (mkF m pc' Ls (.long z :: st))) : OGo p e below K T (mkF m pc Ls (.long y :: .long x :: st)) := by
  subst hp hz; exact k.via fun _ q => XT.land X.here hx rfl hd rfl q
theorem g_lor (X : Stand p l e R s m args below meth c T locs cells slots) (hx : p.tables.exec = Jvm.exec) {x y z : Int64} (hd : decode c.code pc = .ok (.lor, 1)) (hp : pc + 1 = pc') (hz : x ||| y = z)
    (k : OGo p e below K T (mkF m pc' Ls (.long z :: st))) : OGo p e below K T (mkF m pc Ls (.long y :: .long x :: st)) := by
  subst hp hz; exact k.via fun _ q => XT.lor X.here hx rfl hd rfl q
theorem g_lxor (X : Stand p l e R s m args below meth c T locs cells slots) (hx : p.tables.exec = Jvm.exec) {x y z : Int64} (hd : decode c.code pc = .ok (.lxor, 1)) (hp : pc + 1 = pc') (hz : x ^^^ y = z)
    (k : OGo p e below K T (mkF m pc' Ls (.long z :: st))) : OGo p e below K T (mkF m pc Ls (.long y :: .long x :: st)) := by
  subst hp hz; exact k.via fun _ q => XT.lxor X.here hx rfl hd rfl q
theorem g_lshl (X : Stand p l e R s m args below meth c T locs cells slots) (hx : p.tables.exec = Jvm.exec) {x : Int64} {y : Int32} (hd : decode c.code pc = .ok (.lshl, 1)) (hp : pc + 1 = pc')
    (k : OGo p e below K T (mkF m pc' Ls (.long (x <<< (y.toInt64 &&& 63)) :: st))) : OGo p e below K T (mkF m pc Ls (.int y :: .long x :: st)) := by
  subst hp; exact k.via fun _ q => XT.lshl X.here hx rfl hd rfl q
theorem g_lshr (X : Stand p l e R s m args below meth c T locs cells slots) (hx : p.tables.exec = Jvm.exec) {x : Int64} {y : Int32} (hd : decode c.code pc = .ok (.lshr, 1)) (hp : pc + 1 = pc')
    (k : OGo p e below K T (mkF m pc' Ls (.long (x >>> (y.toInt64 &&& 63)) :: st))) : OGo p e below K T (mkF m pc Ls (.int y :: .long x :: st)) := by
  subst hp; exact k.via fun _ q => XT.lshr X.here hx rfl hd rfl q
theorem g_lushr (X : Stand p l e R s m args below meth c T locs cells slots) (hx : p.tables.exec = Jvm.exec) {x : Int64} {y : Int32} (hd : decode c.code pc = .ok (.lushr, 1)) (hp : pc + 1 = pc')
    (k : OGo p e below K T (mkF m pc' Ls (.long (XT.ushrL x y) :: st))) : OGo p e below K T (mkF m pc Ls (.int y :: .long x :: st)) := by
  subst hp; exact k.via fun _ q => XT.lushr X.here hx rfl hd rfl q
theorem g_idiv (X : Stand p l e R s m args below meth c T locs cells slots) (hx : p.tables.exec = Jvm.exec) {x y : Int32} (hd : decode c.code pc = .ok (.idiv, 1)) (hp : pc + 1 = pc') (hy : y ≠ 0)
    (k : OGo p e below K T (mkF m pc' Ls (.int (x / y) :: st))) : OGo p e below K T (mkF m pc Ls (.int y :: .int x :: st)) := by
  subst hp; exact k.via fun _ q => XS.idiv X.here hx rfl hd rfl hy q
theorem g_irem (X : Stand p l e R s m args below meth c T locs cells slots) (hx : p.tables.exec = Jvm.exec) {x y : Int32} (hd : decode c.code pc = .ok (.irem, 1)) (hp : pc + 1 = pc') (hy : y ≠ 0)
    (k : OGo p e below K T (mkF m pc' Ls (.int (x % y) :: st))) : OGo p e below K T (mkF m pc Ls (.int y :: .int x :: st)) := by
  subst hp; exact k.via fun _ q => iremM X hx rfl hd rfl hy q
theorem g_ldiv (X : Stand p l e R s m args below meth c T locs cells slots) (hx : p.tables.exec = Jvm.exec) {x y : Int64} (hd : decode c.code pc = .ok (.ldiv, 1)) (hp : pc + 1 = pc') (hy : y ≠ 0)
    (k : OGo p e below K T (mkF m pc' Ls (.long (x / y) :: st))) : OGo p e below K T (mkF m pc Ls (.long y :: .long x :: st)) := by
  subst hp; exact k.via fun _ q => XT.ldiv X.here hx rfl hd rfl hy q
theorem g_lrem (X : Stand p l e R s m args below meth c T locs cells slots) (hx : p.tables.exec = Jvm.exec) {x y : Int64} (hd : decode c.code pc = .ok (.lrem, 1)) (hp : pc + 1 = pc') (hy : y ≠ 0)
    (k : OGo p e below K T (mkF m pc' Ls (.long (x % y) :: st))) : OGo p e below K T (mkF m pc Ls (.long y :: .long x :: st)) := by
  subst hp; exact k.via fun _ q => XT.lrem X.here hx rfl hd rfl hy (by rw [lrem_mod]; exact q)
theorem g_ineg (X : Stand p l e R s m args below meth c T locs cells slots) (hx : p.tables.exec = Jvm.exec) {x : Int32} (hd : decode c.code pc = .ok (.ineg, 1)) (hp : pc + 1 = pc')
    (k : OGo p e below K T (mkF m pc' Ls (.int (-x) :: st))) : OGo p e below K T (mkF m pc Ls (.int x :: st)) := by
  subst hp; exact k.via fun _ q => XS.ineg X.here hx rfl hd rfl q
theorem g_lneg (X : Stand p l e R s m args below meth c T locs cells slots) (hx : p.tables.exec = Jvm.exec) {x : Int64} (hd : decode c.code pc = .ok (.lneg, 1)) (hp : pc + 1 = pc')
    (k : OGo p e below K T (mkF m pc' Ls (.long (-x) :: st))) : OGo p e below K T (mkF m pc Ls (.long x :: st)) := by
  subst hp; exact k.via fun _ q => XT.lneg X.here hx rfl hd rfl q
theorem g_i2l (X : Stand p l e R s m args below meth c T locs cells slots) (hx : p.tables.exec = Jvm.exec) {x : Int32} (hd : decode c.code pc = .ok (.i2l, 1)) (hp : pc + 1 = pc')
    (k : OGo p e below K T (mkF m pc' Ls (.long x.toInt64 :: st))) : OGo p e below K T (mkF m pc Ls (.int x :: st)) := by
  subst hp; exact k.via fun _ q => XT.i2l X.here hx rfl hd rfl q
theorem g_l2i (X : Stand p l e R s m args below meth c T locs cells slots) (hx : p.tables.exec = Jvm.exec) {x : Int64} (hd : decode c.code pc = .ok (.l2i, 1)) (hp : pc + 1 = pc')
    (k : OGo p e below K T (mkF m pc' Ls (.int x.toInt32 :: st))) : OGo p e below K T (mkF m pc Ls (.long x :: st)) := by
  subst hp; exact k.via fun _ q => XT.l2i X.here hx rfl hd rfl q
theorem g_i2b (X : Stand p l e R s m args below meth c T locs cells slots) (hx : p.tables.exec = Jvm.exec) {x : Int32} (hd : decode c.code pc = .ok (.i2b, 1)) (hp : pc + 1 = pc')
    (k : OGo p e below K T (mkF m pc' Ls (.int x.toInt8.toInt32 :: st))) : OGo p e below K T (mkF m pc Ls (.int x :: st)) := by
  subst hp; exact k.via fun _ q => XT.i2b X.here hx rfl hd rfl q
theorem g_i2c (X : Stand p l e R s m args below meth c T locs cells slots) (hx : p.tables.exec = Jvm.exec) {x : Int32} (hd : decode c.code pc = .ok (.i2c, 1)) (hp : pc + 1 = pc')
    (k : OGo p e below K T (mkF m pc' Ls (.int x.toUInt32.toUInt16.toUInt32.toInt32 :: st))) : OGo p e below K T (mkF m pc Ls (.int x :: st)) := by
  subst hp; exact k.via fun _ q => XT.i2c X.here hx rfl hd rfl q
theorem g_i2s (X : Stand p l e R s m args below meth c T locs cells slots) (hx : p.tables.exec = Jvm.exec) {x : Int32} (hd : decode c.code pc = .ok (.i2s, 1)) (hp : pc + 1 = pc')
    (k : OGo p e below K T (mkF m pc' Ls (.int x.toInt16.toInt32 :: st))) : OGo p e below K T (mkF m pc Ls (.int x :: st)) := by
  subst hp; exact k.via fun _ q => XT.i2s X.here hx rfl hd rfl q
theorem g_lcmp (X : Stand p l e R s m args below meth c T locs cells slots) (hx : p.tables.exec = Jvm.exec) {x y : Int64} (hd : decode c.code pc = .ok (.lcmp, 1)) (hp : pc + 1 = pc')
    (k : OGo p e below K T (mkF m pc' Ls (.int (XT.cmpL x y) :: st))) : OGo p e below K T (mkF m pc Ls (.long y :: .long x :: st)) := by
  subst hp; exact k.via fun _ q => XT.lcmp X.here hx rfl hd rfl q
theorem g_dup (X : Stand p l e R s m args below meth c T locs cells slots) (hx : p.tables.exec = Jvm.exec) {x : Value} (hd : decode c.code pc = .ok (.dup, 1)) (hp : pc + 1 = pc') (hc : x.category = 1)
    (k : OGo p e below K T (mkF m pc' Ls (x :: x :: st))) : OGo p e below K T (mkF m pc Ls (x :: st)) := by
  subst hp; exact k.via fun _ q => XS.dup X.here hx rfl hd rfl hc q
theorem g_pop (X : Stand p l e R s m args below meth c T locs cells slots) (hx : p.tables.exec = Jvm.exec) {x : Value} (hd : decode c.code pc = .ok (.pop, 1)) (hp : pc + 1 = pc') (hc : x.category = 1)
    (k : OGo p e below K T (mkF m pc' Ls (st))) : OGo p e below K T (mkF m pc Ls (x :: st)) := by
  subst hp; exact k.via fun _ q => XT.pop X.here hx rfl hd rfl hc q
theorem g_dupx1 (X : Stand p l e R s m args below meth c T locs cells slots) (hx : p.tables.exec = Jvm.exec) {x y : Value} (hd : decode c.code pc = .ok (.dup_x1, 1)) (hp : pc + 1 = pc') (hc : x.category = 1) (hc' : y.category = 1)
    (k : OGo p e below K T (mkF m pc' Ls (x :: y :: x :: st))) : OGo p e below K T (mkF m pc Ls (x :: y :: st)) := by
  subst hp; exact k.via fun _ q => XT.dupX1 X.here hx rfl hd rfl hc hc' q
theorem g_dup2 (X : Stand p l e R s m args below meth c T locs cells slots) (hx : p.tables.exec = Jvm.exec) {x y : Value} (hd : decode c.code pc = .ok (.dup2, 1)) (hp : pc + 1 = pc') (hc : x.category = 1) (hc' : y.category = 1)
    (k : OGo p e below K T (mkF m pc' Ls (x :: y :: x :: y :: st))) : OGo p e below K T (mkF m pc Ls (x :: y :: st)) := by
  subst hp; exact k.via fun _ q => XT.dup2 X.here hx rfl hd rfl hc hc' q
theorem g_dup2L (X : Stand p l e R s m args below meth c T locs cells slots) (hx : p.tables.exec = Jvm.exec) {x : Int64} (hd : decode c.code pc = .ok (.dup2, 1)) (hp : pc + 1 = pc')
    (k : OGo p e below K T (mkF m pc' Ls (.long x :: .long x :: st))) : OGo p e below K T (mkF m pc Ls (.long x :: st)) := by
  subst hp; exact k.via fun _ q => XT.dup2L X.here hx rfl hd rfl q
theorem g_iinc (X : Stand p l e R s m args below meth c T locs cells slots) (hx : p.tables.exec = Jvm.exec) {k : Nat} {cst : Int} {x z : Int32} {Ls' : Array Slot} (v : Int32) (hd : decode c.code pc = .ok (.iinc k cst, 3)) (hp : pc + 3 = pc') (hv : Int32.ofInt cst = v) (hl : Ls[k]? = some (.val (.int x))) (hs : x + v = z) (hl' : storeLocals Ls k (.int z) = some Ls')
    (k : OGo p e below K T (mkF m pc' Ls' st)) : OGo p e below K T (mkF m pc Ls st) := by
  subst hp hs; exact k.via fun _ q => XT.iincV X.here hx rfl v hd hv hl hl' q
theorem g_ifY (X : Stand p l e R s m args below meth c T locs cells slots) (hx : p.tables.exec = Jvm.exec) {cd : ClassFile.Cond} {x : Int32} {o : Int} (hd : decode c.code pc = .ok (.ifCond cd o, 3)) (hc : ifCond.holds cd x = true) (ho : 0 ≤ (pc : Int) + o) (hp : ((pc : Int) + o).toNat = pc')
    (k : OGo p e below K T (mkF m pc' Ls st)) : OGo p e below K T (mkF m pc Ls (.int x :: st)) := k.via fun _ q => XS.ifYes X.here hx rfl rfl hd rfl hc ho hp q
theorem g_ifN (X : Stand p l e R s m args below meth c T locs cells slots) (hx : p.tables.exec = Jvm.exec) {cd : ClassFile.Cond} {x : Int32} {o : Int} (hd : decode c.code pc = .ok (.ifCond cd o, 3)) (hc : ifCond.holds cd x = false) (hp : pc + 3 = pc')
    (k : OGo p e below K T (mkF m pc' Ls st)) : OGo p e below K T (mkF m pc Ls (.int x :: st)) := by
  subst hp; exact k.via fun _ q => XS.ifNo X.here hx rfl hd rfl hc q
theorem g_icmpY (X : Stand p l e R s m args below meth c T locs cells slots) (hx : p.tables.exec = Jvm.exec) {cd : ClassFile.Cond} {x y : Int32} {o : Int} (hd : decode c.code pc = .ok (.if_icmp cd o, 3)) (hc : if_icmp.holds cd x y = true) (ho : 0 ≤ (pc : Int) + o) (hp : ((pc : Int) + o).toNat = pc')
    (k : OGo p e below K T (mkF m pc' Ls st)) : OGo p e below K T (mkF m pc Ls (.int y :: .int x :: st)) := k.via fun _ q => XS.icmpYes X.here hx rfl rfl hd rfl hc ho hp q
theorem g_icmpN (X : Stand p l e R s m args below meth c T locs cells slots) (hx : p.tables.exec = Jvm.exec) {cd : ClassFile.Cond} {x y : Int32} {o : Int} (hd : decode c.code pc = .ok (.if_icmp cd o, 3)) (hc : if_icmp.holds cd x y = false) (hp : pc + 3 = pc')
    (k : OGo p e below K T (mkF m pc' Ls st)) : OGo p e below K T (mkF m pc Ls (.int y :: .int x :: st)) := by
  subst hp; exact k.via fun _ q => XS.icmpNo X.here hx rfl hd rfl hc q
theorem g_acmpY (X : Stand p l e R s m args below meth c T locs cells slots) (hx : p.tables.exec = Jvm.exec) {cd : ClassFile.ACond} {x y : Value} {o : Int} (hd : decode c.code pc = .ok (.if_acmp cd o, 3)) (hx1 : x.isRef = true) (hy1 : y.isRef = true) (hc : XT.acmp cd x y = true) (ho : 0 ≤ (pc : Int) + o) (hp : ((pc : Int) + o).toNat = pc')
    (k : OGo p e below K T (mkF m pc' Ls st)) : OGo p e below K T (mkF m pc Ls (y :: x :: st)) := k.via fun _ q => XT.acmpYes X.here hx rfl rfl hd rfl hx1 hy1 hc ho hp q
theorem g_acmpN (X : Stand p l e R s m args below meth c T locs cells slots) (hx : p.tables.exec = Jvm.exec) {cd : ClassFile.ACond} {x y : Value} {o : Int} (hd : decode c.code pc = .ok (.if_acmp cd o, 3)) (hx1 : x.isRef = true) (hy1 : y.isRef = true) (hc : XT.acmp cd x y = false) (hp : pc + 3 = pc')
    (k : OGo p e below K T (mkF m pc' Ls st)) : OGo p e below K T (mkF m pc Ls (y :: x :: st)) := by
  subst hp; exact k.via fun _ q => XT.acmpNo X.here hx rfl hd rfl hx1 hy1 hc q
theorem g_nullY (X : Stand p l e R s m args below meth c T locs cells slots) (hx : p.tables.exec = Jvm.exec) {o : Int} (hd : decode c.code pc = .ok (.ifnull o, 3)) (ho : 0 ≤ (pc : Int) + o) (hp : ((pc : Int) + o).toNat = pc')
    (k : OGo p e below K T (mkF m pc' Ls st)) : OGo p e below K T (mkF m pc Ls (.null :: st)) := k.via fun _ q => XS.ifnullYes X.here hx rfl rfl hd rfl ho hp q
theorem g_nullN (X : Stand p l e R s m args below meth c T locs cells slots) (hx : p.tables.exec = Jvm.exec) {o : Int} {a : Addr} (hd : decode c.code pc = .ok (.ifnull o, 3)) (hp : pc + 3 = pc')
    (k : OGo p e below K T (mkF m pc' Ls st)) : OGo p e below K T (mkF m pc Ls (.ref a :: st)) := by
  subst hp; exact k.via fun _ q => XS.ifnullNo X.here hx rfl hd rfl q
theorem g_nonnullY (X : Stand p l e R s m args below meth c T locs cells slots) (hx : p.tables.exec = Jvm.exec) {o : Int} {a : Addr} (hd : decode c.code pc = .ok (.ifnonnull o, 3)) (ho : 0 ≤ (pc : Int) + o) (hp : ((pc : Int) + o).toNat = pc')
    (k : OGo p e below K T (mkF m pc' Ls st)) : OGo p e below K T (mkF m pc Ls (.ref a :: st)) := k.via fun _ q => XT.ifnonnullYes X.here hx rfl rfl hd rfl ho hp q
theorem g_nonnullN (X : Stand p l e R s m args below meth c T locs cells slots) (hx : p.tables.exec = Jvm.exec) {o : Int} (hd : decode c.code pc = .ok (.ifnonnull o, 3)) (hp : pc + 3 = pc')
    (k : OGo p e below K T (mkF m pc' Ls st)) : OGo p e below K T (mkF m pc Ls (.null :: st)) := by
  subst hp; exact k.via fun _ q => XT.ifnonnullNo X.here hx rfl hd rfl q
theorem g_goto (X : Stand p l e R s m args below meth c T locs cells slots) (hx : p.tables.exec = Jvm.exec) {o : Int} (hd : decode c.code pc = .ok (.goto o, 3)) (ho : 0 ≤ (pc : Int) + o) (hp : ((pc : Int) + o).toNat = pc')
    (k : OGo p e below K T (mkF m pc' Ls st)) : OGo p e below K T (mkF m pc Ls st) := k.via fun _ q => XS.goto X.here hx rfl rfl hd ho hp q
theorem g_len (X : Stand p l e R s m args below meth c T locs cells slots) (hx : p.tables.exec = Jvm.exec) (hZ : Z.Warmed39 s.vm) (eT : T.heap = h) {a : Addr} {kk : ClassId} {ty : FieldType} {vs : List Value} (F : OAry Z h a kk ty vs) {z : Int32} (hz : vs.length.toInt32 = z) (hd : decode c.code pc = .ok (.arraylength, 1)) (hp : pc + 1 = pc')
    (k : OGo p e below K T (mkF m pc' Ls (.int z :: st))) : OGo p e below K T (mkF m pc Ls (.ref a :: st)) := by
  subst hp hz
  obtain ⟨cl, A, r1, rfl, -⟩ := F
  refine k.via fun t q => X.arraylength hx (cell := cl) (a := a) (by rw [eT]; exact A.1) (State.isArrayOf_alike hZ.alike A.2.1) (g := mkF m pc Ls (.ref a :: st)) rfl (rest := st) rfl hd t ?_
  simpa using q
theorem g_iaload (X : Stand p l e R s m args below meth c T locs cells slots) (hx : p.tables.exec = Jvm.exec) (hZ : Z.Warmed39 s.vm) (eT : T.heap = h) {a : Addr} {kk : ClassId} {vs : List Value} (F : OAry Z h a kk .int vs) {j : Int32} {v : Value} (hj : ¬ j < 0) (hv : vs[j.toNatClampNeg]? = some v) (hd : decode c.code pc = .ok (.iaload, 1)) (hp : pc + 1 = pc')
    (k : OGo p e below K T (mkF m pc' Ls (v :: st))) : OGo p e below K T (mkF m pc Ls (.int j :: .ref a :: st)) := by
  subst hp
  obtain ⟨cl, A, r1, r2, -⟩ := F
  exact k.via fun t q => X.iaload hx (cell := cl) (a := a) (j := j) (v := v) (by rw [eT]; exact A.1) (State.isArrayOf_alike hZ.alike A.2.1) A.2.2 (aryIn r2 hj hv).1 (aryIn r2 hj hv).2 (g := mkF m pc Ls (.int j :: .ref a :: st)) rfl (rest := st) rfl hd t q
theorem g_laload (X : Stand p l e R s m args below meth c T locs cells slots) (hx : p.tables.exec = Jvm.exec) (hZ : Z.Warmed39 s.vm) (eT : T.heap = h) {a : Addr} {kk : ClassId} {vs : List Value} (F : OAry Z h a kk .long vs) {j : Int32} {v : Value} (hj : ¬ j < 0) (hv : vs[j.toNatClampNeg]? = some v) (hd : decode c.code pc = .ok (.laload, 1)) (hp : pc + 1 = pc')
    (k : OGo p e below K T (mkF m pc' Ls (v :: st))) : OGo p e below K T (mkF m pc Ls (.int j :: .ref a :: st)) := by
  subst hp
  obtain ⟨cl, A, r1, r2, -⟩ := F
  exact k.via fun t q => X.laload hx (cell := cl) (a := a) (j := j) (v := v) (by rw [eT]; exact A.1) (State.isArrayOf_alike hZ.alike A.2.1) A.2.2 (aryIn r2 hj hv).1 (aryIn r2 hj hv).2 (g := mkF m pc Ls (.int j :: .ref a :: st)) rfl (rest := st) rfl hd t q
theorem g_caload (X : Stand p l e R s m args below meth c T locs cells slots) (hx : p.tables.exec = Jvm.exec) (hZ : Z.Warmed39 s.vm) (eT : T.heap = h) {a : Addr} {kk : ClassId} {vs : List Value} (F : OAry Z h a kk .char vs) {j : Int32} {v : Value} (hj : ¬ j < 0) (hv : vs[j.toNatClampNeg]? = some v) (hd : decode c.code pc = .ok (.caload, 1)) (hp : pc + 1 = pc')
    (k : OGo p e below K T (mkF m pc' Ls (v :: st))) : OGo p e below K T (mkF m pc Ls (.int j :: .ref a :: st)) := by
  subst hp
  obtain ⟨cl, A, r1, r2, -⟩ := F
  exact k.via fun t q => X.caload hx (cell := cl) (a := a) (j := j) (v := v) (by rw [eT]; exact A.1) (State.isArrayOf_alike hZ.alike A.2.1) A.2.2 (aryIn r2 hj hv).1 (aryIn r2 hj hv).2 (g := mkF m pc Ls (.int j :: .ref a :: st)) rfl (rest := st) rfl hd t q
theorem g_baload (X : Stand p l e R s m args below meth c T locs cells slots) (hx : p.tables.exec = Jvm.exec) (hZ : Z.Warmed39 s.vm) (eT : T.heap = h) {a : Addr} {kk : ClassId} {vs : List Value} (F : OAry Z h a kk .byte vs) {j : Int32} {v : Value} (hj : ¬ j < 0) (hv : vs[j.toNatClampNeg]? = some v) (hd : decode c.code pc = .ok (.baload, 1)) (hp : pc + 1 = pc')
    (k : OGo p e below K T (mkF m pc' Ls (v :: st))) : OGo p e below K T (mkF m pc Ls (.int j :: .ref a :: st)) := by
  subst hp
  obtain ⟨cl, A, r1, r2, -⟩ := F
  exact k.via fun t q => X.baloadBytes hx (cell := cl) (a := a) (j := j) (v := v) (by rw [eT]; exact A.1) (State.isArrayOf_alike hZ.alike A.2.1) A.2.2 (aryIn r2 hj hv).1 (aryIn r2 hj hv).2 (g := mkF m pc Ls (.int j :: .ref a :: st)) rfl (rest := st) rfl hd t q
theorem g_zaload (X : Stand p l e R s m args below meth c T locs cells slots) (hx : p.tables.exec = Jvm.exec) (hZ : Z.Warmed39 s.vm) (eT : T.heap = h) {a : Addr} {kk : ClassId} {vs : List Value} (F : OAry Z h a kk .boolean vs) {j : Int32} {v : Value} (hj : ¬ j < 0) (hv : vs[j.toNatClampNeg]? = some v) (hd : decode c.code pc = .ok (.baload, 1)) (hp : pc + 1 = pc')
    (k : OGo p e below K T (mkF m pc' Ls (v :: st))) : OGo p e below K T (mkF m pc Ls (.int j :: .ref a :: st)) := by
  subst hp
  obtain ⟨cl, A, r1, r2, -⟩ := F
  exact k.via fun t q => X.baloadBooleans hx (cell := cl) (a := a) (j := j) (v := v) (by rw [eT]; exact A.1) (State.isArrayOf_alike hZ.alike A.2.1) A.2.2 (aryIn r2 hj hv).1 (aryIn r2 hj hv).2 (g := mkF m pc Ls (.int j :: .ref a :: st)) rfl (rest := st) rfl hd t q
theorem g_saload (X : Stand p l e R s m args below meth c T locs cells slots) (hx : p.tables.exec = Jvm.exec) (hZ : Z.Warmed39 s.vm) (eT : T.heap = h) {a : Addr} {kk : ClassId} {vs : List Value} (F : OAry Z h a kk .short vs) {j : Int32} {v : Value} (hj : ¬ j < 0) (hv : vs[j.toNatClampNeg]? = some v) (hd : decode c.code pc = .ok (.saload, 1)) (hp : pc + 1 = pc')
    (k : OGo p e below K T (mkF m pc' Ls (v :: st))) : OGo p e below K T (mkF m pc Ls (.int j :: .ref a :: st)) := by
  subst hp
  obtain ⟨cl, A, r1, r2, -⟩ := F
  exact k.via fun t q => X.saload hx (cell := cl) (a := a) (j := j) (v := v) (by rw [eT]; exact A.1) (State.isArrayOf_alike hZ.alike A.2.1) A.2.2 (aryIn r2 hj hv).1 (aryIn r2 hj hv).2 (g := mkF m pc Ls (.int j :: .ref a :: st)) rfl (rest := st) rfl hd t q
theorem g_aaload (X : Stand p l e R s m args below meth c T locs cells slots) (hx : p.tables.exec = Jvm.exec) (hZ : Z.Warmed39 s.vm) (eT : T.heap = h) {a : Addr} {kk : ClassId} {ty : FieldType} {vs : List Value} (F : OAry Z h a kk ty vs) (hty : ty.isReference = true) {j : Int32} {v : Value} (hj : ¬ j < 0) (hv : vs[j.toNatClampNeg]? = some v) (hd : decode c.code pc = .ok (.aaload, 1)) (hp : pc + 1 = pc')
    (k : OGo p e below K T (mkF m pc' Ls (v :: st))) : OGo p e below K T (mkF m pc Ls (.int j :: .ref a :: st)) := by
  subst hp
  obtain ⟨cl, A, r1, r2, -⟩ := F
  exact k.via fun t q => X.aaload hx (cell := cl) (a := a) (j := j) (v := v) (by rw [eT]; exact A.1) (State.isArrayOf_alike hZ.alike A.2.1) hty A.2.2 (aryIn r2 hj hv).1 (aryIn r2 hj hv).2 (g := mkF m pc Ls (.int j :: .ref a :: st)) rfl (rest := st) rfl hd t q
theorem g_iastore (X : Stand p l e R s m args below meth c T locs cells slots) (hx : p.tables.exec = Jvm.exec) (hZ : Z.Warmed39 s.vm) (eT : T.heap = h) {a : Addr} {kk : ClassId} {vs vs' : List Value} (F : OAry Z h a kk .int vs) {j : Int32} {u : Value} {x : Int32} (hj : ¬ j < 0) (hv : vs[j.toNatClampNeg]? = some u) (hvs : vs.set j.toNatClampNeg (.int x) = vs') (P : OPr h0 ws h locs) (q : a ∈ ws ∨ h0.size ≤ a) (hd : decode c.code pc = .ok (.iastore, 1)) (hp : pc + 1 = pc')
    (k : ∀ T' h', Stand p l e R s m args below meth c T' (locs ++ [⟨a, j.toNatClampNeg⟩]) cells slots → T'.heap = h' → Wr h h' a j.toNatClampNeg (.int x) → OPr h0 ws h' (locs ++ [⟨a, j.toNatClampNeg⟩]) → OAry Z h' a kk .int vs' → OGo p e below K T' (mkF m pc' Ls st)) : OGo p e below K T (mkF m pc Ls (.int x :: .int j :: .ref a :: st)) := by
  subst hp
  obtain ⟨cl, A, r1, r2, r3⟩ := F
  obtain ⟨T', h', X', e', W', r⟩ := stI X hx hZ eT A (aryIn r2 hj hv).1 (g := mkF m pc Ls (.int x :: .int j :: .ref a :: st)) rfl rfl hd
  exact (k T' h' X' e' W' (P.wr W' q) (arySet ⟨cl, A, r1, r2, r3⟩ W' rfl hvs)).via r
theorem g_lastore (X : Stand p l e R s m args below meth c T locs cells slots) (hx : p.tables.exec = Jvm.exec) (hZ : Z.Warmed39 s.vm) (eT : T.heap = h) {a : Addr} {kk : ClassId} {vs vs' : List Value} (F : OAry Z h a kk .long vs) {j : Int32} {u : Value} {x : Int64} (hj : ¬ j < 0) (hv : vs[j.toNatClampNeg]? = some u) (hvs : vs.set j.toNatClampNeg (.long x) = vs') (P : OPr h0 ws h locs) (q : a ∈ ws ∨ h0.size ≤ a) (hd : decode c.code pc = .ok (.lastore, 1)) (hp : pc + 1 = pc')
    (k : ∀ T' h', Stand p l e R s m args below meth c T' (locs ++ [⟨a, j.toNatClampNeg⟩]) cells slots → T'.heap = h' → Wr h h' a j.toNatClampNeg (.long x) → OPr h0 ws h' (locs ++ [⟨a, j.toNatClampNeg⟩]) → OAry Z h' a kk .long vs' → OGo p e below K T' (mkF m pc' Ls st)) : OGo p e below K T (mkF m pc Ls (.long x :: .int j :: .ref a :: st)) := by
  subst hp
  obtain ⟨cl, A, r1, r2, r3⟩ := F
  obtain ⟨T', h', X', e', W', r⟩ := stJ X hx hZ eT A (aryIn r2 hj hv).1 (g := mkF m pc Ls (.long x :: .int j :: .ref a :: st)) rfl rfl hd
  exact (k T' h' X' e' W' (P.wr W' q) (arySet ⟨cl, A, r1, r2, r3⟩ W' rfl hvs)).via r
theorem g_aastore (X : Stand p l e R s m args below meth c T locs cells slots) (hx : p.tables.exec = Jvm.exec) (hZ : Z.Warmed39 s.vm) (eT : T.heap = h) {a : Addr} {kk : ClassId} {ty : FieldType} {vs vs' : List Value} (F : OAry Z h a kk ty vs) (hty : ty.isReference = true) {j : Int32} {u x : Value} (hj : ¬ j < 0) (hv : vs[j.toNatClampNeg]? = some u) (hvs : vs.set j.toNatClampNeg x = vs') (hf : fits ty x = true) (S : Sto Z h a x) (P : OPr h0 ws h locs) (q : a ∈ ws ∨ h0.size ≤ a) (hd : decode c.code pc = .ok (.aastore, 1)) (hp : pc + 1 = pc')
    (k : ∀ T' h', Stand p l e R s m args below meth c T' (locs ++ [⟨a, j.toNatClampNeg⟩]) cells slots → T'.heap = h' → Wr h h' a j.toNatClampNeg x → OPr h0 ws h' (locs ++ [⟨a, j.toNatClampNeg⟩]) → OAry Z h' a kk ty vs' → OGo p e below K T' (mkF m pc' Ls st)) : OGo p e below K T (mkF m pc Ls (x :: .int j :: .ref a :: st)) := by
  subst hp
  obtain ⟨cl, A, r1, r2, r3⟩ := F
  obtain ⟨T', h', X', e', W', r⟩ := stR X hx hZ eT A (aryIn r2 hj hv).1 hty S (g := mkF m pc Ls (x :: .int j :: .ref a :: st)) rfl rfl hd
  exact (k T' h' X' e' W' (P.wr W' q) (arySet ⟨cl, A, r1, r2, r3⟩ W' hf hvs)).via r
theorem fit0 (ty : FieldType) : fits ty (defaultValue ty) = true := by cases ty <;> rfl
theorem stoOf {a y : Addr} {kk : ClassId} {ty : FieldType} {vs : List Value} {C : String} (F : OAry Z h a kk ty vs) (O : Ovr Z kk C) (I : Ins Z h y C true) : Sto Z h a (.ref y) := by
  obtain ⟨cl, A, r1, -⟩ := F; exact Sto.ofV A r1 O I
theorem g_newarray (X : Stand p l e R s m args below meth c T locs cells slots) (hx : p.tables.exec = Jvm.exec) (hZ : Z.Warmed39 s.vm) {aty : ArrayType} {ad : String} (had : "[" ++ (newarray.typeOf aty).toString = ad) (w : (Jvm.Cond.arrayClass (newarray.typeOf aty)).before a0 Z = true) (eT : T.heap = h) {n : Int32} {vs : List Value} (hn : ¬ n < 0) (hvs : List.replicate n.toNatClampNeg (defaultValue (newarray.typeOf aty)) = vs) {cap : Nat} (hcap : n.toNatClampNeg ≤ cap) (hb : cap * 8 ≤ 536870912) (P : OPr h0 ws h locs)  (hd : decode c.code pc = .ok (.newarray aty, 2)) (hp : pc + 2 = pc') (hc : cells + 1 ≤ R.cells) (hl : slots + cap ≤ R.slots)
    (k : ∀ T' h' a kk, a = h.size → h0.size ≤ a → Stand p l e R s m args below meth c T' locs (cells + 1) (slots + cap) → T'.heap = h' → Ext h h' → OPr h0 ws h' locs → OAry Z h' a kk (newarray.typeOf aty) vs → Exa Z h' a ad → OGo p e below K T' (mkF m pc' Ls (.ref a :: st))) : OGo p e below K T (mkF m pc Ls (.int n :: st)) := by
  subst hp hvs had
  have hcb : componentBytes (newarray.typeOf aty) ≤ 8 := by cases aty <;> decide
  obtain ⟨cA, kA, comp, h1, h2, h3, X', r⟩ := X.newarrayPrim hx (mvA hZ w) (g := mkF m pc Ls (.int n :: st)) rfl hd rfl hn (Nat.le_trans (Nat.mul_le_mul hcap hcb) hb) hc (by omega)
  subst eT
  rw [hZ.alike.findClass] at h1
  obtain ⟨kZ, z1, -⟩ := Vm.findClass_spec h1
  obtain ⟨k', z2, z3⟩ := hZ.alike.2.2 _ _ z1
  cases h2.symm.trans z2
  have kk : kZ.kind = .array comp (newarray.typeOf aty) := by rw [← h3, z3]
  have hN : (T.heap.push (newA cA (newarray.typeOf aty) n))[T.heap.size]? = some (newA cA (newarray.typeOf aty) n) := by simp
  have A' : Arr Z (T.heap.push (newA cA (newarray.typeOf aty) n)) T.heap.size (newA cA (newarray.typeOf aty) n) (newarray.typeOf aty) := ⟨hN, ⟨by simp [newA], kZ, z1, comp, kk⟩, by simp [newA]⟩
  have E' : Ext T.heap (T.heap.push (newA cA (newarray.typeOf aty) n)) := ext_of fun a q => Array.getElem?_push_lt q |>.trans (Array.getElem?_eq_getElem q).symm
  refine (k _ _ T.heap.size cA rfl P.1.1 (X'.more (Nat.le_refl _) (by omega)) rfl E' (P.ext E') ⟨_, A', rfl, by simp [newA], by have := (back32 hn).2; simpa using this, fun v hv => ?_⟩ (exa_arr A' h1 rfl)).via r
  rw [(List.mem_replicate.mp hv).2]; exact fit0 _
theorem g_anewarray (X : Stand p l e R s m args below meth c T locs cells slots) (hx : p.tables.exec = Jvm.exec) (hZ : Z.Warmed39 s.vm) (hown : s.vm.findClass own = some m.cls) {C : String} {index : Nat} (w1 : (Jvm.Cond.classLink own index C).before a0 Z = true) (w2 : (Jvm.Cond.arrayOver (.object C)).before a0 Z = true) {ad : String} (had : "[" ++ (FieldType.object C).toString = ad) (eT : T.heap = h) {n : Int32} {vs : List Value} (hn : ¬ n < 0) (hvs : List.replicate n.toNatClampNeg Value.null = vs) {cap : Nat} (hcap : n.toNatClampNeg ≤ cap) (hb : cap * 8 ≤ 536870912) (P : OPr h0 ws h locs) (hd : decode c.code pc = .ok (.anewarray index, 3)) (hp : pc + 3 = pc') (hc : cells + 1 ≤ R.cells) (hl : slots + cap ≤ R.slots)
    (k : ∀ T' h' a kk, a = h.size → h0.size ≤ a → Stand p l e R s m args below meth c T' locs (cells + 1) (slots + cap) → T'.heap = h' → Ext h h' → OPr h0 ws h' locs → OAry Z h' a kk (.object C) vs → Ovr Z kk C → Exa Z h' a ad → OGo p e below K T' (mkF m pc' Ls (.ref a :: st))) : OGo p e below K T (mkF m pc Ls (.int n :: st)) := by
  subst hp hvs
  obtain ⟨T', h', cA, X', e', E', A', B', O', r⟩ := newRE X hx hZ hown w1 w2 eT (g := mkF m pc Ls (.int n :: st)) rfl hd rfl hn hcap hb hc hl had
  refine (k T' h' h.size cA rfl P.1.1 X' e' E' (P.ext E') ⟨_, A', rfl, by simp [newA, defaultValue], by have := (back32 hn).2; simpa using this, fun v hv => ?_⟩ O' B').via r
  rw [(List.mem_replicate.mp hv).2]; rfl
theorem g_anewarrayA (X : Stand p l e R s m args below meth c T locs cells slots) (hx : p.tables.exec = Jvm.exec) (hZ : Z.Warmed39 s.vm) (hown : s.vm.findClass own = some m.cls) {C : String} {ty : FieldType} {index : Nat} (hC : (FieldType.array ty).toString = C) (w1 : (Jvm.Cond.classLink own index C).before a0 Z = true) (w2 : (Jvm.Cond.arrayOver (.array ty)).before a0 Z = true) {ad : String} (had : "[" ++ C = ad) (eT : T.heap = h) {n : Int32} {vs : List Value} (hn : ¬ n < 0) (hvs : List.replicate n.toNatClampNeg Value.null = vs) {cap : Nat} (hcap : n.toNatClampNeg ≤ cap) (hb : cap * 8 ≤ 536870912) (P : OPr h0 ws h locs) (hd : decode c.code pc = .ok (.anewarray index, 3)) (hp : pc + 3 = pc') (hc : cells + 1 ≤ R.cells) (hl : slots + cap ≤ R.slots)
    (k : ∀ T' h' a kk, a = h.size → h0.size ≤ a → Stand p l e R s m args below meth c T' locs (cells + 1) (slots + cap) → T'.heap = h' → Ext h h' → OPr h0 ws h' locs → OAry Z h' a kk (.array ty) vs → OvrA Z kk ty C → OGo p e below K T' (mkF m pc' Ls (.ref a :: st))) : OGo p e below K T (mkF m pc Ls (.int n :: st)) := by
  subst hp hvs
  obtain ⟨T', h', cA, X', e', E', A', -, O', r⟩ := newRA X hx hZ hown hC w1 w2 eT (g := mkF m pc Ls (.int n :: st)) rfl hd rfl hn hcap hb hc hl had
  refine (k T' h' h.size cA rfl P.1.1 X' e' E' (P.ext E') ⟨_, A', rfl, by simp [newA, defaultValue], by have := (back32 hn).2; simpa using this, fun v hv => ?_⟩ O').via r
  rw [(List.mem_replicate.mp hv).2]; rfl
theorem stoOfA {a y : Addr} {kk : ClassId} {t0 ty : FieldType} {vs : List Value} {C : String} (F : OAry Z h a kk t0 vs) (O : OvrA Z kk ty C) (I : Ins Z h y C true) : Sto Z h a (.ref y) := by
  obtain ⟨cl, A, r1, -⟩ := F; exact Sto.ofVA A r1 O I
theorem g_castN (X : Stand p l e R s m args below meth c T locs cells slots) (hx : p.tables.exec = Jvm.exec) {index : Nat} (hd : decode c.code pc = .ok (.checkcast index, 3)) (hp : pc + 3 = pc')
    (k : OGo p e below K T (mkF m pc' Ls (.null :: st))) : OGo p e below K T (mkF m pc Ls (.null :: st)) := by
  subst hp; exact k.via fun t q => X.checkcastNull hx (g := mkF m pc Ls (.null :: st)) rfl rfl hd t q
theorem g_instN0 (X : Stand p l e R s m args below meth c T locs cells slots) (hx : p.tables.exec = Jvm.exec) {index : Nat} (hd : decode c.code pc = .ok (.instanceof index, 3)) (hp : pc + 3 = pc')
    (k : OGo p e below K T (mkF m pc' Ls (.int 0 :: st))) : OGo p e below K T (mkF m pc Ls (.null :: st)) := by
  subst hp; exact k.via fun t q => X.instanceofNull hx (g := mkF m pc Ls (.null :: st)) rfl rfl hd t q
theorem g_cast (X : Stand p l e R s m args below meth c T locs cells slots) (hx : p.tables.exec = Jvm.exec) (hZ : Z.Warmed39 s.vm) (hown : s.vm.findClass own = some m.cls) {Kc : String} {index : Nat} (w : (Jvm.Cond.classLink own index Kc).before a0 Z = true) (eT : T.heap = h) {a : Addr} (F : Ins Z h a Kc true) (hd : decode c.code pc = .ok (.checkcast index, 3)) (hp : pc + 3 = pc')
    (k : ∀ T', Stand p l e R s m args below meth c T' locs cells slots → T'.heap = h → OGo p e below K T' (mkF m pc' Ls (.ref a :: st))) : OGo p e below K T (mkF m pc Ls (.ref a :: st)) := by
  subst hp
  obtain ⟨T', X', e', q⟩ := castY X hx hZ hown w eT F (g := mkF m pc Ls (.ref a :: st)) rfl rfl hd
  exact (k T' X' e').via q
theorem g_instY (X : Stand p l e R s m args below meth c T locs cells slots) (hx : p.tables.exec = Jvm.exec) (hZ : Z.Warmed39 s.vm) (hown : s.vm.findClass own = some m.cls) {Kc : String} {index : Nat} (w : (Jvm.Cond.classLink own index Kc).before a0 Z = true) (eT : T.heap = h) {a : Addr} (F : Ins Z h a Kc true) (hd : decode c.code pc = .ok (.instanceof index, 3)) (hp : pc + 3 = pc')
    (k : ∀ T', Stand p l e R s m args below meth c T' locs cells slots → T'.heap = h → OGo p e below K T' (mkF m pc' Ls (.int 1 :: st))) : OGo p e below K T (mkF m pc Ls (.ref a :: st)) := by
  subst hp
  obtain ⟨T', X', e', q⟩ := instY X hx hZ hown w eT F (g := mkF m pc Ls (.ref a :: st)) rfl rfl hd
  exact (k T' X' e').via q

theorem g_clone (X : Stand p l e R s m args below meth c T locs cells slots) (hx : p.tables.exec = Jvm.exec) (hZ : Z.Warmed39 s.vm) (hown : s.vm.findClass own = some m.cls) {ad : String} {index : Nat}
    (w1 : (Jvm.Cond.methodLink own index ⟨ad, "clone", "()Ljava/lang/Object;"⟩).before a0 Z = true) (w2 : (Jvm.Cond.sameMethod ad "java/lang/Object" "clone" "()Ljava/lang/Object;").before a0 Z = true) (w3 : (Jvm.Cond.native ⟨"java/lang/Object", "clone", "()Ljava/lang/Object;"⟩).before a0 Z = true)
    (w4 : (Jvm.Cond.instanceMethod ⟨"java/lang/Object", "clone", "()Ljava/lang/Object;"⟩).before a0 Z = true) (w5 : (Jvm.Cond.selects ad ⟨ad, "clone", "()Ljava/lang/Object;"⟩ ⟨"java/lang/Object", "clone", "()Ljava/lang/Object;"⟩).before a0 Z = true) (w6 : (Jvm.Cond.castable ad "java/lang/Cloneable").before a0 Z = true)
    (eT : T.heap = h) {a : Addr} {kk : ClassId} {ty : FieldType} {vs : List Value} (F : OAry Z h a kk ty vs) (E : Exa Z h a ad) (P : OPr h0 ws h locs) (hsize : Ls.size = c.maxLocals) (hd : decode c.code pc = .ok (.invokevirtual index, 3)) (hp : pc + 3 = pc')
    (hf : 1 ≤ R.frames) {W cap : Nat} (hW : (st.map fun v => v.category).sum ≤ W) (hl : W + 14 ≤ R.locals) (hcap : vs.length ≤ cap) (hc : cells + 1 ≤ R.cells) (hsl : slots + cap ≤ R.slots)
    (k : ∀ T' h' a', a' = h.size → h0.size ≤ a' → Stand p l e R s m args below meth c T' locs (cells + 1) (slots + cap) → T'.heap = h' → Ext h h' → OPr h0 ws h' locs → OAry Z h' a' kk ty vs → Exa Z h' a' ad → OGo p e below K T' (mkF m pc' Ls (.ref a' :: st))) : OGo p e below K T (mkF m pc Ls (.ref a :: st)) := by
  subst hp
  obtain ⟨cl, A, r1, r2, r3, r4⟩ := F
  obtain ⟨T', h', X', e', E', A', B', r⟩ := cloneA X hx hZ hown w1 w2 w3 w4 w5 w6 eT A E (aryFit (k := kk) A r2 r4) (g := mkF m pc Ls (.ref a :: st)) rfl hsize rfl hd hf (W := W) (by show 2 * 0 + _ ≤ _; omega) hl (cap := cap) (by rw [← r2] at hcap; simpa using hcap) hc hsl
  exact (k T' h' h.size rfl P.1.1 X' e' E' (P.ext E') ⟨_, A', r1, r2, r3, r4⟩ B').via r
theorem eqI {first : State} {o : Option Outcome} {idx : List Nat} {t u : Term} {x y : Int32} (ha : t.eval args first o idx s = some (.int x)) (hb : u.eval args first o idx s = some (.int y)) : (Jvm.Cond.eq t u).value args first o s idx = some (decide (x = y)) := by simp [Cond.value, ha, hb]
theorem lenSt {t : Term} {a : Addr} {cl : Cell} {ty : FieldType} {n : Int32} (ev : t.eval args s none [] s = some (.ref a)) (A : Arr s s.heap a cl ty) (q : (Jvm.Cond.eq (.length t) (.int n)).value args s none s [] = some true) : cl.slots.size = n.toInt ∧ cl.slots.size < 2 ^ 31 := by
  have ha : s.arrayAt? a = some cl := A.fin (Vm.Alike.refl _)
  by_cases hl : cl.slots.size < 2 ^ 31
  · have e1 := len_f (idx := []) (first := s) (o := none) ev ha hl
    have e2 : cl.slots.size.toInt32 = n := by rw [eqI e1 (Term.int_eval n)] at q; simpa using q
    exact ⟨by rw [← e2, len_toInt hl], hl⟩
  · have e1 : (Term.length t).eval args s none [] s = none := by simp [Term.eval, ev, ha, hl]
    simp [Cond.value, e1] at q
theorem elemSt {t u : Term} {a : Addr} {cl : Cell} {ty : FieldType} {i : Int32} {v : Value} (ev : t.eval args s none [] s = some (.ref a)) (A : Arr s s.heap a cl ty) (eu : u.eval args s none [] s = some v) (hv : v.isRef = true) (q : (Jvm.Cond.eq (.elem t (.int i)) u).value args s none s [] = some true) : cl.slots[i.toNatClampNeg]? = some v := by
  obtain ⟨x, y, e1, e2, k1, k2⟩ := cmp_v (Or.inl q)
  cases eu.symm.trans e2
  have hx : x.isRef = true := by rcases ref_cases hv with rfl | ⟨b, rfl⟩ <;> exact k2.2
  have r : x = v := by rw [eq_R e1 e2 hx hv] at q; simpa using q
  subst r
  exact (elem_in e1 ev (Term.int_eval i) A.1).2
theorem aryStart {a : Addr} {cl : Cell} {ty : FieldType} {vs : List Value} (hf : Fit s) (A : Arr s s.heap a cl ty) (hs : cl.slots.size < 2 ^ 31) (hl : cl.slots.size = vs.length) (hv : ∀ i, i < vs.length → cl.slots[i]? = vs[i]?) : OAry s s.heap a cl.cls ty vs := by
  have e : cl.slots.toList = vs := by
    apply List.ext_getElem?
    intro i
    by_cases hi : i < vs.length
    · rw [← hv i hi]; simp
    · rw [List.getElem?_eq_none (by simp; omega), List.getElem?_eq_none (by omega)]
  refine ⟨cl, A, rfl, e, by omega, fun v hm => ?_⟩
  rw [← e] at hm
  obtain ⟨i, hi, rfl⟩ := List.getElem_of_mem hm
  have hi' : i < cl.slots.size := by simpa using hi
  have q := hf A.1 hi'
  obtain ⟨hs', k, hk, comp, hkind⟩ := A.2.1
  have e2 : s.slotType? cl.cls cl.vm i = some ty := by
    cases hq : cl.vm <;> first | exact absurd hq (hs' _) | simp [State.slotType?, hk, hkind]
  simp [State.fitsSlot, e2] at q
  simpa using q

theorem wd (hw : ∀ d ∈ tables_1, d.before a0 Z = true) (k : Nat) {d : Jvm.Cond} (q : tables_1[k]? = some d) : d.before a0 Z = true := hw d (List.mem_of_getElem? q)
theorem narR {t : FieldType} {v : Value} (q : v.isRef = true) : narrow t v = v := by rcases ref_cases q with rfl | ⟨a, rfl⟩ <;> cases t <;> rfl
theorem fitR {t : FieldType} {v : Value} (q : v.isRef = true) (r : t.isReference = true) : fits t v = true := by
  rcases ref_cases q with rfl | ⟨a, rfl⟩ <;> cases t <;> first | rfl | cases r
theorem insP {a : Addr} {C : String} {b : Bool} (F : Ins Z h0 a C b) (P : OPr h0 ws h L) : Ins Z h a C b := by
  obtain ⟨cell, cT, h1, h2, h3⟩ := F
  obtain ⟨c', e1, e2, e3, -⟩ := P.1.2.2 _ _ h1
  exact ⟨c', cT, e1, h2, by rw [e2, e3]; exact h3⟩
theorem neAry {a b : Addr} {kk : ClassId} {ty : FieldType} {vs : List Value} {C : String} {n : Nat} (E : Exa Z h b C) (wi : (Jvm.Cond.instantiable C n).before a0 Z = true) (F : OAry Z h a kk ty vs) : b ≠ a := by
  obtain ⟨c, A, -⟩ := F; exact ne_arr E wi A
theorem exSta {C n d Kc : String} (q : (Jvm.Cond.exactly (.static C n d) Kc).value args s none s [] = some true) (hi : (Jvm.Cond.initializedFor C n d).before args s = true ∨ ((Jvm.Cond.initialized C).before args s = true ∧ (Jvm.Cond.laysStatic C n d).before args s = true)) :
    ∃ a, (Term.static C n d).eval args s none [] s = some (.ref a) ∧ Sta s s.heap C n d (.ref a) ∧ Exa s s.heap a Kc := by
  obtain ⟨a, ev⟩ := exa_v q
  exact ⟨a, ev, Sta.start ev hi, Exa.start ev q⟩
theorem eqFld {t : Term} {a : Addr} {C n d : String} {k : Int32} (ev : t.eval args s none [] s = some (.ref a)) (q : (Jvm.Cond.eq (.field t C n d) (.int k)).value args s none s [] = some true) : Fld s s.heap a C n d (.int k) := by
  obtain ⟨x, y, e1, e2, -, k2⟩ := cmp_v (Or.inl q)
  cases e2
  obtain ⟨z, rfl⟩ := k2
  have r : z = k := by rw [eqI e1 (Term.int_eval k)] at q; simpa using q
  subst r
  exact Fld.start ((fld_at ev).symm.trans e1)
theorem eqFldR {t u : Term} {a : Addr} {v : Value} {C n d : String} (ev : t.eval args s none [] s = some (.ref a)) (eu : u.eval args s none [] s = some v) (hv : v.isRef = true) (q : (Jvm.Cond.eq (.field t C n d) u).value args s none s [] = some true) : Fld s s.heap a C n d v := by
  obtain ⟨x, y, e1, e2, k1, k2⟩ := cmp_v (Or.inl q)
  cases eu.symm.trans e2
  have hx : x.isRef = true := by rcases ref_cases hv with rfl | ⟨b, rfl⟩ <;> exact k2.2
  have r : x = v := by rw [eq_R e1 e2 hx hv] at q; simpa using q
  subst r
  exact Fld.start ((fld_at ev).symm.trans e1)
end Own
def AA (cc : Int32) (e0 e1 e2 e3 e4 e5 e6 e7 e8 e9 e10 e11 e12 : Addr) : Addr := if cc = 1 then e0 else if cc = 2 then e1 else if cc = 3 then e2 else if cc = 4 then e3 else if cc = 5 then e4 else if cc = 6 then e5 else if cc = 7 then e6 else if cc = 8 then e7 else if cc = 9 then e8 else if cc = 11 then e9 else if cc = 12 then e10 else if cc = 13 then e11 else e12
theorem AA_is {Z : State} {h : Heap} {cc : Int32} {e0 e1 e2 e3 e4 e5 e6 e7 e8 e9 e10 e11 e12 : Addr} (hin : cc = (1 : Int32) ∨ cc = (2 : Int32) ∨ cc = (3 : Int32) ∨ cc = (4 : Int32) ∨ cc = (5 : Int32) ∨ cc = (6 : Int32) ∨ cc = (7 : Int32) ∨ cc = (8 : Int32) ∨ cc = (9 : Int32) ∨ cc = (11 : Int32) ∨ cc = (12 : Int32) ∨ cc = (13 : Int32) ∨ cc = (14 : Int32)) (E0 : Exa Z h e0 "com/example/dosimeter/dosimeter/model/UsageType") (F0 : Fld Z h e0 "com/example/dosimeter/dosimeter/model/UsageType" "id" "I" (.int (1 : Int32))) (E1 : Exa Z h e1 "com/example/dosimeter/dosimeter/model/UsageType") (F1 : Fld Z h e1 "com/example/dosimeter/dosimeter/model/UsageType" "id" "I" (.int (2 : Int32))) (E2 : Exa Z h e2 "com/example/dosimeter/dosimeter/model/UsageType") (F2 : Fld Z h e2 "com/example/dosimeter/dosimeter/model/UsageType" "id" "I" (.int (3 : Int32))) (E3 : Exa Z h e3 "com/example/dosimeter/dosimeter/model/UsageType") (F3 : Fld Z h e3 "com/example/dosimeter/dosimeter/model/UsageType" "id" "I" (.int (4 : Int32))) (E4 : Exa Z h e4 "com/example/dosimeter/dosimeter/model/UsageType") (F4 : Fld Z h e4 "com/example/dosimeter/dosimeter/model/UsageType" "id" "I" (.int (5 : Int32))) (E5 : Exa Z h e5 "com/example/dosimeter/dosimeter/model/UsageType") (F5 : Fld Z h e5 "com/example/dosimeter/dosimeter/model/UsageType" "id" "I" (.int (6 : Int32))) (E6 : Exa Z h e6 "com/example/dosimeter/dosimeter/model/UsageType") (F6 : Fld Z h e6 "com/example/dosimeter/dosimeter/model/UsageType" "id" "I" (.int (7 : Int32))) (E7 : Exa Z h e7 "com/example/dosimeter/dosimeter/model/UsageType") (F7 : Fld Z h e7 "com/example/dosimeter/dosimeter/model/UsageType" "id" "I" (.int (8 : Int32))) (E8 : Exa Z h e8 "com/example/dosimeter/dosimeter/model/UsageType") (F8 : Fld Z h e8 "com/example/dosimeter/dosimeter/model/UsageType" "id" "I" (.int (9 : Int32))) (E9 : Exa Z h e9 "com/example/dosimeter/dosimeter/model/UsageType") (F9 : Fld Z h e9 "com/example/dosimeter/dosimeter/model/UsageType" "id" "I" (.int (11 : Int32))) (E10 : Exa Z h e10 "com/example/dosimeter/dosimeter/model/UsageType") (F10 : Fld Z h e10 "com/example/dosimeter/dosimeter/model/UsageType" "id" "I" (.int (12 : Int32))) (E11 : Exa Z h e11 "com/example/dosimeter/dosimeter/model/UsageType") (F11 : Fld Z h e11 "com/example/dosimeter/dosimeter/model/UsageType" "id" "I" (.int (13 : Int32))) (E12 : Exa Z h e12 "com/example/dosimeter/dosimeter/model/UsageType") (F12 : Fld Z h e12 "com/example/dosimeter/dosimeter/model/UsageType" "id" "I" (.int (14 : Int32))) : Exa Z h (AA cc e0 e1 e2 e3 e4 e5 e6 e7 e8 e9 e10 e11 e12) "com/example/dosimeter/dosimeter/model/UsageType" ∧ Fld Z h (AA cc e0 e1 e2 e3 e4 e5 e6 e7 e8 e9 e10 e11 e12) "com/example/dosimeter/dosimeter/model/UsageType" "id" "I" (.int cc) := by
  rcases hin with rfl | rfl | rfl | rfl | rfl | rfl | rfl | rfl | rfl | rfl | rfl | rfl | rfl
  · exact ⟨E0, F0⟩
  · exact ⟨E1, F1⟩
  · exact ⟨E2, F2⟩
  · exact ⟨E3, F3⟩
  · exact ⟨E4, F4⟩
  · exact ⟨E5, F5⟩
  · exact ⟨E6, F6⟩
  · exact ⟨E7, F7⟩
  · exact ⟨E8, F8⟩
  · exact ⟨E9, F9⟩
  · exact ⟨E10, F10⟩
  · exact ⟨E11, F11⟩
  · exact ⟨E12, F12⟩
theorem k13 (x : Int32) : (x &&& (2147483647 : Int32)) % (13 : Int32) = 0 ∨ (x &&& (2147483647 : Int32)) % (13 : Int32) = 1 ∨ (x &&& (2147483647 : Int32)) % (13 : Int32) = 2 ∨ (x &&& (2147483647 : Int32)) % (13 : Int32) = 3 ∨ (x &&& (2147483647 : Int32)) % (13 : Int32) = 4 ∨ (x &&& (2147483647 : Int32)) % (13 : Int32) = 5 ∨ (x &&& (2147483647 : Int32)) % (13 : Int32) = 6 ∨ (x &&& (2147483647 : Int32)) % (13 : Int32) = 7 ∨ (x &&& (2147483647 : Int32)) % (13 : Int32) = 8 ∨ (x &&& (2147483647 : Int32)) % (13 : Int32) = 9 ∨ (x &&& (2147483647 : Int32)) % (13 : Int32) = 10 ∨ (x &&& (2147483647 : Int32)) % (13 : Int32) = 11 ∨ (x &&& (2147483647 : Int32)) % (13 : Int32) = 12 := by
  have h1 : (x &&& (2147483647 : Int32)).toInt = x.toInt % (2 ^ 31 : Nat) := c_mask x 2147483647 31 (by decide) (by decide)
  have h2 := (c_irem (x &&& (2147483647 : Int32)) 13 13 (by decide)).1 (by omega)
  generalize (x &&& (2147483647 : Int32)) % (13 : Int32) = k at *
  have h3 : k.toInt = 0 ∨ k.toInt = 1 ∨ k.toInt = 2 ∨ k.toInt = 3 ∨ k.toInt = 4 ∨ k.toInt = 5 ∨ k.toInt = 6 ∨ k.toInt = 7 ∨ k.toInt = 8 ∨ k.toInt = 9 ∨ k.toInt = 10 ∨ k.toInt = 11 ∨ k.toInt = 12 := by omega
  rcases h3 with q | q | q | q | q | q | q | q | q | q | q | q | q
  · have r : k = 0 := Int32.toInt_inj.mp (by rw [q]; rfl)
    simp [r]
  · have r : k = 1 := Int32.toInt_inj.mp (by rw [q]; rfl)
    simp [r]
  · have r : k = 2 := Int32.toInt_inj.mp (by rw [q]; rfl)
    simp [r]
  · have r : k = 3 := Int32.toInt_inj.mp (by rw [q]; rfl)
    simp [r]
  · have r : k = 4 := Int32.toInt_inj.mp (by rw [q]; rfl)
    simp [r]
  · have r : k = 5 := Int32.toInt_inj.mp (by rw [q]; rfl)
    simp [r]
  · have r : k = 6 := Int32.toInt_inj.mp (by rw [q]; rfl)
    simp [r]
  · have r : k = 7 := Int32.toInt_inj.mp (by rw [q]; rfl)
    simp [r]
  · have r : k = 8 := Int32.toInt_inj.mp (by rw [q]; rfl)
    simp [r]
  · have r : k = 9 := Int32.toInt_inj.mp (by rw [q]; rfl)
    simp [r]
  · have r : k = 10 := Int32.toInt_inj.mp (by rw [q]; rfl)
    simp [r]
  · have r : k = 11 := Int32.toInt_inj.mp (by rw [q]; rfl)
    simp [r]
  · have r : k = 12 := Int32.toInt_inj.mp (by rw [q]; rfl)
    simp [r]
theorem d2_0 : decode prog_28_method_1_code 0 = .ok (.getstatic 43, 3) := by decide +kernel
theorem d2_3 : decode prog_28_method_1_code 3 = .ok (.invokevirtual 47, 3) := by decide +kernel
theorem d2_6 : decode prog_28_method_1_code 6 = .ok (.checkcast 48, 3) := by decide +kernel
theorem d2_9 : decode prog_28_method_1_code 9 = .ok (.areturn, 1) := by decide +kernel
theorem pn_rm_values : plainFor (⟨"com/example/dosimeter/dosimeter/model/UsageType", "values", "()[Lcom/example/dosimeter/dosimeter/model/UsageType;"⟩ : MethodName) = true := by first | exact plainFor_of_name (by first | (simp [plainName, overriddenIn]; done) | decide +kernel) | decide +kernel
set_option maxRecDepth 65536 in
set_option maxHeartbeats 40000000 in
theorem rm_values {l : Launch} {Z : State} {a0 : Array Value} (hw : ∀ d ∈ tables_1, d.before a0 Z = true) (av : Addr) (kv : ClassId) (e0 : Addr) (e1 : Addr) (e2 : Addr) (e3 : Addr) (e4 : Addr) (e5 : Addr) (e6 : Addr) (e7 : Addr) (e8 : Addr) (e9 : Addr) (e10 : Addr) (e11 : Addr) (e12 : Addr) {h0 : Heap} (I0 : Sta Z h0 "com/example/dosimeter/dosimeter/model/UsageType" "$VALUES" "[Lcom/example/dosimeter/dosimeter/model/UsageType;" (.ref av)) (I1 : OAry Z h0 av kv (.object "com/example/dosimeter/dosimeter/model/UsageType") [(.ref e0), (.ref e1), (.ref e2), (.ref e3), (.ref e4), (.ref e5), (.ref e6), (.ref e7), (.ref e8), (.ref e9), (.ref e10), (.ref e11), (.ref e12)]) (I2 : Exa Z h0 av "[Lcom/example/dosimeter/dosimeter/model/UsageType;")  :
    OMet l (⟨"com/example/dosimeter/dosimeter/model/UsageType", "values", "()[Lcom/example/dosimeter/dosimeter/model/UsageType;"⟩ : MethodName) prog_28_method_1_code 0 (Option.some (Jvm.ClassFile.FieldType.array (Jvm.ClassFile.FieldType.object "com/example/dosimeter/dosimeter/model/UsageType"))) ({ frames := 1, cells := 1, slots := 13, locals := 14 } : Room) #[] Z h0 (fun v h L => ∃ o : Addr, v = some (.ref o) ∧ OPr h0 [] h L ∧ h0.size ≤ o ∧ OAry Z h o kv (.object "com/example/dosimeter/dosimeter/model/UsageType") [(.ref e0), (.ref e1), (.ref e2), (.ref e3), (.ref e4), (.ref e5), (.ref e6), (.ref e7), (.ref e8), (.ref e9), (.ref e10), (.ref e11), (.ref e12)]) := by
  refine OMet.body pn_rm_values (Ls := #[]) (fun m => by first | (simp [entryFrame, mkF, argsToLocals, Value.category]; done) | rfl) ?_
  intro p e s m below meth c T0 K hK X0 hx hby hml hown hnm hret hlk hZ eh0
  have P0 := OPr.refl h0 []
  refine g_gets X0 hx hZ hown (host := "") (Or.inl (wd hw 14 rfl)) Via.refl eh0 I0 (hb hby d2_0) (rfl : 0 + 3 = 3) fun T1 X1 eh1 => ?_
  refine g_clone X1 hx hZ hown (wd hw 16 rfl) (wd hw 17 rfl) (wd hw 21 rfl) (wd hw 19 rfl) (wd hw 20 rfl) (wd hw 22 rfl) eh1 I1 I2 P0 (by rw [hml]; rfl) (hb hby d2_3) (rfl : 3 + 3 = 6) (by decide) (W := 0) (Nat.le_of_eq rfl) (by decide) (cap := 13) (Nat.le_of_ble_eq_true rfl) (by decide) (by decide) fun T2 hh2 a2 q2 g2 X2 eh2 E2 P2 A2 B2 => ?_
  refine g_cast X2 hx hZ hown (wd hw 36 rfl) eh2 (Ins.self B2) (hb hby d2_6) (rfl : 6 + 3 = 9) fun T3 X3 eh3 => ?_
  exact g_ret X3 hx hret hlk rfl (Or.inr (Or.inr (Or.inr (Or.inr ⟨rfl, rfl, rfl⟩)))) (hb hby d2_9) (by decide) (by decide) eh3 hK ⟨a2, rfl, P2, g2, A2⟩
theorem d1_0 : decode prog_28_method_19_code 0 = .ok (.invokestatic 208, 3) := by decide +kernel
theorem d1_3 : decode prog_28_method_19_code 3 = .ok (.astore_n 1, 1) := by decide +kernel
theorem d1_4 : decode prog_28_method_19_code 4 = .ok (.aload_n 1, 1) := by decide +kernel
theorem d1_5 : decode prog_28_method_19_code 5 = .ok (.arraylength, 1) := by decide +kernel
theorem d1_6 : decode prog_28_method_19_code 6 = .ok (.istore_n 2, 1) := by decide +kernel
theorem d1_7 : decode prog_28_method_19_code 7 = .ok (.iconst 0, 1) := by decide +kernel
theorem d1_8 : decode prog_28_method_19_code 8 = .ok (.istore_n 3, 1) := by decide +kernel
theorem d1_9 : decode prog_28_method_19_code 9 = .ok (.iload_n 3, 1) := by decide +kernel
theorem d1_10 : decode prog_28_method_19_code 10 = .ok (.iload_n 2, 1) := by decide +kernel
theorem d1_11 : decode prog_28_method_19_code 11 = .ok (.if_icmp .ge 26, 3) := by decide +kernel
theorem d1_14 : decode prog_28_method_19_code 14 = .ok (.aload_n 1, 1) := by decide +kernel
theorem d1_15 : decode prog_28_method_19_code 15 = .ok (.iload_n 3, 1) := by decide +kernel
theorem d1_16 : decode prog_28_method_19_code 16 = .ok (.aaload, 1) := by decide +kernel
theorem d1_17 : decode prog_28_method_19_code 17 = .ok (.astore 4, 2) := by decide +kernel
theorem d1_19 : decode prog_28_method_19_code 19 = .ok (.aload 4, 2) := by decide +kernel
theorem d1_21 : decode prog_28_method_19_code 21 = .ok (.getfield 77, 3) := by decide +kernel
theorem d1_24 : decode prog_28_method_19_code 24 = .ok (.iload_n 0, 1) := by decide +kernel
theorem d1_25 : decode prog_28_method_19_code 25 = .ok (.if_icmp .ne 6, 3) := by decide +kernel
theorem d1_28 : decode prog_28_method_19_code 28 = .ok (.aload 4, 2) := by decide +kernel
theorem d1_30 : decode prog_28_method_19_code 30 = .ok (.areturn, 1) := by decide +kernel
theorem d1_31 : decode prog_28_method_19_code 31 = .ok (.iinc 3 1, 3) := by decide +kernel
theorem d1_34 : decode prog_28_method_19_code 34 = .ok (.goto (-25), 3) := by decide +kernel
theorem pn_rm_from : plainFor (⟨"com/example/dosimeter/dosimeter/model/UsageType", "fromId", "(I)Lcom/example/dosimeter/dosimeter/model/UsageType;"⟩ : MethodName) = true := by first | exact plainFor_of_name (by first | (simp [plainName, overriddenIn]; done) | decide +kernel) | decide +kernel
set_option maxRecDepth 65536 in
set_option maxHeartbeats 40000000 in
theorem rm_from {l : Launch} {Z : State} {a0 : Array Value} (hw : ∀ d ∈ tables_1, d.before a0 Z = true) (cc : Int32) (av : Addr) (kv : ClassId) (e0 : Addr) (e1 : Addr) (e2 : Addr) (e3 : Addr) (e4 : Addr) (e5 : Addr) (e6 : Addr) (e7 : Addr) (e8 : Addr) (e9 : Addr) (e10 : Addr) (e11 : Addr) (e12 : Addr) {h0 : Heap} (I0 : Sta Z h0 "com/example/dosimeter/dosimeter/model/UsageType" "$VALUES" "[Lcom/example/dosimeter/dosimeter/model/UsageType;" (.ref av)) (I1 : OAry Z h0 av kv (.object "com/example/dosimeter/dosimeter/model/UsageType") [(.ref e0), (.ref e1), (.ref e2), (.ref e3), (.ref e4), (.ref e5), (.ref e6), (.ref e7), (.ref e8), (.ref e9), (.ref e10), (.ref e11), (.ref e12)]) (I2 : Exa Z h0 av "[Lcom/example/dosimeter/dosimeter/model/UsageType;") (I3 : Fld Z h0 e0 "com/example/dosimeter/dosimeter/model/UsageType" "id" "I" (.int (1 : Int32))) (I4 : Fld Z h0 e1 "com/example/dosimeter/dosimeter/model/UsageType" "id" "I" (.int (2 : Int32))) (I5 : Fld Z h0 e2 "com/example/dosimeter/dosimeter/model/UsageType" "id" "I" (.int (3 : Int32))) (I6 : Fld Z h0 e3 "com/example/dosimeter/dosimeter/model/UsageType" "id" "I" (.int (4 : Int32))) (I7 : Fld Z h0 e4 "com/example/dosimeter/dosimeter/model/UsageType" "id" "I" (.int (5 : Int32))) (I8 : Fld Z h0 e5 "com/example/dosimeter/dosimeter/model/UsageType" "id" "I" (.int (6 : Int32))) (I9 : Fld Z h0 e6 "com/example/dosimeter/dosimeter/model/UsageType" "id" "I" (.int (7 : Int32))) (I10 : Fld Z h0 e7 "com/example/dosimeter/dosimeter/model/UsageType" "id" "I" (.int (8 : Int32))) (I11 : Fld Z h0 e8 "com/example/dosimeter/dosimeter/model/UsageType" "id" "I" (.int (9 : Int32))) (I12 : Fld Z h0 e9 "com/example/dosimeter/dosimeter/model/UsageType" "id" "I" (.int (11 : Int32))) (I13 : Fld Z h0 e10 "com/example/dosimeter/dosimeter/model/UsageType" "id" "I" (.int (12 : Int32))) (I14 : Fld Z h0 e11 "com/example/dosimeter/dosimeter/model/UsageType" "id" "I" (.int (13 : Int32))) (I15 : Fld Z h0 e12 "com/example/dosimeter/dosimeter/model/UsageType" "id" "I" (.int (14 : Int32))) (hin : cc = (1 : Int32) ∨ cc = (2 : Int32) ∨ cc = (3 : Int32) ∨ cc = (4 : Int32) ∨ cc = (5 : Int32) ∨ cc = (6 : Int32) ∨ cc = (7 : Int32) ∨ cc = (8 : Int32) ∨ cc = (9 : Int32) ∨ cc = (11 : Int32) ∨ cc = (12 : Int32) ∨ cc = (13 : Int32) ∨ cc = (14 : Int32)) :
    OMet l (⟨"com/example/dosimeter/dosimeter/model/UsageType", "fromId", "(I)Lcom/example/dosimeter/dosimeter/model/UsageType;"⟩ : MethodName) prog_28_method_19_code 5 (Option.some (Jvm.ClassFile.FieldType.object "com/example/dosimeter/dosimeter/model/UsageType")) ({ frames := 2, cells := 1, slots := 13, locals := 25 } : Room) #[(.int cc)] Z h0 (fun v h L => v = some (.ref (AA cc e0 e1 e2 e3 e4 e5 e6 e7 e8 e9 e10 e11 e12)) ∧ OPr h0 [] h L) := by
  refine OMet.body pn_rm_from (Ls := #[.val (.int cc), .unset, .unset, .unset, .unset]) (fun m => by first | (simp [entryFrame, mkF, argsToLocals, Value.category]; done) | rfl) ?_
  intro p e s m below meth c T0 K hK X0 hx hby hml hown hnm hret hlk hZ eh0
  have P0 := OPr.refl h0 []
  refine g_static X0 hx hZ hown eh0 (rm_values hw av kv e0 e1 e2 e3 e4 e5 e6 e7 e8 e9 e10 e11 e12 I0 I1 I2) (wd hw 11 rfl) (wd hw 12 rfl) (wd hw 13 rfl) (wd hw 6 rfl) (by decide) (argsL := []) (rest := []) rfl rfl (ps := []) (rt := (some (.array (.object "com/example/dosimeter/dosimeter/model/UsageType")))) (by decide) rfl (W := 0) (Nat.le_of_eq rfl) (by decide) (by decide) (by decide) (by decide) (by rw [hml]; rfl) (hb hby d1_0) (rfl : 0 + 3 = 3) fun v1 T1 hh1 L1 X1 eh1 Q1 => ?_
  obtain ⟨o_1, rfl, Pc1, G1_0, G1_1⟩ := Q1
  have P1 := P0.call Pc1 all0
  show OGo p e below K T1 (mkF m 3 #[.val (.int cc), .unset, .unset, .unset, .unset] [(.ref o_1)])
  refine g_astoreN X1 hx (hb hby d1_3) (rfl : 3 + 1 = 4) rfl (Ls' := #[.val (.int cc), .val (.ref o_1), .unset, .unset, .unset]) rfl ?_
  refine g_aloadN X1 hx (hb hby d1_4) (rfl : 4 + 1 = 5) rfl rfl ?_
  refine g_len X1 hx hZ eh1 G1_1 (z := (13 : Int32)) rfl (hb hby d1_5) (rfl : 5 + 1 = 6) ?_
  refine g_istoreN X1 hx (hb hby d1_6) (rfl : 6 + 1 = 7) (Ls' := #[.val (.int cc), .val (.ref o_1), .val (.int (13 : Int32)), .unset, .unset]) rfl ?_
  refine g_iconst X1 hx (0 : Int32) (hb hby d1_7) (rfl : 7 + 1 = 8) (by decide) ?_
  refine g_istoreN X1 hx (hb hby d1_8) (rfl : 8 + 1 = 9) (Ls' := #[.val (.int cc), .val (.ref o_1), .val (.int (13 : Int32)), .val (.int (0 : Int32)), .unset]) rfl ?_
  refine g_iloadN X1 hx (hb hby d1_9) (rfl : 9 + 1 = 10) rfl ?_
  refine g_iloadN X1 hx (hb hby d1_10) (rfl : 10 + 1 = 11) rfl ?_
  refine g_icmpN X1 hx (hb hby d1_11) (XT.ii_ge_f (by decide)) (rfl : 11 + 3 = 14) ?_
  refine g_aloadN X1 hx (hb hby d1_14) (rfl : 14 + 1 = 15) rfl rfl ?_
  refine g_iloadN X1 hx (hb hby d1_15) (rfl : 15 + 1 = 16) rfl ?_
  refine g_aaload X1 hx hZ eh1 G1_1 rfl (v := (.ref e0)) (by decide) (by rfl) (hb hby d1_16) (rfl : 16 + 1 = 17) ?_
  refine g_astore X1 hx (hb hby d1_17) (rfl : 17 + 2 = 19) rfl (Ls' := #[.val (.int cc), .val (.ref o_1), .val (.int (13 : Int32)), .val (.int (0 : Int32)), .val (.ref e0)]) rfl ?_
  refine g_aload X1 hx (hb hby d1_19) (rfl : 19 + 2 = 21) rfl rfl ?_
  have F2 := (fldP I3 Pc1 nin0)
  refine g_getf X1 hx hZ hown (host := "") (Or.inl (wd hw 38 rfl)) Via.refl eh1 F2 (hb hby d1_21) (rfl : 21 + 3 = 24) fun T3 X3 eh3 => ?_
  refine g_iloadN X3 hx (hb hby d1_24) (rfl : 24 + 1 = 25) rfl ?_
  by_cases n0 : (1 : Int32) = cc
  · refine g_icmpN X3 hx (hb hby d1_25) (XT.ii_ne_f n0) (rfl : 25 + 3 = 28) ?_
    refine g_aload X3 hx (hb hby d1_28) (rfl : 28 + 2 = 30) rfl rfl ?_
    exact g_ret X3 hx hret hlk rfl (Or.inr (Or.inr (Or.inr (Or.inr ⟨rfl, rfl, rfl⟩)))) (hb hby d1_30) (by decide) (by decide) eh3 hK ⟨(by rw [← n0]; rfl), P1⟩
  · refine g_icmpY X3 hx (hb hby d1_25) (XT.ii_ne_t n0) (by decide) (pc' := 31) (by decide) ?_
    refine g_iinc X3 hx (1 : Int32) (hb hby d1_31) (rfl : 31 + 3 = 34) (by decide) rfl (z := (1 : Int32)) (by decide) (Ls' := #[.val (.int cc), .val (.ref o_1), .val (.int (13 : Int32)), .val (.int (1 : Int32)), .val (.ref e0)]) rfl ?_
    refine g_goto X3 hx (hb hby d1_34) (by decide) (pc' := 9) (by decide) ?_
    refine g_iloadN X3 hx (hb hby d1_9) (rfl : 9 + 1 = 10) rfl ?_
    refine g_iloadN X3 hx (hb hby d1_10) (rfl : 10 + 1 = 11) rfl ?_
    refine g_icmpN X3 hx (hb hby d1_11) (XT.ii_ge_f (by decide)) (rfl : 11 + 3 = 14) ?_
    refine g_aloadN X3 hx (hb hby d1_14) (rfl : 14 + 1 = 15) rfl rfl ?_
    refine g_iloadN X3 hx (hb hby d1_15) (rfl : 15 + 1 = 16) rfl ?_
    refine g_aaload X3 hx hZ eh3 G1_1 rfl (v := (.ref e1)) (by decide) (by rfl) (hb hby d1_16) (rfl : 16 + 1 = 17) ?_
    refine g_astore X3 hx (hb hby d1_17) (rfl : 17 + 2 = 19) rfl (Ls' := #[.val (.int cc), .val (.ref o_1), .val (.int (13 : Int32)), .val (.int (1 : Int32)), .val (.ref e1)]) rfl ?_
    refine g_aload X3 hx (hb hby d1_19) (rfl : 19 + 2 = 21) rfl rfl ?_
    have F4 := (fldP I4 Pc1 nin0)
    refine g_getf X3 hx hZ hown (host := "") (Or.inl (wd hw 38 rfl)) Via.refl eh3 F4 (hb hby d1_21) (rfl : 21 + 3 = 24) fun T5 X5 eh5 => ?_
    refine g_iloadN X5 hx (hb hby d1_24) (rfl : 24 + 1 = 25) rfl ?_
    by_cases n1 : (2 : Int32) = cc
    · refine g_icmpN X5 hx (hb hby d1_25) (XT.ii_ne_f n1) (rfl : 25 + 3 = 28) ?_
      refine g_aload X5 hx (hb hby d1_28) (rfl : 28 + 2 = 30) rfl rfl ?_
      exact g_ret X5 hx hret hlk rfl (Or.inr (Or.inr (Or.inr (Or.inr ⟨rfl, rfl, rfl⟩)))) (hb hby d1_30) (by decide) (by decide) eh5 hK ⟨(by rw [← n1]; rfl), P1⟩
    · refine g_icmpY X5 hx (hb hby d1_25) (XT.ii_ne_t n1) (by decide) (pc' := 31) (by decide) ?_
      refine g_iinc X5 hx (1 : Int32) (hb hby d1_31) (rfl : 31 + 3 = 34) (by decide) rfl (z := (2 : Int32)) (by decide) (Ls' := #[.val (.int cc), .val (.ref o_1), .val (.int (13 : Int32)), .val (.int (2 : Int32)), .val (.ref e1)]) rfl ?_
      refine g_goto X5 hx (hb hby d1_34) (by decide) (pc' := 9) (by decide) ?_
      refine g_iloadN X5 hx (hb hby d1_9) (rfl : 9 + 1 = 10) rfl ?_
      refine g_iloadN X5 hx (hb hby d1_10) (rfl : 10 + 1 = 11) rfl ?_
      refine g_icmpN X5 hx (hb hby d1_11) (XT.ii_ge_f (by decide)) (rfl : 11 + 3 = 14) ?_
      refine g_aloadN X5 hx (hb hby d1_14) (rfl : 14 + 1 = 15) rfl rfl ?_
      refine g_iloadN X5 hx (hb hby d1_15) (rfl : 15 + 1 = 16) rfl ?_
      refine g_aaload X5 hx hZ eh5 G1_1 rfl (v := (.ref e2)) (by decide) (by rfl) (hb hby d1_16) (rfl : 16 + 1 = 17) ?_
      refine g_astore X5 hx (hb hby d1_17) (rfl : 17 + 2 = 19) rfl (Ls' := #[.val (.int cc), .val (.ref o_1), .val (.int (13 : Int32)), .val (.int (2 : Int32)), .val (.ref e2)]) rfl ?_
      refine g_aload X5 hx (hb hby d1_19) (rfl : 19 + 2 = 21) rfl rfl ?_
      have F6 := (fldP I5 Pc1 nin0)
      refine g_getf X5 hx hZ hown (host := "") (Or.inl (wd hw 38 rfl)) Via.refl eh5 F6 (hb hby d1_21) (rfl : 21 + 3 = 24) fun T7 X7 eh7 => ?_
      refine g_iloadN X7 hx (hb hby d1_24) (rfl : 24 + 1 = 25) rfl ?_
      by_cases n2 : (3 : Int32) = cc
      · refine g_icmpN X7 hx (hb hby d1_25) (XT.ii_ne_f n2) (rfl : 25 + 3 = 28) ?_
        refine g_aload X7 hx (hb hby d1_28) (rfl : 28 + 2 = 30) rfl rfl ?_
        exact g_ret X7 hx hret hlk rfl (Or.inr (Or.inr (Or.inr (Or.inr ⟨rfl, rfl, rfl⟩)))) (hb hby d1_30) (by decide) (by decide) eh7 hK ⟨(by rw [← n2]; rfl), P1⟩
      · refine g_icmpY X7 hx (hb hby d1_25) (XT.ii_ne_t n2) (by decide) (pc' := 31) (by decide) ?_
        refine g_iinc X7 hx (1 : Int32) (hb hby d1_31) (rfl : 31 + 3 = 34) (by decide) rfl (z := (3 : Int32)) (by decide) (Ls' := #[.val (.int cc), .val (.ref o_1), .val (.int (13 : Int32)), .val (.int (3 : Int32)), .val (.ref e2)]) rfl ?_
        refine g_goto X7 hx (hb hby d1_34) (by decide) (pc' := 9) (by decide) ?_
        refine g_iloadN X7 hx (hb hby d1_9) (rfl : 9 + 1 = 10) rfl ?_
        refine g_iloadN X7 hx (hb hby d1_10) (rfl : 10 + 1 = 11) rfl ?_
        refine g_icmpN X7 hx (hb hby d1_11) (XT.ii_ge_f (by decide)) (rfl : 11 + 3 = 14) ?_
        refine g_aloadN X7 hx (hb hby d1_14) (rfl : 14 + 1 = 15) rfl rfl ?_
        refine g_iloadN X7 hx (hb hby d1_15) (rfl : 15 + 1 = 16) rfl ?_
        refine g_aaload X7 hx hZ eh7 G1_1 rfl (v := (.ref e3)) (by decide) (by rfl) (hb hby d1_16) (rfl : 16 + 1 = 17) ?_
        refine g_astore X7 hx (hb hby d1_17) (rfl : 17 + 2 = 19) rfl (Ls' := #[.val (.int cc), .val (.ref o_1), .val (.int (13 : Int32)), .val (.int (3 : Int32)), .val (.ref e3)]) rfl ?_
        refine g_aload X7 hx (hb hby d1_19) (rfl : 19 + 2 = 21) rfl rfl ?_
        have F8 := (fldP I6 Pc1 nin0)
        refine g_getf X7 hx hZ hown (host := "") (Or.inl (wd hw 38 rfl)) Via.refl eh7 F8 (hb hby d1_21) (rfl : 21 + 3 = 24) fun T9 X9 eh9 => ?_
        refine g_iloadN X9 hx (hb hby d1_24) (rfl : 24 + 1 = 25) rfl ?_
        by_cases n3 : (4 : Int32) = cc
        · refine g_icmpN X9 hx (hb hby d1_25) (XT.ii_ne_f n3) (rfl : 25 + 3 = 28) ?_
          refine g_aload X9 hx (hb hby d1_28) (rfl : 28 + 2 = 30) rfl rfl ?_
          exact g_ret X9 hx hret hlk rfl (Or.inr (Or.inr (Or.inr (Or.inr ⟨rfl, rfl, rfl⟩)))) (hb hby d1_30) (by decide) (by decide) eh9 hK ⟨(by rw [← n3]; rfl), P1⟩
        · refine g_icmpY X9 hx (hb hby d1_25) (XT.ii_ne_t n3) (by decide) (pc' := 31) (by decide) ?_
          refine g_iinc X9 hx (1 : Int32) (hb hby d1_31) (rfl : 31 + 3 = 34) (by decide) rfl (z := (4 : Int32)) (by decide) (Ls' := #[.val (.int cc), .val (.ref o_1), .val (.int (13 : Int32)), .val (.int (4 : Int32)), .val (.ref e3)]) rfl ?_
          refine g_goto X9 hx (hb hby d1_34) (by decide) (pc' := 9) (by decide) ?_
          refine g_iloadN X9 hx (hb hby d1_9) (rfl : 9 + 1 = 10) rfl ?_
          refine g_iloadN X9 hx (hb hby d1_10) (rfl : 10 + 1 = 11) rfl ?_
          refine g_icmpN X9 hx (hb hby d1_11) (XT.ii_ge_f (by decide)) (rfl : 11 + 3 = 14) ?_
          refine g_aloadN X9 hx (hb hby d1_14) (rfl : 14 + 1 = 15) rfl rfl ?_
          refine g_iloadN X9 hx (hb hby d1_15) (rfl : 15 + 1 = 16) rfl ?_
          refine g_aaload X9 hx hZ eh9 G1_1 rfl (v := (.ref e4)) (by decide) (by rfl) (hb hby d1_16) (rfl : 16 + 1 = 17) ?_
          refine g_astore X9 hx (hb hby d1_17) (rfl : 17 + 2 = 19) rfl (Ls' := #[.val (.int cc), .val (.ref o_1), .val (.int (13 : Int32)), .val (.int (4 : Int32)), .val (.ref e4)]) rfl ?_
          refine g_aload X9 hx (hb hby d1_19) (rfl : 19 + 2 = 21) rfl rfl ?_
          have F10 := (fldP I7 Pc1 nin0)
          refine g_getf X9 hx hZ hown (host := "") (Or.inl (wd hw 38 rfl)) Via.refl eh9 F10 (hb hby d1_21) (rfl : 21 + 3 = 24) fun T11 X11 eh11 => ?_
          refine g_iloadN X11 hx (hb hby d1_24) (rfl : 24 + 1 = 25) rfl ?_
          by_cases n4 : (5 : Int32) = cc
          · refine g_icmpN X11 hx (hb hby d1_25) (XT.ii_ne_f n4) (rfl : 25 + 3 = 28) ?_
            refine g_aload X11 hx (hb hby d1_28) (rfl : 28 + 2 = 30) rfl rfl ?_
            exact g_ret X11 hx hret hlk rfl (Or.inr (Or.inr (Or.inr (Or.inr ⟨rfl, rfl, rfl⟩)))) (hb hby d1_30) (by decide) (by decide) eh11 hK ⟨(by rw [← n4]; rfl), P1⟩
          · refine g_icmpY X11 hx (hb hby d1_25) (XT.ii_ne_t n4) (by decide) (pc' := 31) (by decide) ?_
            refine g_iinc X11 hx (1 : Int32) (hb hby d1_31) (rfl : 31 + 3 = 34) (by decide) rfl (z := (5 : Int32)) (by decide) (Ls' := #[.val (.int cc), .val (.ref o_1), .val (.int (13 : Int32)), .val (.int (5 : Int32)), .val (.ref e4)]) rfl ?_
            refine g_goto X11 hx (hb hby d1_34) (by decide) (pc' := 9) (by decide) ?_
            refine g_iloadN X11 hx (hb hby d1_9) (rfl : 9 + 1 = 10) rfl ?_
            refine g_iloadN X11 hx (hb hby d1_10) (rfl : 10 + 1 = 11) rfl ?_
            refine g_icmpN X11 hx (hb hby d1_11) (XT.ii_ge_f (by decide)) (rfl : 11 + 3 = 14) ?_
            refine g_aloadN X11 hx (hb hby d1_14) (rfl : 14 + 1 = 15) rfl rfl ?_
            refine g_iloadN X11 hx (hb hby d1_15) (rfl : 15 + 1 = 16) rfl ?_
            refine g_aaload X11 hx hZ eh11 G1_1 rfl (v := (.ref e5)) (by decide) (by rfl) (hb hby d1_16) (rfl : 16 + 1 = 17) ?_
            refine g_astore X11 hx (hb hby d1_17) (rfl : 17 + 2 = 19) rfl (Ls' := #[.val (.int cc), .val (.ref o_1), .val (.int (13 : Int32)), .val (.int (5 : Int32)), .val (.ref e5)]) rfl ?_
            refine g_aload X11 hx (hb hby d1_19) (rfl : 19 + 2 = 21) rfl rfl ?_
            have F12 := (fldP I8 Pc1 nin0)
            refine g_getf X11 hx hZ hown (host := "") (Or.inl (wd hw 38 rfl)) Via.refl eh11 F12 (hb hby d1_21) (rfl : 21 + 3 = 24) fun T13 X13 eh13 => ?_
            refine g_iloadN X13 hx (hb hby d1_24) (rfl : 24 + 1 = 25) rfl ?_
            by_cases n5 : (6 : Int32) = cc
            · refine g_icmpN X13 hx (hb hby d1_25) (XT.ii_ne_f n5) (rfl : 25 + 3 = 28) ?_
              refine g_aload X13 hx (hb hby d1_28) (rfl : 28 + 2 = 30) rfl rfl ?_
              exact g_ret X13 hx hret hlk rfl (Or.inr (Or.inr (Or.inr (Or.inr ⟨rfl, rfl, rfl⟩)))) (hb hby d1_30) (by decide) (by decide) eh13 hK ⟨(by rw [← n5]; rfl), P1⟩
            · refine g_icmpY X13 hx (hb hby d1_25) (XT.ii_ne_t n5) (by decide) (pc' := 31) (by decide) ?_
              refine g_iinc X13 hx (1 : Int32) (hb hby d1_31) (rfl : 31 + 3 = 34) (by decide) rfl (z := (6 : Int32)) (by decide) (Ls' := #[.val (.int cc), .val (.ref o_1), .val (.int (13 : Int32)), .val (.int (6 : Int32)), .val (.ref e5)]) rfl ?_
              refine g_goto X13 hx (hb hby d1_34) (by decide) (pc' := 9) (by decide) ?_
              refine g_iloadN X13 hx (hb hby d1_9) (rfl : 9 + 1 = 10) rfl ?_
              refine g_iloadN X13 hx (hb hby d1_10) (rfl : 10 + 1 = 11) rfl ?_
              refine g_icmpN X13 hx (hb hby d1_11) (XT.ii_ge_f (by decide)) (rfl : 11 + 3 = 14) ?_
              refine g_aloadN X13 hx (hb hby d1_14) (rfl : 14 + 1 = 15) rfl rfl ?_
              refine g_iloadN X13 hx (hb hby d1_15) (rfl : 15 + 1 = 16) rfl ?_
              refine g_aaload X13 hx hZ eh13 G1_1 rfl (v := (.ref e6)) (by decide) (by rfl) (hb hby d1_16) (rfl : 16 + 1 = 17) ?_
              refine g_astore X13 hx (hb hby d1_17) (rfl : 17 + 2 = 19) rfl (Ls' := #[.val (.int cc), .val (.ref o_1), .val (.int (13 : Int32)), .val (.int (6 : Int32)), .val (.ref e6)]) rfl ?_
              refine g_aload X13 hx (hb hby d1_19) (rfl : 19 + 2 = 21) rfl rfl ?_
              have F14 := (fldP I9 Pc1 nin0)
              refine g_getf X13 hx hZ hown (host := "") (Or.inl (wd hw 38 rfl)) Via.refl eh13 F14 (hb hby d1_21) (rfl : 21 + 3 = 24) fun T15 X15 eh15 => ?_
              refine g_iloadN X15 hx (hb hby d1_24) (rfl : 24 + 1 = 25) rfl ?_
              by_cases n6 : (7 : Int32) = cc
              · refine g_icmpN X15 hx (hb hby d1_25) (XT.ii_ne_f n6) (rfl : 25 + 3 = 28) ?_
                refine g_aload X15 hx (hb hby d1_28) (rfl : 28 + 2 = 30) rfl rfl ?_
                exact g_ret X15 hx hret hlk rfl (Or.inr (Or.inr (Or.inr (Or.inr ⟨rfl, rfl, rfl⟩)))) (hb hby d1_30) (by decide) (by decide) eh15 hK ⟨(by rw [← n6]; rfl), P1⟩
              · refine g_icmpY X15 hx (hb hby d1_25) (XT.ii_ne_t n6) (by decide) (pc' := 31) (by decide) ?_
                refine g_iinc X15 hx (1 : Int32) (hb hby d1_31) (rfl : 31 + 3 = 34) (by decide) rfl (z := (7 : Int32)) (by decide) (Ls' := #[.val (.int cc), .val (.ref o_1), .val (.int (13 : Int32)), .val (.int (7 : Int32)), .val (.ref e6)]) rfl ?_
                refine g_goto X15 hx (hb hby d1_34) (by decide) (pc' := 9) (by decide) ?_
                refine g_iloadN X15 hx (hb hby d1_9) (rfl : 9 + 1 = 10) rfl ?_
                refine g_iloadN X15 hx (hb hby d1_10) (rfl : 10 + 1 = 11) rfl ?_
                refine g_icmpN X15 hx (hb hby d1_11) (XT.ii_ge_f (by decide)) (rfl : 11 + 3 = 14) ?_
                refine g_aloadN X15 hx (hb hby d1_14) (rfl : 14 + 1 = 15) rfl rfl ?_
                refine g_iloadN X15 hx (hb hby d1_15) (rfl : 15 + 1 = 16) rfl ?_
                refine g_aaload X15 hx hZ eh15 G1_1 rfl (v := (.ref e7)) (by decide) (by rfl) (hb hby d1_16) (rfl : 16 + 1 = 17) ?_
                refine g_astore X15 hx (hb hby d1_17) (rfl : 17 + 2 = 19) rfl (Ls' := #[.val (.int cc), .val (.ref o_1), .val (.int (13 : Int32)), .val (.int (7 : Int32)), .val (.ref e7)]) rfl ?_
                refine g_aload X15 hx (hb hby d1_19) (rfl : 19 + 2 = 21) rfl rfl ?_
                have F16 := (fldP I10 Pc1 nin0)
                refine g_getf X15 hx hZ hown (host := "") (Or.inl (wd hw 38 rfl)) Via.refl eh15 F16 (hb hby d1_21) (rfl : 21 + 3 = 24) fun T17 X17 eh17 => ?_
                refine g_iloadN X17 hx (hb hby d1_24) (rfl : 24 + 1 = 25) rfl ?_
                by_cases n7 : (8 : Int32) = cc
                · refine g_icmpN X17 hx (hb hby d1_25) (XT.ii_ne_f n7) (rfl : 25 + 3 = 28) ?_
                  refine g_aload X17 hx (hb hby d1_28) (rfl : 28 + 2 = 30) rfl rfl ?_
                  exact g_ret X17 hx hret hlk rfl (Or.inr (Or.inr (Or.inr (Or.inr ⟨rfl, rfl, rfl⟩)))) (hb hby d1_30) (by decide) (by decide) eh17 hK ⟨(by rw [← n7]; rfl), P1⟩
                · refine g_icmpY X17 hx (hb hby d1_25) (XT.ii_ne_t n7) (by decide) (pc' := 31) (by decide) ?_
                  refine g_iinc X17 hx (1 : Int32) (hb hby d1_31) (rfl : 31 + 3 = 34) (by decide) rfl (z := (8 : Int32)) (by decide) (Ls' := #[.val (.int cc), .val (.ref o_1), .val (.int (13 : Int32)), .val (.int (8 : Int32)), .val (.ref e7)]) rfl ?_
                  refine g_goto X17 hx (hb hby d1_34) (by decide) (pc' := 9) (by decide) ?_
                  refine g_iloadN X17 hx (hb hby d1_9) (rfl : 9 + 1 = 10) rfl ?_
                  refine g_iloadN X17 hx (hb hby d1_10) (rfl : 10 + 1 = 11) rfl ?_
                  refine g_icmpN X17 hx (hb hby d1_11) (XT.ii_ge_f (by decide)) (rfl : 11 + 3 = 14) ?_
                  refine g_aloadN X17 hx (hb hby d1_14) (rfl : 14 + 1 = 15) rfl rfl ?_
                  refine g_iloadN X17 hx (hb hby d1_15) (rfl : 15 + 1 = 16) rfl ?_
                  refine g_aaload X17 hx hZ eh17 G1_1 rfl (v := (.ref e8)) (by decide) (by rfl) (hb hby d1_16) (rfl : 16 + 1 = 17) ?_
                  refine g_astore X17 hx (hb hby d1_17) (rfl : 17 + 2 = 19) rfl (Ls' := #[.val (.int cc), .val (.ref o_1), .val (.int (13 : Int32)), .val (.int (8 : Int32)), .val (.ref e8)]) rfl ?_
                  refine g_aload X17 hx (hb hby d1_19) (rfl : 19 + 2 = 21) rfl rfl ?_
                  have F18 := (fldP I11 Pc1 nin0)
                  refine g_getf X17 hx hZ hown (host := "") (Or.inl (wd hw 38 rfl)) Via.refl eh17 F18 (hb hby d1_21) (rfl : 21 + 3 = 24) fun T19 X19 eh19 => ?_
                  refine g_iloadN X19 hx (hb hby d1_24) (rfl : 24 + 1 = 25) rfl ?_
                  by_cases n8 : (9 : Int32) = cc
                  · refine g_icmpN X19 hx (hb hby d1_25) (XT.ii_ne_f n8) (rfl : 25 + 3 = 28) ?_
                    refine g_aload X19 hx (hb hby d1_28) (rfl : 28 + 2 = 30) rfl rfl ?_
                    exact g_ret X19 hx hret hlk rfl (Or.inr (Or.inr (Or.inr (Or.inr ⟨rfl, rfl, rfl⟩)))) (hb hby d1_30) (by decide) (by decide) eh19 hK ⟨(by rw [← n8]; rfl), P1⟩
                  · refine g_icmpY X19 hx (hb hby d1_25) (XT.ii_ne_t n8) (by decide) (pc' := 31) (by decide) ?_
                    refine g_iinc X19 hx (1 : Int32) (hb hby d1_31) (rfl : 31 + 3 = 34) (by decide) rfl (z := (9 : Int32)) (by decide) (Ls' := #[.val (.int cc), .val (.ref o_1), .val (.int (13 : Int32)), .val (.int (9 : Int32)), .val (.ref e8)]) rfl ?_
                    refine g_goto X19 hx (hb hby d1_34) (by decide) (pc' := 9) (by decide) ?_
                    refine g_iloadN X19 hx (hb hby d1_9) (rfl : 9 + 1 = 10) rfl ?_
                    refine g_iloadN X19 hx (hb hby d1_10) (rfl : 10 + 1 = 11) rfl ?_
                    refine g_icmpN X19 hx (hb hby d1_11) (XT.ii_ge_f (by decide)) (rfl : 11 + 3 = 14) ?_
                    refine g_aloadN X19 hx (hb hby d1_14) (rfl : 14 + 1 = 15) rfl rfl ?_
                    refine g_iloadN X19 hx (hb hby d1_15) (rfl : 15 + 1 = 16) rfl ?_
                    refine g_aaload X19 hx hZ eh19 G1_1 rfl (v := (.ref e9)) (by decide) (by rfl) (hb hby d1_16) (rfl : 16 + 1 = 17) ?_
                    refine g_astore X19 hx (hb hby d1_17) (rfl : 17 + 2 = 19) rfl (Ls' := #[.val (.int cc), .val (.ref o_1), .val (.int (13 : Int32)), .val (.int (9 : Int32)), .val (.ref e9)]) rfl ?_
                    refine g_aload X19 hx (hb hby d1_19) (rfl : 19 + 2 = 21) rfl rfl ?_
                    have F20 := (fldP I12 Pc1 nin0)
                    refine g_getf X19 hx hZ hown (host := "") (Or.inl (wd hw 38 rfl)) Via.refl eh19 F20 (hb hby d1_21) (rfl : 21 + 3 = 24) fun T21 X21 eh21 => ?_
                    refine g_iloadN X21 hx (hb hby d1_24) (rfl : 24 + 1 = 25) rfl ?_
                    by_cases n9 : (11 : Int32) = cc
                    · refine g_icmpN X21 hx (hb hby d1_25) (XT.ii_ne_f n9) (rfl : 25 + 3 = 28) ?_
                      refine g_aload X21 hx (hb hby d1_28) (rfl : 28 + 2 = 30) rfl rfl ?_
                      exact g_ret X21 hx hret hlk rfl (Or.inr (Or.inr (Or.inr (Or.inr ⟨rfl, rfl, rfl⟩)))) (hb hby d1_30) (by decide) (by decide) eh21 hK ⟨(by rw [← n9]; rfl), P1⟩
                    · refine g_icmpY X21 hx (hb hby d1_25) (XT.ii_ne_t n9) (by decide) (pc' := 31) (by decide) ?_
                      refine g_iinc X21 hx (1 : Int32) (hb hby d1_31) (rfl : 31 + 3 = 34) (by decide) rfl (z := (10 : Int32)) (by decide) (Ls' := #[.val (.int cc), .val (.ref o_1), .val (.int (13 : Int32)), .val (.int (10 : Int32)), .val (.ref e9)]) rfl ?_
                      refine g_goto X21 hx (hb hby d1_34) (by decide) (pc' := 9) (by decide) ?_
                      refine g_iloadN X21 hx (hb hby d1_9) (rfl : 9 + 1 = 10) rfl ?_
                      refine g_iloadN X21 hx (hb hby d1_10) (rfl : 10 + 1 = 11) rfl ?_
                      refine g_icmpN X21 hx (hb hby d1_11) (XT.ii_ge_f (by decide)) (rfl : 11 + 3 = 14) ?_
                      refine g_aloadN X21 hx (hb hby d1_14) (rfl : 14 + 1 = 15) rfl rfl ?_
                      refine g_iloadN X21 hx (hb hby d1_15) (rfl : 15 + 1 = 16) rfl ?_
                      refine g_aaload X21 hx hZ eh21 G1_1 rfl (v := (.ref e10)) (by decide) (by rfl) (hb hby d1_16) (rfl : 16 + 1 = 17) ?_
                      refine g_astore X21 hx (hb hby d1_17) (rfl : 17 + 2 = 19) rfl (Ls' := #[.val (.int cc), .val (.ref o_1), .val (.int (13 : Int32)), .val (.int (10 : Int32)), .val (.ref e10)]) rfl ?_
                      refine g_aload X21 hx (hb hby d1_19) (rfl : 19 + 2 = 21) rfl rfl ?_
                      have F22 := (fldP I13 Pc1 nin0)
                      refine g_getf X21 hx hZ hown (host := "") (Or.inl (wd hw 38 rfl)) Via.refl eh21 F22 (hb hby d1_21) (rfl : 21 + 3 = 24) fun T23 X23 eh23 => ?_
                      refine g_iloadN X23 hx (hb hby d1_24) (rfl : 24 + 1 = 25) rfl ?_
                      by_cases n10 : (12 : Int32) = cc
                      · refine g_icmpN X23 hx (hb hby d1_25) (XT.ii_ne_f n10) (rfl : 25 + 3 = 28) ?_
                        refine g_aload X23 hx (hb hby d1_28) (rfl : 28 + 2 = 30) rfl rfl ?_
                        exact g_ret X23 hx hret hlk rfl (Or.inr (Or.inr (Or.inr (Or.inr ⟨rfl, rfl, rfl⟩)))) (hb hby d1_30) (by decide) (by decide) eh23 hK ⟨(by rw [← n10]; rfl), P1⟩
                      · refine g_icmpY X23 hx (hb hby d1_25) (XT.ii_ne_t n10) (by decide) (pc' := 31) (by decide) ?_
                        refine g_iinc X23 hx (1 : Int32) (hb hby d1_31) (rfl : 31 + 3 = 34) (by decide) rfl (z := (11 : Int32)) (by decide) (Ls' := #[.val (.int cc), .val (.ref o_1), .val (.int (13 : Int32)), .val (.int (11 : Int32)), .val (.ref e10)]) rfl ?_
                        refine g_goto X23 hx (hb hby d1_34) (by decide) (pc' := 9) (by decide) ?_
                        refine g_iloadN X23 hx (hb hby d1_9) (rfl : 9 + 1 = 10) rfl ?_
                        refine g_iloadN X23 hx (hb hby d1_10) (rfl : 10 + 1 = 11) rfl ?_
                        refine g_icmpN X23 hx (hb hby d1_11) (XT.ii_ge_f (by decide)) (rfl : 11 + 3 = 14) ?_
                        refine g_aloadN X23 hx (hb hby d1_14) (rfl : 14 + 1 = 15) rfl rfl ?_
                        refine g_iloadN X23 hx (hb hby d1_15) (rfl : 15 + 1 = 16) rfl ?_
                        refine g_aaload X23 hx hZ eh23 G1_1 rfl (v := (.ref e11)) (by decide) (by rfl) (hb hby d1_16) (rfl : 16 + 1 = 17) ?_
                        refine g_astore X23 hx (hb hby d1_17) (rfl : 17 + 2 = 19) rfl (Ls' := #[.val (.int cc), .val (.ref o_1), .val (.int (13 : Int32)), .val (.int (11 : Int32)), .val (.ref e11)]) rfl ?_
                        refine g_aload X23 hx (hb hby d1_19) (rfl : 19 + 2 = 21) rfl rfl ?_
                        have F24 := (fldP I14 Pc1 nin0)
                        refine g_getf X23 hx hZ hown (host := "") (Or.inl (wd hw 38 rfl)) Via.refl eh23 F24 (hb hby d1_21) (rfl : 21 + 3 = 24) fun T25 X25 eh25 => ?_
                        refine g_iloadN X25 hx (hb hby d1_24) (rfl : 24 + 1 = 25) rfl ?_
                        by_cases n11 : (13 : Int32) = cc
                        · refine g_icmpN X25 hx (hb hby d1_25) (XT.ii_ne_f n11) (rfl : 25 + 3 = 28) ?_
                          refine g_aload X25 hx (hb hby d1_28) (rfl : 28 + 2 = 30) rfl rfl ?_
                          exact g_ret X25 hx hret hlk rfl (Or.inr (Or.inr (Or.inr (Or.inr ⟨rfl, rfl, rfl⟩)))) (hb hby d1_30) (by decide) (by decide) eh25 hK ⟨(by rw [← n11]; rfl), P1⟩
                        · refine g_icmpY X25 hx (hb hby d1_25) (XT.ii_ne_t n11) (by decide) (pc' := 31) (by decide) ?_
                          refine g_iinc X25 hx (1 : Int32) (hb hby d1_31) (rfl : 31 + 3 = 34) (by decide) rfl (z := (12 : Int32)) (by decide) (Ls' := #[.val (.int cc), .val (.ref o_1), .val (.int (13 : Int32)), .val (.int (12 : Int32)), .val (.ref e11)]) rfl ?_
                          refine g_goto X25 hx (hb hby d1_34) (by decide) (pc' := 9) (by decide) ?_
                          refine g_iloadN X25 hx (hb hby d1_9) (rfl : 9 + 1 = 10) rfl ?_
                          refine g_iloadN X25 hx (hb hby d1_10) (rfl : 10 + 1 = 11) rfl ?_
                          refine g_icmpN X25 hx (hb hby d1_11) (XT.ii_ge_f (by decide)) (rfl : 11 + 3 = 14) ?_
                          refine g_aloadN X25 hx (hb hby d1_14) (rfl : 14 + 1 = 15) rfl rfl ?_
                          refine g_iloadN X25 hx (hb hby d1_15) (rfl : 15 + 1 = 16) rfl ?_
                          refine g_aaload X25 hx hZ eh25 G1_1 rfl (v := (.ref e12)) (by decide) (by rfl) (hb hby d1_16) (rfl : 16 + 1 = 17) ?_
                          refine g_astore X25 hx (hb hby d1_17) (rfl : 17 + 2 = 19) rfl (Ls' := #[.val (.int cc), .val (.ref o_1), .val (.int (13 : Int32)), .val (.int (12 : Int32)), .val (.ref e12)]) rfl ?_
                          refine g_aload X25 hx (hb hby d1_19) (rfl : 19 + 2 = 21) rfl rfl ?_
                          have F26 := (fldP I15 Pc1 nin0)
                          refine g_getf X25 hx hZ hown (host := "") (Or.inl (wd hw 38 rfl)) Via.refl eh25 F26 (hb hby d1_21) (rfl : 21 + 3 = 24) fun T27 X27 eh27 => ?_
                          refine g_iloadN X27 hx (hb hby d1_24) (rfl : 24 + 1 = 25) rfl ?_
                          by_cases n12 : (14 : Int32) = cc
                          · refine g_icmpN X27 hx (hb hby d1_25) (XT.ii_ne_f n12) (rfl : 25 + 3 = 28) ?_
                            refine g_aload X27 hx (hb hby d1_28) (rfl : 28 + 2 = 30) rfl rfl ?_
                            exact g_ret X27 hx hret hlk rfl (Or.inr (Or.inr (Or.inr (Or.inr ⟨rfl, rfl, rfl⟩)))) (hb hby d1_30) (by decide) (by decide) eh27 hK ⟨(by rw [← n12]; rfl), P1⟩
                          · refine g_icmpY X27 hx (hb hby d1_25) (XT.ii_ne_t n12) (by decide) (pc' := 31) (by decide) ?_
                            refine g_iinc X27 hx (1 : Int32) (hb hby d1_31) (rfl : 31 + 3 = 34) (by decide) rfl (z := (13 : Int32)) (by decide) (Ls' := #[.val (.int cc), .val (.ref o_1), .val (.int (13 : Int32)), .val (.int (13 : Int32)), .val (.ref e12)]) rfl ?_
                            refine g_goto X27 hx (hb hby d1_34) (by decide) (pc' := 9) (by decide) ?_
                            refine g_iloadN X27 hx (hb hby d1_9) (rfl : 9 + 1 = 10) rfl ?_
                            refine g_iloadN X27 hx (hb hby d1_10) (rfl : 10 + 1 = 11) rfl ?_
                            exfalso
                            rcases hin with q | q | q | q | q | q | q | q | q | q | q | q | q
                            · exact n0 q.symm
                            · exact n1 q.symm
                            · exact n2 q.symm
                            · exact n3 q.symm
                            · exact n4 q.symm
                            · exact n5 q.symm
                            · exact n6 q.symm
                            · exact n7 q.symm
                            · exact n8 q.symm
                            · exact n9 q.symm
                            · exact n10 q.symm
                            · exact n11 q.symm
                            · exact n12 q.symm
theorem d0_0 : decode method_3_code 0 = .ok (.iload_n 0, 1) := by decide +kernel
theorem d0_1 : decode method_3_code 1 = .ok (.iconst 1, 1) := by decide +kernel
theorem d0_2 : decode method_3_code 2 = .ok (.if_icmp .ne 7, 3) := by decide +kernel
theorem d0_5 : decode method_3_code 5 = .ok (.getstatic 23, 3) := by decide +kernel
theorem d0_8 : decode method_3_code 8 = .ok (.areturn, 1) := by decide +kernel
theorem d0_9 : decode method_3_code 9 = .ok (.iload_n 0, 1) := by decide +kernel
theorem d0_10 : decode method_3_code 10 = .ok (.iconst 2, 1) := by decide +kernel
theorem d0_11 : decode method_3_code 11 = .ok (.if_icmp .ne 7, 3) := by decide +kernel
theorem d0_14 : decode method_3_code 14 = .ok (.getstatic 27, 3) := by decide +kernel
theorem d0_17 : decode method_3_code 17 = .ok (.areturn, 1) := by decide +kernel
theorem d0_18 : decode method_3_code 18 = .ok (.iload_n 0, 1) := by decide +kernel
theorem d0_19 : decode method_3_code 19 = .ok (.iconst 3, 1) := by decide +kernel
theorem d0_20 : decode method_3_code 20 = .ok (.if_icmp .ne 7, 3) := by decide +kernel
theorem d0_23 : decode method_3_code 23 = .ok (.getstatic 30, 3) := by decide +kernel
theorem d0_26 : decode method_3_code 26 = .ok (.areturn, 1) := by decide +kernel
theorem d0_27 : decode method_3_code 27 = .ok (.iload_n 0, 1) := by decide +kernel
theorem d0_28 : decode method_3_code 28 = .ok (.iconst 4, 1) := by decide +kernel
theorem d0_29 : decode method_3_code 29 = .ok (.if_icmp .ne 7, 3) := by decide +kernel
theorem d0_32 : decode method_3_code 32 = .ok (.getstatic 33, 3) := by decide +kernel
theorem d0_35 : decode method_3_code 35 = .ok (.areturn, 1) := by decide +kernel
theorem d0_36 : decode method_3_code 36 = .ok (.iload_n 0, 1) := by decide +kernel
theorem d0_37 : decode method_3_code 37 = .ok (.iconst 5, 1) := by decide +kernel
theorem d0_38 : decode method_3_code 38 = .ok (.if_icmp .ne 7, 3) := by decide +kernel
theorem d0_41 : decode method_3_code 41 = .ok (.getstatic 36, 3) := by decide +kernel
theorem d0_44 : decode method_3_code 44 = .ok (.areturn, 1) := by decide +kernel
theorem d0_45 : decode method_3_code 45 = .ok (.iload_n 0, 1) := by decide +kernel
theorem d0_46 : decode method_3_code 46 = .ok (.bipush 6, 2) := by decide +kernel
theorem d0_48 : decode method_3_code 48 = .ok (.if_icmp .ne 7, 3) := by decide +kernel
theorem d0_51 : decode method_3_code 51 = .ok (.getstatic 39, 3) := by decide +kernel
theorem d0_54 : decode method_3_code 54 = .ok (.areturn, 1) := by decide +kernel
theorem d0_55 : decode method_3_code 55 = .ok (.iload_n 0, 1) := by decide +kernel
theorem d0_56 : decode method_3_code 56 = .ok (.bipush 7, 2) := by decide +kernel
theorem d0_58 : decode method_3_code 58 = .ok (.if_icmp .ne 7, 3) := by decide +kernel
theorem d0_61 : decode method_3_code 61 = .ok (.getstatic 42, 3) := by decide +kernel
theorem d0_64 : decode method_3_code 64 = .ok (.areturn, 1) := by decide +kernel
theorem d0_65 : decode method_3_code 65 = .ok (.iload_n 0, 1) := by decide +kernel
theorem d0_66 : decode method_3_code 66 = .ok (.bipush 8, 2) := by decide +kernel
theorem d0_68 : decode method_3_code 68 = .ok (.if_icmp .ne 7, 3) := by decide +kernel
theorem d0_71 : decode method_3_code 71 = .ok (.getstatic 45, 3) := by decide +kernel
theorem d0_74 : decode method_3_code 74 = .ok (.areturn, 1) := by decide +kernel
theorem d0_75 : decode method_3_code 75 = .ok (.iload_n 0, 1) := by decide +kernel
theorem d0_76 : decode method_3_code 76 = .ok (.bipush 9, 2) := by decide +kernel
theorem d0_78 : decode method_3_code 78 = .ok (.if_icmp .ne 7, 3) := by decide +kernel
theorem d0_81 : decode method_3_code 81 = .ok (.getstatic 48, 3) := by decide +kernel
theorem d0_84 : decode method_3_code 84 = .ok (.areturn, 1) := by decide +kernel
theorem d0_85 : decode method_3_code 85 = .ok (.iload_n 0, 1) := by decide +kernel
theorem d0_86 : decode method_3_code 86 = .ok (.bipush 11, 2) := by decide +kernel
theorem d0_88 : decode method_3_code 88 = .ok (.if_icmp .ne 7, 3) := by decide +kernel
theorem d0_91 : decode method_3_code 91 = .ok (.getstatic 51, 3) := by decide +kernel
theorem d0_94 : decode method_3_code 94 = .ok (.areturn, 1) := by decide +kernel
theorem d0_95 : decode method_3_code 95 = .ok (.iload_n 0, 1) := by decide +kernel
theorem d0_96 : decode method_3_code 96 = .ok (.bipush 12, 2) := by decide +kernel
theorem d0_98 : decode method_3_code 98 = .ok (.if_icmp .ne 7, 3) := by decide +kernel
theorem d0_101 : decode method_3_code 101 = .ok (.getstatic 54, 3) := by decide +kernel
theorem d0_104 : decode method_3_code 104 = .ok (.areturn, 1) := by decide +kernel
theorem d0_105 : decode method_3_code 105 = .ok (.iload_n 0, 1) := by decide +kernel
theorem d0_106 : decode method_3_code 106 = .ok (.bipush 13, 2) := by decide +kernel
theorem d0_108 : decode method_3_code 108 = .ok (.if_icmp .ne 7, 3) := by decide +kernel
theorem d0_111 : decode method_3_code 111 = .ok (.getstatic 57, 3) := by decide +kernel
theorem d0_114 : decode method_3_code 114 = .ok (.areturn, 1) := by decide +kernel
theorem d0_115 : decode method_3_code 115 = .ok (.getstatic 60, 3) := by decide +kernel
theorem d0_118 : decode method_3_code 118 = .ok (.areturn, 1) := by decide +kernel
theorem pn_rm_exp : plainFor (⟨"com/example/dosimeter/dosimeter/model/UsageTypeFromIdPinLaw", "expectedFor", "(I)Lcom/example/dosimeter/dosimeter/model/UsageType;"⟩ : MethodName) = true := by first | exact plainFor_of_name (by first | (simp [plainName, overriddenIn]; done) | decide +kernel) | decide +kernel
set_option maxRecDepth 65536 in
set_option maxHeartbeats 40000000 in
theorem rm_exp {l : Launch} {Z : State} {a0 : Array Value} (hw : ∀ d ∈ tables_1, d.before a0 Z = true) (cc : Int32) (e0 : Addr) (e1 : Addr) (e2 : Addr) (e3 : Addr) (e4 : Addr) (e5 : Addr) (e6 : Addr) (e7 : Addr) (e8 : Addr) (e9 : Addr) (e10 : Addr) (e11 : Addr) (e12 : Addr) {h0 : Heap} (I0 : Sta Z h0 "com/example/dosimeter/dosimeter/model/UsageType" "RUNNING_VM" "Lcom/example/dosimeter/dosimeter/model/UsageType;" (.ref e0)) (I1 : Sta Z h0 "com/example/dosimeter/dosimeter/model/UsageType" "ALLOCATED_VM" "Lcom/example/dosimeter/dosimeter/model/UsageType;" (.ref e1)) (I2 : Sta Z h0 "com/example/dosimeter/dosimeter/model/UsageType" "IP_ADDRESS" "Lcom/example/dosimeter/dosimeter/model/UsageType;" (.ref e2)) (I3 : Sta Z h0 "com/example/dosimeter/dosimeter/model/UsageType" "NETWORK_BYTES_SENT" "Lcom/example/dosimeter/dosimeter/model/UsageType;" (.ref e3)) (I4 : Sta Z h0 "com/example/dosimeter/dosimeter/model/UsageType" "NETWORK_BYTES_RECEIVED" "Lcom/example/dosimeter/dosimeter/model/UsageType;" (.ref e4)) (I5 : Sta Z h0 "com/example/dosimeter/dosimeter/model/UsageType" "VOLUME" "Lcom/example/dosimeter/dosimeter/model/UsageType;" (.ref e5)) (I6 : Sta Z h0 "com/example/dosimeter/dosimeter/model/UsageType" "TEMPLATE" "Lcom/example/dosimeter/dosimeter/model/UsageType;" (.ref e6)) (I7 : Sta Z h0 "com/example/dosimeter/dosimeter/model/UsageType" "ISO" "Lcom/example/dosimeter/dosimeter/model/UsageType;" (.ref e7)) (I8 : Sta Z h0 "com/example/dosimeter/dosimeter/model/UsageType" "SNAPSHOT" "Lcom/example/dosimeter/dosimeter/model/UsageType;" (.ref e8)) (I9 : Sta Z h0 "com/example/dosimeter/dosimeter/model/UsageType" "LOAD_BALANCER_POLICY" "Lcom/example/dosimeter/dosimeter/model/UsageType;" (.ref e9)) (I10 : Sta Z h0 "com/example/dosimeter/dosimeter/model/UsageType" "PORT_FORWARDING_RULE" "Lcom/example/dosimeter/dosimeter/model/UsageType;" (.ref e10)) (I11 : Sta Z h0 "com/example/dosimeter/dosimeter/model/UsageType" "NETWORK_OFFERING" "Lcom/example/dosimeter/dosimeter/model/UsageType;" (.ref e11)) (I12 : Sta Z h0 "com/example/dosimeter/dosimeter/model/UsageType" "VPN_USERS" "Lcom/example/dosimeter/dosimeter/model/UsageType;" (.ref e12))  :
    OMet l (⟨"com/example/dosimeter/dosimeter/model/UsageTypeFromIdPinLaw", "expectedFor", "(I)Lcom/example/dosimeter/dosimeter/model/UsageType;"⟩ : MethodName) method_3_code 1 (Option.some (Jvm.ClassFile.FieldType.object "com/example/dosimeter/dosimeter/model/UsageType")) ({ frames := 0, cells := 0, slots := 0, locals := 0 } : Room) #[(.int cc)] Z h0 (fun v h L => v = some (.ref (AA cc e0 e1 e2 e3 e4 e5 e6 e7 e8 e9 e10 e11 e12)) ∧ OPr h0 [] h L) := by
  refine OMet.body pn_rm_exp (Ls := #[.val (.int cc)]) (fun m => by first | (simp [entryFrame, mkF, argsToLocals, Value.category]; done) | rfl) ?_
  intro p e s m below meth c T0 K hK X0 hx hby hml hown hnm hret hlk hZ eh0
  have P0 := OPr.refl h0 []
  refine g_iloadN X0 hx (hb hby d0_0) (rfl : 0 + 1 = 1) rfl ?_
  refine g_iconst X0 hx (1 : Int32) (hb hby d0_1) (rfl : 1 + 1 = 2) (by decide) ?_
  by_cases n0 : cc = (1 : Int32)
  · refine g_icmpN X0 hx (hb hby d0_2) (XT.ii_ne_f n0) (rfl : 2 + 3 = 5) ?_
    refine g_gets X0 hx hZ hown (host := "") (Or.inl (wd hw 5 rfl)) Via.refl eh0 I0 (hb hby d0_5) (rfl : 5 + 3 = 8) fun T1 X1 eh1 => ?_
    exact g_ret X1 hx hret hlk rfl (Or.inr (Or.inr (Or.inr (Or.inr ⟨rfl, rfl, rfl⟩)))) (hb hby d0_8) (by decide) (by decide) eh1 hK ⟨(by rw [n0]; rfl), P0⟩
  · refine g_icmpY X0 hx (hb hby d0_2) (XT.ii_ne_t n0) (by decide) (pc' := 9) (by decide) ?_
    refine g_iloadN X0 hx (hb hby d0_9) (rfl : 9 + 1 = 10) rfl ?_
    refine g_iconst X0 hx (2 : Int32) (hb hby d0_10) (rfl : 10 + 1 = 11) (by decide) ?_
    by_cases n1 : cc = (2 : Int32)
    · refine g_icmpN X0 hx (hb hby d0_11) (XT.ii_ne_f n1) (rfl : 11 + 3 = 14) ?_
      refine g_gets X0 hx hZ hown (host := "") (Or.inl (wd hw 52 rfl)) Via.refl eh0 I1 (hb hby d0_14) (rfl : 14 + 3 = 17) fun T2 X2 eh2 => ?_
      exact g_ret X2 hx hret hlk rfl (Or.inr (Or.inr (Or.inr (Or.inr ⟨rfl, rfl, rfl⟩)))) (hb hby d0_17) (by decide) (by decide) eh2 hK ⟨(by rw [n1]; rfl), P0⟩
    · refine g_icmpY X0 hx (hb hby d0_11) (XT.ii_ne_t n1) (by decide) (pc' := 18) (by decide) ?_
      refine g_iloadN X0 hx (hb hby d0_18) (rfl : 18 + 1 = 19) rfl ?_
      refine g_iconst X0 hx (3 : Int32) (hb hby d0_19) (rfl : 19 + 1 = 20) (by decide) ?_
      by_cases n2 : cc = (3 : Int32)
      · refine g_icmpN X0 hx (hb hby d0_20) (XT.ii_ne_f n2) (rfl : 20 + 3 = 23) ?_
        refine g_gets X0 hx hZ hown (host := "") (Or.inl (wd hw 50 rfl)) Via.refl eh0 I2 (hb hby d0_23) (rfl : 23 + 3 = 26) fun T3 X3 eh3 => ?_
        exact g_ret X3 hx hret hlk rfl (Or.inr (Or.inr (Or.inr (Or.inr ⟨rfl, rfl, rfl⟩)))) (hb hby d0_26) (by decide) (by decide) eh3 hK ⟨(by rw [n2]; rfl), P0⟩
      · refine g_icmpY X0 hx (hb hby d0_20) (XT.ii_ne_t n2) (by decide) (pc' := 27) (by decide) ?_
        refine g_iloadN X0 hx (hb hby d0_27) (rfl : 27 + 1 = 28) rfl ?_
        refine g_iconst X0 hx (4 : Int32) (hb hby d0_28) (rfl : 28 + 1 = 29) (by decide) ?_
        by_cases n3 : cc = (4 : Int32)
        · refine g_icmpN X0 hx (hb hby d0_29) (XT.ii_ne_f n3) (rfl : 29 + 3 = 32) ?_
          refine g_gets X0 hx hZ hown (host := "") (Or.inl (wd hw 45 rfl)) Via.refl eh0 I3 (hb hby d0_32) (rfl : 32 + 3 = 35) fun T4 X4 eh4 => ?_
          exact g_ret X4 hx hret hlk rfl (Or.inr (Or.inr (Or.inr (Or.inr ⟨rfl, rfl, rfl⟩)))) (hb hby d0_35) (by decide) (by decide) eh4 hK ⟨(by rw [n3]; rfl), P0⟩
        · refine g_icmpY X0 hx (hb hby d0_29) (XT.ii_ne_t n3) (by decide) (pc' := 36) (by decide) ?_
          refine g_iloadN X0 hx (hb hby d0_36) (rfl : 36 + 1 = 37) rfl ?_
          refine g_iconst X0 hx (5 : Int32) (hb hby d0_37) (rfl : 37 + 1 = 38) (by decide) ?_
          by_cases n4 : cc = (5 : Int32)
          · refine g_icmpN X0 hx (hb hby d0_38) (XT.ii_ne_f n4) (rfl : 38 + 3 = 41) ?_
            refine g_gets X0 hx hZ hown (host := "") (Or.inl (wd hw 56 rfl)) Via.refl eh0 I4 (hb hby d0_41) (rfl : 41 + 3 = 44) fun T5 X5 eh5 => ?_
            exact g_ret X5 hx hret hlk rfl (Or.inr (Or.inr (Or.inr (Or.inr ⟨rfl, rfl, rfl⟩)))) (hb hby d0_44) (by decide) (by decide) eh5 hK ⟨(by rw [n4]; rfl), P0⟩
          · refine g_icmpY X0 hx (hb hby d0_38) (XT.ii_ne_t n4) (by decide) (pc' := 45) (by decide) ?_
            refine g_iloadN X0 hx (hb hby d0_45) (rfl : 45 + 1 = 46) rfl ?_
            refine g_bipush X0 hx (6 : Int32) (hb hby d0_46) (rfl : 46 + 2 = 48) (by decide) ?_
            by_cases n5 : cc = (6 : Int32)
            · refine g_icmpN X0 hx (hb hby d0_48) (XT.ii_ne_f n5) (rfl : 48 + 3 = 51) ?_
              refine g_gets X0 hx hZ hown (host := "") (Or.inl (wd hw 47 rfl)) Via.refl eh0 I5 (hb hby d0_51) (rfl : 51 + 3 = 54) fun T6 X6 eh6 => ?_
              exact g_ret X6 hx hret hlk rfl (Or.inr (Or.inr (Or.inr (Or.inr ⟨rfl, rfl, rfl⟩)))) (hb hby d0_54) (by decide) (by decide) eh6 hK ⟨(by rw [n5]; rfl), P0⟩
            · refine g_icmpY X0 hx (hb hby d0_48) (XT.ii_ne_t n5) (by decide) (pc' := 55) (by decide) ?_
              refine g_iloadN X0 hx (hb hby d0_55) (rfl : 55 + 1 = 56) rfl ?_
              refine g_bipush X0 hx (7 : Int32) (hb hby d0_56) (rfl : 56 + 2 = 58) (by decide) ?_
              by_cases n6 : cc = (7 : Int32)
              · refine g_icmpN X0 hx (hb hby d0_58) (XT.ii_ne_f n6) (rfl : 58 + 3 = 61) ?_
                refine g_gets X0 hx hZ hown (host := "") (Or.inl (wd hw 46 rfl)) Via.refl eh0 I6 (hb hby d0_61) (rfl : 61 + 3 = 64) fun T7 X7 eh7 => ?_
                exact g_ret X7 hx hret hlk rfl (Or.inr (Or.inr (Or.inr (Or.inr ⟨rfl, rfl, rfl⟩)))) (hb hby d0_64) (by decide) (by decide) eh7 hK ⟨(by rw [n6]; rfl), P0⟩
              · refine g_icmpY X0 hx (hb hby d0_58) (XT.ii_ne_t n6) (by decide) (pc' := 65) (by decide) ?_
                refine g_iloadN X0 hx (hb hby d0_65) (rfl : 65 + 1 = 66) rfl ?_
                refine g_bipush X0 hx (8 : Int32) (hb hby d0_66) (rfl : 66 + 2 = 68) (by decide) ?_
                by_cases n7 : cc = (8 : Int32)
                · refine g_icmpN X0 hx (hb hby d0_68) (XT.ii_ne_f n7) (rfl : 68 + 3 = 71) ?_
                  refine g_gets X0 hx hZ hown (host := "") (Or.inl (wd hw 48 rfl)) Via.refl eh0 I7 (hb hby d0_71) (rfl : 71 + 3 = 74) fun T8 X8 eh8 => ?_
                  exact g_ret X8 hx hret hlk rfl (Or.inr (Or.inr (Or.inr (Or.inr ⟨rfl, rfl, rfl⟩)))) (hb hby d0_74) (by decide) (by decide) eh8 hK ⟨(by rw [n7]; rfl), P0⟩
                · refine g_icmpY X0 hx (hb hby d0_68) (XT.ii_ne_t n7) (by decide) (pc' := 75) (by decide) ?_
                  refine g_iloadN X0 hx (hb hby d0_75) (rfl : 75 + 1 = 76) rfl ?_
                  refine g_bipush X0 hx (9 : Int32) (hb hby d0_76) (rfl : 76 + 2 = 78) (by decide) ?_
                  by_cases n8 : cc = (9 : Int32)
                  · refine g_icmpN X0 hx (hb hby d0_78) (XT.ii_ne_f n8) (rfl : 78 + 3 = 81) ?_
                    refine g_gets X0 hx hZ hown (host := "") (Or.inl (wd hw 53 rfl)) Via.refl eh0 I8 (hb hby d0_81) (rfl : 81 + 3 = 84) fun T9 X9 eh9 => ?_
                    exact g_ret X9 hx hret hlk rfl (Or.inr (Or.inr (Or.inr (Or.inr ⟨rfl, rfl, rfl⟩)))) (hb hby d0_84) (by decide) (by decide) eh9 hK ⟨(by rw [n8]; rfl), P0⟩
                  · refine g_icmpY X0 hx (hb hby d0_78) (XT.ii_ne_t n8) (by decide) (pc' := 85) (by decide) ?_
                    refine g_iloadN X0 hx (hb hby d0_85) (rfl : 85 + 1 = 86) rfl ?_
                    refine g_bipush X0 hx (11 : Int32) (hb hby d0_86) (rfl : 86 + 2 = 88) (by decide) ?_
                    by_cases n9 : cc = (11 : Int32)
                    · refine g_icmpN X0 hx (hb hby d0_88) (XT.ii_ne_f n9) (rfl : 88 + 3 = 91) ?_
                      refine g_gets X0 hx hZ hown (host := "") (Or.inl (wd hw 49 rfl)) Via.refl eh0 I9 (hb hby d0_91) (rfl : 91 + 3 = 94) fun T10 X10 eh10 => ?_
                      exact g_ret X10 hx hret hlk rfl (Or.inr (Or.inr (Or.inr (Or.inr ⟨rfl, rfl, rfl⟩)))) (hb hby d0_94) (by decide) (by decide) eh10 hK ⟨(by rw [n9]; rfl), P0⟩
                    · refine g_icmpY X0 hx (hb hby d0_88) (XT.ii_ne_t n9) (by decide) (pc' := 95) (by decide) ?_
                      refine g_iloadN X0 hx (hb hby d0_95) (rfl : 95 + 1 = 96) rfl ?_
                      refine g_bipush X0 hx (12 : Int32) (hb hby d0_96) (rfl : 96 + 2 = 98) (by decide) ?_
                      by_cases n10 : cc = (12 : Int32)
                      · refine g_icmpN X0 hx (hb hby d0_98) (XT.ii_ne_f n10) (rfl : 98 + 3 = 101) ?_
                        refine g_gets X0 hx hZ hown (host := "") (Or.inl (wd hw 54 rfl)) Via.refl eh0 I10 (hb hby d0_101) (rfl : 101 + 3 = 104) fun T11 X11 eh11 => ?_
                        exact g_ret X11 hx hret hlk rfl (Or.inr (Or.inr (Or.inr (Or.inr ⟨rfl, rfl, rfl⟩)))) (hb hby d0_104) (by decide) (by decide) eh11 hK ⟨(by rw [n10]; rfl), P0⟩
                      · refine g_icmpY X0 hx (hb hby d0_98) (XT.ii_ne_t n10) (by decide) (pc' := 105) (by decide) ?_
                        refine g_iloadN X0 hx (hb hby d0_105) (rfl : 105 + 1 = 106) rfl ?_
                        refine g_bipush X0 hx (13 : Int32) (hb hby d0_106) (rfl : 106 + 2 = 108) (by decide) ?_
                        by_cases n11 : cc = (13 : Int32)
                        · refine g_icmpN X0 hx (hb hby d0_108) (XT.ii_ne_f n11) (rfl : 108 + 3 = 111) ?_
                          refine g_gets X0 hx hZ hown (host := "") (Or.inl (wd hw 51 rfl)) Via.refl eh0 I11 (hb hby d0_111) (rfl : 111 + 3 = 114) fun T12 X12 eh12 => ?_
                          exact g_ret X12 hx hret hlk rfl (Or.inr (Or.inr (Or.inr (Or.inr ⟨rfl, rfl, rfl⟩)))) (hb hby d0_114) (by decide) (by decide) eh12 hK ⟨(by rw [n11]; rfl), P0⟩
                        · refine g_icmpY X0 hx (hb hby d0_108) (XT.ii_ne_t n11) (by decide) (pc' := 115) (by decide) ?_
                          refine g_gets X0 hx hZ hown (host := "") (Or.inl (wd hw 55 rfl)) Via.refl eh0 I12 (hb hby d0_115) (rfl : 115 + 3 = 118) fun T13 X13 eh13 => ?_
                          exact g_ret X13 hx hret hlk rfl (Or.inr (Or.inr (Or.inr (Or.inr ⟨rfl, rfl, rfl⟩)))) (hb hby d0_118) (by decide) (by decide) eh13 hK ⟨(by simp [AA, n0, n1, n2, n3, n4, n5, n6, n7, n8, n9, n10, n11]), P0⟩
theorem d3_0 : decode prog_28_method_7_code 0 = .ok (.aload_n 0, 1) := by decide +kernel
theorem d3_1 : decode prog_28_method_7_code 1 = .ok (.getfield 77, 3) := by decide +kernel
theorem d3_4 : decode prog_28_method_7_code 4 = .ok (.ireturn, 1) := by decide +kernel
theorem pn_rm_id : plainFor (⟨"com/example/dosimeter/dosimeter/model/UsageType", "id", "()I"⟩ : MethodName) = true := by first | exact plainFor_of_name (by first | (simp [plainName, overriddenIn]; done) | decide +kernel) | decide +kernel
set_option maxRecDepth 65536 in
set_option maxHeartbeats 40000000 in
theorem rm_id {l : Launch} {Z : State} {a0 : Array Value} (hw : ∀ d ∈ tables_1, d.before a0 Z = true) (b : Addr) (cc : Int32) {h0 : Heap} (I0 : Fld Z h0 b "com/example/dosimeter/dosimeter/model/UsageType" "id" "I" (.int cc))  :
    OMet l (⟨"com/example/dosimeter/dosimeter/model/UsageType", "id", "()I"⟩ : MethodName) prog_28_method_7_code 1 (Option.some Jvm.ClassFile.FieldType.int) ({ frames := 0, cells := 0, slots := 0, locals := 0 } : Room) #[(.ref b)] Z h0 (fun v h L => v = some (.int cc) ∧ OPr h0 [] h L) := by
  refine OMet.body pn_rm_id (Ls := #[.val (.ref b)]) (fun m => by first | (simp [entryFrame, mkF, argsToLocals, Value.category]; done) | rfl) ?_
  intro p e s m below meth c T0 K hK X0 hx hby hml hown hnm hret hlk hZ eh0
  have P0 := OPr.refl h0 []
  refine g_aloadN X0 hx (hb hby d3_0) (rfl : 0 + 1 = 1) rfl rfl ?_
  refine g_getf X0 hx hZ hown (host := "") (Or.inl (wd hw 38 rfl)) Via.refl eh0 I0 (hb hby d3_1) (rfl : 1 + 3 = 4) fun T1 X1 eh1 => ?_
  exact g_ret X1 hx hret hlk rfl (Or.inl ⟨rfl, Or.inl rfl, _, rfl⟩) (hb hby d3_4) (by decide) (by decide) eh1 hK ⟨rfl, P0⟩
theorem pn_rm0 : plainFor x = true := by first | exact plainFor_of_name (by first | (simp [plainName, overriddenIn]; done) | decide +kernel) | decide +kernel
set_option maxRecDepth 65536 in
set_option maxHeartbeats 40000000 in
theorem rm0 {l : Launch} {Z : State} {a0 : Array Value} (hw : ∀ d ∈ tables_1, d.before a0 Z = true) (p1 : Int32) (av : Addr) (kv : ClassId) (e0 : Addr) (e1 : Addr) (e2 : Addr) (e3 : Addr) (e4 : Addr) (e5 : Addr) (e6 : Addr) (e7 : Addr) (e8 : Addr) (e9 : Addr) (e10 : Addr) (e11 : Addr) (e12 : Addr) {h0 : Heap} (I0 : Sta Z h0 "com/example/dosimeter/dosimeter/model/UsageType" "$VALUES" "[Lcom/example/dosimeter/dosimeter/model/UsageType;" (.ref av)) (I1 : OAry Z h0 av kv (.object "com/example/dosimeter/dosimeter/model/UsageType") [(.ref e0), (.ref e1), (.ref e2), (.ref e3), (.ref e4), (.ref e5), (.ref e6), (.ref e7), (.ref e8), (.ref e9), (.ref e10), (.ref e11), (.ref e12)]) (I2 : Exa Z h0 av "[Lcom/example/dosimeter/dosimeter/model/UsageType;") (I3 : Fld Z h0 e0 "com/example/dosimeter/dosimeter/model/UsageType" "id" "I" (.int (1 : Int32))) (I4 : Fld Z h0 e1 "com/example/dosimeter/dosimeter/model/UsageType" "id" "I" (.int (2 : Int32))) (I5 : Fld Z h0 e2 "com/example/dosimeter/dosimeter/model/UsageType" "id" "I" (.int (3 : Int32))) (I6 : Fld Z h0 e3 "com/example/dosimeter/dosimeter/model/UsageType" "id" "I" (.int (4 : Int32))) (I7 : Fld Z h0 e4 "com/example/dosimeter/dosimeter/model/UsageType" "id" "I" (.int (5 : Int32))) (I8 : Fld Z h0 e5 "com/example/dosimeter/dosimeter/model/UsageType" "id" "I" (.int (6 : Int32))) (I9 : Fld Z h0 e6 "com/example/dosimeter/dosimeter/model/UsageType" "id" "I" (.int (7 : Int32))) (I10 : Fld Z h0 e7 "com/example/dosimeter/dosimeter/model/UsageType" "id" "I" (.int (8 : Int32))) (I11 : Fld Z h0 e8 "com/example/dosimeter/dosimeter/model/UsageType" "id" "I" (.int (9 : Int32))) (I12 : Fld Z h0 e9 "com/example/dosimeter/dosimeter/model/UsageType" "id" "I" (.int (11 : Int32))) (I13 : Fld Z h0 e10 "com/example/dosimeter/dosimeter/model/UsageType" "id" "I" (.int (12 : Int32))) (I14 : Fld Z h0 e11 "com/example/dosimeter/dosimeter/model/UsageType" "id" "I" (.int (13 : Int32))) (I15 : Fld Z h0 e12 "com/example/dosimeter/dosimeter/model/UsageType" "id" "I" (.int (14 : Int32))) (I16 : Sta Z h0 "com/example/dosimeter/dosimeter/model/UsageType" "RUNNING_VM" "Lcom/example/dosimeter/dosimeter/model/UsageType;" (.ref e0)) (I17 : Sta Z h0 "com/example/dosimeter/dosimeter/model/UsageType" "ALLOCATED_VM" "Lcom/example/dosimeter/dosimeter/model/UsageType;" (.ref e1)) (I18 : Sta Z h0 "com/example/dosimeter/dosimeter/model/UsageType" "IP_ADDRESS" "Lcom/example/dosimeter/dosimeter/model/UsageType;" (.ref e2)) (I19 : Sta Z h0 "com/example/dosimeter/dosimeter/model/UsageType" "NETWORK_BYTES_SENT" "Lcom/example/dosimeter/dosimeter/model/UsageType;" (.ref e3)) (I20 : Sta Z h0 "com/example/dosimeter/dosimeter/model/UsageType" "NETWORK_BYTES_RECEIVED" "Lcom/example/dosimeter/dosimeter/model/UsageType;" (.ref e4)) (I21 : Sta Z h0 "com/example/dosimeter/dosimeter/model/UsageType" "VOLUME" "Lcom/example/dosimeter/dosimeter/model/UsageType;" (.ref e5)) (I22 : Sta Z h0 "com/example/dosimeter/dosimeter/model/UsageType" "TEMPLATE" "Lcom/example/dosimeter/dosimeter/model/UsageType;" (.ref e6)) (I23 : Sta Z h0 "com/example/dosimeter/dosimeter/model/UsageType" "ISO" "Lcom/example/dosimeter/dosimeter/model/UsageType;" (.ref e7)) (I24 : Sta Z h0 "com/example/dosimeter/dosimeter/model/UsageType" "SNAPSHOT" "Lcom/example/dosimeter/dosimeter/model/UsageType;" (.ref e8)) (I25 : Sta Z h0 "com/example/dosimeter/dosimeter/model/UsageType" "LOAD_BALANCER_POLICY" "Lcom/example/dosimeter/dosimeter/model/UsageType;" (.ref e9)) (I26 : Sta Z h0 "com/example/dosimeter/dosimeter/model/UsageType" "PORT_FORWARDING_RULE" "Lcom/example/dosimeter/dosimeter/model/UsageType;" (.ref e10)) (I27 : Sta Z h0 "com/example/dosimeter/dosimeter/model/UsageType" "NETWORK_OFFERING" "Lcom/example/dosimeter/dosimeter/model/UsageType;" (.ref e11)) (I28 : Sta Z h0 "com/example/dosimeter/dosimeter/model/UsageType" "VPN_USERS" "Lcom/example/dosimeter/dosimeter/model/UsageType;" (.ref e12)) (I29 : Exa Z h0 e0 "com/example/dosimeter/dosimeter/model/UsageType") (I30 : Exa Z h0 e1 "com/example/dosimeter/dosimeter/model/UsageType") (I31 : Exa Z h0 e2 "com/example/dosimeter/dosimeter/model/UsageType") (I32 : Exa Z h0 e3 "com/example/dosimeter/dosimeter/model/UsageType") (I33 : Exa Z h0 e4 "com/example/dosimeter/dosimeter/model/UsageType") (I34 : Exa Z h0 e5 "com/example/dosimeter/dosimeter/model/UsageType") (I35 : Exa Z h0 e6 "com/example/dosimeter/dosimeter/model/UsageType") (I36 : Exa Z h0 e7 "com/example/dosimeter/dosimeter/model/UsageType") (I37 : Exa Z h0 e8 "com/example/dosimeter/dosimeter/model/UsageType") (I38 : Exa Z h0 e9 "com/example/dosimeter/dosimeter/model/UsageType") (I39 : Exa Z h0 e10 "com/example/dosimeter/dosimeter/model/UsageType") (I40 : Exa Z h0 e11 "com/example/dosimeter/dosimeter/model/UsageType") (I41 : Exa Z h0 e12 "com/example/dosimeter/dosimeter/model/UsageType")  :
    OMet l x code maxLocals ret room_1 #[(.int p1)] Z h0 (fun v h L => v = some (.int (1 : Int32)) ∧ OPr h0 [] h L) := by
  refine OMet.body pn_rm0 (Ls := #[.val (.int p1), .unset, .unset, .unset, .unset]) (fun m => by first | (simp [entryFrame, mkF, argsToLocals, Value.category, maxLocals]; done) | rfl) ?_
  intro p e s m below meth c T0 K hK X0 hx hby hml hown hnm hret hlk hZ eh0
  have P0 := OPr.refl h0 []
  refine g_iloadN X0 hx (hb hby at_0) (rfl : 0 + 1 = 1) rfl ?_
  refine g_ldcI X0 hx hZ hown (wd hw 0 rfl) (hb hby at_1) (rfl : 1 + 2 = 3) ?_
  refine g_iand X0 hx (hb hby at_3) (rfl : 3 + 1 = 4) (z := (p1 &&& (2147483647 : Int32))) rfl ?_
  refine g_bipush X0 hx (13 : Int32) (hb hby at_4) (rfl : 4 + 2 = 6) (by decide) ?_
  refine g_irem X0 hx (hb hby at_6) (rfl : 6 + 1 = 7) (by decide) ?_
  refine g_istoreN X0 hx (hb hby at_7) (rfl : 7 + 1 = 8) (Ls' := #[.val (.int p1), .val (.int ((p1 &&& (2147483647 : Int32)) % (13 : Int32))), .unset, .unset, .unset]) rfl ?_
  refine g_iloadN X0 hx (hb hby at_8) (rfl : 8 + 1 = 9) rfl ?_
  refine g_bipush X0 hx (9 : Int32) (hb hby at_9) (rfl : 9 + 2 = 11) (by decide) ?_
  have key : ∀ (cc : Int32) (hin : cc = (1 : Int32) ∨ cc = (2 : Int32) ∨ cc = (3 : Int32) ∨ cc = (4 : Int32) ∨ cc = (5 : Int32) ∨ cc = (6 : Int32) ∨ cc = (7 : Int32) ∨ cc = (8 : Int32) ∨ cc = (9 : Int32) ∨ cc = (11 : Int32) ∨ cc = (12 : Int32) ∨ cc = (13 : Int32) ∨ cc = (14 : Int32)), OGo p e below K T0 (mkF m 24 #[.val (.int p1), .val (.int ((p1 &&& (2147483647 : Int32)) % (13 : Int32))), .val (.int cc), .unset, .unset] []) := by
    intro cc hin
    obtain ⟨Eb, Fb⟩ := AA_is hin I29 I3 I30 I4 I31 I5 I32 I6 I33 I7 I34 I8 I35 I9 I36 I10 I37 I11 I38 I12 I39 I13 I40 I14 I41 I15
    refine g_iloadN X0 hx (hb hby at_24) (rfl : 24 + 1 = 25) rfl ?_
    refine g_static X0 hx hZ hown eh0 (rm_exp hw cc e0 e1 e2 e3 e4 e5 e6 e7 e8 e9 e10 e11 e12 I16 I17 I18 I19 I20 I21 I22 I23 I24 I25 I26 I27 I28) (wd hw 1 rfl) (wd hw 2 rfl) (wd hw 4 rfl) (wd hw 3 rfl) (by decide) (argsL := [(.int cc)]) (rest := []) rfl rfl (ps := [.int]) (rt := (some (.object "com/example/dosimeter/dosimeter/model/UsageType"))) (by decide) rfl (W := 0) (Nat.le_of_eq rfl) (by decide) (by decide) (by decide) (by decide) (by rw [hml]; rfl) (hb hby at_25) (rfl : 25 + 3 = 28) fun v1 T1 hh1 L1 X1 eh1 Q1 => ?_
    obtain ⟨rfl, Pc1⟩ := Q1
    have P1 := P0.call Pc1 all0
    show OGo p e below K T1 (mkF m 28 #[.val (.int p1), .val (.int ((p1 &&& (2147483647 : Int32)) % (13 : Int32))), .val (.int cc), .unset, .unset] [(.ref (AA cc e0 e1 e2 e3 e4 e5 e6 e7 e8 e9 e10 e11 e12))])
    refine g_astoreN X1 hx (hb hby at_28) (rfl : 28 + 1 = 29) rfl (Ls' := #[.val (.int p1), .val (.int ((p1 &&& (2147483647 : Int32)) % (13 : Int32))), .val (.int cc), .val (.ref (AA cc e0 e1 e2 e3 e4 e5 e6 e7 e8 e9 e10 e11 e12)), .unset]) rfl ?_
    refine g_iloadN X1 hx (hb hby at_29) (rfl : 29 + 1 = 30) rfl ?_
    have F3 := (staP I0 Pc1)
    have F4 := (aryP I1 Pc1 nin0)
    have F5 := (exaP I2 Pc1)
    have F6 := (fldP I3 Pc1 nin0)
    have F7 := (fldP I4 Pc1 nin0)
    have F8 := (fldP I5 Pc1 nin0)
    have F9 := (fldP I6 Pc1 nin0)
    have F10 := (fldP I7 Pc1 nin0)
    have F11 := (fldP I8 Pc1 nin0)
    have F12 := (fldP I9 Pc1 nin0)
    have F13 := (fldP I10 Pc1 nin0)
    have F14 := (fldP I11 Pc1 nin0)
    have F15 := (fldP I12 Pc1 nin0)
    have F16 := (fldP I13 Pc1 nin0)
    have F17 := (fldP I14 Pc1 nin0)
    have F18 := (fldP I15 Pc1 nin0)
    refine g_static X1 hx hZ hown eh1 (rm_from hw cc av kv e0 e1 e2 e3 e4 e5 e6 e7 e8 e9 e10 e11 e12 F3 F4 F5 F6 F7 F8 F9 F10 F11 F12 F13 F14 F15 F16 F17 F18 hin) (wd hw 8 rfl) (wd hw 9 rfl) (wd hw 10 rfl) (wd hw 6 rfl) (by decide) (argsL := [(.int cc)]) (rest := []) rfl rfl (ps := [.int]) (rt := (some (.object "com/example/dosimeter/dosimeter/model/UsageType"))) (by decide) rfl (W := 0) (Nat.le_of_eq rfl) (by decide) (by decide) (by decide) (by decide) (by rw [hml]; rfl) (hb hby at_30) (rfl : 30 + 3 = 33) fun v2 T2 hh2 L2 X2 eh2 Q2 => ?_
    obtain ⟨rfl, Pc2⟩ := Q2
    have P2 := P1.call Pc2 all0
    show OGo p e below K T2 (mkF m 33 #[.val (.int p1), .val (.int ((p1 &&& (2147483647 : Int32)) % (13 : Int32))), .val (.int cc), .val (.ref (AA cc e0 e1 e2 e3 e4 e5 e6 e7 e8 e9 e10 e11 e12)), .unset] [(.ref (AA cc e0 e1 e2 e3 e4 e5 e6 e7 e8 e9 e10 e11 e12))])
    refine g_astore X2 hx (hb hby at_33) (rfl : 33 + 2 = 35) rfl (Ls' := #[.val (.int p1), .val (.int ((p1 &&& (2147483647 : Int32)) % (13 : Int32))), .val (.int cc), .val (.ref (AA cc e0 e1 e2 e3 e4 e5 e6 e7 e8 e9 e10 e11 e12)), .val (.ref (AA cc e0 e1 e2 e3 e4 e5 e6 e7 e8 e9 e10 e11 e12))]) rfl ?_
    refine g_aload X2 hx (hb hby at_35) (rfl : 35 + 2 = 37) rfl rfl ?_
    refine g_aloadN X2 hx (hb hby at_37) (rfl : 37 + 1 = 38) rfl rfl ?_
    refine g_acmpN X2 hx (hb hby at_38) rfl rfl (XT.aa_ne_f rfl) (rfl : 38 + 3 = 41) ?_
    refine g_aload X2 hx (hb hby at_41) (rfl : 41 + 2 = 43) rfl rfl ?_
    have F20 := (fldP Fb P2 nin0)
    have F21 := (exaP Eb P2)
    refine g_virtual X2 hx hZ hown eh2 (rm_id hw (AA cc e0 e1 e2 e3 e4 e5 e6 e7 e8 e9 e10 e11 e12) cc F20) (C := "com/example/dosimeter/dosimeter/model/UsageType") (wd hw 40 rfl) (wd hw 41 rfl) (notFace_of_selects (args := #[]) (mvT hZ (wd hw 43 rfl))) (wd hw 43 rfl) (wd hw 42 rfl) (wd hw 44 rfl) (wd hw 6 rfl) (by decide) (a := (AA cc e0 e1 e2 e3 e4 e5 e6 e7 e8 e9 e10 e11 e12)) F21 (argsL := []) (rest := []) rfl rfl (ps := []) (rt := (some .int)) (by decide) rfl (W := 0) (Nat.le_of_eq rfl) (by decide) (by decide) (by decide) (by decide) (by rw [hml]; rfl) (hb hby at_43) (rfl : 43 + 3 = 46) fun v19 T19 hh19 L19 X19 eh19 Q19 => ?_
    obtain ⟨rfl, Pc19⟩ := Q19
    have P19 := P2.call Pc19 all0
    show OGo p e below K T19 (mkF m 46 #[.val (.int p1), .val (.int ((p1 &&& (2147483647 : Int32)) % (13 : Int32))), .val (.int cc), .val (.ref (AA cc e0 e1 e2 e3 e4 e5 e6 e7 e8 e9 e10 e11 e12)), .val (.ref (AA cc e0 e1 e2 e3 e4 e5 e6 e7 e8 e9 e10 e11 e12))] [(.int cc)])
    refine g_iloadN X19 hx (hb hby at_46) (rfl : 46 + 1 = 47) rfl ?_
    refine g_icmpN X19 hx (hb hby at_47) (XT.ii_ne_f rfl) (rfl : 47 + 3 = 50) ?_
    refine g_iconst X19 hx (1 : Int32) (hb hby at_50) (rfl : 50 + 1 = 51) (by decide) ?_
    refine g_goto X19 hx (hb hby at_51) (by decide) (pc' := 55) (by decide) ?_
    exact g_ret X19 hx hret hlk rfl (Or.inl ⟨rfl, Or.inr (Or.inl rfl), _, rfl⟩) (hb hby at_55) (by decide) (by decide) eh19 hK ⟨rfl, P19⟩
  have hk := k13 p1
  by_cases k9 : ((p1 &&& (2147483647 : Int32)) % (13 : Int32)) < (9 : Int32)
  · refine g_icmpN X0 hx (hb hby at_11) (XT.ii_ge_f k9) (rfl : 11 + 3 = 14) ?_
    refine g_iloadN X0 hx (hb hby at_14) (rfl : 14 + 1 = 15) rfl ?_
    refine g_iconst X0 hx (1 : Int32) (hb hby at_15) (rfl : 15 + 1 = 16) (by decide) ?_
    refine g_iadd X0 hx (hb hby at_16) (rfl : 16 + 1 = 17) (z := (((p1 &&& (2147483647 : Int32)) % (13 : Int32)) + (1 : Int32))) rfl ?_
    refine g_goto X0 hx (hb hby at_17) (by decide) (pc' := 23) (by decide) ?_
    refine g_istoreN X0 hx (hb hby at_23) (rfl : 23 + 1 = 24) (Ls' := #[.val (.int p1), .val (.int ((p1 &&& (2147483647 : Int32)) % (13 : Int32))), .val (.int (((p1 &&& (2147483647 : Int32)) % (13 : Int32)) + (1 : Int32))), .unset, .unset]) rfl ?_
    refine key _ ?_
    generalize (p1 &&& (2147483647 : Int32)) % (13 : Int32) = k at *
    rcases hk with rfl | rfl | rfl | rfl | rfl | rfl | rfl | rfl | rfl | rfl | rfl | rfl | rfl <;> (revert k9; decide)
  · refine g_icmpY X0 hx (hb hby at_11) (XT.ii_ge_t k9) (by decide) (pc' := 20) (by decide) ?_
    refine g_iloadN X0 hx (hb hby at_20) (rfl : 20 + 1 = 21) rfl ?_
    refine g_iconst X0 hx (2 : Int32) (hb hby at_21) (rfl : 21 + 1 = 22) (by decide) ?_
    refine g_iadd X0 hx (hb hby at_22) (rfl : 22 + 1 = 23) (z := (((p1 &&& (2147483647 : Int32)) % (13 : Int32)) + (2 : Int32))) rfl ?_
    refine g_istoreN X0 hx (hb hby at_23) (rfl : 23 + 1 = 24) (Ls' := #[.val (.int p1), .val (.int ((p1 &&& (2147483647 : Int32)) % (13 : Int32))), .val (.int (((p1 &&& (2147483647 : Int32)) % (13 : Int32)) + (2 : Int32))), .unset, .unset]) rfl ?_
    refine key _ ?_
    generalize (p1 &&& (2147483647 : Int32)) % (13 : Int32) = k at *
    rcases hk with rfl | rfl | rfl | rfl | rfl | rfl | rfl | rfl | rfl | rfl | rfl | rfl | rfl <;> (revert k9; decide)
set_option maxRecDepth 65536 in
set_option maxHeartbeats 40000000 in
theorem comes_1 {Post : Tables → Env → Array Value → State → Outcome → State → Prop} (hpost : ∀ tb e args s v u, (limb_1_1.after args s (.returned v) u = true ∧ limb_1_2.after args s (.returned v) u = true ∧ True) → Jvm.Pilot.@@N@@.Jvm.D.Framed s (.returned v) u (Jvm.fieldLocs frame_1_writes args s ++ Jvm.arrayLocs frame_1_arrays args s ++ Jvm.staticLocs frame_1_statics s) 16 128 → Post tb e args s (.returned v) u) :
    ArmFor flags0 classFile x code maxLocals ret World_1 tables_1 room_1 Calls_1 rest_1 Pre_1 Post := by
  intro l hfl _ _ p e ha hc hk s m args below hf hA hF happ hP
  obtain ⟨hcalls, hrest, hpre⟩ := hP
  obtain ⟨-, -, -, hnamed, -, -, -, hat⟩ := (Spec.applies_iff hf).mp happ
  obtain ⟨hg, hn⟩ := and_e (Cond.before_iff.mp (show (Jvm.Cond.and given_1 narrow_1).before args s = true from hpre))
  obtain ⟨h1, hgg⟩ := and_e hg
  obtain ⟨w0, rfl⟩ : ∃ w0 : Value, args = #[w0] := by
    have hs : args.size = 1 := by simpa [Cond.value, given_1] using h1
    obtain ⟨L⟩ := args
    match L, hs with
    | [w0], _ => exact ⟨w0, rfl⟩
  have hw := fun d (hd : d ∈ tables_1) => atoms_spec (ws := Jvm.Cond.code x code maxLocals ret :: tables_1) hat d (List.mem_cons_of_mem _ hd)
  have hfit : Fit s := fun {y c} hc i hi => by
    obtain ⟨ha, rfl⟩ := Array.getElem?_eq_some_iff.mp hc
    have q := List.all_eq_true.mp ((Array.all_eq_true_iff_forall_mem.mp hF) _ (Array.getElem_mem ha)) i (List.mem_range.mpr hi)
    simpa [Array.getElem?_eq_getElem hi] using q
  obtain ⟨i0, ea0⟩ := is_v hgg
  obtain rfl : w0 = (.int i0) := Option.some.inj ea0
  obtain ⟨x0, hn_0⟩ := and_e hn
  obtain ⟨aA, hn_1⟩ := and_e hn_0
  obtain ⟨aX, hn_2⟩ := and_e hn_1
  obtain ⟨aL, hn_3⟩ := and_e hn_2
  obtain ⟨m0, hn_4⟩ := and_e hn_3
  obtain ⟨x1, hn_5⟩ := and_e hn_4
  obtain ⟨m1, hn_6⟩ := and_e hn_5
  obtain ⟨x2, hn_7⟩ := and_e hn_6
  obtain ⟨m2, hn_8⟩ := and_e hn_7
  obtain ⟨x3, hn_9⟩ := and_e hn_8
  obtain ⟨m3, hn_10⟩ := and_e hn_9
  obtain ⟨x4, hn_11⟩ := and_e hn_10
  obtain ⟨m4, hn_12⟩ := and_e hn_11
  obtain ⟨x5, hn_13⟩ := and_e hn_12
  obtain ⟨m5, hn_14⟩ := and_e hn_13
  obtain ⟨x6, hn_15⟩ := and_e hn_14
  obtain ⟨m6, hn_16⟩ := and_e hn_15
  obtain ⟨x7, hn_17⟩ := and_e hn_16
  obtain ⟨m7, hn_18⟩ := and_e hn_17
  obtain ⟨x8, hn_19⟩ := and_e hn_18
  obtain ⟨m8, hn_20⟩ := and_e hn_19
  obtain ⟨x9, hn_21⟩ := and_e hn_20
  obtain ⟨m9, hn_22⟩ := and_e hn_21
  obtain ⟨x10, hn_23⟩ := and_e hn_22
  obtain ⟨m10, hn_24⟩ := and_e hn_23
  obtain ⟨x11, hn_25⟩ := and_e hn_24
  obtain ⟨m11, hn_26⟩ := and_e hn_25
  obtain ⟨x12, hn_27⟩ := and_e hn_26
  obtain ⟨m12, hn_28⟩ := and_e hn_27
  obtain ⟨o0, hn_29⟩ := and_e hn_28
  obtain ⟨o1, hn_30⟩ := and_e hn_29
  obtain ⟨o2, hn_31⟩ := and_e hn_30
  obtain ⟨o3, hn_32⟩ := and_e hn_31
  obtain ⟨o4, hn_33⟩ := and_e hn_32
  obtain ⟨o5, hn_34⟩ := and_e hn_33
  obtain ⟨o6, hn_35⟩ := and_e hn_34
  obtain ⟨o7, hn_36⟩ := and_e hn_35
  obtain ⟨o8, hn_37⟩ := and_e hn_36
  obtain ⟨o9, hn_38⟩ := and_e hn_37
  obtain ⟨o10, hn_39⟩ := and_e hn_38
  obtain ⟨o11, hn_40⟩ := and_e hn_39
  have o12 := hn_40
  obtain ⟨ba, va, Sa, Ea⟩ := exSta aX (Or.inr ⟨(wd hw 6 rfl), (wd hw 15 rfl)⟩)
  obtain ⟨b0, v0, S0, E0⟩ := exSta x0 (Or.inr ⟨(wd hw 6 rfl), (wd hw 7 rfl)⟩)
  have O0 := eqFld v0 o0
  obtain ⟨b1, v1, S1, E1⟩ := exSta x1 (Or.inr ⟨(wd hw 6 rfl), (wd hw 23 rfl)⟩)
  have O1 := eqFld v1 o1
  obtain ⟨b2, v2, S2, E2⟩ := exSta x2 (Or.inr ⟨(wd hw 6 rfl), (wd hw 24 rfl)⟩)
  have O2 := eqFld v2 o2
  obtain ⟨b3, v3, S3, E3⟩ := exSta x3 (Or.inr ⟨(wd hw 6 rfl), (wd hw 25 rfl)⟩)
  have O3 := eqFld v3 o3
  obtain ⟨b4, v4, S4, E4⟩ := exSta x4 (Or.inr ⟨(wd hw 6 rfl), (wd hw 26 rfl)⟩)
  have O4 := eqFld v4 o4
  obtain ⟨b5, v5, S5, E5⟩ := exSta x5 (Or.inr ⟨(wd hw 6 rfl), (wd hw 27 rfl)⟩)
  have O5 := eqFld v5 o5
  obtain ⟨b6, v6, S6, E6⟩ := exSta x6 (Or.inr ⟨(wd hw 6 rfl), (wd hw 28 rfl)⟩)
  have O6 := eqFld v6 o6
  obtain ⟨b7, v7, S7, E7⟩ := exSta x7 (Or.inr ⟨(wd hw 6 rfl), (wd hw 29 rfl)⟩)
  have O7 := eqFld v7 o7
  obtain ⟨b8, v8, S8, E8⟩ := exSta x8 (Or.inr ⟨(wd hw 6 rfl), (wd hw 30 rfl)⟩)
  have O8 := eqFld v8 o8
  obtain ⟨b9, v9, S9, E9⟩ := exSta x9 (Or.inr ⟨(wd hw 6 rfl), (wd hw 31 rfl)⟩)
  have O9 := eqFld v9 o9
  obtain ⟨b10, v10, S10, E10⟩ := exSta x10 (Or.inr ⟨(wd hw 6 rfl), (wd hw 32 rfl)⟩)
  have O10 := eqFld v10 o10
  obtain ⟨b11, v11, S11, E11⟩ := exSta x11 (Or.inr ⟨(wd hw 6 rfl), (wd hw 33 rfl)⟩)
  have O11 := eqFld v11 o11
  obtain ⟨b12, v12, S12, E12⟩ := exSta x12 (Or.inr ⟨(wd hw 6 rfl), (wd hw 34 rfl)⟩)
  have O12 := eqFld v12 o12
  obtain ⟨cl, A⟩ := Arr.start va aA
  obtain ⟨l1, l2⟩ := lenSt va A aL
  have AY := aryStart hfit A l2 (vs := [.ref b0, .ref b1, .ref b2, .ref b3, .ref b4, .ref b5, .ref b6, .ref b7, .ref b8, .ref b9, .ref b10, .ref b11, .ref b12]) (by have q := l1; simp at q ⊢; omega) (by
    intro i hi
    have hi2 : i = 0 ∨ i = 1 ∨ i = 2 ∨ i = 3 ∨ i = 4 ∨ i = 5 ∨ i = 6 ∨ i = 7 ∨ i = 8 ∨ i = 9 ∨ i = 10 ∨ i = 11 ∨ i = 12 := by simp at hi; omega
    rcases hi2 with rfl | rfl | rfl | rfl | rfl | rfl | rfl | rfl | rfl | rfl | rfl | rfl | rfl
    · exact elemSt va A v0 rfl m0
    · exact elemSt va A v1 rfl m1
    · exact elemSt va A v2 rfl m2
    · exact elemSt va A v3 rfl m3
    · exact elemSt va A v4 rfl m4
    · exact elemSt va A v5 rfl m5
    · exact elemSt va A v6 rfl m6
    · exact elemSt va A v7 rfl m7
    · exact elemSt va A v8 rfl m8
    · exact elemSt va A v9 rfl m9
    · exact elemSt va A v10 rfl m10
    · exact elemSt va A v11 rfl m11
    · exact elemSt va A v12 rfl m12)
  obtain ⟨n, o, r1, r2, r3, _, L, rfl, ⟨rfl, Pf⟩, hq⟩ := (rm0 hw i0 ba cl.cls b0 b1 b2 b3 b4 b5 b6 b7 b8 b9 b10 b11 b12 Sa AY Ea O0 O1 O2 O3 O4 O5 O6 O7 O8 O9 O10 O11 O12 S0 S1 S2 S3 S4 S5 S6 S7 S8 S9 S10 S11 S12 E0 E1 E2 E3 E4 E5 E6 E7 E8 E9 E10 E11 E12) tables_1 p e ha hc hk s m _ below hf ((Spec.applies_iff_loose hf).mp happ).1 ⟨rfl, State.Warmed39.refl s, rfl⟩ trivial
  refine ⟨n, _, r1, r2, r3, hpost _ _ _ _ _ _ ⟨Cond.after_iff.mpr rfl, Cond.after_iff.mpr (eq_i res_at (Term.int_eval (1)) rfl), trivial⟩ ⟨hq.1, hq.2.1, (hq.2.2.sift fun y hy => Or.inr (Pf.fr y hy)).mono (by decide) (by decide)⟩⟩
theorem main_1_1 : Claimed_1_1 := comes_1 fun _ _ _ _ _ _ h hF => ⟨h.1, hF⟩
theorem main_1_2 : Claimed_1_2 := comes_1 fun _ _ _ _ _ _ h hF => ⟨h.2.1, hF⟩
end Jvm.Pilot.@@N@@
namespace Jvm.Pilot.@@N@@
open Jvm Jvm.ClassFile Sem Op Lib Jvm.Free Jvm.Stand Jvm.Pilot.@@N@@.Jvm.D
/-! MADE BY PROGRAM (witnessworld.py) out of the Statement's table words and the real class files: 13 classes; the members and pool entries that the words name. The judged class is class 1, her method 1. -/
namespace start1
open Jvm.ClassFile
def u (s : String) : CpInfo := .utf8 (stringToUtf16 s)
/-- a pool by its gaps: so many unusable entries, then the entry; so many at the end -/
def gap : Nat → List CpInfo → List CpInfo
  | 0, r => r
  | n + 1, r => .unusable :: gap n r
def poolList (es : List (Nat × CpInfo)) (last : Nat) : List CpInfo := es.foldr (fun e r => gap e.1 (e.2 :: r)) (gap last [])
def pool (es : List (Nat × CpInfo)) (last : Nat) : Array CpInfo := ⟨poolList es last⟩
def fileOf (pool : Array CpInfo) (this : Nat) (attrs : Array Attribute := #[]) (ms : Array MethodInfo := #[]) (fl : Nat := 33) (sup : Nat := 0) (ifs : Array Nat := #[]) (fds : Array FieldInfo := #[]) : ClassFile where
  minorVersion := 0
  majorVersion := 65
  constantPool := pool
  accessFlags := fl
  thisClass := this
  superClass := sup
  interfaces := ifs
  fields := fds
  methods := ms
  attributes := attrs
def plain (name : String) (sup : Option ClassId) : Class where
  name := name
  kind := .ordinary
  loader := none
  accessFlags := 33
  super := sup
  interfaces := #[]
  cf := none
  fields := #[]
  methods := #[]
  instanceTypes := #[]
  staticTypes := #[]
  resolved := #[]
  callSites := []
  init := .initialized
  statics := none
  mirror := none

def pool0 : Array CpInfo := pool [(5, u "<init>"), (0, u "()V"), (1, .class_ 10), (1, u "java/lang/Object"), (85, u "clone"), (0, u "()Ljava/lang/Object;")] 26

def k0m0 : Method := { name := "<init>", desc := "()V", sig := { parameters := [], returnType := none }, accessFlags := 1, code := none }
def k0m1 : Method := { name := "clone", desc := "()Ljava/lang/Object;", sig := { parameters := [], returnType := some (.object "java/lang/Object") }, accessFlags := 260, code := none }
/-- java/lang/Object -/
def k0 : Class := { plain "java/lang/Object" none with
  accessFlags := 33
  interfaces := #[]
  cf := some (fileOf pool0 8 #[] #[{ accessFlags := 1, nameIndex := 5, descriptorIndex := 6, attributes := #[] }, { accessFlags := 260, nameIndex := 96, descriptorIndex := 97, attributes := #[] }] 33 0 #[] #[])
  fields := #[]
  methods := #[k0m0, k0m1]
  instanceTypes := #[]
  staticTypes := #[]
  resolved := Array.replicate 124 none
  statics := none }

def pool1 : Array CpInfo := pool [(2, .class_ 4), (1, u "java/lang/Object"), (0, u "<init>"), (0, u "()V"), (0, .integer 2147483647), (0, .methodref 9 10), (0, .class_ 11), (0, .nameAndType 12 13), (0, u "com/example/dosimeter/dosimeter/model/UsageTypeFromIdPinLaw"), (0, u "expectedFor"), (0, u "(I)Lcom/example/dosimeter/dosimeter/model/UsageType;"), (0, .methodref 15 16), (0, .class_ 17), (0, .nameAndType 18 13), (0, u "com/example/dosimeter/dosimeter/model/UsageType"), (0, u "fromId"), (0, .methodref 15 20), (0, .nameAndType 21 22), (0, u "id"), (0, u "()I"), (0, .fieldref 15 24), (0, .nameAndType 25 26), (0, u "RUNNING_VM"), (0, u "Lcom/example/dosimeter/dosimeter/model/UsageType;"), (0, .fieldref 15 28), (0, .nameAndType 29 26), (0, u "ALLOCATED_VM"), (0, .fieldref 15 31), (0, .nameAndType 32 26), (0, u "IP_ADDRESS"), (0, .fieldref 15 34), (0, .nameAndType 35 26), (0, u "NETWORK_BYTES_SENT"), (0, .fieldref 15 37), (0, .nameAndType 38 26), (0, u "NETWORK_BYTES_RECEIVED"), (0, .fieldref 15 40), (0, .nameAndType 41 26), (0, u "VOLUME"), (0, .fieldref 15 43), (0, .nameAndType 44 26), (0, u "TEMPLATE"), (0, .fieldref 15 46), (0, .nameAndType 47 26), (0, u "ISO"), (0, .fieldref 15 49), (0, .nameAndType 50 26), (0, u "SNAPSHOT"), (0, .fieldref 15 52), (0, .nameAndType 53 26), (0, u "LOAD_BALANCER_POLICY"), (0, .fieldref 15 55), (0, .nameAndType 56 26), (0, u "PORT_FORWARDING_RULE"), (0, .fieldref 15 58), (0, .nameAndType 59 26), (0, u "NETWORK_OFFERING"), (0, .fieldref 15 61), (0, .nameAndType 62 26), (0, u "VPN_USERS"), (2, u "law"), (0, u "(I)Z")] 3

def k1m0 : Method := { name := "<init>", desc := "()V", sig := { parameters := [], returnType := none }, accessFlags := 1, code := none }
def k1c1 : Code := { maxStack := 2, maxLocals := 5, code := code, exceptionTable := #[], attributes := #[] }
def k1m1 : Method := { name := "law", desc := "(I)Z", sig := { parameters := [.int], returnType := some .boolean }, accessFlags := 9, code := some k1c1 }
def k1c2 : Code := { maxStack := 2, maxLocals := 1, code := method_3_code, exceptionTable := #[], attributes := #[] }
def k1m2 : Method := { name := "expectedFor", desc := "(I)Lcom/example/dosimeter/dosimeter/model/UsageType;", sig := { parameters := [.int], returnType := some (.object "com/example/dosimeter/dosimeter/model/UsageType") }, accessFlags := 10, code := some k1c2 }
/-- com/example/dosimeter/dosimeter/model/UsageTypeFromIdPinLaw -/
def k1 : Class := { plain "com/example/dosimeter/dosimeter/model/UsageTypeFromIdPinLaw" (some 0) with
  accessFlags := 49
  interfaces := #[]
  cf := some (fileOf pool1 9 #[] #[{ accessFlags := 1, nameIndex := 5, descriptorIndex := 6, attributes := #[] }, { accessFlags := 9, nameIndex := 65, descriptorIndex := 66, attributes := #[] }, { accessFlags := 10, nameIndex := 12, descriptorIndex := 13, attributes := #[] }] 49 2 #[] #[])
  fields := #[]
  methods := #[k1m0, k1m1, k1m2]
  instanceTypes := #[]
  staticTypes := #[]
  resolved := Array.replicate 70 none
  statics := none }

def pool2 : Array CpInfo := pool [(1, .class_ 2), (0, u "java/lang/constant/Constable"), (0, .class_ 4), (0, u "java/lang/Object")] 6

/-- java/lang/constant/Constable -/
def k2 : Class := { plain "java/lang/constant/Constable" (some 0) with
  accessFlags := 1537
  interfaces := #[]
  cf := some (fileOf pool2 1 #[] #[] 1537 3 #[] #[])
  fields := #[]
  methods := #[]
  instanceTypes := #[]
  staticTypes := #[]
  resolved := Array.replicate 11 none
  statics := none }

def pool3 : Array CpInfo := pool [(1, .class_ 2), (0, u "java/lang/Comparable"), (0, .class_ 4), (0, u "java/lang/Object")] 7

/-- java/lang/Comparable -/
def k3 : Class := { plain "java/lang/Comparable" (some 0) with
  accessFlags := 1537
  interfaces := #[]
  cf := some (fileOf pool3 1 #[] #[] 1537 3 #[] #[])
  fields := #[]
  methods := #[]
  instanceTypes := #[]
  staticTypes := #[]
  resolved := Array.replicate 12 none
  statics := none }

def pool4 : Array CpInfo := pool [(1, .class_ 2), (0, u "java/io/Serializable"), (0, .class_ 4), (0, u "java/lang/Object")] 2

/-- java/io/Serializable -/
def k4 : Class := { plain "java/io/Serializable" (some 0) with
  accessFlags := 1537
  interfaces := #[]
  cf := some (fileOf pool4 1 #[] #[] 1537 3 #[] #[])
  fields := #[]
  methods := #[]
  instanceTypes := #[]
  staticTypes := #[]
  resolved := Array.replicate 7 none
  statics := none }

def pool5 : Array CpInfo := pool [(2, .class_ 4), (1, u "java/lang/Enum"), (0, u "name"), (0, u "Ljava/lang/String;"), (2, u "ordinal"), (0, u "I"), (1, .class_ 14), (1, u "java/lang/Object"), (4, u "hash"), (86, .class_ 108), (1, u "java/lang/Enum$EnumDesc"), (2, .class_ 112), (0, u "java/lang/constant/Constable"), (0, .class_ 114), (0, u "java/lang/Comparable"), (0, .class_ 116), (0, u "java/io/Serializable")] 87

/-- java/lang/Enum -/
def k5 : Class := { plain "java/lang/Enum" (some 0) with
  accessFlags := 1057
  interfaces := #[2, 3, 4]
  cf := some (fileOf pool5 2 #[.nestMembers #[106]] #[] 1057 12 #[111, 113, 115] #[{ accessFlags := 18, nameIndex := 5, descriptorIndex := 6, attributes := #[] }, { accessFlags := 18, nameIndex := 9, descriptorIndex := 10, attributes := #[] }, { accessFlags := 2, nameIndex := 19, descriptorIndex := 10, attributes := #[] }])
  fields := #[{ name := "name", type := (.object "java/lang/String"), accessFlags := 18, slot := 0, constantValue := 0 }, { name := "ordinal", type := .int, accessFlags := 18, slot := 1, constantValue := 0 }, { name := "hash", type := .int, accessFlags := 2, slot := 2, constantValue := 0 }]
  methods := #[]
  instanceTypes := #[(.object "java/lang/String"), .int, .int]
  staticTypes := #[]
  resolved := Array.replicate 204 none
  statics := none }

def pool6 : Array CpInfo := pool [(1, .class_ 2), (0, u "com/example/dosimeter/dosimeter/model/UsageType"), (2, u "RUNNING_VM"), (0, u "Lcom/example/dosimeter/dosimeter/model/UsageType;"), (2, u "ALLOCATED_VM"), (2, u "IP_ADDRESS"), (2, u "NETWORK_BYTES_SENT"), (2, u "NETWORK_BYTES_RECEIVED"), (2, u "VOLUME"), (2, u "TEMPLATE"), (2, u "ISO"), (2, u "SNAPSHOT"), (2, u "LOAD_BALANCER_POLICY"), (2, u "PORT_FORWARDING_RULE"), (2, u "NETWORK_OFFERING"), (2, u "VPN_USERS"), (0, .fieldref 1 44), (0, .nameAndType 45 46), (0, u "$VALUES"), (0, u "[Lcom/example/dosimeter/dosimeter/model/UsageType;"), (0, .methodref 48 49), (0, .class_ 46), (0, .nameAndType 50 51), (0, u "clone"), (0, u "()Ljava/lang/Object;"), (1, .class_ 55), (1, u "java/lang/Enum"), (21, .fieldref 1 78), (0, .nameAndType 79 80), (0, u "id"), (0, u "I"), (1, .class_ 84), (1, u "com/example/dosimeter/dosimeter/model/UsageType$Measure"), (1, u "Lcom/example/dosimeter/dosimeter/model/UsageType$Measure;"), (2, u "measure"), (2, u "opens"), (0, u "Lcom/example/dosimeter/dosimeter/model/EventType;"), (18, u "closes"), (0, u "Ljava/util/Set;"), (2, u "reads"), (2, u "counter"), (0, u "Ljava/lang/String;"), (16, u "resourceKind"), (0, u "Ljava/util/Optional;"), (2, u "resourceMembers"), (0, u "Ljava/util/List;"), (13, u "noun"), (2, u "state"), (4, u "unit"), (30, u "READ_ON"), (0, u "Ljava/util/Map;"), (7, u "OPENED_BY"), (2, u "CLOSED_BY"), (0, .methodref 1 209), (0, .nameAndType 210 211), (0, u "values"), (0, u "()[Lcom/example/dosimeter/dosimeter/model/UsageType;"), (138, u "USAGE_ID"), (1, u "HOURS"), (13, u "()I"), (16, u "fromId"), (0, u "(I)Lcom/example/dosimeter/dosimeter/model/UsageType;")] 54

def k6c0 : Code := { maxStack := 1, maxLocals := 0, code := prog_28_method_1_code, exceptionTable := #[], attributes := #[] }
def k6m0 : Method := { name := "values", desc := "()[Lcom/example/dosimeter/dosimeter/model/UsageType;", sig := { parameters := [], returnType := some (.array (.object "com/example/dosimeter/dosimeter/model/UsageType")) }, accessFlags := 9, code := some k6c0 }
def k6c1 : Code := { maxStack := 1, maxLocals := 1, code := prog_28_method_7_code, exceptionTable := #[], attributes := #[] }
def k6m1 : Method := { name := "id", desc := "()I", sig := { parameters := [], returnType := some .int }, accessFlags := 1, code := some k6c1 }
def k6c2 : Code := { maxStack := 3, maxLocals := 5, code := prog_28_method_19_code, exceptionTable := #[], attributes := #[] }
def k6m2 : Method := { name := "fromId", desc := "(I)Lcom/example/dosimeter/dosimeter/model/UsageType;", sig := { parameters := [.int], returnType := some (.object "com/example/dosimeter/dosimeter/model/UsageType") }, accessFlags := 9, code := some k6c2 }
/-- com/example/dosimeter/dosimeter/model/UsageType -/
def k6 : Class := { plain "com/example/dosimeter/dosimeter/model/UsageType" (some 5) with
  accessFlags := 16433
  interfaces := #[]
  cf := some (fileOf pool6 1 #[.nestMembers #[82]] #[{ accessFlags := 9, nameIndex := 210, descriptorIndex := 211, attributes := #[] }, { accessFlags := 1, nameIndex := 79, descriptorIndex := 366, attributes := #[] }, { accessFlags := 9, nameIndex := 383, descriptorIndex := 384, attributes := #[] }] 16433 53 #[] #[{ accessFlags := 16409, nameIndex := 5, descriptorIndex := 6, attributes := #[] }, { accessFlags := 16409, nameIndex := 9, descriptorIndex := 6, attributes := #[] }, { accessFlags := 16409, nameIndex := 12, descriptorIndex := 6, attributes := #[] }, { accessFlags := 16409, nameIndex := 15, descriptorIndex := 6, attributes := #[] }, { accessFlags := 16409, nameIndex := 18, descriptorIndex := 6, attributes := #[] }, { accessFlags := 16409, nameIndex := 21, descriptorIndex := 6, attributes := #[] }, { accessFlags := 16409, nameIndex := 24, descriptorIndex := 6, attributes := #[] }, { accessFlags := 16409, nameIndex := 27, descriptorIndex := 6, attributes := #[] }, { accessFlags := 16409, nameIndex := 30, descriptorIndex := 6, attributes := #[] }, { accessFlags := 16409, nameIndex := 33, descriptorIndex := 6, attributes := #[] }, { accessFlags := 16409, nameIndex := 36, descriptorIndex := 6, attributes := #[] }, { accessFlags := 16409, nameIndex := 39, descriptorIndex := 6, attributes := #[] }, { accessFlags := 16409, nameIndex := 42, descriptorIndex := 6, attributes := #[] }, { accessFlags := 26, nameIndex := 350, descriptorIndex := 120, attributes := #[] }, { accessFlags := 26, nameIndex := 352, descriptorIndex := 120, attributes := #[] }, { accessFlags := 26, nameIndex := 195, descriptorIndex := 196, attributes := #[] }, { accessFlags := 26, nameIndex := 204, descriptorIndex := 196, attributes := #[] }, { accessFlags := 26, nameIndex := 207, descriptorIndex := 196, attributes := #[] }, { accessFlags := 18, nameIndex := 79, descriptorIndex := 80, attributes := #[] }, { accessFlags := 18, nameIndex := 89, descriptorIndex := 86, attributes := #[] }, { accessFlags := 18, nameIndex := 92, descriptorIndex := 93, attributes := #[] }, { accessFlags := 18, nameIndex := 112, descriptorIndex := 113, attributes := #[] }, { accessFlags := 18, nameIndex := 116, descriptorIndex := 93, attributes := #[] }, { accessFlags := 18, nameIndex := 119, descriptorIndex := 120, attributes := #[] }, { accessFlags := 18, nameIndex := 137, descriptorIndex := 138, attributes := #[] }, { accessFlags := 18, nameIndex := 141, descriptorIndex := 142, attributes := #[] }, { accessFlags := 18, nameIndex := 156, descriptorIndex := 120, attributes := #[] }, { accessFlags := 18, nameIndex := 159, descriptorIndex := 120, attributes := #[] }, { accessFlags := 18, nameIndex := 164, descriptorIndex := 120, attributes := #[] }, { accessFlags := 4122, nameIndex := 45, descriptorIndex := 46, attributes := #[] }])
  fields := #[{ name := "RUNNING_VM", type := (.object "com/example/dosimeter/dosimeter/model/UsageType"), accessFlags := 16409, slot := 0, constantValue := 0 }, { name := "ALLOCATED_VM", type := (.object "com/example/dosimeter/dosimeter/model/UsageType"), accessFlags := 16409, slot := 1, constantValue := 0 }, { name := "IP_ADDRESS", type := (.object "com/example/dosimeter/dosimeter/model/UsageType"), accessFlags := 16409, slot := 2, constantValue := 0 }, { name := "NETWORK_BYTES_SENT", type := (.object "com/example/dosimeter/dosimeter/model/UsageType"), accessFlags := 16409, slot := 3, constantValue := 0 }, { name := "NETWORK_BYTES_RECEIVED", type := (.object "com/example/dosimeter/dosimeter/model/UsageType"), accessFlags := 16409, slot := 4, constantValue := 0 }, { name := "VOLUME", type := (.object "com/example/dosimeter/dosimeter/model/UsageType"), accessFlags := 16409, slot := 5, constantValue := 0 }, { name := "TEMPLATE", type := (.object "com/example/dosimeter/dosimeter/model/UsageType"), accessFlags := 16409, slot := 6, constantValue := 0 }, { name := "ISO", type := (.object "com/example/dosimeter/dosimeter/model/UsageType"), accessFlags := 16409, slot := 7, constantValue := 0 }, { name := "SNAPSHOT", type := (.object "com/example/dosimeter/dosimeter/model/UsageType"), accessFlags := 16409, slot := 8, constantValue := 0 }, { name := "LOAD_BALANCER_POLICY", type := (.object "com/example/dosimeter/dosimeter/model/UsageType"), accessFlags := 16409, slot := 9, constantValue := 0 }, { name := "PORT_FORWARDING_RULE", type := (.object "com/example/dosimeter/dosimeter/model/UsageType"), accessFlags := 16409, slot := 10, constantValue := 0 }, { name := "NETWORK_OFFERING", type := (.object "com/example/dosimeter/dosimeter/model/UsageType"), accessFlags := 16409, slot := 11, constantValue := 0 }, { name := "VPN_USERS", type := (.object "com/example/dosimeter/dosimeter/model/UsageType"), accessFlags := 16409, slot := 12, constantValue := 0 }, { name := "USAGE_ID", type := (.object "java/lang/String"), accessFlags := 26, slot := 13, constantValue := 0 }, { name := "HOURS", type := (.object "java/lang/String"), accessFlags := 26, slot := 14, constantValue := 0 }, { name := "READ_ON", type := (.object "java/util/Map"), accessFlags := 26, slot := 15, constantValue := 0 }, { name := "OPENED_BY", type := (.object "java/util/Map"), accessFlags := 26, slot := 16, constantValue := 0 }, { name := "CLOSED_BY", type := (.object "java/util/Map"), accessFlags := 26, slot := 17, constantValue := 0 }, { name := "id", type := .int, accessFlags := 18, slot := 3, constantValue := 0 }, { name := "measure", type := (.object "com/example/dosimeter/dosimeter/model/UsageType$Measure"), accessFlags := 18, slot := 4, constantValue := 0 }, { name := "opens", type := (.object "com/example/dosimeter/dosimeter/model/EventType"), accessFlags := 18, slot := 5, constantValue := 0 }, { name := "closes", type := (.object "java/util/Set"), accessFlags := 18, slot := 6, constantValue := 0 }, { name := "reads", type := (.object "com/example/dosimeter/dosimeter/model/EventType"), accessFlags := 18, slot := 7, constantValue := 0 }, { name := "counter", type := (.object "java/lang/String"), accessFlags := 18, slot := 8, constantValue := 0 }, { name := "resourceKind", type := (.object "java/util/Optional"), accessFlags := 18, slot := 9, constantValue := 0 }, { name := "resourceMembers", type := (.object "java/util/List"), accessFlags := 18, slot := 10, constantValue := 0 }, { name := "noun", type := (.object "java/lang/String"), accessFlags := 18, slot := 11, constantValue := 0 }, { name := "state", type := (.object "java/lang/String"), accessFlags := 18, slot := 12, constantValue := 0 }, { name := "unit", type := (.object "java/lang/String"), accessFlags := 18, slot := 13, constantValue := 0 }, { name := "$VALUES", type := (.array (.object "com/example/dosimeter/dosimeter/model/UsageType")), accessFlags := 4122, slot := 18, constantValue := 0 }]
  methods := #[k6m0, k6m1, k6m2]
  instanceTypes := #[(.object "java/lang/String"), .int, .int, .int, (.object "com/example/dosimeter/dosimeter/model/UsageType$Measure"), (.object "com/example/dosimeter/dosimeter/model/EventType"), (.object "java/util/Set"), (.object "com/example/dosimeter/dosimeter/model/EventType"), (.object "java/lang/String"), (.object "java/util/Optional"), (.object "java/util/List"), (.object "java/lang/String"), (.object "java/lang/String"), (.object "java/lang/String")]
  staticTypes := #[(.object "com/example/dosimeter/dosimeter/model/UsageType"), (.object "com/example/dosimeter/dosimeter/model/UsageType"), (.object "com/example/dosimeter/dosimeter/model/UsageType"), (.object "com/example/dosimeter/dosimeter/model/UsageType"), (.object "com/example/dosimeter/dosimeter/model/UsageType"), (.object "com/example/dosimeter/dosimeter/model/UsageType"), (.object "com/example/dosimeter/dosimeter/model/UsageType"), (.object "com/example/dosimeter/dosimeter/model/UsageType"), (.object "com/example/dosimeter/dosimeter/model/UsageType"), (.object "com/example/dosimeter/dosimeter/model/UsageType"), (.object "com/example/dosimeter/dosimeter/model/UsageType"), (.object "com/example/dosimeter/dosimeter/model/UsageType"), (.object "com/example/dosimeter/dosimeter/model/UsageType"), (.object "java/lang/String"), (.object "java/lang/String"), (.object "java/util/Map"), (.object "java/util/Map"), (.object "java/util/Map"), (.array (.object "com/example/dosimeter/dosimeter/model/UsageType"))]
  resolved := Array.replicate 439 none
  statics := some 0 }

def pool7 : Array CpInfo := pool [(1, .class_ 2), (0, u "java/lang/Cloneable"), (0, .class_ 4), (0, u "java/lang/Object")] 2

/-- java/lang/Cloneable -/
def k7 : Class := { plain "java/lang/Cloneable" (some 0) with
  accessFlags := 1537
  interfaces := #[]
  cf := some (fileOf pool7 1 #[] #[] 1537 3 #[] #[])
  fields := #[]
  methods := #[]
  instanceTypes := #[]
  staticTypes := #[]
  resolved := Array.replicate 7 none
  statics := none }

/-- the primitive byte -/
def k8 : Class := { plain "byte" none with kind := .primitive 'B', accessFlags := 0x411 }
/-- [B -/
def k9 : Class := { plain "[B" (some 0) with kind := .array 8 .byte, interfaces := #[7, 4], accessFlags := 1041 }

/-- the primitive int -/
def k10 : Class := { plain "int" none with kind := .primitive 'I', accessFlags := 0x411 }
/-- [I -/
def k11 : Class := { plain "[I" (some 0) with kind := .array 10 .int, interfaces := #[7, 4], accessFlags := 1041 }

/-- [Lcom/example/dosimeter/dosimeter/model/UsageType; -/
def k12 : Class := { plain "[Lcom/example/dosimeter/dosimeter/model/UsageType;" (some 0) with kind := .array 6 (.object "com/example/dosimeter/dosimeter/model/UsageType"), interfaces := #[7, 4], accessFlags := 1041 }

def heap : Heap := #[{ cls := 6, slots := #[.ref 2, .ref 3, .ref 4, .ref 5, .ref 6, .ref 7, .ref 8, .ref 9, .ref 10, .ref 11, .ref 12, .ref 13, .ref 14, .null, .null, .null, .null, .null, .ref 1], vm := .statics 6 },
  { cls := 12, slots := #[.ref 2, .ref 3, .ref 4, .ref 5, .ref 6, .ref 7, .ref 8, .ref 9, .ref 10, .ref 11, .ref 12, .ref 13, .ref 14], vm := .none },
  { cls := 6, slots := #[.null, .int 0, .int 0, .int 1, .null, .null, .null, .null, .null, .null, .null, .null, .null, .null], vm := .none },
  { cls := 6, slots := #[.null, .int 0, .int 0, .int 2, .null, .null, .null, .null, .null, .null, .null, .null, .null, .null], vm := .none },
  { cls := 6, slots := #[.null, .int 0, .int 0, .int 3, .null, .null, .null, .null, .null, .null, .null, .null, .null, .null], vm := .none },
  { cls := 6, slots := #[.null, .int 0, .int 0, .int 4, .null, .null, .null, .null, .null, .null, .null, .null, .null, .null], vm := .none },
  { cls := 6, slots := #[.null, .int 0, .int 0, .int 5, .null, .null, .null, .null, .null, .null, .null, .null, .null, .null], vm := .none },
  { cls := 6, slots := #[.null, .int 0, .int 0, .int 6, .null, .null, .null, .null, .null, .null, .null, .null, .null, .null], vm := .none },
  { cls := 6, slots := #[.null, .int 0, .int 0, .int 7, .null, .null, .null, .null, .null, .null, .null, .null, .null, .null], vm := .none },
  { cls := 6, slots := #[.null, .int 0, .int 0, .int 8, .null, .null, .null, .null, .null, .null, .null, .null, .null, .null], vm := .none },
  { cls := 6, slots := #[.null, .int 0, .int 0, .int 9, .null, .null, .null, .null, .null, .null, .null, .null, .null, .null], vm := .none },
  { cls := 6, slots := #[.null, .int 0, .int 0, .int 11, .null, .null, .null, .null, .null, .null, .null, .null, .null, .null], vm := .none },
  { cls := 6, slots := #[.null, .int 0, .int 0, .int 12, .null, .null, .null, .null, .null, .null, .null, .null, .null, .null], vm := .none },
  { cls := 6, slots := #[.null, .int 0, .int 0, .int 13, .null, .null, .null, .null, .null, .null, .null, .null, .null, .null], vm := .none },
  { cls := 6, slots := #[.null, .int 0, .int 0, .int 14, .null, .null, .null, .null, .null, .null, .null, .null, .null, .null], vm := .none }]
def classes : Array Class := #[k0, k1, k2, k3, k4, k5, k6, k7, k8, k9, k10, k11, k12]
def interned : List (Array UInt16 × Addr) := []
def slotsUsed : Nat := 214
def theMethod : MethodId := ⟨1, 1⟩
def args0 : Array Value := #[.int 5]
def aboutOver (below : List Frame) : State where
  vm := { classes := classes, interned := interned.toArray }
  heap := heap
  slotsUsed := slotsUsed
  threads := #[{ frames := .invoking theMethod args0 :: below }]
def below0 : List Frame := [.native { method := ⟨0, 0⟩, args := #[] }]
def about1 : State := aboutOver below0
def p0 : Program := .bare "" "" ""
def e0 : Env := launch0.env 0 0 0
theorem w_frames : about1.frames = Frame.invoking theMethod args0 :: below0 := rfl
set_option maxRecDepth 65536 in
theorem w_args : argsFit about1.vm theMethod args0 = true := by decide +kernel
set_option maxRecDepth 65536 in
theorem w_heap : heapFits about1 = true := by decide +kernel
set_option maxRecDepth 65536 in
theorem w_runnable : about1.curStatus? = some .runnable := by decide +kernel
set_option maxRecDepth 65536 in
theorem w_alone : about1.alone = true := by decide +kernel
set_option maxRecDepth 65536 in
theorem w_named : about1.methodNamed? x = some theMethod := by decide +kernel
set_option maxRecDepth 65536 in
theorem w_hears : about1.hears theMethod below0 = true := by decide +kernel
set_option maxRecDepth 65536 in
theorem w_ripe : about1.ripe theMethod args0 below0 = true := by decide +kernel
theorem w_running : about1.status = .running := rfl
set_option maxRecDepth 65536 in
theorem w_room : about1.hasRoom e0.platform room_1 = true :=
  launch0.hasRoom_least _ room_1 (by decide +kernel) (by decide +kernel) (by decide +kernel) (by decide +kernel) (by decide +kernel) (by decide +kernel)
theorem allAtoms_all (ts : List Jvm.Cond) (a : Array Jvm.Value) (st : Jvm.State) : (allAtoms ts).before a st = ts.all (fun c => c.before a st) := by
  induction ts with
  | nil => rfl
  | cons c t ih =>
    show (Jvm.Cond.and c (allAtoms t)).before a st = _
    rw [Jvm.Cond.before_and, ih, List.all_cons]
def words1 : List Jvm.Cond := Jvm.Cond.code x code maxLocals ret :: tables_1
/-- a 'code' word, met by the world's own term for the bytes: nothing is compared byte by byte -/
theorem code_word {y : MethodName} {bytes : ByteArray} {mx : Nat} {rt : Option FieldType} {a : Array Value} {s : State} {m : MethodId} {meth : Method} {c : Code} (h1 : s.methodNamed? y = some m) (h2 : s.vm.method? m = some meth) (h3 : meth.code = some c) (h4 : c.code = bytes)
    (h5 : (c.maxLocals == mx && c.exceptionTable.isEmpty && decide (c.maxStack ≤ mostOperands) && decide (meth.sig.returnType = rt) && !meth.locks && decide (parseMethodDescriptor y.desc = some meth.sig)) = true) : (Jvm.Cond.code y bytes mx rt).before a s = true := by
  simp only [Bool.and_eq_true, beq_iff_eq, Bool.not_eq_true', decide_eq_true_eq] at h5
  obtain ⟨⟨⟨⟨⟨g1, g2⟩, g3⟩, g4⟩, g5⟩, g6⟩ := h5
  simp [Cond.before, Cond.holds, Cond.value, h1, h2, h3, h4, g1, g2, g3, g4, g5, g6]
def isCode : Jvm.Cond → Bool
  | .code _ _ _ _ => true
  | _ => false
theorem all_split {L : List Jvm.Cond} {P : Jvm.Cond → Bool} (h1 : L.all (fun c => isCode c || P c) = true) (h2 : ∀ c ∈ L.filter isCode, P c = true) : L.all P = true := by
  refine List.all_eq_true.mpr fun c hc => ?_
  have h := List.all_eq_true.mp h1 c hc
  rcases Bool.eq_false_or_eq_true (isCode c) with hi | hi
  · exact h2 c (List.mem_filter.mpr ⟨hc, hi⟩)
  · simpa [hi] using h
set_option maxRecDepth 65536 in
theorem w_c0 : (Jvm.Cond.code x code maxLocals ret).before args0 about1 = true := code_word (m := ⟨1, 1⟩) (meth := k1m1) (c := k1c1) (by decide +kernel) rfl rfl rfl (by decide +kernel)
set_option maxRecDepth 65536 in
theorem w_c1 : (Jvm.Cond.code ({ cls := "com/example/dosimeter/dosimeter/model/UsageTypeFromIdPinLaw", name := "expectedFor", desc := "(I)Lcom/example/dosimeter/dosimeter/model/UsageType;" } : Jvm.MethodName) method_3_code (1 : Nat) (Option.some (Jvm.ClassFile.FieldType.object "com/example/dosimeter/dosimeter/model/UsageType"))).before args0 about1 = true := code_word (m := ⟨1, 2⟩) (meth := k1m2) (c := k1c2) (by decide +kernel) rfl rfl rfl (by decide +kernel)
set_option maxRecDepth 65536 in
theorem w_c2 : (Jvm.Cond.code ({ cls := "com/example/dosimeter/dosimeter/model/UsageType", name := "fromId", desc := "(I)Lcom/example/dosimeter/dosimeter/model/UsageType;" } : Jvm.MethodName) prog_28_method_19_code (5 : Nat) (Option.some (Jvm.ClassFile.FieldType.object "com/example/dosimeter/dosimeter/model/UsageType"))).before args0 about1 = true := code_word (m := ⟨6, 2⟩) (meth := k6m2) (c := k6c2) (by decide +kernel) rfl rfl rfl (by decide +kernel)
set_option maxRecDepth 65536 in
theorem w_c3 : (Jvm.Cond.code ({ cls := "com/example/dosimeter/dosimeter/model/UsageType", name := "values", desc := "()[Lcom/example/dosimeter/dosimeter/model/UsageType;" } : Jvm.MethodName) prog_28_method_1_code (0 : Nat) (Option.some (Jvm.ClassFile.FieldType.array (Jvm.ClassFile.FieldType.object "com/example/dosimeter/dosimeter/model/UsageType")))).before args0 about1 = true := code_word (m := ⟨6, 0⟩) (meth := k6m0) (c := k6c0) (by decide +kernel) rfl rfl rfl (by decide +kernel)
set_option maxRecDepth 65536 in
theorem w_c4 : (Jvm.Cond.code ({ cls := "com/example/dosimeter/dosimeter/model/UsageType", name := "id", desc := "()I" } : Jvm.MethodName) prog_28_method_7_code (1 : Nat) (Option.some Jvm.ClassFile.FieldType.int)).before args0 about1 = true := code_word (m := ⟨6, 1⟩) (meth := k6m1) (c := k6c1) (by decide +kernel) rfl rfl rfl (by decide +kernel)
def codes1 : List Jvm.Cond := [Jvm.Cond.code x code maxLocals ret, Jvm.Cond.code ({ cls := "com/example/dosimeter/dosimeter/model/UsageTypeFromIdPinLaw", name := "expectedFor", desc := "(I)Lcom/example/dosimeter/dosimeter/model/UsageType;" } : Jvm.MethodName) method_3_code (1 : Nat) (Option.some (Jvm.ClassFile.FieldType.object "com/example/dosimeter/dosimeter/model/UsageType")), Jvm.Cond.code ({ cls := "com/example/dosimeter/dosimeter/model/UsageType", name := "fromId", desc := "(I)Lcom/example/dosimeter/dosimeter/model/UsageType;" } : Jvm.MethodName) prog_28_method_19_code (5 : Nat) (Option.some (Jvm.ClassFile.FieldType.object "com/example/dosimeter/dosimeter/model/UsageType")), Jvm.Cond.code ({ cls := "com/example/dosimeter/dosimeter/model/UsageType", name := "values", desc := "()[Lcom/example/dosimeter/dosimeter/model/UsageType;" } : Jvm.MethodName) prog_28_method_1_code (0 : Nat) (Option.some (Jvm.ClassFile.FieldType.array (Jvm.ClassFile.FieldType.object "com/example/dosimeter/dosimeter/model/UsageType"))), Jvm.Cond.code ({ cls := "com/example/dosimeter/dosimeter/model/UsageType", name := "id", desc := "()I" } : Jvm.MethodName) prog_28_method_7_code (1 : Nat) (Option.some Jvm.ClassFile.FieldType.int)]
set_option maxRecDepth 65536 in
theorem codes_eq : words1.filter isCode = codes1 := rfl
theorem w_codes : ∀ c ∈ words1.filter isCode, c.before args0 about1 = true := by
  rw [codes_eq]
  intro c hc
  simp only [codes1, List.mem_cons, List.not_mem_nil, or_false] at hc
  rcases hc with rfl | rfl | rfl | rfl | rfl
  · exact w_c0
  · exact w_c1
  · exact w_c2
  · exact w_c3
  · exact w_c4
set_option maxRecDepth 65536 in
theorem w_t1 : (words1.take 24).all (fun c => isCode c || c.before args0 about1) = true := by decide +kernel
set_option maxRecDepth 65536 in
theorem w_t2 : ((words1.drop 24).take 24).all (fun c => isCode c || c.before args0 about1) = true := by decide +kernel
set_option maxRecDepth 65536 in
theorem w_t3 : ((words1.drop 24).drop 24).all (fun c => isCode c || c.before args0 about1) = true := by decide +kernel
theorem w_tables : (allAtoms (Jvm.Cond.code x code maxLocals ret :: tables_1)).before args0 about1 = true := by
  rw [allAtoms_all]
  show words1.all (fun c => c.before args0 about1) = true
  refine all_split ?_ w_codes
  rw [← List.take_append_drop 24 words1, List.all_append, w_t1, ← List.take_append_drop 24 (words1.drop 24), List.all_append, w_t2, w_t3]
  rfl
set_option maxRecDepth 65536 in
theorem w_case : (Jvm.Cond.and given_1 narrow_1).before args0 about1 = true := by decide +kernel
theorem w_applies : (headSpec (Jvm.Cond.code x code maxLocals ret :: tables_1) room_1).applies x e0.platform about1 = true :=
  (Spec.applies_iff w_frames).mpr ⟨w_running, w_runnable, w_alone, w_named, w_hears, w_ripe, w_room, w_tables⟩
theorem atStart : AtStart classFile x code maxLocals ret World_1 tables_1 room_1 Calls_1 rest_1 Pre_1 launch0 p0 e0 about1 theMethod args0 below0 :=
  ⟨lists_1, trivial, launch0.admits_env _ _ _, launch0.least_env, fairChoices_fair.cas, fairChoices_fair.clock, w_frames, w_args, w_heap, w_applies, trivial, trivial, w_case⟩
end start1
theorem witness_1 : WitnessClaimed_1 := ⟨start1.p0, start1.e0, start1.about1, start1.theMethod, start1.args0, start1.below0, start1.atStart⟩
end Jvm.Pilot.@@N@@
