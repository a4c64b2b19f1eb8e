import JvmDerived
import JvmDerived.Pilot.@@N@@Statement
import JvmDerived.Pilot.@@N@@Code
set_option linter.unusedVariables false
set_option linter.unusedSimpArgs false
namespace Jvm.Pilot.@@N@@
open Jvm Jvm.ClassFile Sem Op Lib Jvm.Free Jvm.Stand Jvm.LawKit Jvm.RoadKit Bundle Jvm.Pilot.@@N@@.Jvm.D

section Own
variable {p : Program} {l : Launch} {e : Env} {R : Room} {s : State} {m : MethodId} {args : Array Value} {below : List Frame} {meth : Method} {c : Code} {T : State} {locs : List Loc} {cells slots : Nat} {Z : State} {a0 : Array Value} {h h' h0 : Heap} {K : Outcome → State → Prop} {pc pc' : Nat} {Ls : Array Slot} {st : List Value} {own : String} {ws ws' : List Addr} {L L' : List Loc}
/-- what is left to show at a point of a walk -/
def OGo (p : Program) (e : Env) (below : List Frame) (K : Outcome → State → Prop) (T : State) (g : JFrame) : Prop :=
  ∃ s₂ o, Steps p.tables e below (T.setTop g) s₂ ∧ s₂.status = .running ∧ Ended s₂ below o ∧ K o s₂
theorem OGo.via {T' : State} {g g' : JFrame} (k : OGo p e below K T' g') (q : ∀ t, Steps p.tables e below (T'.setTop g') t → Steps p.tables e below (T.setTop g) t) : OGo p e below K T g := by
  obtain ⟨s₂, o, h1, h2⟩ := k; exact ⟨s₂, o, q _ h1, h2⟩
theorem OGo.tr {T' : State} {g g' : JFrame} (k : OGo p e below K T' g') (q : Steps p.tables e below (T.setTop g) (T'.setTop g')) : OGo p e below K T g := k.via fun _ r => q.trans r
/-- the cells of h0 stand in h but for those at ws; cells of statics stand; what was written is at ws or new -/
def OPr (h0 : Heap) (ws : List Addr) (h : Heap) (L : List Loc) : Prop := Keep h0 h ws ∧ (∀ (x : Addr) (c : Cell), h0[x]? = some c → c.vm.isStatics = true → h[x]? = some c) ∧ ∀ y ∈ L, y.base ∈ ws ∨ h0.size ≤ y.base
theorem OPr.refl (h : Heap) (ws : List Addr) : OPr h ws h [] := ⟨Keep.refl h ws, fun _ _ q _ => q, fun _ q => nomatch q⟩
theorem OPr.size (P : OPr h0 ws h L) : h0.size ≤ h.size := P.1.1
theorem OPr.ge (P : OPr h0 ws h L) {a : Addr} (q : a = h.size) : h0.size ≤ a := q ▸ P.1.1
theorem OPr.ext (P : OPr h0 ws h L) (E : Ext h h') : OPr h0 ws h' L := ⟨P.1.ext E, fun x c q r => E.2 _ _ (P.2.1 x c q r), P.2.2⟩
theorem OPr.wr {a : Addr} {sl : Nat} {v : Value} (P : OPr h0 ws h L) (W : Wr h h' a sl v) (q : a ∈ ws ∨ h0.size ≤ a) : OPr h0 ws h' (L ++ [⟨a, sl⟩]) := by
  refine ⟨P.1.wr W q, fun x c r1 r2 => ?_, fun y hy => ?_⟩
  · obtain ⟨c', e1, -, -, -, e5, -, e7⟩ := wr_at W (P.2.1 x c r1 r2)
    have ne : x ≠ a := fun u => by rw [(e7 u).2.2] at r2; cases r2
    rw [← e5 ne]; exact e1
  · rcases List.mem_append.mp hy with u | u
    · exact P.2.2 y u
    · cases List.mem_singleton.mp u; exact q
theorem OPr.call (P : OPr h0 ws h L) (P' : OPr h ws' h' L') (q : ∀ x ∈ ws', x ∈ ws ∨ h0.size ≤ x) : OPr h0 ws h' (L ++ L') := by
  refine ⟨P.1.trans P'.1 q, fun x c r1 r2 => P'.2.1 x c (P.2.1 x c r1 r2) r2, fun y hy => ?_⟩
  rcases List.mem_append.mp hy with u | u
  · exact P.2.2 y u
  · rcases P'.2.2 y u with v | v
    · exact q _ v
    · exact Or.inr (Nat.le_trans P.1.1 v)
theorem OPr.fr (P : OPr h0 [] h L) : Fr h0.size L := fun y hy => (P.2.2 y hy).elim (fun q => nomatch q) id
theorem fldP {a : Addr} {C n d : String} {v : Value} (F : Fld Z h0 a C n d v) (P : OPr h0 ws h L) (q : a ∉ ws) : Fld Z h a C n d v := F.keep P.1 q
theorem exaP {a : Addr} {C : String} (F : Exa Z h0 a C) (P : OPr h0 ws h L) : Exa Z h a C := F.keep P.1
theorem staP {C n d : String} {v : Value} (F : Sta Z h0 C n d v) (P : OPr h0 ws h L) : Sta Z h C n d v := by
  obtain ⟨cf, i, k, f, sa, cell, h1, h2, h3, h4, h5, h6, h7⟩ := F
  exact ⟨cf, i, k, f, sa, cell, h1, h2, h3, h4, P.2.1 _ _ h5 h6, h6, h7⟩
/-- an array, told whole -/
def OAry (Z : State) (h : Heap) (a : Addr) (k : ClassId) (ty : FieldType) (vs : List Value) : Prop := ∃ c : Cell, Arr Z h a c ty ∧ c.cls = k ∧ c.slots.toList = vs ∧ vs.length < 2 ^ 31 ∧ ∀ v ∈ vs, fits ty v = true
theorem aryP {a : Addr} {k : ClassId} {ty : FieldType} {vs : List Value} (F : OAry Z h0 a k ty vs) (P : OPr h0 ws h L) (q : a ∉ ws) : OAry Z h a k ty vs := by
  obtain ⟨c, A, r⟩ := F; exact ⟨c, ⟨P.1.2.1 a c A.1 q, A.2⟩, r⟩
theorem aryE {a : Addr} {k : ClassId} {ty : FieldType} {vs : List Value} (F : OAry Z h a k ty vs) (E : Ext h h') : OAry Z h' a k ty vs := by
  obtain ⟨c, A, r⟩ := F; exact ⟨c, A.ext E, r⟩
theorem aryO {a b : Addr} {k : ClassId} {ty : FieldType} {vs : List Value} {sl : Nat} {v : Value} (F : OAry Z h b k ty vs) (W : Wr h h' a sl v) (q : b ≠ a) : OAry Z h' b k ty vs := by
  obtain ⟨c, A, r⟩ := F; exact ⟨c, A.other W q, r⟩
theorem aryLt {a : Addr} {k : ClassId} {ty : FieldType} {vs : List Value} (F : OAry Z h a k ty vs) : a < h.size := by obtain ⟨c, A, -⟩ := F; exact A.lt
theorem arySet {a : Addr} {k : ClassId} {ty : FieldType} {vs vs' : List Value} {j : Nat} {v : Value} (F : OAry Z h a k ty vs) (W : Wr h h' a j v) (hf : fits ty v = true) (e : vs.set j v = vs') : OAry Z h' a k ty vs' := by
  obtain ⟨c, A, r1, rfl, r3, r4⟩ := F
  subst e
  refine ⟨_, A.same W, r1, ?_, by simpa using r3, fun u hu => ?_⟩
  · show (c.slots.setIfInBounds j v).toList = _
    simp
  · rcases List.mem_or_eq_of_mem_set hu with z | rfl
    · exact r4 u z
    · exact hf
theorem aryIn {c : Cell} {vs : List Value} {j : Int32} {v : Value} (q : c.slots.toList = vs) (hj : ¬ j < 0) (hv : vs[j.toNatClampNeg]? = some v) : ¬ (j < 0 ∨ c.slots.size ≤ j.toNatClampNeg) ∧ c.slots[j.toNatClampNeg]? = some v := by
  subst q
  have hv' : c.slots[j.toNatClampNeg]? = some v := by simpa using hv
  exact ⟨fun u => u.elim hj fun u => by have := (Array.getElem?_eq_some_iff.mp hv').1; omega, hv'⟩
theorem aryFit {a : Addr} {k : ClassId} {ty : FieldType} {vs : List Value} {c : Cell} (A : Arr Z h a c ty) (q : c.slots.toList = vs) (r : ∀ v ∈ vs, fits ty v = true) : FitC Z c := fun i v hv => by
  subst q
  obtain ⟨hs, k, hk, comp, hkind⟩ := A.2.1
  have e : Z.slotType? c.cls .none i = some ty := by simp [State.slotType?, hk, hkind]
  have m : v ∈ c.slots.toList := by obtain ⟨hi, rfl⟩ := Array.getElem?_eq_some_iff.mp hv; simp
  simp [State.fitsSlot, e, r v m]
/-- what a method that returned has left -/
def OFin (s : State) (rm : Room) (Q : Option Value → Heap → List Loc → Prop) (o : Outcome) (U' : State) : Prop := ∃ v L, o = .returned v ∧ Q v U'.heap L ∧ FrameEnd s o U' L rm.cells rm.slots
/-- a method's contract, at given arguments and a given heap -/
def OMet (l : Launch) (y : MethodName) (bytes : ByteArray) (maxL : Nat) (ret : Option FieldType) (rm : Room) (as : Array Value) (Z : State) (h0 : Heap) (Q : Option Value → Heap → List Loc → Prop) : Prop :=
  ∀ ws : List Jvm.Cond, MetFree l y (head1 (Jvm.Cond.code y bytes maxL ret :: ws) rm) (fun a U => a = as ∧ Z.Warmed39 U.vm ∧ U.heap = h0) (fun _ _ _ _ _ => True) (fun _ U o U' => OFin U rm Q o U')
theorem OMet.body {y : MethodName} {bytes : ByteArray} {maxL : Nat} {ret : Option FieldType} {rm : Room} {as : Array Value} {Q : Option Value → Heap → List Loc → Prop} {Ls : Array Slot} (hpl : plainFor y = true) (hef : ∀ m, entryFrame m as maxL = mkF m 0 Ls [])
    (H : ∀ (p : Program) (e : Env) (s : State) (m : MethodId) (below : List Frame) (meth : Method) (c : Code) (T : State) (K : Outcome → State → Prop), K = OFin s rm Q → Stand p l e rm s m as below meth c T [] 0 0 → p.tables.exec = Jvm.exec → c.code = bytes → c.maxLocals = maxL → s.vm.findClass y.cls = some m.cls → meth.name = y.name → meth.sig.returnType = ret → meth.locks = false → Z.Warmed39 s.vm → T.heap = h0 → OGo p e below K T (mkF m 0 Ls [])) :
    OMet l y bytes maxL ret rm as Z h0 Q := fun ws => by
  refine MetFree.of_bodySF hpl hisR ?_
  intro p e s m args below meth c s₁ Bd hml0 hP hK
  obtain ⟨rfl, hZ, hh⟩ := hP
  have e0 : s₁.heap = h0 := by rw [← hh, Bd.state]; rfl
  have k := H p e s m below meth c s₁ _ rfl (Stand.of_body Bd) Bd.exec Bd.bytes hml0 (findClass_of_methodNamed Bd.named) (name_of_methodNamed Bd.named Bd.method).1 Bd.returns Bd.notSynchronized hZ e0
  rw [← hef m] at k
  exact k
theorem g_ret {rm : Room} {Q : Option Value → Heap → List Loc → Prop} {t : FieldType} {w : Value} {i : Instr} (X : Stand p l e rm s m args below meth c T locs cells slots) (hx : p.tables.exec = Jvm.exec) (hret : meth.sig.returnType = some t) (hlk : meth.locks = false) (hn : narrow t w = w)
    (hi : (i = .ireturn ∧ (t = .int ∨ t = .boolean ∨ t = .byte ∨ t = .char ∨ t = .short) ∧ ∃ z, w = .int z) ∨ (i = .lreturn ∧ t = .long ∧ ∃ z, w = .long z) ∨ (i = .dreturn ∧ t = .double ∧ ∃ z, w = .double z) ∨ (i = .freturn ∧ t = .float ∧ ∃ z, w = .float z) ∨ (i = .areturn ∧ t.isReference = true ∧ w.isRef = true))
    (hd : decode c.code pc = .ok (i, 1)) (hc : cells ≤ rm.cells) (hs : slots ≤ rm.slots) (eT : T.heap = h) (hK : K = OFin s rm Q) (hQ : Q (some w) h locs) : OGo p e below K T (mkF m pc Ls (w :: st)) := by
  subst hK
  obtain ⟨fs, hr, hrun, hended, hW, hsame⟩ := X.leave (v := some w) (fun h => by rw [hret] at h; cases h) hlk
  exact ⟨_, _, retOut X hx hret hn hi hd hr, hrun, hended, _, _, rfl, by show Q _ T.heap _; rw [eT]; exact hQ, ⟨_, rfl⟩, hW, hsame.mono hc hs⟩
theorem g_ret0 {rm : Room} {Q : Option Value → Heap → List Loc → Prop} (X : Stand p l e rm s m args below meth c T locs cells slots) (hx : p.tables.exec = Jvm.exec) (hret : meth.sig.returnType = none) (hlk : meth.locks = false)
    (hd : decode c.code pc = .ok (.return_, 1)) (hc : cells ≤ rm.cells) (hs : slots ≤ rm.slots) (eT : T.heap = h) (hK : K = OFin s rm Q) (hQ : Q none h locs) : OGo p e below K T (mkF m pc Ls []) := by
  subst hK
  obtain ⟨fs, hr, hrun, hended, hW, hsame⟩ := X.leave (v := none) (fun _ => rfl) hlk
  exact ⟨_, _, X.returnOut hx hret hd hr, hrun, hended, _, _, rfl, by show Q _ T.heap _; rw [eT]; exact hQ, ⟨_, rfl⟩, hW, hsame.mono hc hs⟩
theorem g_getf (X : Stand p l e R s m args below meth c T locs cells slots) (hx : p.tables.exec = Jvm.exec) (hZ : Z.Warmed39 s.vm) (hown : s.vm.findClass own = some m.cls) {R0 O n d host : String} {index : Nat} (w : (Jvm.Cond.fieldLink own index R0 n d).before a0 Z = true ∨ (Jvm.Cond.fieldLinkNest own index R0 n d host).before a0 Z = true) (via : Via Z R0 O n d)
    (eT : T.heap = h) {a : Addr} {v : Value} (F : Fld Z h a O n d v) (hd : decode c.code pc = .ok (.getfield index, 3)) (hp : pc + 3 = pc')
    (k : ∀ T', Stand p l e R s m args below meth c T' locs cells slots → T'.heap = h → OGo p e below K T' (mkF m pc' Ls (v :: st))) : OGo p e below K T (mkF m pc Ls (.ref a :: st)) := by
  subst hp
  obtain ⟨T', X', e', q⟩ := getF X hx hZ hown w via eT F (g := mkF m pc Ls (.ref a :: st)) rfl rfl hd
  exact (k T' X' e').via q
theorem g_gets (X : Stand p l e R s m args below meth c T locs cells slots) (hx : p.tables.exec = Jvm.exec) (hZ : Z.Warmed39 s.vm) (hown : s.vm.findClass own = some m.cls) {R0 O n d host : String} {index : Nat} (w : (Jvm.Cond.fieldLink own index R0 n d).before a0 Z = true ∨ (Jvm.Cond.fieldLinkNest own index R0 n d host).before a0 Z = true) (via : Via Z R0 O n d)
    (eT : T.heap = h) {v : Value} (F : Sta Z h O n d v) (hd : decode c.code pc = .ok (.getstatic index, 3)) (hp : pc + 3 = pc')
    (k : ∀ T', Stand p l e R s m args below meth c T' locs cells slots → T'.heap = h → OGo p e below K T' (mkF m pc' Ls (v :: st))) : OGo p e below K T (mkF m pc Ls st) := by
  subst hp
  obtain ⟨T', X', e', q⟩ := getS2 X hx hZ hown w via eT F (g := mkF m pc Ls st) rfl hd
  exact (k T' X' e').via q
theorem g_putf (X : Stand p l e R s m args below meth c T locs cells slots) (hx : p.tables.exec = Jvm.exec) (hZ : Z.Warmed39 s.vm) (hown : s.vm.findClass own = some m.cls) {R0 O n d host C : String} {index kk : Nat} {ty : FieldType} (w : (Jvm.Cond.fieldLink own index R0 n d).before a0 Z = true ∨ (Jvm.Cond.fieldLinkNest own index R0 n d host).before a0 Z = true) (via : Via Z R0 O n d)
    (eT : T.heap = h) {a : Addr} {v old : Value} (F : Fld Z h a O n d old) (E : Exa Z h a C) (L : (Jvm.Cond.lays C O n d).before a0 Z = true ∨ ((Jvm.Cond.laysFinal C O n d).before a0 Z = true ∧ own = O ∧ meth.name = "<init>")) (wi : (Jvm.Cond.instantiable C kk).before a0 Z = true)
    (hty : parseFieldDescriptor d = some ty) (hn : narrow ty v = v) (hf : fits ty v = true) (P : OPr h0 ws h locs) (q : a ∈ ws ∨ h0.size ≤ a) (hd : decode c.code pc = .ok (.putfield index, 3)) (hp : pc + 3 = pc')
    (k : ∀ T' h', Stand p l e R s m args below meth c T' (locs ++ [⟨a, RoadKit.slotOf Z O n d⟩]) cells slots → T'.heap = h' → Wr h h' a (RoadKit.slotOf Z O n d) v → OPr h0 ws h' (locs ++ [⟨a, RoadKit.slotOf Z O n d⟩]) → Fld Z h' a O n d v → OGo p e below K T' (mkF m pc' Ls st)) : OGo p e below K T (mkF m pc Ls (v :: .ref a :: st)) := by
  subst hp
  obtain ⟨T', h', X', e', W', r⟩ := putF X hx hZ hown w via eT F E L wi hty hn hf (g := mkF m pc Ls (v :: .ref a :: st)) rfl rfl hd
  exact (k T' h' X' e' W' (P.wr W' q) (F.same W')).via r
theorem g_new (X : Stand p l e R s m args below meth c T locs cells slots) (hx : p.tables.exec = Jvm.exec) (hZ : Z.Warmed39 s.vm) (hown : s.vm.findClass own = some m.cls) {C : String} {index n : Nat} (w : (Jvm.Cond.classLink own index C).before a0 Z = true) (wi : (Jvm.Cond.instantiable C n).before a0 Z = true) (wz : (Jvm.Cond.initialized C).before a0 Z = true) (eT : T.heap = h)
    (P : OPr h0 ws h locs) (hd : decode c.code pc = .ok (.new index, 3)) (hp : pc + 3 = pc') (hc : cells + 1 ≤ R.cells) (hl : slots + n ≤ R.slots)
    (k : ∀ T' h' a, a = h.size → h0.size ≤ a → Stand p l e R s m args below meth c T' locs (cells + 1) (slots + n) → T'.heap = h' → Ext h h' → OPr h0 ws h' locs → Exa Z h' a C → (∀ {O nm d : String} {ty : FieldType}, Laid Z a0 C O nm d → parseFieldDescriptor d = some ty → Fld Z h' a O nm d (defaultValue ty)) → OGo p e below K T' (mkF m pc' Ls (.ref a :: st))) : OGo p e below K T (mkF m pc Ls st) := by
  subst hp
  obtain ⟨T', h', X', e', E', A', D', -, r⟩ := newO X hx hZ hown w wi wz eT (g := mkF m pc Ls st) rfl hd hc hl
  exact (k T' h' h.size rfl P.1.1 X' e' E' (P.ext E') A' D').via r
theorem g_inito (X : Stand p l e R s m args below meth c T locs cells slots) (hx : p.tables.exec = Jvm.exec) (hZ : Z.Warmed39 s.vm) (hown : s.vm.findClass own = some m.cls) {idx : Nat} (w1 : (Jvm.Cond.methodLink own idx Lib.objectInit).before a0 Z = true) (w2 : (Jvm.Cond.instanceMethod Lib.objectInit).before a0 Z = true)
    (w3 : (Jvm.Cond.code Lib.objectInit ⟨#[0xb1]⟩ 1 none).before a0 Z = true) (eT : T.heap = h) (hsize : Ls.size = c.maxLocals) {a : Addr} (hd : decode c.code pc = .ok (.invokespecial idx, 3)) (hp : pc + 3 = pc')
    (hf : 1 ≤ R.frames) {W : Nat} (hW : (st.map fun v => v.category).sum ≤ W) (hl : W + 12 ≤ R.locals)
    (k : ∀ T', Stand p l e R s m args below meth c T' locs cells slots → T'.heap = h → OGo p e below K T' (mkF m pc' Ls st)) : OGo p e below K T (mkF m pc Ls (.ref a :: st)) := by
  subst hp
  obtain ⟨T', X', e', q⟩ := initO X hx hZ hown w1 w2 w3 eT (g := mkF m pc Ls (.ref a :: st)) rfl hsize rfl hd hf (W := W) (by show 2 * 0 + _ ≤ _; omega) hl
  exact (k T' X' e').via q
theorem OMet.back {y : MethodName} {bytes : ByteArray} {maxL : Nat} {ret : Option FieldType} {rm : Room} {as : Array Value} {Q : Option Value → Heap → List Loc → Prop} {len W : Nat} (hM : OMet l y bytes maxL ret rm as Z h Q) (hZ : Z.Warmed39 s.vm) (wc : (Jvm.Cond.code y bytes maxL ret).before a0 Z = true) (wz : (Jvm.Cond.initialized y.cls).before a0 Z = true) (hf : rm.frames + 1 ≤ R.frames) (hl : W + (maxL + 11) + rm.locals ≤ R.locals) :
    Back l R p e below s args y len W (fun A a => a = as ∧ A.U.heap = h ∧ A.cells + rm.cells ≤ R.cells ∧ A.slots + rm.slots ≤ R.slots)
      (fun A _ v B => ∃ L, Q v B.U.heap L ∧ B.locs = A.locs ++ L ∧ B.cells = A.cells + rm.cells ∧ B.slots = A.slots + rm.slots) := backOf (hM []) hZ wc wz hf hl
theorem g_special (X : Stand p l e R s m args below meth c T locs cells slots) (hx : p.tables.exec = Jvm.exec) (hZ : Z.Warmed39 s.vm) (hown : s.vm.findClass own = some m.cls) (eT : T.heap = h) {y : MethodName} {bytes : ByteArray} {maxL index : Nat} {rm : Room} {as : Array Value} {Q : Option Value → Heap → List Loc → Prop} (hM : OMet l y bytes maxL none rm as Z h Q) (hy1 : y.name = "<init>")
    (w1 : (Jvm.Cond.methodLink own index y).before a0 Z = true) (w2 : (Jvm.Cond.instanceMethod y).before a0 Z = true) (w3 : (Jvm.Cond.code y bytes maxL none).before a0 Z = true) (wz : (Jvm.Cond.initialized y.cls).before a0 Z = true) (hy : y.cls ≠ "java/lang/invoke/MethodHandle" ∧ y.cls ≠ "java/lang/invoke/VarHandle")
    {a : Addr} {argsL rest : List Value} (has : (.ref a :: argsL).toArray = as) (hst : st = argsL.reverse ++ .ref a :: rest) {W : Nat} {ps : List FieldType} (hde : parseMethodDescriptor y.desc = some ⟨ps, none⟩) (hlen : argsL.length = ps.length) (hW : (rest.map fun v => v.category).sum ≤ W) (hf : rm.frames + 1 ≤ R.frames) (hl : W + (maxL + 11) + rm.locals ≤ R.locals) (hc : cells + rm.cells ≤ R.cells) (hs : slots + rm.slots ≤ R.slots)
    (hsize : Ls.size = c.maxLocals) (hd : decode c.code pc = .ok (.invokespecial index, 3)) (hp : pc + 3 = pc')
    (k : ∀ v T' h' L, Stand p l e R s m args below meth c T' (locs ++ L) (cells + rm.cells) (slots + rm.slots) → T'.heap = h' → Q v h' L → OGo p e below K T' (mkF m pc' Ls (v.toList ++ rest))) : OGo p e below K T (mkF m pc Ls st) := by
  subst hp has
  obtain ⟨v, vm₁, ⟨T', L', c', n'⟩, -, X', ⟨Lc, hQ, l1, y1, z1⟩, r⟩ := X.specialBack hx (y := y) hy1 hown (mvT hZ w1) (mvT hZ w2) (mvT hZ w3) hy (hM.back (W := W) hZ w3 wz hf hl) (g := mkF m pc Ls st) rfl hsize (Steps.refl _) (a := a) (argsL := argsL) (rest := rest) (lenOf hde hlen) hst (by show 2 * 0 + _ ≤ _; omega) hd (fun _ _ => ⟨rfl, eT, hc, hs⟩)
  dsimp only [Pt.U, Pt.locs, Pt.cells, Pt.slots] at X' l1 y1 z1 r hQ
  subst l1 y1 z1
  exact (k v T' _ Lc X' rfl hQ).tr r
theorem g_virtual (X : Stand p l e R s m args below meth c T locs cells slots) (hx : p.tables.exec = Jvm.exec) (hZ : Z.Warmed39 s.vm) (hown : s.vm.findClass own = some m.cls) (eT : T.heap = h) {y z : MethodName} {bytes : ByteArray} {maxL index : Nat} {ret : Option FieldType} {rm : Room} {as : Array Value} {Q : Option Value → Heap → List Loc → Prop} (hM : OMet l z bytes maxL ret rm as Z h Q) {C : String}
    (w1 : (Jvm.Cond.methodLink own index y).before a0 Z = true) (w2 : (Jvm.Cond.declares y).before a0 Z = true) (nf : NotFace s y) (w3 : (Jvm.Cond.selects C y z).before a0 Z = true) (w4 : (Jvm.Cond.instanceMethod z).before a0 Z = true) (w5 : (Jvm.Cond.code z bytes maxL ret).before a0 Z = true) (wz : (Jvm.Cond.initialized z.cls).before a0 Z = true) (hy : y.cls ≠ "java/lang/invoke/MethodHandle" ∧ y.cls ≠ "java/lang/invoke/VarHandle")
    {a : Addr} (E : Exa Z h a C) {argsL rest : List Value} (has : (.ref a :: argsL).toArray = as) (hst : st = argsL.reverse ++ .ref a :: rest) {W : Nat} {ps : List FieldType} {rt : Option FieldType} (hde : parseMethodDescriptor y.desc = some ⟨ps, rt⟩) (hlen : argsL.length = ps.length) (hW : (rest.map fun v => v.category).sum ≤ W) (hf : rm.frames + 1 ≤ R.frames) (hl : W + (maxL + 11) + rm.locals ≤ R.locals) (hc : cells + rm.cells ≤ R.cells) (hs : slots + rm.slots ≤ R.slots)
    (hsize : Ls.size = c.maxLocals) (hd : decode c.code pc = .ok (.invokevirtual index, 3)) (hp : pc + 3 = pc')
    (k : ∀ v T' h' L, Stand p l e R s m args below meth c T' (locs ++ L) (cells + rm.cells) (slots + rm.slots) → T'.heap = h' → Q v h' L → OGo p e below K T' (mkF m pc' Ls (v.toList ++ rest))) : OGo p e below K T (mkF m pc Ls st) := by
  subst hp has
  obtain ⟨cB, kB, q1, q2, q3⟩ := isOf (T := T) hZ eT E
  obtain ⟨v, vm₁, ⟨T', L', c', n'⟩, -, X', ⟨Lc, hQ, l1, y1, z1⟩, r⟩ := X.virtualBack hx (y := y) (z := z) hown (mvT hZ w1) (mvT hZ w2) nf (mvT hZ w3) (mvT hZ w4) hy (hM.back (W := W) hZ w5 wz hf hl) q1 q3 (g := mkF m pc Ls st) rfl hsize (Steps.refl _) (argsL := argsL) (rest := rest) (lenOf hde hlen) hst (by show 2 * 0 + _ ≤ _; omega) hd (fun _ _ => ⟨rfl, eT, hc, hs⟩)
  dsimp only [Pt.U, Pt.locs, Pt.cells, Pt.slots] at X' l1 y1 z1 r hQ
  subst l1 y1 z1
  exact (k v T' _ Lc X' rfl hQ).tr r
theorem g_virtualUp (X : Stand p l e R s m args below meth c T locs cells slots) (hx : p.tables.exec = Jvm.exec) (hZ : Z.Warmed39 s.vm) (hown : s.vm.findClass own = some m.cls) (eT : T.heap = h) {y z : MethodName} {bytes : ByteArray} {maxL index : Nat} {ret : Option FieldType} {rm : Room} {as : Array Value} {Q : Option Value → Heap → List Loc → Prop} (hM : OMet l z bytes maxL ret rm as Z h Q) {C owner : String}
    (w1 : (Jvm.Cond.methodLink own index y).before a0 Z = true) (w0 : (Jvm.Cond.sameMethod y.cls owner y.name y.desc).before a0 Z = true) (w2 : (Jvm.Cond.declares ⟨owner, y.name, y.desc⟩).before a0 Z = true) (nf : NotFace s ⟨owner, y.name, y.desc⟩) (w3 : (Jvm.Cond.selects C y z).before a0 Z = true) (w4 : (Jvm.Cond.instanceMethod z).before a0 Z = true) (w5 : (Jvm.Cond.code z bytes maxL ret).before a0 Z = true) (wz : (Jvm.Cond.initialized z.cls).before a0 Z = true) (hy : owner ≠ "java/lang/invoke/MethodHandle" ∧ owner ≠ "java/lang/invoke/VarHandle")
    {a : Addr} (E : Exa Z h a C) {argsL rest : List Value} (has : (.ref a :: argsL).toArray = as) (hst : st = argsL.reverse ++ .ref a :: rest) {W : Nat} {ps : List FieldType} {rt : Option FieldType} (hde : parseMethodDescriptor y.desc = some ⟨ps, rt⟩) (hlen : argsL.length = ps.length) (hW : (rest.map fun v => v.category).sum ≤ W) (hf : rm.frames + 1 ≤ R.frames) (hl : W + (maxL + 11) + rm.locals ≤ R.locals) (hc : cells + rm.cells ≤ R.cells) (hs : slots + rm.slots ≤ R.slots)
    (hsize : Ls.size = c.maxLocals) (hd : decode c.code pc = .ok (.invokevirtual index, 3)) (hp : pc + 3 = pc')
    (k : ∀ v T' h' L, Stand p l e R s m args below meth c T' (locs ++ L) (cells + rm.cells) (slots + rm.slots) → T'.heap = h' → Q v h' L → OGo p e below K T' (mkF m pc' Ls (v.toList ++ rest))) : OGo p e below K T (mkF m pc Ls st) := by
  subst hp has
  obtain ⟨cB, kB, q1, q2, q3⟩ := isOf (T := T) hZ eT E
  obtain ⟨v, vm₁, ⟨T', L', c', n'⟩, -, X', ⟨Lc, hQ, l1, y1, z1⟩, r⟩ := X.virtualBackUp hx (x := y) (y := z) (owner := owner) hown (mvT hZ w1) (mvT hZ w0) (mvT hZ w2) hy (mvT hZ w3) (mvT hZ w4) (hM.back (W := W) hZ w5 wz hf hl) q1 q3 (g := mkF m pc Ls st) rfl hsize (Steps.refl _) (argsL := argsL) (rest := rest) (lenOf hde hlen) hst (by show 2 * 0 + _ ≤ _; omega) hd (fun _ _ => ⟨rfl, eT, hc, hs⟩)
  dsimp only [Pt.U, Pt.locs, Pt.cells, Pt.slots] at X' l1 y1 z1 r hQ
  subst l1 y1 z1
  exact (k v T' _ Lc X' rfl hQ).tr r
theorem g_static (X : Stand p l e R s m args below meth c T locs cells slots) (hx : p.tables.exec = Jvm.exec) (hZ : Z.Warmed39 s.vm) (hown : s.vm.findClass own = some m.cls) (eT : T.heap = h) {y : MethodName} {bytes : ByteArray} {maxL index : Nat} {ret : Option FieldType} {rm : Room} {as : Array Value} {Q : Option Value → Heap → List Loc → Prop} (hM : OMet l y bytes maxL ret rm as Z h Q)
    (w1 : (Jvm.Cond.methodLink own index y).before a0 Z = true) (w2 : (Jvm.Cond.static y).before a0 Z = true) (w3 : (Jvm.Cond.code y bytes maxL ret).before a0 Z = true) (wz : (Jvm.Cond.initialized y.cls).before a0 Z = true) (hy : y.cls ≠ "java/lang/invoke/MethodHandle" ∧ y.cls ≠ "java/lang/invoke/VarHandle")
    {argsL rest : List Value} (has : argsL.toArray = as) (hst : st = argsL.reverse ++ rest) {W : Nat} {ps : List FieldType} {rt : Option FieldType} (hde : parseMethodDescriptor y.desc = some ⟨ps, rt⟩) (hlen : argsL.length = ps.length) (hW : (rest.map fun v => v.category).sum ≤ W) (hf : rm.frames + 1 ≤ R.frames) (hl : W + (maxL + 11) + rm.locals ≤ R.locals) (hc : cells + rm.cells ≤ R.cells) (hs : slots + rm.slots ≤ R.slots)
    (hsize : Ls.size = c.maxLocals) (hd : decode c.code pc = .ok (.invokestatic index, 3)) (hp : pc + 3 = pc')
    (k : ∀ v T' h' L, Stand p l e R s m args below meth c T' (locs ++ L) (cells + rm.cells) (slots + rm.slots) → T'.heap = h' → Q v h' L → OGo p e below K T' (mkF m pc' Ls (v.toList ++ rest))) : OGo p e below K T (mkF m pc Ls st) := by
  subst hp has
  obtain ⟨v, vm₁, ⟨T', L', c', n'⟩, -, X', ⟨Lc, hQ, l1, y1, z1⟩, r⟩ := Jvm.LawKit.callS X hx (y := y) hown (mvT hZ w1) (mvT hZ w2) (mvT hZ wz) (mvT hZ w3) hy (hM.back (W := W) hZ w3 wz hf hl) (g := mkF m pc Ls st) rfl hsize (argsL := argsL) (rest := rest) (lenOf hde hlen) hst (by show 2 * 0 + _ ≤ _; omega) hd (fun _ _ => ⟨rfl, eT, hc, hs⟩)
  dsimp only [Pt.U, Pt.locs, Pt.cells, Pt.slots] at X' l1 y1 z1 r hQ
  subst l1 y1 z1
  exact (k v T' _ Lc X' rfl hQ).via r
theorem g_face (X : Stand p l e R s m args below meth c T locs cells slots) (hx : p.tables.exec = Jvm.exec) (hZ : Z.Warmed39 s.vm) (hown : s.vm.findClass own = some m.cls) (eT : T.heap = h) {y z : MethodName} {bytes : ByteArray} {maxL index count : Nat} {ret : Option FieldType} {rm : Room} {as : Array Value} {Q : Option Value → Heap → List Loc → Prop} (hM : OMet l z bytes maxL ret rm as Z h Q) {C : String}
    (w1 : (Jvm.Cond.methodLink own index y).before a0 Z = true) (w2 : (Jvm.Cond.declares y).before a0 Z = true) (w6 : (Jvm.Cond.interfaceMethod y.cls y.cls y.name y.desc).before a0 Z = true) (w3 : (Jvm.Cond.selects C y z).before a0 Z = true) (w4 : (Jvm.Cond.instanceMethod z).before a0 Z = true) (w7 : (Jvm.Cond.publicMethod z).before a0 Z = true) (w8 : (Jvm.Cond.unhidden C y.name y.desc).before a0 Z = true) (w9 : (Jvm.Cond.castable C y.cls).before a0 Z = true) (w5 : (Jvm.Cond.code z bytes maxL ret).before a0 Z = true) (wz : (Jvm.Cond.initialized z.cls).before a0 Z = true) (hy : y.cls ≠ "java/lang/invoke/MethodHandle" ∧ y.cls ≠ "java/lang/invoke/VarHandle")
    {a : Addr} (E : Exa Z h a C) {argsL rest : List Value} (has : (.ref a :: argsL).toArray = as) (hst : st = argsL.reverse ++ .ref a :: rest) {W : Nat} {ps : List FieldType} {rt : Option FieldType} (hde : parseMethodDescriptor y.desc = some ⟨ps, rt⟩) (hlen : argsL.length = ps.length) (hW : (rest.map fun v => v.category).sum ≤ W) (hf : rm.frames + 1 ≤ R.frames) (hl : W + (maxL + 11) + rm.locals ≤ R.locals) (hc : cells + rm.cells ≤ R.cells) (hs : slots + rm.slots ≤ R.slots)
    (hsize : Ls.size = c.maxLocals) (hd : decode c.code pc = .ok (.invokeinterface index count, 5)) (hp : pc + 5 = pc')
    (k : ∀ v T' h' L, Stand p l e R s m args below meth c T' (locs ++ L) (cells + rm.cells) (slots + rm.slots) → T'.heap = h' → Q v h' L → OGo p e below K T' (mkF m pc' Ls (v.toList ++ rest))) : OGo p e below K T (mkF m pc Ls st) := by
  subst hp has
  obtain ⟨cB, kB, q1, q2, q3⟩ := isOf (T := T) hZ eT E
  obtain ⟨v, vm₁, ⟨T', L', c', n'⟩, -, X', ⟨Lc, hQ, l1, y1, z1⟩, r⟩ := X.interfaceBack hx (xi := y) (y := z) hown (mvT hZ w1) (mvT hZ w2) (mvT hZ w6 (by simp [Jvm.Cond.onTables, Jvm.Cond.keepsFace, Jvm.Cond.keeps, Jvm.Cond.steady, Jvm.Cond.faceAtom, hy.1, hy.2])) (mvT hZ w3) (mvT hZ w4) (mvT hZ w7) (mvT hZ w8) (mvT hZ w9) hy (hM.back (W := W) hZ w5 wz hf hl) q1 q2 q3 (g := mkF m pc Ls st) rfl hsize (Steps.refl _) (argsL := argsL) (rest := rest) (lenOf hde hlen) hst (by show 2 * 0 + _ ≤ _; omega) hd (fun _ _ => ⟨rfl, eT, hc, hs⟩)
  dsimp only [Pt.U, Pt.locs, Pt.cells, Pt.slots] at X' l1 y1 z1 r hQ
  subst l1 y1 z1
  exact (k v T' _ Lc X' rfl hQ).tr r
theorem g_aloadN (X : Stand p l e R s m args below meth c T locs cells slots) (hx : p.tables.exec = Jvm.exec) {k : Fin 4} {v : Value} (hd : decode c.code pc = .ok (.aload_n k, 1)) (hp : pc + 1 = pc') (hl : Ls[k.val]? = some (.val v)) (hv : v.isRef = true)
    (k : OGo p e below K T (mkF m pc' Ls (v :: st))) : OGo p e below K T (mkF m pc Ls (st)) := by
  subst hp; exact k.via fun _ q => XS.aloadN X.here hx rfl hd hl hv q
theorem g_aload (X : Stand p l e R s m args below meth c T locs cells slots) (hx : p.tables.exec = Jvm.exec) {k : Nat} {v : Value} (hd : decode c.code pc = .ok (.aload k, 2)) (hp : pc + 2 = pc') (hl : Ls[k]? = some (.val v)) (hv : v.isRef = true)
    (k : OGo p e below K T (mkF m pc' Ls (v :: st))) : OGo p e below K T (mkF m pc Ls (st)) := by
  subst hp; exact k.via fun _ q => XS.aload X.here hx rfl hd hl hv q
theorem g_iloadN (X : Stand p l e R s m args below meth c T locs cells slots) (hx : p.tables.exec = Jvm.exec) {k : Fin 4} {v : Int32} (hd : decode c.code pc = .ok (.iload_n k, 1)) (hp : pc + 1 = pc') (hl : Ls[k.val]? = some (.val (.int v)))
    (k : OGo p e below K T (mkF m pc' Ls (.int v :: st))) : OGo p e below K T (mkF m pc Ls (st)) := by
  subst hp; exact k.via fun _ q => XS.iloadN X.here hx rfl hd hl q
theorem g_iload (X : Stand p l e R s m args below meth c T locs cells slots) (hx : p.tables.exec = Jvm.exec) {k : Nat} {v : Int32} (hd : decode c.code pc = .ok (.iload k, 2)) (hp : pc + 2 = pc') (hl : Ls[k]? = some (.val (.int v)))
    (k : OGo p e below K T (mkF m pc' Ls (.int v :: st))) : OGo p e below K T (mkF m pc Ls (st)) := by
  subst hp; exact k.via fun _ q => XS.iload X.here hx rfl hd hl q
theorem g_lloadN (X : Stand p l e R s m args below meth c T locs cells slots) (hx : p.tables.exec = Jvm.exec) {k : Fin 4} {v : Int64} (hd : decode c.code pc = .ok (.lload_n k, 1)) (hp : pc + 1 = pc') (hl : Ls[k.val]? = some (.val (.long v)))
    (k : OGo p e below K T (mkF m pc' Ls (.long v :: st))) : OGo p e below K T (mkF m pc Ls (st)) := by
  subst hp; exact k.via fun _ q => XT.lloadN X.here hx rfl hd hl q
theorem g_lload (X : Stand p l e R s m args below meth c T locs cells slots) (hx : p.tables.exec = Jvm.exec) {k : Nat} {v : Int64} (hd : decode c.code pc = .ok (.lload k, 2)) (hp : pc + 2 = pc') (hl : Ls[k]? = some (.val (.long v)))
    (k : OGo p e below K T (mkF m pc' Ls (.long v :: st))) : OGo p e below K T (mkF m pc Ls (st)) := by
  subst hp; exact k.via fun _ q => XT.lload X.here hx rfl hd hl q
theorem g_istoreN (X : Stand p l e R s m args below meth c T locs cells slots) (hx : p.tables.exec = Jvm.exec) {k : Fin 4} {x : Int32} {Ls' : Array Slot} (hd : decode c.code pc = .ok (.istore_n k, 1)) (hp : pc + 1 = pc') (hl : storeLocals Ls k.val (.int x) = some Ls')
    (k : OGo p e below K T (mkF m pc' Ls' (st))) : OGo p e below K T (mkF m pc Ls (.int x :: st)) := by
  subst hp; exact k.via fun _ q => XS.istoreN X.here hx rfl hd rfl hl q
theorem g_istore (X : Stand p l e R s m args below meth c T locs cells slots) (hx : p.tables.exec = Jvm.exec) {k : Nat} {x : Int32} {Ls' : Array Slot} (hd : decode c.code pc = .ok (.istore k, 2)) (hp : pc + 2 = pc') (hl : storeLocals Ls k (.int x) = some Ls')
    (k : OGo p e below K T (mkF m pc' Ls' (st))) : OGo p e below K T (mkF m pc Ls (.int x :: st)) := by
  subst hp; exact k.via fun _ q => XS.istore X.here hx rfl hd rfl hl q
theorem g_lstoreN (X : Stand p l e R s m args below meth c T locs cells slots) (hx : p.tables.exec = Jvm.exec) {k : Fin 4} {x : Int64} {Ls' : Array Slot} (hd : decode c.code pc = .ok (.lstore_n k, 1)) (hp : pc + 1 = pc') (hl : storeLocals Ls k.val (.long x) = some Ls')
    (k : OGo p e below K T (mkF m pc' Ls' (st))) : OGo p e below K T (mkF m pc Ls (.long x :: st)) := by
  subst hp; exact k.via fun _ q => XT.lstoreN X.here hx rfl hd rfl hl q
theorem g_lstore (X : Stand p l e R s m args below meth c T locs cells slots) (hx : p.tables.exec = Jvm.exec) {k : Nat} {x : Int64} {Ls' : Array Slot} (hd : decode c.code pc = .ok (.lstore k, 2)) (hp : pc + 2 = pc') (hl : storeLocals Ls k (.long x) = some Ls')
    (k : OGo p e below K T (mkF m pc' Ls' (st))) : OGo p e below K T (mkF m pc Ls (.long x :: st)) := by
  subst hp; exact k.via fun _ q => XT.lstore X.here hx rfl hd rfl hl q
theorem g_astoreN (X : Stand p l e R s m args below meth c T locs cells slots) (hx : p.tables.exec = Jvm.exec) {k : Fin 4} {x : Value} {Ls' : Array Slot} (hd : decode c.code pc = .ok (.astore_n k, 1)) (hp : pc + 1 = pc') (hv : x.isRef = true) (hl : storeLocals Ls k.val x = some Ls')
    (k : OGo p e below K T (mkF m pc' Ls' (st))) : OGo p e below K T (mkF m pc Ls (x :: st)) := by
  subst hp; exact k.via fun _ q => XS.astoreN X.here hx rfl hd rfl hv hl q
theorem g_astore (X : Stand p l e R s m args below meth c T locs cells slots) (hx : p.tables.exec = Jvm.exec) {k : Nat} {x : Value} {Ls' : Array Slot} (hd : decode c.code pc = .ok (.astore k, 2)) (hp : pc + 2 = pc') (hv : x.isRef = true) (hl : storeLocals Ls k x = some Ls')
    (k : OGo p e below K T (mkF m pc' Ls' (st))) : OGo p e below K T (mkF m pc Ls (x :: st)) := by
  subst hp; exact k.via fun _ q => XS.astore X.here hx rfl hd rfl hv hl q
theorem g_iconst (X : Stand p l e R s m args below meth c T locs cells slots) (hx : p.tables.exec = Jvm.exec) {i : Int} (v : Int32) (hd : decode c.code pc = .ok (.iconst i, 1)) (hp : pc + 1 = pc') (hv : Int32.ofInt i = v)
    (k : OGo p e below K T (mkF m pc' Ls (.int v :: st))) : OGo p e below K T (mkF m pc Ls st) := by
  subst hp; exact k.via fun _ q => XT.iconstV X.here hx rfl v hd hv q
theorem g_bipush (X : Stand p l e R s m args below meth c T locs cells slots) (hx : p.tables.exec = Jvm.exec) {i : Int} (v : Int32) (hd : decode c.code pc = .ok (.bipush i, 2)) (hp : pc + 2 = pc') (hv : (Int8.ofInt i).toInt32 = v)
    (k : OGo p e below K T (mkF m pc' Ls (.int v :: st))) : OGo p e below K T (mkF m pc Ls st) := by
  subst hp; exact k.via fun _ q => XT.bipushV X.here hx rfl v hd hv q
theorem g_sipush (X : Stand p l e R s m args below meth c T locs cells slots) (hx : p.tables.exec = Jvm.exec) {i : Int} (v : Int32) (hd : decode c.code pc = .ok (.sipush i, 3)) (hp : pc + 3 = pc') (hv : (Int16.ofInt i).toInt32 = v)
    (k : OGo p e below K T (mkF m pc' Ls (.int v :: st))) : OGo p e below K T (mkF m pc Ls st) := by
  subst hp; exact k.via fun _ q => XT.sipushV X.here hx rfl v hd hv q
theorem g_lconst (X : Stand p l e R s m args below meth c T locs cells slots) (hx : p.tables.exec = Jvm.exec) {i : Fin 2} (v : Int64) (hd : decode c.code pc = .ok (.lconst i, 1)) (hp : pc + 1 = pc') (hv : Int64.ofNat i = v)
    (k : OGo p e below K T (mkF m pc' Ls (.long v :: st))) : OGo p e below K T (mkF m pc Ls st) := by
  subst hp; exact k.via fun _ q => XT.lconstV X.here hx rfl v hd hv q
theorem g_anull (X : Stand p l e R s m args below meth c T locs cells slots) (hx : p.tables.exec = Jvm.exec)  (hd : decode c.code pc = .ok (.aconst_null, 1)) (hp : pc + 1 = pc')
    (k : OGo p e below K T (mkF m pc' Ls (.null :: st))) : OGo p e below K T (mkF m pc Ls (st)) := by
  subst hp; exact k.via fun _ q => XS.aconstNull X.here hx rfl hd  q
theorem g_ldcI (X : Stand p l e R s m args below meth c T locs cells slots) (hx : p.tables.exec = Jvm.exec) (hZ : Z.Warmed39 s.vm) (hown : s.vm.findClass own = some m.cls) {index : Nat} {v : Int32} (w : (Jvm.Cond.constant own index v).before a0 Z = true) (hd : decode c.code pc = .ok (.ldc index, 2)) (hp : pc + 2 = pc')
    (k : OGo p e below K T (mkF m pc' Ls (.int v :: st))) : OGo p e below K T (mkF m pc Ls st) := by
  subst hp; exact k.via fun _ q => X.ldcI hx hown (mvT hZ w) rfl hd q
theorem g_ldc2J (X : Stand p l e R s m args below meth c T locs cells slots) (hx : p.tables.exec = Jvm.exec) (hZ : Z.Warmed39 s.vm) (hown : s.vm.findClass own = some m.cls) {index : Nat} {v : Int64} (w : (Jvm.Cond.constantLong own index v).before a0 Z = true) (hd : decode c.code pc = .ok (.ldc2_w index, 3)) (hp : pc + 3 = pc')
    (k : OGo p e below K T (mkF m pc' Ls (.long v :: st))) : OGo p e below K T (mkF m pc Ls st) := by
  subst hp; exact k.via fun _ q => X.ldc2J hx hown (mvT hZ w) rfl hd q
theorem g_iadd (X : Stand p l e R s m args below meth c T locs cells slots) (hx : p.tables.exec = Jvm.exec) {x y z : Int32} (hd : decode c.code pc = .ok (.iadd, 1)) (hp : pc + 1 = pc') (hz : x + y = z)
    (k : OGo p e below K T (mkF m pc' Ls (.int z :: st))) : OGo p e below K T (mkF m pc Ls (.int y :: .int x :: st)) := by
  subst hp hz; exact k.via fun _ q => XS.iadd X.here hx rfl hd rfl q
theorem g_isub (X : Stand p l e R s m args below meth c T locs cells slots) (hx : p.tables.exec = Jvm.exec) {x y z : Int32} (hd : decode c.code pc = .ok (.isub, 1)) (hp : pc + 1 = pc') (hz : x - y = z)
    (k : OGo p e below K T (mkF m pc' Ls (.int z :: st))) : OGo p e below K T (mkF m pc Ls (.int y :: .int x :: st)) := by
  subst hp hz; exact k.via fun _ q => XS.isub X.here hx rfl hd rfl q
theorem g_iand (X : Stand p l e R s m args below meth c T locs cells slots) (hx : p.tables.exec = Jvm.exec) {x y z : Int32} (hd : decode c.code pc = .ok (.iand, 1)) (hp : pc + 1 = pc') (hz : x &&& y = z)
    (k : OGo p e below K T (mkF m pc' Ls (.int z :: st))) : OGo p e below K T (mkF m pc Ls (.int y :: .int x :: st)) := by
  subst hp hz; exact k.via fun _ q => XS.iand X.here hx rfl hd rfl q
theorem g_imul (X : Stand p l e R s m args below meth c T locs cells slots) (hx : p.tables.exec = Jvm.exec) {x y z : Int32} (hd : decode c.code pc = .ok (.imul, 1)) (hp : pc + 1 = pc') (hz : x * y = z)
    (k : OGo p e below K T (mkF m pc' Ls (.int z :: st))) : OGo p e below K T (mkF m pc Ls (.int y :: .int x :: st)) := by
  subst hp hz; exact k.via fun _ q => XS.imul X.here hx rfl hd rfl q
theorem g_ixor (X : Stand p l e R s m args below meth c T locs cells slots) (hx : p.tables.exec = Jvm.exec) {x y z : Int32} (hd : decode c.code pc = .ok (.ixor, 1)) (hp : pc + 1 = pc') (hz : x ^^^ y = z)
    (k : OGo p e below K T (mkF m pc' Ls (.int z :: st))) : OGo p e below K T (mkF m pc Ls (.int y :: .int x :: st)) := by
  subst hp hz; exact k.via fun _ q => XT.ixor X.here hx rfl hd rfl q
theorem g_ior (X : Stand p l e R s m args below meth c T locs cells slots) (hx : p.tables.exec = Jvm.exec) {x y z : Int32} (hd : decode c.code pc = .ok (.ior, 1)) (hp : pc + 1 = pc') (hz : x ||| y = z)
    (k : OGo p e below K T (mkF m pc' Ls (.int z :: st))) : OGo p e below K T (mkF m pc Ls (.int y :: .int x :: st)) := by
  subst hp hz; exact k.via fun _ q => XT.ior X.here hx rfl hd rfl q
theorem g_ishl (X : Stand p l e R s m args below meth c T locs cells slots) (hx : p.tables.exec = Jvm.exec) {x y z : Int32} (hd : decode c.code pc = .ok (.ishl, 1)) (hp : pc + 1 = pc') (hz : x <<< (y &&& 31) = z)
    (k : OGo p e below K T (mkF m pc' Ls (.int z :: st))) : OGo p e below K T (mkF m pc Ls (.int y :: .int x :: st)) := by
  subst hp hz; exact k.via fun _ q => XT.ishl X.here hx rfl hd rfl q
theorem g_ishr (X : Stand p l e R s m args below meth c T locs cells slots) (hx : p.tables.exec = Jvm.exec) {x y z : Int32} (hd : decode c.code pc = .ok (.ishr, 1)) (hp : pc + 1 = pc') (hz : x >>> (y &&& 31) = z)
    (k : OGo p e below K T (mkF m pc' Ls (.int z :: st))) : OGo p e below K T (mkF m pc Ls (.int y :: .int x :: st)) := by
  subst hp hz; exact k.via fun _ q => XT.ishr X.here hx rfl hd rfl q
theorem g_iushr (X : Stand p l e R s m args below meth c T locs cells slots) (hx : p.tables.exec = Jvm.exec) {x y z : Int32} (hd : decode c.code pc = .ok (.iushr, 1)) (hp : pc + 1 = pc') (hz : XT.ushr x y = z)
    (k : OGo p e below K T (mkF m pc' Ls (.int z :: st))) : OGo p e below K T (mkF m pc Ls (.int y :: .int x :: st)) := by
  subst hp hz; exact k.via fun _ q => XT.iushr X.here hx rfl hd rfl q
theorem g_ladd (X : Stand p l e R s m args below meth c T locs cells slots) (hx : p.tables.exec = Jvm.exec) {x y z : Int64} (hd : decode c.code pc = .ok (.ladd, 1)) (hp : pc + 1 = pc') (hz : x + y = z)
    (k : OGo p e below K T (mkF m pc' Ls (.long z :: st))) : OGo p e below K T (mkF m pc Ls (.long y :: .long x :: st)) := by
  subst hp hz; exact k.via fun _ q => XT.ladd X.here hx rfl hd rfl q
theorem g_lsub (X : Stand p l e R s m args below meth c T locs cells slots) (hx : p.tables.exec = Jvm.exec) {x y z : Int64} (hd : decode c.code pc = .ok (.lsub, 1)) (hp : pc + 1 = pc') (hz : x - y = z)
    (k : OGo p e below K T (mkF m pc' Ls (.long z :: st))) : OGo p e below K T (mkF m pc Ls (.long y :: .long x :: st)) := by
  subst hp hz; exact k.via fun _ q => XT.lsub X.here hx rfl hd rfl q
theorem g_lmul (X : Stand p l e R s m args below meth c T locs cells slots) (hx : p.tables.exec = Jvm.exec) {x y z : Int64} (hd : decode c.code pc = .ok (.lmul, 1)) (hp : pc + 1 = pc') (hz : x * y = z)
    (k : OGo p e below K T (mkF m pc' Ls (.long z :: st))) : OGo p e below K T (mkF m pc Ls (.long y :: .long x :: st)) := by
  subst hp hz; exact k.via fun _ q => XT.lmul X.here hx rfl hd rfl q
theorem g_land (X : Stand p l e R s m args below meth c T locs cells slots) (hx : p.tables.exec = Jvm.exec) {x y z : Int64} (hd : decode c.code pc = .ok (.land, 1)) (hp : pc + 1 = pc') (hz : x &&& y = z)
    (k : OGo p e below K T (mkF m pc' Ls (.long z :: st))) : OGo p e below K T (mkF m pc Ls (.long y :: .long x :: st)) := by
  subst hp hz; exact k.via fun _ q => XT.land X.here hx rfl hd rfl q
theorem g_lor (X : Stand p l e R s m args below meth c T locs cells slots) (hx : p.tables.exec = Jvm.exec) {x y z : Int64} (hd : decode c.code pc = .ok (.lor, 1)) (hp : pc + 1 = pc') (hz : x ||| y = z)
    (k : OGo p e below K T (mkF m pc' Ls (.long z :: st))) : OGo p e below K T (mkF m pc Ls (.long y :: .long x :: st)) := by
  subst hp hz; exact k.via fun _ q => XT.lor X.here hx rfl hd rfl q
theorem g_lxor (X : Stand p l e R s m args below meth c T locs cells slots) (hx : p.tables.exec = Jvm.exec) {x y z : Int64} (hd : decode c.code pc = .ok (.lxor, 1)) (hp : pc + 1 = pc') (hz : x ^^^ y = z)
    (k : OGo p e below K T (mkF m pc' Ls (.long z :: st))) : OGo p e below K T (mkF m pc Ls (.long y :: .long x :: st)) := by
  subst hp hz; exact k.via fun _ q => XT.lxor X.here hx rfl hd rfl q
theorem g_lshl (X : Stand p l e R s m args below meth c T locs cells slots) (hx : p.tables.exec = Jvm.exec) {x : Int64} {y : Int32} (hd : decode c.code pc = .ok (.lshl, 1)) (hp : pc + 1 = pc')
    (k : OGo p e below K T (mkF m pc' Ls (.long (x <<< (y.toInt64 &&& 63)) :: st))) : OGo p e below K T (mkF m pc Ls (.int y :: .long x :: st)) := by
  subst hp; exact k.via fun _ q => XT.lshl X.here hx rfl hd rfl q
theorem g_lshr (X : Stand p l e R s m args below meth c T locs cells slots) (hx : p.tables.exec = Jvm.exec) {x : Int64} {y : Int32} (hd : decode c.code pc = .ok (.lshr, 1)) (hp : pc + 1 = pc')
    (k : OGo p e below K T (mkF m pc' Ls (.long (x >>> (y.toInt64 &&& 63)) :: st))) : OGo p e below K T (mkF m pc Ls (.int y :: .long x :: st)) := by
  subst hp; exact k.via fun _ q => XT.lshr X.here hx rfl hd rfl q
theorem g_lushr (X : Stand p l e R s m args below meth c T locs cells slots) (hx : p.tables.exec = Jvm.exec) {x : Int64} {y : Int32} (hd : decode c.code pc = .ok (.lushr, 1)) (hp : pc + 1 = pc')
    (k : OGo p e below K T (mkF m pc' Ls (.long (XT.ushrL x y) :: st))) : OGo p e below K T (mkF m pc Ls (.int y :: .long x :: st)) := by
  subst hp; exact k.via fun _ q => XT.lushr X.here hx rfl hd rfl q
theorem g_idiv (X : Stand p l e R s m args below meth c T locs cells slots) (hx : p.tables.exec = Jvm.exec) {x y : Int32} (hd : decode c.code pc = .ok (.idiv, 1)) (hp : pc + 1 = pc') (hy : y ≠ 0)
    (k : OGo p e below K T (mkF m pc' Ls (.int (x / y) :: st))) : OGo p e below K T (mkF m pc Ls (.int y :: .int x :: st)) := by
  subst hp; exact k.via fun _ q => XS.idiv X.here hx rfl hd rfl hy q
theorem g_irem (X : Stand p l e R s m args below meth c T locs cells slots) (hx : p.tables.exec = Jvm.exec) {x y : Int32} (hd : decode c.code pc = .ok (.irem, 1)) (hp : pc + 1 = pc') (hy : y ≠ 0)
    (k : OGo p e below K T (mkF m pc' Ls (.int (x % y) :: st))) : OGo p e below K T (mkF m pc Ls (.int y :: .int x :: st)) := by
  subst hp; exact k.via fun _ q => iremM X hx rfl hd rfl hy q
theorem g_ldiv (X : Stand p l e R s m args below meth c T locs cells slots) (hx : p.tables.exec = Jvm.exec) {x y : Int64} (hd : decode c.code pc = .ok (.ldiv, 1)) (hp : pc + 1 = pc') (hy : y ≠ 0)
    (k : OGo p e below K T (mkF m pc' Ls (.long (x / y) :: st))) : OGo p e below K T (mkF m pc Ls (.long y :: .long x :: st)) := by
  subst hp; exact k.via fun _ q => XT.ldiv X.here hx rfl hd rfl hy q
theorem g_lrem (X : Stand p l e R s m args below meth c T locs cells slots) (hx : p.tables.exec = Jvm.exec) {x y : Int64} (hd : decode c.code pc = .ok (.lrem, 1)) (hp : pc + 1 = pc') (hy : y ≠ 0)
    (k : OGo p e below K T (mkF m pc' Ls (.long (x % y) :: st))) : OGo p e below K T (mkF m pc Ls (.long y :: .long x :: st)) := by
  subst hp; exact k.via fun _ q => XT.lrem X.here hx rfl hd rfl hy (by rw [lrem_mod]; exact q)
theorem g_ineg (X : Stand p l e R s m args below meth c T locs cells slots) (hx : p.tables.exec = Jvm.exec) {x : Int32} (hd : decode c.code pc = .ok (.ineg, 1)) (hp : pc + 1 = pc')
    (k : OGo p e below K T (mkF m pc' Ls (.int (-x) :: st))) : OGo p e below K T (mkF m pc Ls (.int x :: st)) := by
  subst hp; exact k.via fun _ q => XS.ineg X.here hx rfl hd rfl q
theorem g_lneg (X : Stand p l e R s m args below meth c T locs cells slots) (hx : p.tables.exec = Jvm.exec) {x : Int64} (hd : decode c.code pc = .ok (.lneg, 1)) (hp : pc + 1 = pc')
    (k : OGo p e below K T (mkF m pc' Ls (.long (-x) :: st))) : OGo p e below K T (mkF m pc Ls (.long x :: st)) := by
  subst hp; exact k.via fun _ q => XT.lneg X.here hx rfl hd rfl q
theorem g_i2l (X : Stand p l e R s m args below meth c T locs cells slots) (hx : p.tables.exec = Jvm.exec) {x : Int32} (hd : decode c.code pc = .ok (.i2l, 1)) (hp : pc + 1 = pc')
    (k : OGo p e below K T (mkF m pc' Ls (.long x.toInt64 :: st))) : OGo p e below K T (mkF m pc Ls (.int x :: st)) := by
  subst hp; exact k.via fun _ q => XT.i2l X.here hx rfl hd rfl q
theorem g_l2i (X : Stand p l e R s m args below meth c T locs cells slots) (hx : p.tables.exec = Jvm.exec) {x : Int64} (hd : decode c.code pc = .ok (.l2i, 1)) (hp : pc + 1 = pc')
    (k : OGo p e below K T (mkF m pc' Ls (.int x.toInt32 :: st))) : OGo p e below K T (mkF m pc Ls (.long x :: st)) := by
  subst hp; exact k.via fun _ q => XT.l2i X.here hx rfl hd rfl q
theorem g_i2b (X : Stand p l e R s m args below meth c T locs cells slots) (hx : p.tables.exec = Jvm.exec) {x : Int32} (hd : decode c.code pc = .ok (.i2b, 1)) (hp : pc + 1 = pc')
    (k : OGo p e below K T (mkF m pc' Ls (.int x.toInt8.toInt32 :: st))) : OGo p e below K T (mkF m pc Ls (.int x :: st)) := by
  subst hp; exact k.via fun _ q => XT.i2b X.here hx rfl hd rfl q
theorem g_i2c (X : Stand p l e R s m args below meth c T locs cells slots) (hx : p.tables.exec = Jvm.exec) {x : Int32} (hd : decode c.code pc = .ok (.i2c, 1)) (hp : pc + 1 = pc')
    (k : OGo p e below K T (mkF m pc' Ls (.int x.toUInt32.toUInt16.toUInt32.toInt32 :: st))) : OGo p e below K T (mkF m pc Ls (.int x :: st)) := by
  subst hp; exact k.via fun _ q => XT.i2c X.here hx rfl hd rfl q
theorem g_i2s (X : Stand p l e R s m args below meth c T locs cells slots) (hx : p.tables.exec = Jvm.exec) {x : Int32} (hd : decode c.code pc = .ok (.i2s, 1)) (hp : pc + 1 = pc')
    (k : OGo p e below K T (mkF m pc' Ls (.int x.toInt16.toInt32 :: st))) : OGo p e below K T (mkF m pc Ls (.int x :: st)) := by
  subst hp; exact k.via fun _ q => XT.i2s X.here hx rfl hd rfl q
theorem g_lcmp (X : Stand p l e R s m args below meth c T locs cells slots) (hx : p.tables.exec = Jvm.exec) {x y : Int64} (hd : decode c.code pc = .ok (.lcmp, 1)) (hp : pc + 1 = pc')
    (k : OGo p e below K T (mkF m pc' Ls (.int (XT.cmpL x y) :: st))) : OGo p e below K T (mkF m pc Ls (.long y :: .long x :: st)) := by
  subst hp; exact k.via fun _ q => XT.lcmp X.here hx rfl hd rfl q
theorem g_dup (X : Stand p l e R s m args below meth c T locs cells slots) (hx : p.tables.exec = Jvm.exec) {x : Value} (hd : decode c.code pc = .ok (.dup, 1)) (hp : pc + 1 = pc') (hc : x.category = 1)
    (k : OGo p e below K T (mkF m pc' Ls (x :: x :: st))) : OGo p e below K T (mkF m pc Ls (x :: st)) := by
  subst hp; exact k.via fun _ q => XS.dup X.here hx rfl hd rfl hc q
theorem g_pop (X : Stand p l e R s m args below meth c T locs cells slots) (hx : p.tables.exec = Jvm.exec) {x : Value} (hd : decode c.code pc = .ok (.pop, 1)) (hp : pc + 1 = pc') (hc : x.category = 1)
    (k : OGo p e below K T (mkF m pc' Ls (st))) : OGo p e below K T (mkF m pc Ls (x :: st)) := by
  subst hp; exact k.via fun _ q => XT.pop X.here hx rfl hd rfl hc q
theorem g_dupx1 (X : Stand p l e R s m args below meth c T locs cells slots) (hx : p.tables.exec = Jvm.exec) {x y : Value} (hd : decode c.code pc = .ok (.dup_x1, 1)) (hp : pc + 1 = pc') (hc : x.category = 1) (hc' : y.category = 1)
    (k : OGo p e below K T (mkF m pc' Ls (x :: y :: x :: st))) : OGo p e below K T (mkF m pc Ls (x :: y :: st)) := by
  subst hp; exact k.via fun _ q => XT.dupX1 X.here hx rfl hd rfl hc hc' q
theorem g_dup2 (X : Stand p l e R s m args below meth c T locs cells slots) (hx : p.tables.exec = Jvm.exec) {x y : Value} (hd : decode c.code pc = .ok (.dup2, 1)) (hp : pc + 1 = pc') (hc : x.category = 1) (hc' : y.category = 1)
    (k : OGo p e below K T (mkF m pc' Ls (x :: y :: x :: y :: st))) : OGo p e below K T (mkF m pc Ls (x :: y :: st)) := by
  subst hp; exact k.via fun _ q => XT.dup2 X.here hx rfl hd rfl hc hc' q
theorem g_dup2L (X : Stand p l e R s m args below meth c T locs cells slots) (hx : p.tables.exec = Jvm.exec) {x : Int64} (hd : decode c.code pc = .ok (.dup2, 1)) (hp : pc + 1 = pc')
    (k : OGo p e below K T (mkF m pc' Ls (.long x :: .long x :: st))) : OGo p e below K T (mkF m pc Ls (.long x :: st)) := by
  subst hp; exact k.via fun _ q => XT.dup2L X.here hx rfl hd rfl q
theorem g_iinc (X : Stand p l e R s m args below meth c T locs cells slots) (hx : p.tables.exec = Jvm.exec) {k : Nat} {cst : Int} {x z : Int32} {Ls' : Array Slot} (v : Int32) (hd : decode c.code pc = .ok (.iinc k cst, 3)) (hp : pc + 3 = pc') (hv : Int32.ofInt cst = v) (hl : Ls[k]? = some (.val (.int x))) (hs : x + v = z) (hl' : storeLocals Ls k (.int z) = some Ls')
    (k : OGo p e below K T (mkF m pc' Ls' st)) : OGo p e below K T (mkF m pc Ls st) := by
  subst hp hs; exact k.via fun _ q => XT.iincV X.here hx rfl v hd hv hl hl' q
theorem g_ifY (X : Stand p l e R s m args below meth c T locs cells slots) (hx : p.tables.exec = Jvm.exec) {cd : ClassFile.Cond} {x : Int32} {o : Int} (hd : decode c.code pc = .ok (.ifCond cd o, 3)) (hc : ifCond.holds cd x = true) (ho : 0 ≤ (pc : Int) + o) (hp : ((pc : Int) + o).toNat = pc')
    (k : OGo p e below K T (mkF m pc' Ls st)) : OGo p e below K T (mkF m pc Ls (.int x :: st)) := k.via fun _ q => XS.ifYes X.here hx rfl rfl hd rfl hc ho hp q
theorem g_ifN (X : Stand p l e R s m args below meth c T locs cells slots) (hx : p.tables.exec = Jvm.exec) {cd : ClassFile.Cond} {x : Int32} {o : Int} (hd : decode c.code pc = .ok (.ifCond cd o, 3)) (hc : ifCond.holds cd x = false) (hp : pc + 3 = pc')
    (k : OGo p e below K T (mkF m pc' Ls st)) : OGo p e below K T (mkF m pc Ls (.int x :: st)) := by
  subst hp; exact k.via fun _ q => XS.ifNo X.here hx rfl hd rfl hc q
theorem g_icmpY (X : Stand p l e R s m args below meth c T locs cells slots) (hx : p.tables.exec = Jvm.exec) {cd : ClassFile.Cond} {x y : Int32} {o : Int} (hd : decode c.code pc = .ok (.if_icmp cd o, 3)) (hc : if_icmp.holds cd x y = true) (ho : 0 ≤ (pc : Int) + o) (hp : ((pc : Int) + o).toNat = pc')
    (k : OGo p e below K T (mkF m pc' Ls st)) : OGo p e below K T (mkF m pc Ls (.int y :: .int x :: st)) := k.via fun _ q => XS.icmpYes X.here hx rfl rfl hd rfl hc ho hp q
theorem g_icmpN (X : Stand p l e R s m args below meth c T locs cells slots) (hx : p.tables.exec = Jvm.exec) {cd : ClassFile.Cond} {x y : Int32} {o : Int} (hd : decode c.code pc = .ok (.if_icmp cd o, 3)) (hc : if_icmp.holds cd x y = false) (hp : pc + 3 = pc')
    (k : OGo p e below K T (mkF m pc' Ls st)) : OGo p e below K T (mkF m pc Ls (.int y :: .int x :: st)) := by
  subst hp; exact k.via fun _ q => XS.icmpNo X.here hx rfl hd rfl hc q
theorem g_acmpY (X : Stand p l e R s m args below meth c T locs cells slots) (hx : p.tables.exec = Jvm.exec) {cd : ClassFile.ACond} {x y : Value} {o : Int} (hd : decode c.code pc = .ok (.if_acmp cd o, 3)) (hx1 : x.isRef = true) (hy1 : y.isRef = true) (hc : XT.acmp cd x y = true) (ho : 0 ≤ (pc : Int) + o) (hp : ((pc : Int) + o).toNat = pc')
    (k : OGo p e below K T (mkF m pc' Ls st)) : OGo p e below K T (mkF m pc Ls (y :: x :: st)) := k.via fun _ q => XT.acmpYes X.here hx rfl rfl hd rfl hx1 hy1 hc ho hp q
theorem g_acmpN (X : Stand p l e R s m args below meth c T locs cells slots) (hx : p.tables.exec = Jvm.exec) {cd : ClassFile.ACond} {x y : Value} {o : Int} (hd : decode c.code pc = .ok (.if_acmp cd o, 3)) (hx1 : x.isRef = true) (hy1 : y.isRef = true) (hc : XT.acmp cd x y = false) (hp : pc + 3 = pc')
    (k : OGo p e below K T (mkF m pc' Ls st)) : OGo p e below K T (mkF m pc Ls (y :: x :: st)) := by
  subst hp; exact k.via fun _ q => XT.acmpNo X.here hx rfl hd rfl hx1 hy1 hc q
theorem g_nullY (X : Stand p l e R s m args below meth c T locs cells slots) (hx : p.tables.exec = Jvm.exec) {o : Int} (hd : decode c.code pc = .ok (.ifnull o, 3)) (ho : 0 ≤ (pc : Int) + o) (hp : ((pc : Int) + o).toNat = pc')
    (k : OGo p e below K T (mkF m pc' Ls st)) : OGo p e below K T (mkF m pc Ls (.null :: st)) := k.via fun _ q => XS.ifnullYes X.here hx rfl rfl hd rfl ho hp q
theorem g_nullN (X : Stand p l e R s m args below meth c T locs cells slots) (hx : p.tables.exec = Jvm.exec) {o : Int} {a : Addr} (hd : decode c.code pc = .ok (.ifnull o, 3)) (hp : pc + 3 = pc')
    (k : OGo p e below K T (mkF m pc' Ls st)) : OGo p e below K T (mkF m pc Ls (.ref a :: st)) := by
  subst hp; exact k.via fun _ q => XS.ifnullNo X.here hx rfl hd rfl q
theorem g_nonnullY (X : Stand p l e R s m args below meth c T locs cells slots) (hx : p.tables.exec = Jvm.exec) {o : Int} {a : Addr} (hd : decode c.code pc = .ok (.ifnonnull o, 3)) (ho : 0 ≤ (pc : Int) + o) (hp : ((pc : Int) + o).toNat = pc')
    (k : OGo p e below K T (mkF m pc' Ls st)) : OGo p e below K T (mkF m pc Ls (.ref a :: st)) := k.via fun _ q => XT.ifnonnullYes X.here hx rfl rfl hd rfl ho hp q
theorem g_nonnullN (X : Stand p l e R s m args below meth c T locs cells slots) (hx : p.tables.exec = Jvm.exec) {o : Int} (hd : decode c.code pc = .ok (.ifnonnull o, 3)) (hp : pc + 3 = pc')
    (k : OGo p e below K T (mkF m pc' Ls st)) : OGo p e below K T (mkF m pc Ls (.null :: st)) := by
  subst hp; exact k.via fun _ q => XT.ifnonnullNo X.here hx rfl hd rfl q
theorem g_goto (X : Stand p l e R s m args below meth c T locs cells slots) (hx : p.tables.exec = Jvm.exec) {o : Int} (hd : decode c.code pc = .ok (.goto o, 3)) (ho : 0 ≤ (pc : Int) + o) (hp : ((pc : Int) + o).toNat = pc')
    (k : OGo p e below K T (mkF m pc' Ls st)) : OGo p e below K T (mkF m pc Ls st) := k.via fun _ q => XS.goto X.here hx rfl rfl hd ho hp q
theorem g_len (X : Stand p l e R s m args below meth c T locs cells slots) (hx : p.tables.exec = Jvm.exec) (hZ : Z.Warmed39 s.vm) (eT : T.heap = h) {a : Addr} {kk : ClassId} {ty : FieldType} {vs : List Value} (F : OAry Z h a kk ty vs) {z : Int32} (hz : vs.length.toInt32 = z) (hd : decode c.code pc = .ok (.arraylength, 1)) (hp : pc + 1 = pc')
    (k : OGo p e below K T (mkF m pc' Ls (.int z :: st))) : OGo p e below K T (mkF m pc Ls (.ref a :: st)) := by
  subst hp hz
  obtain ⟨cl, A, r1, rfl, -⟩ := F
  refine k.via fun t q => X.arraylength hx (cell := cl) (a := a) (by rw [eT]; exact A.1) (State.isArrayOf_alike hZ.alike A.2.1) (g := mkF m pc Ls (.ref a :: st)) rfl (rest := st) rfl hd t ?_
  simpa using q
theorem g_iaload (X : Stand p l e R s m args below meth c T locs cells slots) (hx : p.tables.exec = Jvm.exec) (hZ : Z.Warmed39 s.vm) (eT : T.heap = h) {a : Addr} {kk : ClassId} {vs : List Value} (F : OAry Z h a kk .int vs) {j : Int32} {v : Value} (hj : ¬ j < 0) (hv : vs[j.toNatClampNeg]? = some v) (hd : decode c.code pc = .ok (.iaload, 1)) (hp : pc + 1 = pc')
    (k : OGo p e below K T (mkF m pc' Ls (v :: st))) : OGo p e below K T (mkF m pc Ls (.int j :: .ref a :: st)) := by
  subst hp
  obtain ⟨cl, A, r1, r2, -⟩ := F
  exact k.via fun t q => X.iaload hx (cell := cl) (a := a) (j := j) (v := v) (by rw [eT]; exact A.1) (State.isArrayOf_alike hZ.alike A.2.1) A.2.2 (aryIn r2 hj hv).1 (aryIn r2 hj hv).2 (g := mkF m pc Ls (.int j :: .ref a :: st)) rfl (rest := st) rfl hd t q
theorem g_laload (X : Stand p l e R s m args below meth c T locs cells slots) (hx : p.tables.exec = Jvm.exec) (hZ : Z.Warmed39 s.vm) (eT : T.heap = h) {a : Addr} {kk : ClassId} {vs : List Value} (F : OAry Z h a kk .long vs) {j : Int32} {v : Value} (hj : ¬ j < 0) (hv : vs[j.toNatClampNeg]? = some v) (hd : decode c.code pc = .ok (.laload, 1)) (hp : pc + 1 = pc')
    (k : OGo p e below K T (mkF m pc' Ls (v :: st))) : OGo p e below K T (mkF m pc Ls (.int j :: .ref a :: st)) := by
  subst hp
  obtain ⟨cl, A, r1, r2, -⟩ := F
  exact k.via fun t q => X.laload hx (cell := cl) (a := a) (j := j) (v := v) (by rw [eT]; exact A.1) (State.isArrayOf_alike hZ.alike A.2.1) A.2.2 (aryIn r2 hj hv).1 (aryIn r2 hj hv).2 (g := mkF m pc Ls (.int j :: .ref a :: st)) rfl (rest := st) rfl hd t q
theorem g_caload (X : Stand p l e R s m args below meth c T locs cells slots) (hx : p.tables.exec = Jvm.exec) (hZ : Z.Warmed39 s.vm) (eT : T.heap = h) {a : Addr} {kk : ClassId} {vs : List Value} (F : OAry Z h a kk .char vs) {j : Int32} {v : Value} (hj : ¬ j < 0) (hv : vs[j.toNatClampNeg]? = some v) (hd : decode c.code pc = .ok (.caload, 1)) (hp : pc + 1 = pc')
    (k : OGo p e below K T (mkF m pc' Ls (v :: st))) : OGo p e below K T (mkF m pc Ls (.int j :: .ref a :: st)) := by
  subst hp
  obtain ⟨cl, A, r1, r2, -⟩ := F
  exact k.via fun t q => X.caload hx (cell := cl) (a := a) (j := j) (v := v) (by rw [eT]; exact A.1) (State.isArrayOf_alike hZ.alike A.2.1) A.2.2 (aryIn r2 hj hv).1 (aryIn r2 hj hv).2 (g := mkF m pc Ls (.int j :: .ref a :: st)) rfl (rest := st) rfl hd t q
theorem g_baload (X : Stand p l e R s m args below meth c T locs cells slots) (hx : p.tables.exec = Jvm.exec) (hZ : Z.Warmed39 s.vm) (eT : T.heap = h) {a : Addr} {kk : ClassId} {vs : List Value} (F : OAry Z h a kk .byte vs) {j : Int32} {v : Value} (hj : ¬ j < 0) (hv : vs[j.toNatClampNeg]? = some v) (hd : decode c.code pc = .ok (.baload, 1)) (hp : pc + 1 = pc')
    (k : OGo p e below K T (mkF m pc' Ls (v :: st))) : OGo p e below K T (mkF m pc Ls (.int j :: .ref a :: st)) := by
  subst hp
  obtain ⟨cl, A, r1, r2, -⟩ := F
  exact k.via fun t q => X.baloadBytes hx (cell := cl) (a := a) (j := j) (v := v) (by rw [eT]; exact A.1) (State.isArrayOf_alike hZ.alike A.2.1) A.2.2 (aryIn r2 hj hv).1 (aryIn r2 hj hv).2 (g := mkF m pc Ls (.int j :: .ref a :: st)) rfl (rest := st) rfl hd t q
theorem g_zaload (X : Stand p l e R s m args below meth c T locs cells slots) (hx : p.tables.exec = Jvm.exec) (hZ : Z.Warmed39 s.vm) (eT : T.heap = h) {a : Addr} {kk : ClassId} {vs : List Value} (F : OAry Z h a kk .boolean vs) {j : Int32} {v : Value} (hj : ¬ j < 0) (hv : vs[j.toNatClampNeg]? = some v) (hd : decode c.code pc = .ok (.baload, 1)) (hp : pc + 1 = pc')
    (k : OGo p e below K T (mkF m pc' Ls (v :: st))) : OGo p e below K T (mkF m pc Ls (.int j :: .ref a :: st)) := by
  subst hp
  obtain ⟨cl, A, r1, r2, -⟩ := F
  exact k.via fun t q => X.baloadBooleans hx (cell := cl) (a := a) (j := j) (v := v) (by rw [eT]; exact A.1) (State.isArrayOf_alike hZ.alike A.2.1) A.2.2 (aryIn r2 hj hv).1 (aryIn r2 hj hv).2 (g := mkF m pc Ls (.int j :: .ref a :: st)) rfl (rest := st) rfl hd t q
theorem g_saload (X : Stand p l e R s m args below meth c T locs cells slots) (hx : p.tables.exec = Jvm.exec) (hZ : Z.Warmed39 s.vm) (eT : T.heap = h) {a : Addr} {kk : ClassId} {vs : List Value} (F : OAry Z h a kk .short vs) {j : Int32} {v : Value} (hj : ¬ j < 0) (hv : vs[j.toNatClampNeg]? = some v) (hd : decode c.code pc = .ok (.saload, 1)) (hp : pc + 1 = pc')
    (k : OGo p e below K T (mkF m pc' Ls (v :: st))) : OGo p e below K T (mkF m pc Ls (.int j :: .ref a :: st)) := by
  subst hp
  obtain ⟨cl, A, r1, r2, -⟩ := F
  exact k.via fun t q => X.saload hx (cell := cl) (a := a) (j := j) (v := v) (by rw [eT]; exact A.1) (State.isArrayOf_alike hZ.alike A.2.1) A.2.2 (aryIn r2 hj hv).1 (aryIn r2 hj hv).2 (g := mkF m pc Ls (.int j :: .ref a :: st)) rfl (rest := st) rfl hd t q
theorem g_aaload (X : Stand p l e R s m args below meth c T locs cells slots) (hx : p.tables.exec = Jvm.exec) (hZ : Z.Warmed39 s.vm) (eT : T.heap = h) {a : Addr} {kk : ClassId} {ty : FieldType} {vs : List Value} (F : OAry Z h a kk ty vs) (hty : ty.isReference = true) {j : Int32} {v : Value} (hj : ¬ j < 0) (hv : vs[j.toNatClampNeg]? = some v) (hd : decode c.code pc = .ok (.aaload, 1)) (hp : pc + 1 = pc')
    (k : OGo p e below K T (mkF m pc' Ls (v :: st))) : OGo p e below K T (mkF m pc Ls (.int j :: .ref a :: st)) := by
  subst hp
  obtain ⟨cl, A, r1, r2, -⟩ := F
  exact k.via fun t q => X.aaload hx (cell := cl) (a := a) (j := j) (v := v) (by rw [eT]; exact A.1) (State.isArrayOf_alike hZ.alike A.2.1) hty A.2.2 (aryIn r2 hj hv).1 (aryIn r2 hj hv).2 (g := mkF m pc Ls (.int j :: .ref a :: st)) rfl (rest := st) rfl hd t q
theorem g_iastore (X : Stand p l e R s m args below meth c T locs cells slots) (hx : p.tables.exec = Jvm.exec) (hZ : Z.Warmed39 s.vm) (eT : T.heap = h) {a : Addr} {kk : ClassId} {vs vs' : List Value} (F : OAry Z h a kk .int vs) {j : Int32} {u : Value} {x : Int32} (hj : ¬ j < 0) (hv : vs[j.toNatClampNeg]? = some u) (hvs : vs.set j.toNatClampNeg (.int x) = vs') (P : OPr h0 ws h locs) (q : a ∈ ws ∨ h0.size ≤ a) (hd : decode c.code pc = .ok (.iastore, 1)) (hp : pc + 1 = pc')
    (k : ∀ T' h', Stand p l e R s m args below meth c T' (locs ++ [⟨a, j.toNatClampNeg⟩]) cells slots → T'.heap = h' → Wr h h' a j.toNatClampNeg (.int x) → OPr h0 ws h' (locs ++ [⟨a, j.toNatClampNeg⟩]) → OAry Z h' a kk .int vs' → OGo p e below K T' (mkF m pc' Ls st)) : OGo p e below K T (mkF m pc Ls (.int x :: .int j :: .ref a :: st)) := by
  subst hp
  obtain ⟨cl, A, r1, r2, r3⟩ := F
  obtain ⟨T', h', X', e', W', r⟩ := stI X hx hZ eT A (aryIn r2 hj hv).1 (g := mkF m pc Ls (.int x :: .int j :: .ref a :: st)) rfl rfl hd
  exact (k T' h' X' e' W' (P.wr W' q) (arySet ⟨cl, A, r1, r2, r3⟩ W' rfl hvs)).via r
theorem g_lastore (X : Stand p l e R s m args below meth c T locs cells slots) (hx : p.tables.exec = Jvm.exec) (hZ : Z.Warmed39 s.vm) (eT : T.heap = h) {a : Addr} {kk : ClassId} {vs vs' : List Value} (F : OAry Z h a kk .long vs) {j : Int32} {u : Value} {x : Int64} (hj : ¬ j < 0) (hv : vs[j.toNatClampNeg]? = some u) (hvs : vs.set j.toNatClampNeg (.long x) = vs') (P : OPr h0 ws h locs) (q : a ∈ ws ∨ h0.size ≤ a) (hd : decode c.code pc = .ok (.lastore, 1)) (hp : pc + 1 = pc')
    (k : ∀ T' h', Stand p l e R s m args below meth c T' (locs ++ [⟨a, j.toNatClampNeg⟩]) cells slots → T'.heap = h' → Wr h h' a j.toNatClampNeg (.long x) → OPr h0 ws h' (locs ++ [⟨a, j.toNatClampNeg⟩]) → OAry Z h' a kk .long vs' → OGo p e below K T' (mkF m pc' Ls st)) : OGo p e below K T (mkF m pc Ls (.long x :: .int j :: .ref a :: st)) := by
  subst hp
  obtain ⟨cl, A, r1, r2, r3⟩ := F
  obtain ⟨T', h', X', e', W', r⟩ := stJ X hx hZ eT A (aryIn r2 hj hv).1 (g := mkF m pc Ls (.long x :: .int j :: .ref a :: st)) rfl rfl hd
  exact (k T' h' X' e' W' (P.wr W' q) (arySet ⟨cl, A, r1, r2, r3⟩ W' rfl hvs)).via r
theorem g_aastore (X : Stand p l e R s m args below meth c T locs cells slots) (hx : p.tables.exec = Jvm.exec) (hZ : Z.Warmed39 s.vm) (eT : T.heap = h) {a : Addr} {kk : ClassId} {ty : FieldType} {vs vs' : List Value} (F : OAry Z h a kk ty vs) (hty : ty.isReference = true) {j : Int32} {u x : Value} (hj : ¬ j < 0) (hv : vs[j.toNatClampNeg]? = some u) (hvs : vs.set j.toNatClampNeg x = vs') (hf : fits ty x = true) (S : Sto Z h a x) (P : OPr h0 ws h locs) (q : a ∈ ws ∨ h0.size ≤ a) (hd : decode c.code pc = .ok (.aastore, 1)) (hp : pc + 1 = pc')
    (k : ∀ T' h', Stand p l e R s m args below meth c T' (locs ++ [⟨a, j.toNatClampNeg⟩]) cells slots → T'.heap = h' → Wr h h' a j.toNatClampNeg x → OPr h0 ws h' (locs ++ [⟨a, j.toNatClampNeg⟩]) → OAry Z h' a kk ty vs' → OGo p e below K T' (mkF m pc' Ls st)) : OGo p e below K T (mkF m pc Ls (x :: .int j :: .ref a :: st)) := by
  subst hp
  obtain ⟨cl, A, r1, r2, r3⟩ := F
  obtain ⟨T', h', X', e', W', r⟩ := stR X hx hZ eT A (aryIn r2 hj hv).1 hty S (g := mkF m pc Ls (x :: .int j :: .ref a :: st)) rfl rfl hd
  exact (k T' h' X' e' W' (P.wr W' q) (arySet ⟨cl, A, r1, r2, r3⟩ W' hf hvs)).via r
theorem fit0 (ty : FieldType) : fits ty (defaultValue ty) = true := by cases ty <;> rfl
theorem stoOf {a y : Addr} {kk : ClassId} {ty : FieldType} {vs : List Value} {C : String} (F : OAry Z h a kk ty vs) (O : Ovr Z kk C) (I : Ins Z h y C true) : Sto Z h a (.ref y) := by
  obtain ⟨cl, A, r1, -⟩ := F; exact Sto.ofV A r1 O I
theorem g_newarray (X : Stand p l e R s m args below meth c T locs cells slots) (hx : p.tables.exec = Jvm.exec) (hZ : Z.Warmed39 s.vm) {aty : ArrayType} {ad : String} (had : "[" ++ (newarray.typeOf aty).toString = ad) (w : (Jvm.Cond.arrayClass (newarray.typeOf aty)).before a0 Z = true) (eT : T.heap = h) {n : Int32} {vs : List Value} (hn : ¬ n < 0) (hvs : List.replicate n.toNatClampNeg (defaultValue (newarray.typeOf aty)) = vs) {cap : Nat} (hcap : n.toNatClampNeg ≤ cap) (hb : cap * 8 ≤ 536870912) (P : OPr h0 ws h locs)  (hd : decode c.code pc = .ok (.newarray aty, 2)) (hp : pc + 2 = pc') (hc : cells + 1 ≤ R.cells) (hl : slots + cap ≤ R.slots)
    (k : ∀ T' h' a kk, a = h.size → h0.size ≤ a → Stand p l e R s m args below meth c T' locs (cells + 1) (slots + cap) → T'.heap = h' → Ext h h' → OPr h0 ws h' locs → OAry Z h' a kk (newarray.typeOf aty) vs → Exa Z h' a ad → OGo p e below K T' (mkF m pc' Ls (.ref a :: st))) : OGo p e below K T (mkF m pc Ls (.int n :: st)) := by
  subst hp hvs had
  have hcb : componentBytes (newarray.typeOf aty) ≤ 8 := by cases aty <;> decide
  obtain ⟨cA, kA, comp, h1, h2, h3, X', r⟩ := X.newarrayPrim hx (mvA hZ w) (g := mkF m pc Ls (.int n :: st)) rfl hd rfl hn (Nat.le_trans (Nat.mul_le_mul hcap hcb) hb) hc (by omega)
  subst eT
  rw [hZ.alike.findClass] at h1
  obtain ⟨kZ, z1, -⟩ := Vm.findClass_spec h1
  obtain ⟨k', z2, z3⟩ := hZ.alike.2.2 _ _ z1
  cases h2.symm.trans z2
  have kk : kZ.kind = .array comp (newarray.typeOf aty) := by rw [← h3, z3]
  have hN : (T.heap.push (newA cA (newarray.typeOf aty) n))[T.heap.size]? = some (newA cA (newarray.typeOf aty) n) := by simp
  have A' : Arr Z (T.heap.push (newA cA (newarray.typeOf aty) n)) T.heap.size (newA cA (newarray.typeOf aty) n) (newarray.typeOf aty) := ⟨hN, ⟨by simp [newA], kZ, z1, comp, kk⟩, by simp [newA]⟩
  have E' : Ext T.heap (T.heap.push (newA cA (newarray.typeOf aty) n)) := ext_of fun a q => Array.getElem?_push_lt q |>.trans (Array.getElem?_eq_getElem q).symm
  refine (k _ _ T.heap.size cA rfl P.1.1 (X'.more (Nat.le_refl _) (by omega)) rfl E' (P.ext E') ⟨_, A', rfl, by simp [newA], by have := (back32 hn).2; simpa using this, fun v hv => ?_⟩ (exa_arr A' h1 rfl)).via r
  rw [(List.mem_replicate.mp hv).2]; exact fit0 _
theorem g_anewarray (X : Stand p l e R s m args below meth c T locs cells slots) (hx : p.tables.exec = Jvm.exec) (hZ : Z.Warmed39 s.vm) (hown : s.vm.findClass own = some m.cls) {C : String} {index : Nat} (w1 : (Jvm.Cond.classLink own index C).before a0 Z = true) (w2 : (Jvm.Cond.arrayOver (.object C)).before a0 Z = true) {ad : String} (had : "[" ++ (FieldType.object C).toString = ad) (eT : T.heap = h) {n : Int32} {vs : List Value} (hn : ¬ n < 0) (hvs : List.replicate n.toNatClampNeg Value.null = vs) {cap : Nat} (hcap : n.toNatClampNeg ≤ cap) (hb : cap * 8 ≤ 536870912) (P : OPr h0 ws h locs) (hd : decode c.code pc = .ok (.anewarray index, 3)) (hp : pc + 3 = pc') (hc : cells + 1 ≤ R.cells) (hl : slots + cap ≤ R.slots)
    (k : ∀ T' h' a kk, a = h.size → h0.size ≤ a → Stand p l e R s m args below meth c T' locs (cells + 1) (slots + cap) → T'.heap = h' → Ext h h' → OPr h0 ws h' locs → OAry Z h' a kk (.object C) vs → Ovr Z kk C → Exa Z h' a ad → OGo p e below K T' (mkF m pc' Ls (.ref a :: st))) : OGo p e below K T (mkF m pc Ls (.int n :: st)) := by
  subst hp hvs
  obtain ⟨T', h', cA, X', e', E', A', B', O', r⟩ := newRE X hx hZ hown w1 w2 eT (g := mkF m pc Ls (.int n :: st)) rfl hd rfl hn hcap hb hc hl had
  refine (k T' h' h.size cA rfl P.1.1 X' e' E' (P.ext E') ⟨_, A', rfl, by simp [newA, defaultValue], by have := (back32 hn).2; simpa using this, fun v hv => ?_⟩ O' B').via r
  rw [(List.mem_replicate.mp hv).2]; rfl
theorem g_anewarrayA (X : Stand p l e R s m args below meth c T locs cells slots) (hx : p.tables.exec = Jvm.exec) (hZ : Z.Warmed39 s.vm) (hown : s.vm.findClass own = some m.cls) {C : String} {ty : FieldType} {index : Nat} (hC : (FieldType.array ty).toString = C) (w1 : (Jvm.Cond.classLink own index C).before a0 Z = true) (w2 : (Jvm.Cond.arrayOver (.array ty)).before a0 Z = true) {ad : String} (had : "[" ++ C = ad) (eT : T.heap = h) {n : Int32} {vs : List Value} (hn : ¬ n < 0) (hvs : List.replicate n.toNatClampNeg Value.null = vs) {cap : Nat} (hcap : n.toNatClampNeg ≤ cap) (hb : cap * 8 ≤ 536870912) (P : OPr h0 ws h locs) (hd : decode c.code pc = .ok (.anewarray index, 3)) (hp : pc + 3 = pc') (hc : cells + 1 ≤ R.cells) (hl : slots + cap ≤ R.slots)
    (k : ∀ T' h' a kk, a = h.size → h0.size ≤ a → Stand p l e R s m args below meth c T' locs (cells + 1) (slots + cap) → T'.heap = h' → Ext h h' → OPr h0 ws h' locs → OAry Z h' a kk (.array ty) vs → OvrA Z kk ty C → OGo p e below K T' (mkF m pc' Ls (.ref a :: st))) : OGo p e below K T (mkF m pc Ls (.int n :: st)) := by
  subst hp hvs
  obtain ⟨T', h', cA, X', e', E', A', -, O', r⟩ := newRA X hx hZ hown hC w1 w2 eT (g := mkF m pc Ls (.int n :: st)) rfl hd rfl hn hcap hb hc hl had
  refine (k T' h' h.size cA rfl P.1.1 X' e' E' (P.ext E') ⟨_, A', rfl, by simp [newA, defaultValue], by have := (back32 hn).2; simpa using this, fun v hv => ?_⟩ O').via r
  rw [(List.mem_replicate.mp hv).2]; rfl
theorem stoOfA {a y : Addr} {kk : ClassId} {t0 ty : FieldType} {vs : List Value} {C : String} (F : OAry Z h a kk t0 vs) (O : OvrA Z kk ty C) (I : Ins Z h y C true) : Sto Z h a (.ref y) := by
  obtain ⟨cl, A, r1, -⟩ := F; exact Sto.ofVA A r1 O I
theorem g_castN (X : Stand p l e R s m args below meth c T locs cells slots) (hx : p.tables.exec = Jvm.exec) {index : Nat} (hd : decode c.code pc = .ok (.checkcast index, 3)) (hp : pc + 3 = pc')
    (k : OGo p e below K T (mkF m pc' Ls (.null :: st))) : OGo p e below K T (mkF m pc Ls (.null :: st)) := by
  subst hp; exact k.via fun t q => X.checkcastNull hx (g := mkF m pc Ls (.null :: st)) rfl rfl hd t q
theorem g_instN0 (X : Stand p l e R s m args below meth c T locs cells slots) (hx : p.tables.exec = Jvm.exec) {index : Nat} (hd : decode c.code pc = .ok (.instanceof index, 3)) (hp : pc + 3 = pc')
    (k : OGo p e below K T (mkF m pc' Ls (.int 0 :: st))) : OGo p e below K T (mkF m pc Ls (.null :: st)) := by
  subst hp; exact k.via fun t q => X.instanceofNull hx (g := mkF m pc Ls (.null :: st)) rfl rfl hd t q
theorem g_cast (X : Stand p l e R s m args below meth c T locs cells slots) (hx : p.tables.exec = Jvm.exec) (hZ : Z.Warmed39 s.vm) (hown : s.vm.findClass own = some m.cls) {Kc : String} {index : Nat} (w : (Jvm.Cond.classLink own index Kc).before a0 Z = true) (eT : T.heap = h) {a : Addr} (F : Ins Z h a Kc true) (hd : decode c.code pc = .ok (.checkcast index, 3)) (hp : pc + 3 = pc')
    (k : ∀ T', Stand p l e R s m args below meth c T' locs cells slots → T'.heap = h → OGo p e below K T' (mkF m pc' Ls (.ref a :: st))) : OGo p e below K T (mkF m pc Ls (.ref a :: st)) := by
  subst hp
  obtain ⟨T', X', e', q⟩ := castY X hx hZ hown w eT F (g := mkF m pc Ls (.ref a :: st)) rfl rfl hd
  exact (k T' X' e').via q
theorem g_instY (X : Stand p l e R s m args below meth c T locs cells slots) (hx : p.tables.exec = Jvm.exec) (hZ : Z.Warmed39 s.vm) (hown : s.vm.findClass own = some m.cls) {Kc : String} {index : Nat} (w : (Jvm.Cond.classLink own index Kc).before a0 Z = true) (eT : T.heap = h) {a : Addr} (F : Ins Z h a Kc true) (hd : decode c.code pc = .ok (.instanceof index, 3)) (hp : pc + 3 = pc')
    (k : ∀ T', Stand p l e R s m args below meth c T' locs cells slots → T'.heap = h → OGo p e below K T' (mkF m pc' Ls (.int 1 :: st))) : OGo p e below K T (mkF m pc Ls (.ref a :: st)) := by
  subst hp
  obtain ⟨T', X', e', q⟩ := instY X hx hZ hown w eT F (g := mkF m pc Ls (.ref a :: st)) rfl rfl hd
  exact (k T' X' e').via q

theorem g_clone (X : Stand p l e R s m args below meth c T locs cells slots) (hx : p.tables.exec = Jvm.exec) (hZ : Z.Warmed39 s.vm) (hown : s.vm.findClass own = some m.cls) {ad : String} {index : Nat}
    (w1 : (Jvm.Cond.methodLink own index ⟨ad, "clone", "()Ljava/lang/Object;"⟩).before a0 Z = true) (w2 : (Jvm.Cond.sameMethod ad "java/lang/Object" "clone" "()Ljava/lang/Object;").before a0 Z = true) (w3 : (Jvm.Cond.native ⟨"java/lang/Object", "clone", "()Ljava/lang/Object;"⟩).before a0 Z = true)
    (w4 : (Jvm.Cond.instanceMethod ⟨"java/lang/Object", "clone", "()Ljava/lang/Object;"⟩).before a0 Z = true) (w5 : (Jvm.Cond.selects ad ⟨ad, "clone", "()Ljava/lang/Object;"⟩ ⟨"java/lang/Object", "clone", "()Ljava/lang/Object;"⟩).before a0 Z = true) (w6 : (Jvm.Cond.castable ad "java/lang/Cloneable").before a0 Z = true)
    (eT : T.heap = h) {a : Addr} {kk : ClassId} {ty : FieldType} {vs : List Value} (F : OAry Z h a kk ty vs) (E : Exa Z h a ad) (P : OPr h0 ws h locs) (hsize : Ls.size = c.maxLocals) (hd : decode c.code pc = .ok (.invokevirtual index, 3)) (hp : pc + 3 = pc')
    (hf : 1 ≤ R.frames) {W cap : Nat} (hW : (st.map fun v => v.category).sum ≤ W) (hl : W + 14 ≤ R.locals) (hcap : vs.length ≤ cap) (hc : cells + 1 ≤ R.cells) (hsl : slots + cap ≤ R.slots)
    (k : ∀ T' h' a', a' = h.size → h0.size ≤ a' → Stand p l e R s m args below meth c T' locs (cells + 1) (slots + cap) → T'.heap = h' → Ext h h' → OPr h0 ws h' locs → OAry Z h' a' kk ty vs → Exa Z h' a' ad → OGo p e below K T' (mkF m pc' Ls (.ref a' :: st))) : OGo p e below K T (mkF m pc Ls (.ref a :: st)) := by
  subst hp
  obtain ⟨cl, A, r1, r2, r3, r4⟩ := F
  obtain ⟨T', h', X', e', E', A', B', r⟩ := cloneA X hx hZ hown w1 w2 w3 w4 w5 w6 eT A E (aryFit (k := kk) A r2 r4) (g := mkF m pc Ls (.ref a :: st)) rfl hsize rfl hd hf (W := W) (by show 2 * 0 + _ ≤ _; omega) hl (cap := cap) (by rw [← r2] at hcap; simpa using hcap) hc hsl
  exact (k T' h' h.size rfl P.1.1 X' e' E' (P.ext E') ⟨_, A', r1, r2, r3, r4⟩ B').via r
theorem eqI {first : State} {o : Option Outcome} {idx : List Nat} {t u : Term} {x y : Int32} (ha : t.eval args first o idx s = some (.int x)) (hb : u.eval args first o idx s = some (.int y)) : (Jvm.Cond.eq t u).value args first o s idx = some (decide (x = y)) := by simp [Cond.value, ha, hb]
theorem lenSt {t : Term} {a : Addr} {cl : Cell} {ty : FieldType} {n : Int32} (ev : t.eval args s none [] s = some (.ref a)) (A : Arr s s.heap a cl ty) (q : (Jvm.Cond.eq (.length t) (.int n)).value args s none s [] = some true) : cl.slots.size = n.toInt ∧ cl.slots.size < 2 ^ 31 := by
  have ha : s.arrayAt? a = some cl := A.fin (Vm.Alike.refl _)
  by_cases hl : cl.slots.size < 2 ^ 31
  · have e1 := len_f (idx := []) (first := s) (o := none) ev ha hl
    have e2 : cl.slots.size.toInt32 = n := by rw [eqI e1 (Term.int_eval n)] at q; simpa using q
    exact ⟨by rw [← e2, len_toInt hl], hl⟩
  · have e1 : (Term.length t).eval args s none [] s = none := by simp [Term.eval, ev, ha, hl]
    simp [Cond.value, e1] at q
theorem elemSt {t u : Term} {a : Addr} {cl : Cell} {ty : FieldType} {i : Int32} {v : Value} (ev : t.eval args s none [] s = some (.ref a)) (A : Arr s s.heap a cl ty) (eu : u.eval args s none [] s = some v) (hv : v.isRef = true) (q : (Jvm.Cond.eq (.elem t (.int i)) u).value args s none s [] = some true) : cl.slots[i.toNatClampNeg]? = some v := by
  obtain ⟨x, y, e1, e2, k1, k2⟩ := cmp_v (Or.inl q)
  cases eu.symm.trans e2
  have hx : x.isRef = true := by rcases ref_cases hv with rfl | ⟨b, rfl⟩ <;> exact k2.2
  have r : x = v := by rw [eq_R e1 e2 hx hv] at q; simpa using q
  subst r
  exact (elem_in e1 ev (Term.int_eval i) A.1).2
theorem aryStart {a : Addr} {cl : Cell} {ty : FieldType} {vs : List Value} (hf : Fit s) (A : Arr s s.heap a cl ty) (hs : cl.slots.size < 2 ^ 31) (hl : cl.slots.size = vs.length) (hv : ∀ i, i < vs.length → cl.slots[i]? = vs[i]?) : OAry s s.heap a cl.cls ty vs := by
  have e : cl.slots.toList = vs := by
    apply List.ext_getElem?
    intro i
    by_cases hi : i < vs.length
    · rw [← hv i hi]; simp
    · rw [List.getElem?_eq_none (by simp; omega), List.getElem?_eq_none (by omega)]
  refine ⟨cl, A, rfl, e, by omega, fun v hm => ?_⟩
  rw [← e] at hm
  obtain ⟨i, hi, rfl⟩ := List.getElem_of_mem hm
  have hi' : i < cl.slots.size := by simpa using hi
  have q := hf A.1 hi'
  obtain ⟨hs', k, hk, comp, hkind⟩ := A.2.1
  have e2 : s.slotType? cl.cls cl.vm i = some ty := by
    cases hq : cl.vm <;> first | exact absurd hq (hs' _) | simp [State.slotType?, hk, hkind]
  simp [State.fitsSlot, e2] at q
  simpa using q

theorem wd (hw : ∀ d ∈ tables_1, d.before a0 Z = true) (k : Nat) {d : Jvm.Cond} (q : tables_1[k]? = some d) : d.before a0 Z = true := hw d (List.mem_of_getElem? q)
theorem narR {t : FieldType} {v : Value} (q : v.isRef = true) : narrow t v = v := by rcases ref_cases q with rfl | ⟨a, rfl⟩ <;> cases t <;> rfl
theorem fitR {t : FieldType} {v : Value} (q : v.isRef = true) (r : t.isReference = true) : fits t v = true := by
  rcases ref_cases q with rfl | ⟨a, rfl⟩ <;> cases t <;> first | rfl | cases r
theorem insP {a : Addr} {C : String} {b : Bool} (F : Ins Z h0 a C b) (P : OPr h0 ws h L) : Ins Z h a C b := by
  obtain ⟨cell, cT, h1, h2, h3⟩ := F
  obtain ⟨c', e1, e2, e3, -⟩ := P.1.2.2 _ _ h1
  exact ⟨c', cT, e1, h2, by rw [e2, e3]; exact h3⟩
theorem neAry {a b : Addr} {kk : ClassId} {ty : FieldType} {vs : List Value} {C : String} {n : Nat} (E : Exa Z h b C) (wi : (Jvm.Cond.instantiable C n).before a0 Z = true) (F : OAry Z h a kk ty vs) : b ≠ a := by
  obtain ⟨c, A, -⟩ := F; exact ne_arr E wi A
theorem exSta {C n d Kc : String} (q : (Jvm.Cond.exactly (.static C n d) Kc).value args s none s [] = some true) (hi : (Jvm.Cond.initializedFor C n d).before args s = true ∨ ((Jvm.Cond.initialized C).before args s = true ∧ (Jvm.Cond.laysStatic C n d).before args s = true)) :
    ∃ a, (Term.static C n d).eval args s none [] s = some (.ref a) ∧ Sta s s.heap C n d (.ref a) ∧ Exa s s.heap a Kc := by
  obtain ⟨a, ev⟩ := exa_v q
  exact ⟨a, ev, Sta.start ev hi, Exa.start ev q⟩
theorem eqFld {t : Term} {a : Addr} {C n d : String} {k : Int32} (ev : t.eval args s none [] s = some (.ref a)) (q : (Jvm.Cond.eq (.field t C n d) (.int k)).value args s none s [] = some true) : Fld s s.heap a C n d (.int k) := by
  obtain ⟨x, y, e1, e2, -, k2⟩ := cmp_v (Or.inl q)
  cases e2
  obtain ⟨z, rfl⟩ := k2
  have r : z = k := by rw [eqI e1 (Term.int_eval k)] at q; simpa using q
  subst r
  exact Fld.start ((fld_at ev).symm.trans e1)
theorem eqFldR {t u : Term} {a : Addr} {v : Value} {C n d : String} (ev : t.eval args s none [] s = some (.ref a)) (eu : u.eval args s none [] s = some v) (hv : v.isRef = true) (q : (Jvm.Cond.eq (.field t C n d) u).value args s none s [] = some true) : Fld s s.heap a C n d v := by
  obtain ⟨x, y, e1, e2, k1, k2⟩ := cmp_v (Or.inl q)
  cases eu.symm.trans e2
  have hx : x.isRef = true := by rcases ref_cases hv with rfl | ⟨b, rfl⟩ <;> exact k2.2
  have r : x = v := by rw [eq_R e1 e2 hx hv] at q; simpa using q
  subst r
  exact Fld.start ((fld_at ev).symm.trans e1)

theorem g_specialN (X : Stand p l e R s m args below meth c T locs cells slots) (hx : p.tables.exec = Jvm.exec) (hZ : Z.Warmed39 s.vm) (hown : s.vm.findClass own = some m.cls) (eT : T.heap = h) {y : MethodName} {host : String} {bytes : ByteArray} {maxL index : Nat} {rm : Room} {as : Array Value} {Q : Option Value → Heap → List Loc → Prop} (hM : OMet l y bytes maxL none rm as Z h Q) (hy1 : y.name = "<init>")
    (w1 : (Jvm.Cond.methodLinkNest own index y host).before a0 Z = true) (w2 : (Jvm.Cond.instanceMethod y).before a0 Z = true) (w3 : (Jvm.Cond.code y bytes maxL none).before a0 Z = true) (wz : (Jvm.Cond.initialized y.cls).before a0 Z = true) (hy : y.cls ≠ "java/lang/invoke/MethodHandle" ∧ y.cls ≠ "java/lang/invoke/VarHandle")
    {a : Addr} {argsL rest : List Value} (has : (.ref a :: argsL).toArray = as) (hst : st = argsL.reverse ++ .ref a :: rest) {W : Nat} {ps : List FieldType} (hde : parseMethodDescriptor y.desc = some ⟨ps, none⟩) (hlen : argsL.length = ps.length) (hW : (rest.map fun v => v.category).sum ≤ W) (hf : rm.frames + 1 ≤ R.frames) (hl : W + (maxL + 11) + rm.locals ≤ R.locals) (hc : cells + rm.cells ≤ R.cells) (hs : slots + rm.slots ≤ R.slots)
    (hsize : Ls.size = c.maxLocals) (hd : decode c.code pc = .ok (.invokespecial index, 3)) (hp : pc + 3 = pc')
    (k : ∀ v T' h' L, Stand p l e R s m args below meth c T' (locs ++ L) (cells + rm.cells) (slots + rm.slots) → T'.heap = h' → Q v h' L → OGo p e below K T' (mkF m pc' Ls (v.toList ++ rest))) : OGo p e below K T (mkF m pc Ls st) := by
  subst hp has
  obtain ⟨v, vm₁, ⟨T', L', c', n'⟩, -, X', ⟨Lc, hQ, l1, y1, z1⟩, r⟩ := X.specialBackNest hx (host := host) (y := y) hy1 hown (Cond.methodLinkNest_wide hZ w1 :) (mvT hZ w2) (mvT hZ w3) hy (hM.back (W := W) hZ w3 wz hf hl) (g := mkF m pc Ls st) rfl hsize (Steps.refl _) (a := a) (argsL := argsL) (rest := rest) (lenOf hde hlen) hst (by show 2 * 0 + _ ≤ _; omega) hd (fun _ _ => ⟨rfl, eT, hc, hs⟩)
  dsimp only [Pt.U, Pt.locs, Pt.cells, Pt.slots] at X' l1 y1 z1 r hQ
  subst l1 y1 z1
  exact (k v T' _ Lc X' rfl hQ).tr r
theorem g_private (X : Stand p l e R s m args below meth c T locs cells slots) (hx : p.tables.exec = Jvm.exec) (hZ : Z.Warmed39 s.vm) (hown : s.vm.findClass own = some m.cls) (eT : T.heap = h) {y : MethodName} {bytes : ByteArray} {maxL index : Nat} {ret : Option FieldType} {rm : Room} {as : Array Value} {Q : Option Value → Heap → List Loc → Prop} (hM : OMet l y bytes maxL ret rm as Z h Q) {C : String}
    (w1 : (Jvm.Cond.methodLink own index y).before a0 Z = true) (w4 : (Jvm.Cond.instanceMethod y).before a0 Z = true) (w3 : (Jvm.Cond.selects y.cls y y).before a0 Z = true) (wp : (Jvm.Cond.privateMethod y).before a0 Z = true) (w5 : (Jvm.Cond.code y bytes maxL ret).before a0 Z = true) (wz : (Jvm.Cond.initialized y.cls).before a0 Z = true) (hy : y.cls ≠ "java/lang/invoke/MethodHandle" ∧ y.cls ≠ "java/lang/invoke/VarHandle")
    {a : Addr} (E : Exa Z h a C) {argsL rest : List Value} (has : (.ref a :: argsL).toArray = as) (hst : st = argsL.reverse ++ .ref a :: rest) {W : Nat} {ps : List FieldType} {rt : Option FieldType} (hde : parseMethodDescriptor y.desc = some ⟨ps, rt⟩) (hlen : argsL.length = ps.length) (hW : (rest.map fun v => v.category).sum ≤ W) (hf : rm.frames + 1 ≤ R.frames) (hl : W + (maxL + 11) + rm.locals ≤ R.locals) (hc : cells + rm.cells ≤ R.cells) (hs : slots + rm.slots ≤ R.slots)
    (hsize : Ls.size = c.maxLocals) (hd : decode c.code pc = .ok (.invokevirtual index, 3)) (hp : pc + 3 = pc')
    (k : ∀ v T' h' L, Stand p l e R s m args below meth c T' (locs ++ L) (cells + rm.cells) (slots + rm.slots) → T'.heap = h' → Q v h' L → OGo p e below K T' (mkF m pc' Ls (v.toList ++ rest))) : OGo p e below K T (mkF m pc Ls st) := by
  subst hp has
  obtain ⟨cell, q1, q2⟩ := E.cell
  obtain ⟨v, vm₁, ⟨T', L', c', n'⟩, -, X', ⟨Lc, hQ, l1, y1, z1⟩, r⟩ := X.privateBack hx (y := y) hown (mvT hZ w1) (mvT hZ w4) (mvT hZ w3) (Jvm.Cond.privateMethod_at (args := #[]) (mvP hZ wp)) (mvT hZ w5) hy (hM.back (W := W) hZ w5 wz hf hl) (g := mkF m pc Ls st) rfl hsize (Steps.refl _) (a := a) (by rw [eT]; exact q1) q2 (argsL := argsL) (rest := rest) (lenOf hde hlen) hst (by show 2 * 0 + _ ≤ _; omega) hd (fun _ _ => ⟨rfl, eT, hc, hs⟩)
  dsimp only [Pt.U, Pt.locs, Pt.cells, Pt.slots] at X' l1 y1 z1 r hQ
  subst l1 y1 z1
  exact (k v T' _ Lc X' rfl hQ).tr r
theorem noIns {C S Kc : String} {n : Nat} (w : (Jvm.Cond.superclass C S).before a0 Z = true) (wi : (Jvm.Cond.instantiable Kc n).before a0 Z = true) (ns : NS Z C Kc) (hn : C ≠ Kc) : ∃ c t, Z.vm.findClass C = some c ∧ Z.vm.findClass Kc = some t ∧ Z.vm.assignable c t = false := by
  obtain ⟨c, t, h0, g0, n3⟩ := ns
  obtain ⟨p, k, kp, h1, h2, h3, h4, h5, -, h7⟩ := Jvm.Cond.superclass_spec h0 w
  obtain ⟨t', kt, g1, g2, g3, g4, -⟩ := Jvm.Cond.instantiable_spec wi
  cases g0.symm.trans g1
  have ne := ids_ne h0 g0 hn
  have g5 : kt.isInterface = false := by cases hh : kt.isInterface <;> simp [hh] at g4 ⊢
  refine ⟨c, t, h0, g0, ?_⟩
  show Z.vm.assignableAux (255 + 1) c t = false
  simp [Vm.assignableAux, ne, h2, g2, h5, g3, g5, Vm.isSubclass, n3]
theorem nsRoot {O Kc : String} {n : Nat} (w : (Jvm.Cond.noSuperclass O).before a0 Z = true) (wi : (Jvm.Cond.instantiable Kc n).before a0 Z = true) (hn : O ≠ Kc) : NS Z O Kc := by
  obtain ⟨c, k, h1, h2, h3, -, -⟩ := Jvm.Cond.noSuperclass_spec w
  obtain ⟨t, kt, g1, -⟩ := Jvm.Cond.instantiable_spec wi
  have ne := ids_ne h1 g1 hn
  refine ⟨c, t, h1, g1, fun fuel => ?_⟩
  cases fuel with
  | zero => rfl
  | succ f => simp [Vm.isSubclassAux, ne, h2, h3]
theorem g_instNo (X : Stand p l e R s m args below meth c T locs cells slots) (hx : p.tables.exec = Jvm.exec) (hZ : Z.Warmed39 s.vm) (hown : s.vm.findClass own = some m.cls) {C Kc : String} {index : Nat} (w : (Jvm.Cond.classLink own index Kc).before a0 Z = true) (eT : T.heap = h) {a : Addr} (E : Exa Z h a C) (F : ∃ c t, Z.vm.findClass C = some c ∧ Z.vm.findClass Kc = some t ∧ Z.vm.assignable c t = false) (hd : decode c.code pc = .ok (.instanceof index, 3)) (hp : pc + 3 = pc')
    (k : ∀ T', Stand p l e R s m args below meth c T' locs cells slots → T'.heap = h → OGo p e below K T' (mkF m pc' Ls (.int 0 :: st))) : OGo p e below K T (mkF m pc Ls (.ref a :: st)) := by
  subst hp
  obtain ⟨T', X', e', q⟩ := instNo X hx hZ hown w eT E F (g := mkF m pc Ls (.ref a :: st)) rfl rfl hd
  exact (k T' X' e').via q
theorem g_tswIn (X : Stand p l e R s m args below meth c T locs cells slots) (hx : p.tables.exec = Jvm.exec) {dflt low high : Int} {offs : Array Int} {len : Nat} {o : Int} (hd : decode c.code pc = .ok (.tableswitch dflt low high offs, len)) {i : Int32} (hin : ¬ (i.toInt < low ∨ i.toInt > high)) (hoff : offs[(i.toInt - low).toNat]? = some o) (ho : 0 ≤ (pc : Int) + o) (hp : ((pc : Int) + o).toNat = pc')
    (k : OGo p e below K T (mkF m pc' Ls st)) : OGo p e below K T (mkF m pc Ls (.int i :: st)) := k.via fun _ q => XS.tswIn X.here hx rfl rfl hd rfl hin hoff ho hp q
theorem g_tswOut (X : Stand p l e R s m args below meth c T locs cells slots) (hx : p.tables.exec = Jvm.exec) {dflt low high : Int} {offs : Array Int} {len : Nat} (hd : decode c.code pc = .ok (.tableswitch dflt low high offs, len)) {i : Int32} (hout : i.toInt < low ∨ i.toInt > high) (ho : 0 ≤ (pc : Int) + dflt) (hp : ((pc : Int) + dflt).toNat = pc')
    (k : OGo p e below K T (mkF m pc' Ls st)) : OGo p e below K T (mkF m pc Ls (.int i :: st)) := k.via fun _ q => XS.tswOut X.here hx rfl rfl hd rfl hout ho hp q
/-- the Class object of C has been made -/
def OMir (Z : State) (C : String) (m : Addr) : Prop := ∃ (c : ClassId) (k : Class), Z.vm.findClass C = some c ∧ Z.vm.classes[c]? = some k ∧ k.mirror = some m
theorem g_getcls (X : Stand p l e R s m args below meth c T locs cells slots) (hx : p.tables.exec = Jvm.exec) (hZ : Z.Warmed39 s.vm) (hown : s.vm.findClass own = some m.cls) {C : String} {index : Nat}
    (w1 : (Jvm.Cond.methodLink own index ⟨"java/lang/Object", "getClass", "()Ljava/lang/Class;"⟩).before a0 Z = true) (w2 : (Jvm.Cond.declares ⟨"java/lang/Object", "getClass", "()Ljava/lang/Class;"⟩).before a0 Z = true) (w3 : (Jvm.Cond.noSuperclass "java/lang/Object").before a0 Z = true) (w4 : (Jvm.Cond.selects C ⟨"java/lang/Object", "getClass", "()Ljava/lang/Class;"⟩ ⟨"java/lang/Object", "getClass", "()Ljava/lang/Class;"⟩).before a0 Z = true)
    (w5 : (Jvm.Cond.instanceMethod ⟨"java/lang/Object", "getClass", "()Ljava/lang/Class;"⟩).before a0 Z = true) (w6 : (Jvm.Cond.native ⟨"java/lang/Object", "getClass", "()Ljava/lang/Class;"⟩).before a0 Z = true) (eT : T.heap = h) {a : Addr} (E : Exa Z h a C) {mr : Addr} (M : OMir Z C mr)
    (hsize : Ls.size = c.maxLocals) (hd : decode c.code pc = .ok (.invokevirtual index, 3)) (hp : pc + 3 = pc') (hf : 1 ≤ R.frames) {W : Nat} (hW : (st.map fun v => v.category).sum ≤ W) (hl : W + (nativeFrameWords "java/lang/Object" "getClass" 1 + 11) ≤ R.locals)
    (k : ∀ T', Stand p l e R s m args below meth c T' locs cells slots → T'.heap = h → OGo p e below K T' (mkF m pc' Ls (.ref mr :: st))) : OGo p e below K T (mkF m pc Ls (.ref a :: st)) := by
  subst hp
  obtain ⟨cB, kB, i1, i2, i3⟩ := isOf (T := T) hZ eT E
  obtain ⟨cc, kc, m1, m2, m3⟩ := M
  rw [hZ.alike.findClass] at i1
  cases i1.symm.trans m1
  obtain ⟨k', q, ek⟩ := hZ.alike.2.2 _ _ m2
  obtain ⟨vm', X', r⟩ := X.getClassOf hx hown (mvT hZ w1) (mvT hZ w2) (nf_top (args := #[]) (mvT hZ w3)) (mvT hZ w4) (mvT hZ w5) (mvT hZ w6) (by rw [hZ.alike.findClass]; exact m1) i3 q (by rw [ek]; exact m3) (g := mkF m pc Ls (.ref a :: st)) rfl hsize rfl hd hf (by show 2 * 0 + _ + _ ≤ _; omega)
  exact (k _ X' eT).via r
theorem g_ldcCls (X : Stand p l e R s m args below meth c T locs cells slots) (hx : p.tables.exec = Jvm.exec) (hZ : Z.Warmed39 s.vm) (hown : s.vm.findClass own = some m.cls) {C : String} {index : Nat} (w : (Jvm.Cond.classLink own index C).before a0 Z = true) (eT : T.heap = h) {mr : Addr} (M : OMir Z C mr) (hd : decode c.code pc = .ok (.ldc index, 2)) (hp : pc + 2 = pc')
    (k : ∀ T', Stand p l e R s m args below meth c T' locs cells slots → T'.heap = h → OGo p e below K T' (mkF m pc' Ls (.ref mr :: st))) : OGo p e below K T (mkF m pc Ls st) := by
  subst hp
  obtain ⟨cc, kc, m1, m2, m3⟩ := M
  obtain ⟨k', q, ek⟩ := hZ.alike.2.2 _ _ m2
  have hev : (Term.mirror C).eval args s none [] s = some (.ref mr) := by
    have f1 : s.vm.findClass C = some cc := by rw [hZ.alike.findClass]; exact m1
    have f2 : k'.mirror = some mr := by rw [ek]; exact m3
    simp [Term.eval, f1, q, f2]
  obtain ⟨vm', X', r⟩ := X.ldcMirror hx hown (mvT hZ w) hev (g := mkF m pc Ls st) rfl hd
  exact (k _ X' eT).via r
theorem aryArv {a : Addr} {kk : ClassId} {ty : FieldType} {vs : List Value} (d : Value) (F : OAry Z h a kk ty vs) : Arv Z h a kk ty vs.length.toInt32 vs d := by
  obtain ⟨c, A, r1, r2, r3, r4⟩ := F
  have hz : ¬ vs.length.toInt32 < 0 := by
    rw [Int32.lt_iff_toInt_lt, len_toInt r3]; have : (0 : Int32).toInt = 0 := rfl; omega
  have hn : vs.length.toInt32.toNatClampNeg = vs.length := by
    have := len_toInt r3; simp only [Int32.toNatClampNeg, this]; omega
  have hs : c.slots.size = vs.length := by rw [← r2]; simp
  have hg : ∀ i, i < c.slots.size → c.slots[i]? = some (vs.getD i d) := fun i hi => by
    have : c.slots[i]? = vs[i]? := by rw [← r2]; simp
    rw [this, List.getD_eq_getElem?_getD, List.getElem?_eq_getElem (by omega)]; rfl
  refine ⟨c, A, r1, by rw [hn, hs], hz, hg, fun i hi => ?_⟩
  refine r4 _ ?_
  rw [List.getD_eq_getElem?_getD, List.getElem?_eq_getElem (by omega)]; simp
theorem arvAry {a : Addr} {kk : ClassId} {ty : FieldType} {z : Int32} {vs : List Value} {d : Value} (F : Arv Z h a kk ty z vs d) (hz : z.toNatClampNeg = vs.length) : OAry Z h a kk ty vs := by
  obtain ⟨c, A, r1, r2, r3, H, G⟩ := F
  have hs : c.slots.size = vs.length := by rw [r2, hz]
  have e : c.slots.toList = vs := by
    apply List.ext_getElem?
    intro i
    by_cases hi : i < vs.length
    · have := H i (by omega)
      rw [List.getD_eq_getElem?_getD, List.getElem?_eq_getElem hi] at this
      simp only [Option.getD_some] at this
      rw [List.getElem?_eq_getElem hi, ← this]; simp
    · rw [List.getElem?_eq_none (by simp; omega), List.getElem?_eq_none (by omega)]
  refine ⟨c, A, r1, e, by have := (back32 r3).2; omega, fun v hv => ?_⟩
  obtain ⟨i, hi, rfl⟩ := List.getElem_of_mem hv
  have := G i (by omega)
  rw [List.getD_eq_getElem?_getD, List.getElem?_eq_getElem hi] at this
  exact this
/-- System.arraycopy of references, from 0 to 0, the whole of the target -/
theorem g_copy (X : Stand p l e R s m args below meth c T locs cells slots) (hx : p.tables.exec = Jvm.exec) (hZ : Z.Warmed39 s.vm) (hown : s.vm.findClass own = some m.cls) {index : Nat}
    (w1 : (Jvm.Cond.methodLink own index Jvm.Stand.acN).before a0 Z = true) (w2 : (Jvm.Cond.native Jvm.Stand.acN).before a0 Z = true) (w3 : (Jvm.Cond.static Jvm.Stand.acN).before a0 Z = true) (w4 : (Jvm.Cond.initialized "java/lang/System").before a0 Z = true) (eT : T.heap = h)
    {a b : Addr} {ka kb : ClassId} {ta tb : FieldType} {vs vd us : List Value} (A : OAry Z h a ka ta vs) (B : OAry Z h b kb tb vd) (r1 : refKind ta = true) (r2 : refKind tb = true) (hst : StoL Z h b us) {nn : Int32} (hnn : us.length.toInt32 = nn) (hlen : vd.length = us.length) (hus : vs.take us.length = us)
    (P : OPr h0 [] h locs) (ge : h0.size ≤ b) (hsize : Ls.size = c.maxLocals) (hd : decode c.code pc = .ok (.invokestatic index, 3)) (hp : pc + 3 = pc') (hf : 1 ≤ R.frames) {W : Nat} (hW : (st.map fun v => v.category).sum ≤ W) (hlo : W + (nativeFrameWords "java/lang/System" "arraycopy" 5 + 11) ≤ R.locals)
    (k : ∀ T' h' L, Stand p l e R s m args below meth c T' L cells slots → T'.heap = h' → OPr h0 [] h' L → OPr h [b] h' [] → OAry Z h' b kb tb us → OGo p e below K T' (mkF m pc' Ls st)) : OGo p e below K T (mkF m pc Ls (.int nn :: .int 0 :: .ref b :: .int 0 :: .ref a :: st)) := by
  subst hp hnn
  have la : us.length ≤ vs.length := by have := congrArg List.length hus; simp at this; omega
  have hu : us.length < 2 ^ 31 := by obtain ⟨_, _, _, _, q, _⟩ := B; omega
  have nu : us.length.toInt32.toNatClampNeg = us.length := by have := len_toInt hu; simp only [Int32.toNatClampNeg, this]; omega
  have hva : vs.length < 2 ^ 31 := by obtain ⟨_, _, _, _, q, _⟩ := A; exact q
  have na : vs.length.toInt32.toNatClampNeg = vs.length := by have := len_toInt hva; simp only [Int32.toNatClampNeg, this]; omega
  have nd : vd.length.toInt32.toNatClampNeg = us.length := by rw [hlen]; exact nu
  have z0 : (0 : Int32).toNatClampNeg = 0 := rfl
  have hz : ¬ us.length.toInt32 < 0 := by
    rw [Int32.lt_iff_toInt_lt, len_toInt hu]; have : (0 : Int32).toInt = 0 := rfl; omega
  obtain ⟨T', h', L', X', e', N', K', B', r⟩ := cpA X hx hZ hown w1 w2 w3 w4 eT (aryArv .null A) (aryArv .null B) (Or.inr ⟨r1, r2, hst⟩) (sp := 0) (dp := 0) (nn := us.length.toInt32) (by decide) (by decide) hz (by rw [z0, nu, na]; omega) (by rw [z0, nu, nd]; omega) (by
    rw [z0, nu]
    apply List.ext_getElem?
    intro i
    by_cases hi : i < us.length
    · rw [List.getElem?_map, List.getElem?_range hi]
      have q : us[i]? = vs[i]? := by rw [← hus, List.getElem?_take_of_lt hi]
      simp only [Option.map_some, Nat.zero_add, List.getD_eq_getElem?_getD]
      rw [q, List.getElem?_eq_getElem (show i < vs.length by omega)]; rfl
    · rw [List.getElem?_eq_none (by omega), List.getElem?_eq_none (by simp; omega)]) (by rw [z0, nu]; omega) P.fr ge (g := mkF m pc Ls (.int us.length.toInt32 :: .int 0 :: .ref b :: .int 0 :: .ref a :: st)) rfl hsize rfl hd hf (W := W) (by show 2 * 0 + _ ≤ _; omega) hlo
  rw [z0, nu, Nat.zero_add] at B'
  have B2 : OAry Z h' b kb tb us := by
    have e2 : vd.take 0 ++ us ++ vd.drop us.length = us := by rw [List.take_zero, List.nil_append, List.drop_eq_nil_of_le (by omega), List.append_nil]
    rw [e2] at B'
    exact arvAry B' nd
  have st' : ∀ (x : Addr) (cc : Cell), h[x]? = some cc → cc.vm.isStatics = true → h'[x]? = some cc := fun x cc q1 q2 => by
    refine K'.2.1 x cc q1 fun m => ?_
    cases List.mem_singleton.mp m
    obtain ⟨cb, Ab, -⟩ := B
    cases Ab.1.symm.trans q1
    rw [Ab.plain] at q2; cases q2
  have P' : OPr h0 [] h' L' := ⟨P.1.trans K' (fun x hx => by cases List.mem_singleton.mp hx; exact Or.inr ge), fun x cc q1 q2 => st' x cc (P.2.1 x cc q1 q2) q2, fun y hy => Or.inr (N' y hy)⟩
  exact (k T' h' L' X' e' P' ⟨K', st', fun _ q => nomatch q⟩ B2).via r
end Own
theorem idx128 {x : Int32} (h : ¬ x < 0) (h2 : ¬ (127 : Int32) < x) : ¬ (x + 128) < 0 ∧ (x + 128) < 256 ∧ (x + 128) - 128 = x := by
  have a0 : (0 : Int32).toInt = 0 := rfl
  have a1 : (127 : Int32).toInt = 127 := rfl
  have a2 : (128 : Int32).toInt = 128 := rfl
  have a3 : (256 : Int32).toInt = 256 := rfl
  rw [Int32.lt_iff_toInt_lt] at h h2
  have e := XT.add32 (x := x) (y := 128) (by constructor <;> omega)
  refine ⟨by rw [Int32.lt_iff_toInt_lt]; omega, by rw [Int32.lt_iff_toInt_lt]; omega, ?_⟩
  exact Int32.toInt_inj.mp (by rw [XT.sub32 (by constructor <;> omega)]; omega)
theorem mask0 (x : Int32) : ¬ (x &&& (2147483647 : Int32)) < 0 := by
  have h1 : (x &&& (2147483647 : Int32)).toInt = x.toInt % (2 ^ 31 : Nat) := c_mask x 2147483647 31 (by decide) (by decide)
  rw [Int32.lt_iff_toInt_lt]; have : (0 : Int32).toInt = 0 := rfl; omega
theorem k3 (x : Int32) : (1 : Int32) + (x &&& (2147483647 : Int32)) % (3 : Int32) = 1 ∨ (1 : Int32) + (x &&& (2147483647 : Int32)) % (3 : Int32) = 2 ∨ (1 : Int32) + (x &&& (2147483647 : Int32)) % (3 : Int32) = 3 := by
  have h1 : (x &&& (2147483647 : Int32)).toInt = x.toInt % (2 ^ 31 : Nat) := c_mask x 2147483647 31 (by decide) (by decide)
  have h2 := (c_irem (x &&& (2147483647 : Int32)) 3 3 (by decide)).1 (by omega)
  generalize (x &&& (2147483647 : Int32)) % (3 : Int32) = k at *
  have h3 : k.toInt = 0 ∨ k.toInt = 1 ∨ k.toInt = 2 := by omega
  rcases h3 with q | q | q
  · have r : k = 0 := Int32.toInt_inj.mp (by rw [q]; rfl)
    subst r; decide
  · have r : k = 1 := Int32.toInt_inj.mp (by rw [q]; rfl)
    subst r; decide
  · have r : k = 2 := Int32.toInt_inj.mp (by rw [q]; rfl)
    subst r; decide
theorem cacheP {Z : State} {h0 h : Heap} {L : List Loc} {cv : List Value} (H : (∀ j : Int32, ¬ j < 0 → j < 256 → ∃ b, cv[j.toNatClampNeg]? = some (.ref b) ∧ Exa Z h0 b "java/lang/Integer" ∧ Fld Z h0 b "java/lang/Integer" "value" "I" (.int (j - 128)))) (P : OPr h0 [] h L) : (∀ j : Int32, ¬ j < 0 → j < 256 → ∃ b, cv[j.toNatClampNeg]? = some (.ref b) ∧ Exa Z h b "java/lang/Integer" ∧ Fld Z h b "java/lang/Integer" "value" "I" (.int (j - 128))) := fun j a b => by
  obtain ⟨b', q1, q2, q3⟩ := H j a b; exact ⟨b', q1, exaP q2 P, fldP q3 P nin0⟩
theorem cacheSt {args : Array Value} {s : State} {a : Addr} {cl : Cell} (ev : (Term.static "java/lang/Integer$IntegerCache" "cache" "[Ljava/lang/Integer;").eval args s none [] s = some (.ref a)) (A : Arr s s.heap a cl (.object "java/lang/Integer")) (hl : cl.slots.size = (256 : Int32).toInt) (hl2 : cl.slots.size < 2 ^ 31) (q : (Jvm.Cond.all (.static "java/lang/Integer$IntegerCache" "cache" "[Ljava/lang/Integer;") (Jvm.Cond.and (Jvm.Cond.exactly (.elem (.static "java/lang/Integer$IntegerCache" "cache" "[Ljava/lang/Integer;") (.index 0)) "java/lang/Integer") (Jvm.Cond.eq (.field (.elem (.static "java/lang/Integer$IntegerCache" "cache" "[Ljava/lang/Integer;") (.index 0)) "java/lang/Integer" "value" "I") (.sub (.index 0) (.int 128))))).value args s none s [] = some true) :
    ∀ j : Int32, ¬ j < 0 → j < 256 → ∃ b, cl.slots.toList[j.toNatClampNeg]? = some (.ref b) ∧ Exa s s.heap b "java/lang/Integer" ∧ Fld s s.heap b "java/lang/Integer" "value" "I" (.int (j - 128)) := by
  have a3 : (256 : Int32).toInt = 256 := rfl
  have e2 : cl.slots.size.toInt32 = 256 := Int32.toInt_inj.mp (by rw [len_toInt hl2]; exact hl)
  have B := Bxs.start (val := fun j => .int (j - 128)) (fun _ => ev) A hl2 e2 (by decide) q (fun X j hj h => eqv_i (by simp [Term.eval, idx_at hj]; first | done | exact (back32 hj).1) h)
  intro j hj hj2
  have hs : cl.slots.size = 256 := by omega
  obtain ⟨b, h1, h2, h3⟩ := B.2.2.2 j (fun u => u.elim hj fun u => by
    rw [Int32.lt_iff_toInt_lt] at hj hj2
    have a0 : (0 : Int32).toInt = 0 := rfl
    simp only [Int32.toNatClampNeg] at u; omega)
  exact ⟨b, by simpa using h1, h2, h3⟩
theorem d2_0 : decode jdk_22_method_1_code 0 = .ok (.aload_n 0, 1) := by decide +kernel
theorem d2_1 : decode jdk_22_method_1_code 1 = .ok (.invokespecial 1, 3) := by decide +kernel
theorem d2_4 : decode jdk_22_method_1_code 4 = .ok (.return_, 1) := by decide +kernel
theorem pn_rm_acol : plainFor (⟨"java/util/AbstractCollection", "<init>", "()V"⟩ : MethodName) = true := by first | exact plainFor_of_name (by first | (simp [plainName, overriddenIn]; done) | decide +kernel) | decide +kernel
set_option maxRecDepth 65536 in
set_option maxHeartbeats 40000000 in
theorem rm_acol {l : Launch} {Z : State} {a0 : Array Value} (hw : ∀ d ∈ tables_1, d.before a0 Z = true) (a : Addr) {h0 : Heap}   :
    OMet l (⟨"java/util/AbstractCollection", "<init>", "()V"⟩ : MethodName) jdk_22_method_1_code 1 (Option.none : Option Jvm.ClassFile.FieldType) ({ frames := 1, cells := 0, slots := 0, locals := 12 } : Room) #[(.ref a)] Z h0 (fun vR hR LR => vR = none ∧ OPr h0 [] hR LR) := by
  refine OMet.body pn_rm_acol (Ls := #[.val (.ref a)]) (fun m => by first | (simp [entryFrame, mkF, argsToLocals, Value.category]; done) | rfl) ?_
  intro p e s m below meth c T0 K hK X0 hx hby hml hown hnm hret hlk hZ eh0
  have P0 := OPr.refl h0 []
  refine g_aloadN X0 hx (hb hby d2_0) (rfl : 0 + 1 = 1) rfl rfl ?_
  refine g_inito X0 hx hZ hown (wd hw 19 rfl) (wd hw 20 rfl) (wd hw 21 rfl) eh0 (by rw [hml]; rfl) (hb hby d2_1) (rfl : 1 + 3 = 4) (by decide) (W := 0) (Nat.le_of_eq rfl) (by decide) fun T1 X1 eh1 => ?_
  exact g_ret0 X1 hx hret hlk (hb hby d2_4) (by decide) (by decide) eh1 hK ⟨rfl, P0⟩
theorem d1_0 : decode jdk_39_method_1_code 0 = .ok (.aload_n 0, 1) := by decide +kernel
theorem d1_1 : decode jdk_39_method_1_code 1 = .ok (.invokespecial 1, 3) := by decide +kernel
theorem d1_4 : decode jdk_39_method_1_code 4 = .ok (.aload_n 0, 1) := by decide +kernel
theorem d1_5 : decode jdk_39_method_1_code 5 = .ok (.iconst 0, 1) := by decide +kernel
theorem d1_6 : decode jdk_39_method_1_code 6 = .ok (.putfield 7, 3) := by decide +kernel
theorem d1_9 : decode jdk_39_method_1_code 9 = .ok (.return_, 1) := by decide +kernel
theorem pn_rm_abl : plainFor (⟨"java/util/AbstractList", "<init>", "()V"⟩ : MethodName) = true := by first | exact plainFor_of_name (by first | (simp [plainName, overriddenIn]; done) | decide +kernel) | decide +kernel
set_option maxRecDepth 65536 in
set_option maxHeartbeats 40000000 in
theorem rm_abl {l : Launch} {Z : State} {a0 : Array Value} (hw : ∀ d ∈ tables_1, d.before a0 Z = true) (a : Addr) {h0 : Heap} (I0 : Exa Z h0 a "java/util/ArrayList") (I1 : Fld Z h0 a "java/util/AbstractList" "modCount" "I" (.int (0 : Int32)))  :
    OMet l (⟨"java/util/AbstractList", "<init>", "()V"⟩ : MethodName) jdk_39_method_1_code 1 (Option.none : Option Jvm.ClassFile.FieldType) ({ frames := 2, cells := 0, slots := 0, locals := 24 } : Room) #[(.ref a)] Z h0 (fun vR hR LR => vR = none ∧ OPr h0 [a] hR LR ∧ Fld Z hR a "java/util/AbstractList" "modCount" "I" (.int (0 : Int32))) := by
  refine OMet.body pn_rm_abl (Ls := #[.val (.ref a)]) (fun m => by first | (simp [entryFrame, mkF, argsToLocals, Value.category]; done) | rfl) ?_
  intro p e s m below meth c T0 K hK X0 hx hby hml hown hnm hret hlk hZ eh0
  have P0 := OPr.refl h0 [a]
  refine g_aloadN X0 hx (hb hby d1_0) (rfl : 0 + 1 = 1) rfl rfl ?_
  refine g_special X0 hx hZ hown eh0 (rm_acol hw a) rfl (wd hw 13 rfl) (wd hw 14 rfl) (wd hw 18 rfl) (wd hw 17 rfl) (by decide) (a := a) (argsL := []) (rest := []) rfl rfl (ps := []) (by decide) rfl (W := 0) (Nat.le_of_eq rfl) (by decide) (by decide) (by decide) (by decide) (by rw [hml]; rfl) (hb hby d1_1) (rfl : 1 + 3 = 4) fun v1 T1 hh1 L1 X1 eh1 Q1 => ?_
  obtain ⟨rfl, Pc1⟩ := Q1
  have P1 := P0.call Pc1 all0
  show OGo p e below K T1 (mkF m 4 #[.val (.ref a)] [])
  refine g_aloadN X1 hx (hb hby d1_4) (rfl : 4 + 1 = 5) rfl rfl ?_
  refine g_iconst X1 hx (0 : Int32) (hb hby d1_5) (rfl : 5 + 1 = 6) (by decide) ?_
  have F2 := (fldP I1 Pc1 nin0)
  have F3 := (exaP I0 Pc1)
  refine g_putf X1 hx hZ hown (host := "") (Or.inl (wd hw 22 rfl)) Via.refl eh1 F2 F3 (Or.inl (wd hw 23 rfl)) (wd hw 2 rfl) (ty := .int) (by decide) rfl rfl P1 (Or.inl (List.mem_of_getElem? (i := 0) rfl)) (hb hby d1_6) (rfl : 6 + 3 = 9) fun T4 hh4 X4 eh4 W4 P4 F4 => ?_
  exact g_ret0 X4 hx hret hlk (hb hby d1_9) (by decide) (by decide) eh4 hK ⟨rfl, P4, F4⟩
theorem pn_rm_abl2 : plainFor (⟨"java/util/AbstractList", "<init>", "()V"⟩ : MethodName) = true := by first | exact plainFor_of_name (by first | (simp [plainName, overriddenIn]; done) | decide +kernel) | decide +kernel
set_option maxRecDepth 65536 in
set_option maxHeartbeats 40000000 in
theorem rm_abl2 {l : Launch} {Z : State} {a0 : Array Value} (hw : ∀ d ∈ tables_1, d.before a0 Z = true) (a : Addr) (dv : Value) (sz : Int32) {h0 : Heap} (I0 : Exa Z h0 a "java/util/ArrayList") (I1 : Fld Z h0 a "java/util/AbstractList" "modCount" "I" (.int (0 : Int32))) (I2 : Fld Z h0 a "java/util/ArrayList" "elementData" "[Ljava/lang/Object;" dv) (I3 : Fld Z h0 a "java/util/ArrayList" "size" "I" (.int sz)) (hdv : dv.isRef = true) :
    OMet l (⟨"java/util/AbstractList", "<init>", "()V"⟩ : MethodName) jdk_39_method_1_code 1 (Option.none : Option Jvm.ClassFile.FieldType) ({ frames := 2, cells := 0, slots := 0, locals := 24 } : Room) #[(.ref a)] Z h0 (fun vR hR LR => vR = none ∧ OPr h0 [a] hR LR ∧ Fld Z hR a "java/util/AbstractList" "modCount" "I" (.int (0 : Int32)) ∧ Fld Z hR a "java/util/ArrayList" "elementData" "[Ljava/lang/Object;" dv ∧ Fld Z hR a "java/util/ArrayList" "size" "I" (.int sz)) := by
  refine OMet.body pn_rm_abl2 (Ls := #[.val (.ref a)]) (fun m => by first | (simp [entryFrame, mkF, argsToLocals, Value.category]; done) | rfl) ?_
  intro p e s m below meth c T0 K hK X0 hx hby hml hown hnm hret hlk hZ eh0
  have P0 := OPr.refl h0 [a]
  refine g_aloadN X0 hx (hb hby d1_0) (rfl : 0 + 1 = 1) rfl rfl ?_
  refine g_special X0 hx hZ hown eh0 (rm_acol hw a) rfl (wd hw 13 rfl) (wd hw 14 rfl) (wd hw 18 rfl) (wd hw 17 rfl) (by decide) (a := a) (argsL := []) (rest := []) rfl rfl (ps := []) (by decide) rfl (W := 0) (Nat.le_of_eq rfl) (by decide) (by decide) (by decide) (by decide) (by rw [hml]; rfl) (hb hby d1_1) (rfl : 1 + 3 = 4) fun v1 T1 hh1 L1 X1 eh1 Q1 => ?_
  obtain ⟨rfl, Pc1⟩ := Q1
  have P1 := P0.call Pc1 all0
  show OGo p e below K T1 (mkF m 4 #[.val (.ref a)] [])
  refine g_aloadN X1 hx (hb hby d1_4) (rfl : 4 + 1 = 5) rfl rfl ?_
  refine g_iconst X1 hx (0 : Int32) (hb hby d1_5) (rfl : 5 + 1 = 6) (by decide) ?_
  have F2 := (fldP I1 Pc1 nin0)
  have F3 := (exaP I0 Pc1)
  refine g_putf X1 hx hZ hown (host := "") (Or.inl (wd hw 22 rfl)) Via.refl eh1 F2 F3 (Or.inl (wd hw 23 rfl)) (wd hw 2 rfl) (ty := .int) (by decide) rfl rfl P1 (Or.inl (List.mem_of_getElem? (i := 0) rfl)) (hb hby d1_6) (rfl : 6 + 3 = 9) fun T4 hh4 X4 eh4 W4 P4 F4 => ?_
  have F5 := ((fldP I2 Pc1 nin0).other W4 (Or.inr (slot_ne (Or.inl (wd hw 26 rfl)) (Or.inl (wd hw 23 rfl)) (by decide) (t := (.array (.object "java/lang/Object"))) (by decide) (t' := .int) (by decide))))
  have F6 := ((fldP I3 Pc1 nin0).other W4 (Or.inr (slot_ne (Or.inl (wd hw 46 rfl)) (Or.inl (wd hw 23 rfl)) (by decide) (t := .int) (by decide) (t' := .int) (by decide))))
  exact g_ret0 X4 hx hret hlk (hb hby d1_9) (by decide) (by decide) eh4 hK ⟨rfl, P4, F4, F5, F6⟩
theorem d0_0 : decode jdk_38_method_2_code 0 = .ok (.aload_n 0, 1) := by decide +kernel
theorem d0_1 : decode jdk_38_method_2_code 1 = .ok (.invokespecial 1, 3) := by decide +kernel
theorem d0_4 : decode jdk_38_method_2_code 4 = .ok (.aload_n 0, 1) := by decide +kernel
theorem d0_5 : decode jdk_38_method_2_code 5 = .ok (.getstatic 39, 3) := by decide +kernel
theorem d0_8 : decode jdk_38_method_2_code 8 = .ok (.putfield 9, 3) := by decide +kernel
theorem d0_11 : decode jdk_38_method_2_code 11 = .ok (.return_, 1) := by decide +kernel
theorem pn_rm_ali : plainFor (⟨"java/util/ArrayList", "<init>", "()V"⟩ : MethodName) = true := by first | exact plainFor_of_name (by first | (simp [plainName, overriddenIn]; done) | decide +kernel) | decide +kernel
set_option maxRecDepth 65536 in
set_option maxHeartbeats 40000000 in
theorem rm_ali {l : Launch} {Z : State} {a0 : Array Value} (hw : ∀ d ∈ tables_1, d.before a0 Z = true) (a : Addr) (dc : Addr) {h0 : Heap} (I0 : Exa Z h0 a "java/util/ArrayList") (I1 : Fld Z h0 a "java/util/AbstractList" "modCount" "I" (.int (0 : Int32))) (I2 : Fld Z h0 a "java/util/ArrayList" "elementData" "[Ljava/lang/Object;" .null) (I3 : Fld Z h0 a "java/util/ArrayList" "size" "I" (.int (0 : Int32))) (I4 : Sta Z h0 "java/util/ArrayList" "DEFAULTCAPACITY_EMPTY_ELEMENTDATA" "[Ljava/lang/Object;" (.ref dc))  :
    OMet l (⟨"java/util/ArrayList", "<init>", "()V"⟩ : MethodName) jdk_38_method_2_code 1 (Option.none : Option Jvm.ClassFile.FieldType) ({ frames := 3, cells := 0, slots := 0, locals := 36 } : Room) #[(.ref a)] Z h0 (fun vR hR LR => vR = none ∧ OPr h0 [a] hR LR ∧ Fld Z hR a "java/util/AbstractList" "modCount" "I" (.int (0 : Int32)) ∧ Fld Z hR a "java/util/ArrayList" "elementData" "[Ljava/lang/Object;" (.ref dc) ∧ Fld Z hR a "java/util/ArrayList" "size" "I" (.int (0 : Int32))) := by
  refine OMet.body pn_rm_ali (Ls := #[.val (.ref a)]) (fun m => by first | (simp [entryFrame, mkF, argsToLocals, Value.category]; done) | rfl) ?_
  intro p e s m below meth c T0 K hK X0 hx hby hml hown hnm hret hlk hZ eh0
  have P0 := OPr.refl h0 [a]
  refine g_aloadN X0 hx (hb hby d0_0) (rfl : 0 + 1 = 1) rfl rfl ?_
  refine g_special X0 hx hZ hown eh0 (rm_abl2 hw a .null (0 : Int32) I0 I1 I2 I3 rfl) rfl (wd hw 7 rfl) (wd hw 8 rfl) (wd hw 12 rfl) (wd hw 11 rfl) (by decide) (a := a) (argsL := []) (rest := []) rfl rfl (ps := []) (by decide) rfl (W := 0) (Nat.le_of_eq rfl) (by decide) (by decide) (by decide) (by decide) (by rw [hml]; rfl) (hb hby d0_1) (rfl : 1 + 3 = 4) fun v1 T1 hh1 L1 X1 eh1 Q1 => ?_
  obtain ⟨rfl, Pc1, G1_0, G1_1, G1_2⟩ := Q1
  have P1 := P0.call Pc1 (allS (Or.inl (List.mem_of_getElem? (i := 0) rfl)) all0)
  show OGo p e below K T1 (mkF m 4 #[.val (.ref a)] [])
  refine g_aloadN X1 hx (hb hby d0_4) (rfl : 4 + 1 = 5) rfl rfl ?_
  have F2 := (staP I4 Pc1)
  refine g_gets X1 hx hZ hown (host := "") (Or.inl (wd hw 24 rfl)) Via.refl eh1 F2 (hb hby d0_5) (rfl : 5 + 3 = 8) fun T3 X3 eh3 => ?_
  have F4 := (exaP I0 Pc1)
  refine g_putf X3 hx hZ hown (host := "") (Or.inl (wd hw 25 rfl)) Via.refl eh3 G1_1 F4 (Or.inl (wd hw 26 rfl)) (wd hw 2 rfl) (ty := (.array (.object "java/lang/Object"))) (by decide) rfl rfl P1 (Or.inl (List.mem_of_getElem? (i := 0) rfl)) (hb hby d0_8) (rfl : 8 + 3 = 11) fun T5 hh5 X5 eh5 W5 P5 F5 => ?_
  have F6 := (G1_0.other W5 (Or.inr (slot_ne (Or.inl (wd hw 23 rfl)) (Or.inl (wd hw 26 rfl)) (by decide) (t := .int) (by decide) (t' := (.array (.object "java/lang/Object"))) (by decide))))
  have F7 := (G1_2.other W5 (Or.inr (slot_ne (Or.inl (wd hw 46 rfl)) (Or.inl (wd hw 26 rfl)) (by decide) (t := .int) (by decide) (t' := (.array (.object "java/lang/Object"))) (by decide))))
  exact g_ret0 X5 hx hret hlk (hb hby d0_11) (by decide) (by decide) eh5 hK ⟨rfl, P5, F6, F5, F7⟩
theorem d9_0 : decode jdk_29_method_65_code 0 = .ok (.iload_n 0, 1) := by decide +kernel
theorem d9_1 : decode jdk_29_method_65_code 1 = .ok (.iload_n 1, 1) := by decide +kernel
theorem d9_2 : decode jdk_29_method_65_code 2 = .ok (.if_icmp .lt 7, 3) := by decide +kernel
theorem d9_5 : decode jdk_29_method_65_code 5 = .ok (.iload_n 0, 1) := by decide +kernel
theorem d9_6 : decode jdk_29_method_65_code 6 = .ok (.goto 4, 3) := by decide +kernel
theorem d9_9 : decode jdk_29_method_65_code 9 = .ok (.iload_n 1, 1) := by decide +kernel
theorem d9_10 : decode jdk_29_method_65_code 10 = .ok (.ireturn, 1) := by decide +kernel
theorem pn_rm_max : plainFor (⟨"java/lang/Math", "max", "(II)I"⟩ : MethodName) = true := by first | exact plainFor_of_name (by first | (simp [plainName, overriddenIn]; done) | decide +kernel) | exact Jvm.Free.JP.mathPlain rfl (by decide) | decide +kernel
set_option maxRecDepth 65536 in
set_option maxHeartbeats 40000000 in
theorem rm_max {l : Launch} {Z : State} {a0 : Array Value} (hw : ∀ d ∈ tables_1, d.before a0 Z = true) (x : Int32) (y : Int32) (z : Int32) {h0 : Heap}  (hz : (if x < y then y else x : Int32) = z) :
    OMet l (⟨"java/lang/Math", "max", "(II)I"⟩ : MethodName) jdk_29_method_65_code 2 (Option.some Jvm.ClassFile.FieldType.int) ({ frames := 0, cells := 0, slots := 0, locals := 0 } : Room) #[(.int x), (.int y)] Z h0 (fun vR hR LR => vR = some (.int z) ∧ OPr h0 [] hR LR) := by
  refine OMet.body pn_rm_max (Ls := #[.val (.int x), .val (.int y)]) (fun m => by first | (simp [entryFrame, mkF, argsToLocals, Value.category]; done) | rfl) ?_
  intro p e s m below meth c T0 K hK X0 hx hby hml hown hnm hret hlk hZ eh0
  have P0 := OPr.refl h0 []
  refine g_iloadN X0 hx (hb hby d9_0) (rfl : 0 + 1 = 1) rfl ?_
  refine g_iloadN X0 hx (hb hby d9_1) (rfl : 1 + 1 = 2) rfl ?_
  by_cases h : x < y
  · refine g_icmpY X0 hx (hb hby d9_2) (XT.ii_lt_t h) (by decide) (pc' := 9) (by decide) ?_
    refine g_iloadN X0 hx (hb hby d9_9) (rfl : 9 + 1 = 10) rfl ?_
    exact g_ret X0 hx hret hlk rfl (Or.inl ⟨rfl, Or.inl rfl, _, rfl⟩) (hb hby d9_10) (by decide) (by decide) eh0 hK ⟨(by rw [← hz, if_pos h]), P0⟩
  · refine g_icmpN X0 hx (hb hby d9_2) (XT.ii_lt_f h) (rfl : 2 + 3 = 5) ?_
    refine g_iloadN X0 hx (hb hby d9_5) (rfl : 5 + 1 = 6) rfl ?_
    refine g_goto X0 hx (hb hby d9_6) (by decide) (pc' := 10) (by decide) ?_
    exact g_ret X0 hx hret hlk rfl (Or.inl ⟨rfl, Or.inl rfl, _, rfl⟩) (hb hby d9_10) (by decide) (by decide) eh0 hK ⟨(by rw [← hz, if_neg h]), P0⟩
theorem d8_0 : decode jdk_38_method_6_code 0 = .ok (.aload_n 0, 1) := by decide +kernel
theorem d8_1 : decode jdk_38_method_6_code 1 = .ok (.getfield 9, 3) := by decide +kernel
theorem d8_4 : decode jdk_38_method_6_code 4 = .ok (.arraylength, 1) := by decide +kernel
theorem d8_5 : decode jdk_38_method_6_code 5 = .ok (.istore_n 2, 1) := by decide +kernel
theorem d8_6 : decode jdk_38_method_6_code 6 = .ok (.iload_n 2, 1) := by decide +kernel
theorem d8_7 : decode jdk_38_method_6_code 7 = .ok (.ifCond .gt 13, 3) := by decide +kernel
theorem d8_10 : decode jdk_38_method_6_code 10 = .ok (.aload_n 0, 1) := by decide +kernel
theorem d8_11 : decode jdk_38_method_6_code 11 = .ok (.getfield 9, 3) := by decide +kernel
theorem d8_14 : decode jdk_38_method_6_code 14 = .ok (.getstatic 39, 3) := by decide +kernel
theorem d8_17 : decode jdk_38_method_6_code 17 = .ok (.if_acmp .eq 28, 3) := by decide +kernel
theorem d8_45 : decode jdk_38_method_6_code 45 = .ok (.aload_n 0, 1) := by decide +kernel
theorem d8_46 : decode jdk_38_method_6_code 46 = .ok (.bipush 10, 2) := by decide +kernel
theorem d8_48 : decode jdk_38_method_6_code 48 = .ok (.iload_n 1, 1) := by decide +kernel
theorem d8_49 : decode jdk_38_method_6_code 49 = .ok (.invokestatic 79, 3) := by decide +kernel
theorem d8_52 : decode jdk_38_method_6_code 52 = .ok (.anewarray 7, 3) := by decide +kernel
theorem d8_55 : decode jdk_38_method_6_code 55 = .ok (.dup_x1, 1) := by decide +kernel
theorem d8_56 : decode jdk_38_method_6_code 56 = .ok (.putfield 9, 3) := by decide +kernel
theorem d8_59 : decode jdk_38_method_6_code 59 = .ok (.areturn, 1) := by decide +kernel
theorem pn_rm_grow1 : plainFor (⟨"java/util/ArrayList", "grow", "(I)[Ljava/lang/Object;"⟩ : MethodName) = true := by first | exact plainFor_of_name (by first | (simp [plainName, overriddenIn]; done) | decide +kernel) | decide +kernel
set_option maxRecDepth 65536 in
set_option maxHeartbeats 40000000 in
theorem rm_grow1 {l : Launch} {Z : State} {a0 : Array Value} (hw : ∀ d ∈ tables_1, d.before a0 Z = true) (a : Addr) (dc : Addr) (kd : ClassId) (mc : Int32) {h0 : Heap} (I0 : Exa Z h0 a "java/util/ArrayList") (I1 : Fld Z h0 a "java/util/ArrayList" "elementData" "[Ljava/lang/Object;" (.ref dc)) (I2 : Fld Z h0 a "java/util/AbstractList" "modCount" "I" (.int mc)) (I3 : Fld Z h0 a "java/util/ArrayList" "size" "I" (.int (0 : Int32))) (I4 : Sta Z h0 "java/util/ArrayList" "DEFAULTCAPACITY_EMPTY_ELEMENTDATA" "[Ljava/lang/Object;" (.ref dc)) (I5 : OAry Z h0 dc kd (.object "java/lang/Object") [])  :
    OMet l (⟨"java/util/ArrayList", "grow", "(I)[Ljava/lang/Object;"⟩ : MethodName) jdk_38_method_6_code 4 (Option.some (Jvm.ClassFile.FieldType.array (Jvm.ClassFile.FieldType.object "java/lang/Object"))) ({ frames := 1, cells := 1, slots := 10, locals := 14 } : Room) #[(.ref a), (.int (1 : Int32))] Z h0 (fun vR hR LR => ∃ ar : Addr, ∃ kr : ClassId, vR = some (.ref ar) ∧ OPr h0 [a] hR LR ∧ h0.size ≤ ar ∧ Exa Z hR ar "[Ljava/lang/Object;" ∧ Fld Z hR a "java/util/ArrayList" "elementData" "[Ljava/lang/Object;" (.ref ar) ∧ Fld Z hR a "java/util/AbstractList" "modCount" "I" (.int mc) ∧ Fld Z hR a "java/util/ArrayList" "size" "I" (.int (0 : Int32)) ∧ OAry Z hR ar kr (.object "java/lang/Object") [.null, .null, .null, .null, .null, .null, .null, .null, .null, .null] ∧ Ovr Z kr "java/lang/Object") := by
  refine OMet.body pn_rm_grow1 (Ls := #[.val (.ref a), .val (.int (1 : Int32)), .unset, .unset]) (fun m => by first | (simp [entryFrame, mkF, argsToLocals, Value.category]; done) | rfl) ?_
  intro p e s m below meth c T0 K hK X0 hx hby hml hown hnm hret hlk hZ eh0
  have P0 := OPr.refl h0 [a]
  refine g_aloadN X0 hx (hb hby d8_0) (rfl : 0 + 1 = 1) rfl rfl ?_
  refine g_getf X0 hx hZ hown (host := "") (Or.inl (wd hw 25 rfl)) Via.refl eh0 I1 (hb hby d8_1) (rfl : 1 + 3 = 4) fun T1 X1 eh1 => ?_
  refine g_len X1 hx hZ eh1 I5 (z := (0 : Int32)) rfl (hb hby d8_4) (rfl : 4 + 1 = 5) ?_
  refine g_istoreN X1 hx (hb hby d8_5) (rfl : 5 + 1 = 6) (Ls' := #[.val (.ref a), .val (.int (1 : Int32)), .val (.int (0 : Int32)), .unset]) rfl ?_
  refine g_iloadN X1 hx (hb hby d8_6) (rfl : 6 + 1 = 7) rfl ?_
  refine g_ifN X1 hx (hb hby d8_7) (XT.i0_gt_f (by decide)) (rfl : 7 + 3 = 10) ?_
  refine g_aloadN X1 hx (hb hby d8_10) (rfl : 10 + 1 = 11) rfl rfl ?_
  refine g_getf X1 hx hZ hown (host := "") (Or.inl (wd hw 25 rfl)) Via.refl eh1 I1 (hb hby d8_11) (rfl : 11 + 3 = 14) fun T2 X2 eh2 => ?_
  refine g_gets X2 hx hZ hown (host := "") (Or.inl (wd hw 24 rfl)) Via.refl eh2 I4 (hb hby d8_14) (rfl : 14 + 3 = 17) fun T3 X3 eh3 => ?_
  refine g_acmpY X3 hx (hb hby d8_17) rfl rfl (XT.aa_eq_t rfl) (by decide) (pc' := 45) (by decide) ?_
  refine g_aloadN X3 hx (hb hby d8_45) (rfl : 45 + 1 = 46) rfl rfl ?_
  refine g_bipush X3 hx (10 : Int32) (hb hby d8_46) (rfl : 46 + 2 = 48) (by decide) ?_
  refine g_iloadN X3 hx (hb hby d8_48) (rfl : 48 + 1 = 49) rfl ?_
  refine g_static X3 hx hZ hown eh3 (rm_max hw (10 : Int32) (1 : Int32) (10 : Int32) (by decide)) (wd hw 62 rfl) (wd hw 63 rfl) (wd hw 65 rfl) (wd hw 64 rfl) (by decide) (argsL := [(.int (10 : Int32)), (.int (1 : Int32))]) (rest := [(.ref a)]) rfl rfl (ps := [.int, .int]) (rt := (some .int)) (by decide) rfl (W := 1) (Nat.le_of_eq rfl) (by decide) (by decide) (by decide) (by decide) (by rw [hml]; rfl) (hb hby d8_49) (rfl : 49 + 3 = 52) fun v4 T4 hh4 L4 X4 eh4 Q4 => ?_
  obtain ⟨rfl, Pc4⟩ := Q4
  have P4 := P0.call Pc4 all0
  show OGo p e below K T4 (mkF m 52 #[.val (.ref a), .val (.int (1 : Int32)), .val (.int (0 : Int32)), .unset] [(.int (10 : Int32)), (.ref a)])
  refine g_anewarray X4 hx hZ hown (wd hw 66 rfl) (wd hw 67 rfl) (ad := "[Ljava/lang/Object;") (by decide) eh4 (vs := [.null, .null, .null, .null, .null, .null, .null, .null, .null, .null]) (by decide) (by rfl) (cap := 10) (by decide) (by decide) P4 (hb hby d8_52) (rfl : 52 + 3 = 55) (by decide) (by decide) fun T5 hh5 a5 k5 q5 g5 X5 eh5 E5 P5 A5 O5 B5 => ?_
  refine g_dupx1 X5 hx (hb hby d8_55) (rfl : 55 + 1 = 56) rfl rfl ?_
  have F6 := ((fldP I1 Pc4 nin0).ext E5)
  have F7 := (exaP I0 P5)
  refine g_putf X5 hx hZ hown (host := "") (Or.inl (wd hw 25 rfl)) Via.refl eh5 F6 F7 (Or.inl (wd hw 26 rfl)) (wd hw 2 rfl) (ty := (.array (.object "java/lang/Object"))) (by decide) rfl rfl P5 (Or.inl (List.mem_of_getElem? (i := 0) rfl)) (hb hby d8_56) (rfl : 56 + 3 = 59) fun T8 hh8 X8 eh8 W8 P8 F8 => ?_
  have F9 := (B5.wr W8)
  have F10 := (((fldP I2 Pc4 nin0).ext E5).other W8 (Or.inr (slot_ne (Or.inl (wd hw 23 rfl)) (Or.inl (wd hw 26 rfl)) (by decide) (t := .int) (by decide) (t' := (.array (.object "java/lang/Object"))) (by decide))))
  have F11 := (((fldP I3 Pc4 nin0).ext E5).other W8 (Or.inr (slot_ne (Or.inl (wd hw 46 rfl)) (Or.inl (wd hw 26 rfl)) (by decide) (t := .int) (by decide) (t' := (.array (.object "java/lang/Object"))) (by decide))))
  have F12 := (exaP I0 Pc4)
  have ne13 : a ≠ a5 := Nat.ne_of_lt (Nat.lt_of_lt_of_le F12.lt (Nat.le_of_eq q5.symm))
  have F14 := (aryO A5 W8 (Ne.symm ne13))
  exact g_ret X8 hx hret hlk rfl (Or.inr (Or.inr (Or.inr (Or.inr ⟨rfl, rfl, rfl⟩)))) (hb hby d8_59) (by decide) (by decide) eh8 hK ⟨a5, k5, rfl, P8, g5, F9, F8, F10, F11, F14, O5⟩
theorem d7_0 : decode jdk_38_method_7_code 0 = .ok (.aload_n 0, 1) := by decide +kernel
theorem d7_1 : decode jdk_38_method_7_code 1 = .ok (.aload_n 0, 1) := by decide +kernel
theorem d7_2 : decode jdk_38_method_7_code 2 = .ok (.getfield 48, 3) := by decide +kernel
theorem d7_5 : decode jdk_38_method_7_code 5 = .ok (.iconst 1, 1) := by decide +kernel
theorem d7_6 : decode jdk_38_method_7_code 6 = .ok (.iadd, 1) := by decide +kernel
theorem d7_7 : decode jdk_38_method_7_code 7 = .ok (.invokevirtual 69, 3) := by decide +kernel
theorem d7_10 : decode jdk_38_method_7_code 10 = .ok (.areturn, 1) := by decide +kernel
theorem pn_rm_grow : plainFor (⟨"java/util/ArrayList", "grow", "()[Ljava/lang/Object;"⟩ : MethodName) = true := by first | exact plainFor_of_name (by first | (simp [plainName, overriddenIn]; done) | decide +kernel) | decide +kernel
set_option maxRecDepth 65536 in
set_option maxHeartbeats 40000000 in
theorem rm_grow {l : Launch} {Z : State} {a0 : Array Value} (hw : ∀ d ∈ tables_1, d.before a0 Z = true) (a : Addr) (dc : Addr) (kd : ClassId) (mc : Int32) {h0 : Heap} (I0 : Exa Z h0 a "java/util/ArrayList") (I1 : Fld Z h0 a "java/util/ArrayList" "elementData" "[Ljava/lang/Object;" (.ref dc)) (I2 : Fld Z h0 a "java/util/AbstractList" "modCount" "I" (.int mc)) (I3 : Fld Z h0 a "java/util/ArrayList" "size" "I" (.int (0 : Int32))) (I4 : Sta Z h0 "java/util/ArrayList" "DEFAULTCAPACITY_EMPTY_ELEMENTDATA" "[Ljava/lang/Object;" (.ref dc)) (I5 : OAry Z h0 dc kd (.object "java/lang/Object") [])  :
    OMet l (⟨"java/util/ArrayList", "grow", "()[Ljava/lang/Object;"⟩ : MethodName) jdk_38_method_7_code 1 (Option.some (Jvm.ClassFile.FieldType.array (Jvm.ClassFile.FieldType.object "java/lang/Object"))) ({ frames := 2, cells := 1, slots := 10, locals := 29 } : Room) #[(.ref a)] Z h0 (fun vR hR LR => ∃ ar : Addr, ∃ kr : ClassId, vR = some (.ref ar) ∧ OPr h0 [a] hR LR ∧ h0.size ≤ ar ∧ Exa Z hR ar "[Ljava/lang/Object;" ∧ Fld Z hR a "java/util/ArrayList" "elementData" "[Ljava/lang/Object;" (.ref ar) ∧ Fld Z hR a "java/util/AbstractList" "modCount" "I" (.int mc) ∧ Fld Z hR a "java/util/ArrayList" "size" "I" (.int (0 : Int32)) ∧ OAry Z hR ar kr (.object "java/lang/Object") [.null, .null, .null, .null, .null, .null, .null, .null, .null, .null] ∧ Ovr Z kr "java/lang/Object") := by
  refine OMet.body pn_rm_grow (Ls := #[.val (.ref a)]) (fun m => by first | (simp [entryFrame, mkF, argsToLocals, Value.category]; done) | rfl) ?_
  intro p e s m below meth c T0 K hK X0 hx hby hml hown hnm hret hlk hZ eh0
  have P0 := OPr.refl h0 [a]
  refine g_aloadN X0 hx (hb hby d7_0) (rfl : 0 + 1 = 1) rfl rfl ?_
  refine g_aloadN X0 hx (hb hby d7_1) (rfl : 1 + 1 = 2) rfl rfl ?_
  refine g_getf X0 hx hZ hown (host := "") (Or.inl (wd hw 45 rfl)) Via.refl eh0 I3 (hb hby d7_2) (rfl : 2 + 3 = 5) fun T1 X1 eh1 => ?_
  refine g_iconst X1 hx (1 : Int32) (hb hby d7_5) (rfl : 5 + 1 = 6) (by decide) ?_
  refine g_iadd X1 hx (hb hby d7_6) (rfl : 6 + 1 = 7) (z := (1 : Int32)) (by decide) ?_
  refine g_private X1 hx hZ hown eh1 (rm_grow1 hw a dc kd mc I0 I1 I2 I3 I4 I5) (C := "java/util/ArrayList") (wd hw 57 rfl) (wd hw 58 rfl) (wd hw 60 rfl) (wd hw 59 rfl) (wd hw 61 rfl) (wd hw 3 rfl) (by decide) (a := a) I0 (argsL := [(.int (1 : Int32))]) (rest := []) rfl rfl (ps := [.int]) (rt := (some (.array (.object "java/lang/Object")))) (by decide) rfl (W := 0) (Nat.le_of_eq rfl) (by decide) (by decide) (by decide) (by decide) (by rw [hml]; rfl) (hb hby d7_7) (rfl : 7 + 3 = 10) fun v2 T2 hh2 L2 X2 eh2 Q2 => ?_
  obtain ⟨ar_2, kr_2, rfl, Pc2, G2_0, G2_1, G2_2, G2_3, G2_4, G2_5, G2_6⟩ := Q2
  have P2 := P0.call Pc2 (allS (Or.inl (List.mem_of_getElem? (i := 0) rfl)) all0)
  show OGo p e below K T2 (mkF m 10 #[.val (.ref a)] [(.ref ar_2)])
  exact g_ret X2 hx hret hlk rfl (Or.inr (Or.inr (Or.inr (Or.inr ⟨rfl, rfl, rfl⟩)))) (hb hby d7_10) (by decide) (by decide) eh2 hK ⟨ar_2, kr_2, rfl, P2, (Nat.le_trans P0.size G2_0), G2_1, G2_2, G2_3, G2_4, G2_5, G2_6⟩
theorem d6_0 : decode jdk_38_method_24_code 0 = .ok (.iload_n 3, 1) := by decide +kernel
theorem d6_1 : decode jdk_38_method_24_code 1 = .ok (.aload_n 2, 1) := by decide +kernel
theorem d6_2 : decode jdk_38_method_24_code 2 = .ok (.arraylength, 1) := by decide +kernel
theorem d6_3 : decode jdk_38_method_24_code 3 = .ok (.if_icmp .ne 8, 3) := by decide +kernel
theorem d6_6 : decode jdk_38_method_24_code 6 = .ok (.aload_n 0, 1) := by decide +kernel
theorem d6_7 : decode jdk_38_method_24_code 7 = .ok (.invokevirtual 129, 3) := by decide +kernel
theorem d6_10 : decode jdk_38_method_24_code 10 = .ok (.astore_n 2, 1) := by decide +kernel
theorem d6_11 : decode jdk_38_method_24_code 11 = .ok (.aload_n 2, 1) := by decide +kernel
theorem d6_12 : decode jdk_38_method_24_code 12 = .ok (.iload_n 3, 1) := by decide +kernel
theorem d6_13 : decode jdk_38_method_24_code 13 = .ok (.aload_n 1, 1) := by decide +kernel
theorem d6_14 : decode jdk_38_method_24_code 14 = .ok (.aastore, 1) := by decide +kernel
theorem d6_15 : decode jdk_38_method_24_code 15 = .ok (.aload_n 0, 1) := by decide +kernel
theorem d6_16 : decode jdk_38_method_24_code 16 = .ok (.iload_n 3, 1) := by decide +kernel
theorem d6_17 : decode jdk_38_method_24_code 17 = .ok (.iconst 1, 1) := by decide +kernel
theorem d6_18 : decode jdk_38_method_24_code 18 = .ok (.iadd, 1) := by decide +kernel
theorem d6_19 : decode jdk_38_method_24_code 19 = .ok (.putfield 48, 3) := by decide +kernel
theorem d6_22 : decode jdk_38_method_24_code 22 = .ok (.return_, 1) := by decide +kernel
theorem pn_rm_add3_0 : plainFor (⟨"java/util/ArrayList", "add", "(Ljava/lang/Object;[Ljava/lang/Object;I)V"⟩ : MethodName) = true := by first | exact plainFor_of_name (by first | (simp [plainName, overriddenIn]; done) | decide +kernel) | decide +kernel
set_option maxRecDepth 65536 in
set_option maxHeartbeats 40000000 in
theorem rm_add3_0 {l : Launch} {Z : State} {a0 : Array Value} (hw : ∀ d ∈ tables_1, d.before a0 Z = true) (a : Addr) (dc : Addr) (kd : ClassId) (x : Addr) (mc : Int32) {h0 : Heap} (I0 : Exa Z h0 a "java/util/ArrayList") (I1 : Fld Z h0 a "java/util/ArrayList" "elementData" "[Ljava/lang/Object;" (.ref dc)) (I2 : Fld Z h0 a "java/util/ArrayList" "size" "I" (.int (0 : Int32))) (I3 : Sta Z h0 "java/util/ArrayList" "DEFAULTCAPACITY_EMPTY_ELEMENTDATA" "[Ljava/lang/Object;" (.ref dc)) (I4 : OAry Z h0 dc kd (.object "java/lang/Object") []) (I5 : Exa Z h0 x "java/lang/Integer") (I6 : Fld Z h0 a "java/util/AbstractList" "modCount" "I" (.int mc))  :
    OMet l (⟨"java/util/ArrayList", "add", "(Ljava/lang/Object;[Ljava/lang/Object;I)V"⟩ : MethodName) jdk_38_method_24_code 4 (Option.none : Option Jvm.ClassFile.FieldType) ({ frames := 3, cells := 1, slots := 10, locals := 41 } : Room) #[(.ref a), (.ref x), (.ref dc), (.int (0 : Int32))] Z h0 (fun vR hR LR => ∃ ar : Addr, ∃ kr : ClassId, vR = none ∧ OPr h0 [a] hR LR ∧ h0.size ≤ ar ∧ Exa Z hR ar "[Ljava/lang/Object;" ∧ Fld Z hR a "java/util/ArrayList" "elementData" "[Ljava/lang/Object;" (.ref ar) ∧ Fld Z hR a "java/util/ArrayList" "size" "I" (.int (1 : Int32)) ∧ Fld Z hR a "java/util/AbstractList" "modCount" "I" (.int mc) ∧ OAry Z hR ar kr (.object "java/lang/Object") [(.ref x), .null, .null, .null, .null, .null, .null, .null, .null, .null] ∧ Ovr Z kr "java/lang/Object") := by
  refine OMet.body pn_rm_add3_0 (Ls := #[.val (.ref a), .val (.ref x), .val (.ref dc), .val (.int (0 : Int32))]) (fun m => by first | (simp [entryFrame, mkF, argsToLocals, Value.category]; done) | rfl) ?_
  intro p e s m below meth c T0 K hK X0 hx hby hml hown hnm hret hlk hZ eh0
  have P0 := OPr.refl h0 [a]
  refine g_iloadN X0 hx (hb hby d6_0) (rfl : 0 + 1 = 1) rfl ?_
  refine g_aloadN X0 hx (hb hby d6_1) (rfl : 1 + 1 = 2) rfl rfl ?_
  refine g_len X0 hx hZ eh0 I4 (z := (0 : Int32)) rfl (hb hby d6_2) (rfl : 2 + 1 = 3) ?_
  refine g_icmpN X0 hx (hb hby d6_3) (XT.ii_ne_f (by decide)) (rfl : 3 + 3 = 6) ?_
  refine g_aloadN X0 hx (hb hby d6_6) (rfl : 6 + 1 = 7) rfl rfl ?_
  refine g_private X0 hx hZ hown eh0 (rm_grow hw a dc kd mc I0 I1 I6 I2 I3 I4) (C := "java/util/ArrayList") (wd hw 52 rfl) (wd hw 53 rfl) (wd hw 55 rfl) (wd hw 54 rfl) (wd hw 56 rfl) (wd hw 3 rfl) (by decide) (a := a) I0 (argsL := []) (rest := []) rfl rfl (ps := []) (rt := (some (.array (.object "java/lang/Object")))) (by decide) rfl (W := 0) (Nat.le_of_eq rfl) (by decide) (by decide) (by decide) (by decide) (by rw [hml]; rfl) (hb hby d6_7) (rfl : 7 + 3 = 10) fun v1 T1 hh1 L1 X1 eh1 Q1 => ?_
  obtain ⟨ar_1, kr_1, rfl, Pc1, G1_0, G1_1, G1_2, G1_3, G1_4, G1_5, G1_6⟩ := Q1
  have P1 := P0.call Pc1 (allS (Or.inl (List.mem_of_getElem? (i := 0) rfl)) all0)
  show OGo p e below K T1 (mkF m 10 #[.val (.ref a), .val (.ref x), .val (.ref dc), .val (.int (0 : Int32))] [(.ref ar_1)])
  refine g_astoreN X1 hx (hb hby d6_10) (rfl : 10 + 1 = 11) rfl (Ls' := #[.val (.ref a), .val (.ref x), .val (.ref ar_1), .val (.int (0 : Int32))]) rfl ?_
  refine g_aloadN X1 hx (hb hby d6_11) (rfl : 11 + 1 = 12) rfl rfl ?_
  refine g_iloadN X1 hx (hb hby d6_12) (rfl : 12 + 1 = 13) rfl ?_
  refine g_aloadN X1 hx (hb hby d6_13) (rfl : 13 + 1 = 14) rfl rfl ?_
  have F3 := (exaP I5 Pc1)
  refine g_aastore X1 hx hZ eh1 G1_5 rfl (by decide) (by rfl) (vs' := [(.ref x), .null, .null, .null, .null, .null, .null, .null, .null, .null]) (by rfl) rfl (stoOf G1_5 G1_6 (Ins.of_exa F3 (wd hw 68 rfl))) P1 (Or.inr (Nat.le_trans P0.size G1_0)) (hb hby d6_14) (rfl : 14 + 1 = 15) fun T2 hh2 X2 eh2 W2 P2 A2 => ?_
  refine g_aloadN X2 hx (hb hby d6_15) (rfl : 15 + 1 = 16) rfl rfl ?_
  refine g_iloadN X2 hx (hb hby d6_16) (rfl : 16 + 1 = 17) rfl ?_
  refine g_iconst X2 hx (1 : Int32) (hb hby d6_17) (rfl : 17 + 1 = 18) (by decide) ?_
  refine g_iadd X2 hx (hb hby d6_18) (rfl : 18 + 1 = 19) (z := (1 : Int32)) (by decide) ?_
  have ne4 : a ≠ ar_1 := Nat.ne_of_lt (Nat.lt_of_lt_of_le I0.lt G1_0)
  have F5 := (G1_4.other W2 (Or.inl ne4))
  have F6 := (exaP I0 P2)
  refine g_putf X2 hx hZ hown (host := "") (Or.inl (wd hw 45 rfl)) Via.refl eh2 F5 F6 (Or.inl (wd hw 46 rfl)) (wd hw 2 rfl) (ty := .int) (by decide) rfl rfl P2 (Or.inl (List.mem_of_getElem? (i := 0) rfl)) (hb hby d6_19) (rfl : 19 + 3 = 22) fun T7 hh7 X7 eh7 W7 P7 F7 => ?_
  have F8 := ((G1_1.wr W2).wr W7)
  have F9 := ((G1_2.other W2 (Or.inl ne4)).other W7 (Or.inr (slot_ne (Or.inl (wd hw 26 rfl)) (Or.inl (wd hw 46 rfl)) (by decide) (t := (.array (.object "java/lang/Object"))) (by decide) (t' := .int) (by decide))))
  have F10 := ((G1_3.other W2 (Or.inl ne4)).other W7 (Or.inr (slot_ne (Or.inl (wd hw 23 rfl)) (Or.inl (wd hw 46 rfl)) (by decide) (t := .int) (by decide) (t' := .int) (by decide))))
  have F11 := (aryO A2 W7 (Ne.symm ne4))
  exact g_ret0 X7 hx hret hlk (hb hby d6_22) (by decide) (by decide) eh7 hK ⟨ar_1, kr_1, rfl, P7, (Nat.le_trans P0.size G1_0), F8, F9, F7, F10, F11, G1_6⟩
theorem d5_0 : decode jdk_38_method_25_code 0 = .ok (.aload_n 0, 1) := by decide +kernel
theorem d5_1 : decode jdk_38_method_25_code 1 = .ok (.dup, 1) := by decide +kernel
theorem d5_2 : decode jdk_38_method_25_code 2 = .ok (.getfield 63, 3) := by decide +kernel
theorem d5_5 : decode jdk_38_method_25_code 5 = .ok (.iconst 1, 1) := by decide +kernel
theorem d5_6 : decode jdk_38_method_25_code 6 = .ok (.iadd, 1) := by decide +kernel
theorem d5_7 : decode jdk_38_method_25_code 7 = .ok (.putfield 63, 3) := by decide +kernel
theorem d5_10 : decode jdk_38_method_25_code 10 = .ok (.aload_n 0, 1) := by decide +kernel
theorem d5_11 : decode jdk_38_method_25_code 11 = .ok (.aload_n 1, 1) := by decide +kernel
theorem d5_12 : decode jdk_38_method_25_code 12 = .ok (.aload_n 0, 1) := by decide +kernel
theorem d5_13 : decode jdk_38_method_25_code 13 = .ok (.getfield 9, 3) := by decide +kernel
theorem d5_16 : decode jdk_38_method_25_code 16 = .ok (.aload_n 0, 1) := by decide +kernel
theorem d5_17 : decode jdk_38_method_25_code 17 = .ok (.getfield 48, 3) := by decide +kernel
theorem d5_20 : decode jdk_38_method_25_code 20 = .ok (.invokevirtual 131, 3) := by decide +kernel
theorem d5_23 : decode jdk_38_method_25_code 23 = .ok (.iconst 1, 1) := by decide +kernel
theorem d5_24 : decode jdk_38_method_25_code 24 = .ok (.ireturn, 1) := by decide +kernel
theorem pn_rm_add_0 : plainFor (⟨"java/util/ArrayList", "add", "(Ljava/lang/Object;)Z"⟩ : MethodName) = true := by first | exact plainFor_of_name (by first | (simp [plainName, overriddenIn]; done) | decide +kernel) | decide +kernel
set_option maxRecDepth 65536 in
set_option maxHeartbeats 40000000 in
theorem rm_add_0 {l : Launch} {Z : State} {a0 : Array Value} (hw : ∀ d ∈ tables_1, d.before a0 Z = true) (a : Addr) (dc : Addr) (kd : ClassId) (x : Addr) {h0 : Heap} (I0 : Exa Z h0 a "java/util/ArrayList") (I1 : Fld Z h0 a "java/util/ArrayList" "elementData" "[Ljava/lang/Object;" (.ref dc)) (I2 : Fld Z h0 a "java/util/ArrayList" "size" "I" (.int (0 : Int32))) (I3 : Sta Z h0 "java/util/ArrayList" "DEFAULTCAPACITY_EMPTY_ELEMENTDATA" "[Ljava/lang/Object;" (.ref dc)) (I4 : OAry Z h0 dc kd (.object "java/lang/Object") []) (I5 : Exa Z h0 x "java/lang/Integer") (I6 : Fld Z h0 a "java/util/AbstractList" "modCount" "I" (.int (0 : Int32)))  :
    OMet l (⟨"java/util/ArrayList", "add", "(Ljava/lang/Object;)Z"⟩ : MethodName) jdk_38_method_25_code 2 (Option.some Jvm.ClassFile.FieldType.boolean) ({ frames := 4, cells := 1, slots := 10, locals := 56 } : Room) #[(.ref a), (.ref x)] Z h0 (fun vR hR LR => ∃ ar : Addr, ∃ kr : ClassId, vR = some (.int (1 : Int32)) ∧ OPr h0 [a] hR LR ∧ h0.size ≤ ar ∧ Exa Z hR ar "[Ljava/lang/Object;" ∧ Fld Z hR a "java/util/ArrayList" "elementData" "[Ljava/lang/Object;" (.ref ar) ∧ Fld Z hR a "java/util/ArrayList" "size" "I" (.int (1 : Int32)) ∧ Fld Z hR a "java/util/AbstractList" "modCount" "I" (.int (1 : Int32)) ∧ OAry Z hR ar kr (.object "java/lang/Object") [(.ref x), .null, .null, .null, .null, .null, .null, .null, .null, .null] ∧ Ovr Z kr "java/lang/Object") := by
  refine OMet.body pn_rm_add_0 (Ls := #[.val (.ref a), .val (.ref x)]) (fun m => by first | (simp [entryFrame, mkF, argsToLocals, Value.category]; done) | rfl) ?_
  intro p e s m below meth c T0 K hK X0 hx hby hml hown hnm hret hlk hZ eh0
  have P0 := OPr.refl h0 [a]
  refine g_aloadN X0 hx (hb hby d5_0) (rfl : 0 + 1 = 1) rfl rfl ?_
  refine g_dup X0 hx (hb hby d5_1) (rfl : 1 + 1 = 2) rfl ?_
  refine g_getf X0 hx hZ hown (host := "") (Or.inl (wd hw 43 rfl)) (Via.of (wd hw 44 rfl)) eh0 I6 (hb hby d5_2) (rfl : 2 + 3 = 5) fun T1 X1 eh1 => ?_
  refine g_iconst X1 hx (1 : Int32) (hb hby d5_5) (rfl : 5 + 1 = 6) (by decide) ?_
  refine g_iadd X1 hx (hb hby d5_6) (rfl : 6 + 1 = 7) (z := (1 : Int32)) (by decide) ?_
  refine g_putf X1 hx hZ hown (host := "") (Or.inl (wd hw 43 rfl)) (Via.of (wd hw 44 rfl)) eh1 I6 I0 (Or.inl (wd hw 23 rfl)) (wd hw 2 rfl) (ty := .int) (by decide) rfl rfl P0 (Or.inl (List.mem_of_getElem? (i := 0) rfl)) (hb hby d5_7) (rfl : 7 + 3 = 10) fun T2 hh2 X2 eh2 W2 P2 F2 => ?_
  refine g_aloadN X2 hx (hb hby d5_10) (rfl : 10 + 1 = 11) rfl rfl ?_
  refine g_aloadN X2 hx (hb hby d5_11) (rfl : 11 + 1 = 12) rfl rfl ?_
  refine g_aloadN X2 hx (hb hby d5_12) (rfl : 12 + 1 = 13) rfl rfl ?_
  have F3 := (I1.other W2 (Or.inr (slot_ne (Or.inl (wd hw 26 rfl)) (Or.inl (wd hw 23 rfl)) (by decide) (t := (.array (.object "java/lang/Object"))) (by decide) (t' := .int) (by decide))))
  refine g_getf X2 hx hZ hown (host := "") (Or.inl (wd hw 25 rfl)) Via.refl eh2 F3 (hb hby d5_13) (rfl : 13 + 3 = 16) fun T4 X4 eh4 => ?_
  refine g_aloadN X4 hx (hb hby d5_16) (rfl : 16 + 1 = 17) rfl rfl ?_
  have F5 := (I2.other W2 (Or.inr (slot_ne (Or.inl (wd hw 46 rfl)) (Or.inl (wd hw 23 rfl)) (by decide) (t := .int) (by decide) (t' := .int) (by decide))))
  refine g_getf X4 hx hZ hown (host := "") (Or.inl (wd hw 45 rfl)) Via.refl eh4 F5 (hb hby d5_17) (rfl : 17 + 3 = 20) fun T6 X6 eh6 => ?_
  have F8 := (I0.wr W2)
  have F9 := (I3.wr W2)
  have ne10 : a ≠ dc := neAry I0 (wd hw 2 rfl) I4
  have F11 := (aryO I4 W2 (Ne.symm ne10))
  have F12 := (I5.wr W2)
  refine g_private X6 hx hZ hown eh6 (rm_add3_0 hw a dc kd x (1 : Int32) F8 F3 F5 F9 F11 F12 F2) (C := "java/util/ArrayList") (wd hw 47 rfl) (wd hw 48 rfl) (wd hw 50 rfl) (wd hw 49 rfl) (wd hw 51 rfl) (wd hw 3 rfl) (by decide) (a := a) F8 (argsL := [(.ref x), (.ref dc), (.int (0 : Int32))]) (rest := []) rfl rfl (ps := [(.object "java/lang/Object"), (.array (.object "java/lang/Object")), .int]) (rt := none) (by decide) rfl (W := 0) (Nat.le_of_eq rfl) (by decide) (by decide) (by decide) (by decide) (by rw [hml]; rfl) (hb hby d5_20) (rfl : 20 + 3 = 23) fun v7 T7 hh7 L7 X7 eh7 Q7 => ?_
  obtain ⟨ar_7, kr_7, rfl, Pc7, G7_0, G7_1, G7_2, G7_3, G7_4, G7_5, G7_6⟩ := Q7
  have P7 := P2.call Pc7 (allS (Or.inl (List.mem_of_getElem? (i := 0) rfl)) all0)
  show OGo p e below K T7 (mkF m 23 #[.val (.ref a), .val (.ref x)] [])
  refine g_iconst X7 hx (1 : Int32) (hb hby d5_23) (rfl : 23 + 1 = 24) (by decide) ?_
  exact g_ret X7 hx hret hlk rfl (Or.inl ⟨rfl, Or.inr (Or.inl rfl), _, rfl⟩) (hb hby d5_24) (by decide) (by decide) eh7 hK ⟨ar_7, kr_7, rfl, P7, (Nat.le_trans P2.size G7_0), G7_1, G7_2, G7_3, G7_4, G7_5, G7_6⟩
theorem pn_rm_add3_1 : plainFor (⟨"java/util/ArrayList", "add", "(Ljava/lang/Object;[Ljava/lang/Object;I)V"⟩ : MethodName) = true := by first | exact plainFor_of_name (by first | (simp [plainName, overriddenIn]; done) | decide +kernel) | decide +kernel
set_option maxRecDepth 65536 in
set_option maxHeartbeats 40000000 in
theorem rm_add3_1 {l : Launch} {Z : State} {a0 : Array Value} (hw : ∀ d ∈ tables_1, d.before a0 Z = true) (a : Addr) (ar : Addr) (kr : ClassId) (x0 : Addr) (x : Addr) (mc : Int32) {h0 : Heap} (I0 : Exa Z h0 a "java/util/ArrayList") (I1 : Fld Z h0 a "java/util/ArrayList" "elementData" "[Ljava/lang/Object;" (.ref ar)) (I2 : Fld Z h0 a "java/util/ArrayList" "size" "I" (.int (1 : Int32))) (I3 : OAry Z h0 ar kr (.object "java/lang/Object") [(.ref x0), .null, .null, .null, .null, .null, .null, .null, .null, .null]) (I4 : Exa Z h0 x "java/lang/Integer") (I5 : Fld Z h0 a "java/util/AbstractList" "modCount" "I" (.int mc)) (ov : Ovr Z kr "java/lang/Object") :
    OMet l (⟨"java/util/ArrayList", "add", "(Ljava/lang/Object;[Ljava/lang/Object;I)V"⟩ : MethodName) jdk_38_method_24_code 4 (Option.none : Option Jvm.ClassFile.FieldType) ({ frames := 0, cells := 0, slots := 0, locals := 0 } : Room) #[(.ref a), (.ref x), (.ref ar), (.int (1 : Int32))] Z h0 (fun vR hR LR => vR = none ∧ OPr h0 [a, ar] hR LR ∧ Fld Z hR a "java/util/ArrayList" "elementData" "[Ljava/lang/Object;" (.ref ar) ∧ Fld Z hR a "java/util/ArrayList" "size" "I" (.int (2 : Int32)) ∧ Fld Z hR a "java/util/AbstractList" "modCount" "I" (.int mc) ∧ OAry Z hR ar kr (.object "java/lang/Object") [(.ref x0), (.ref x), .null, .null, .null, .null, .null, .null, .null, .null]) := by
  refine OMet.body pn_rm_add3_1 (Ls := #[.val (.ref a), .val (.ref x), .val (.ref ar), .val (.int (1 : Int32))]) (fun m => by first | (simp [entryFrame, mkF, argsToLocals, Value.category]; done) | rfl) ?_
  intro p e s m below meth c T0 K hK X0 hx hby hml hown hnm hret hlk hZ eh0
  have P0 := OPr.refl h0 [a, ar]
  refine g_iloadN X0 hx (hb hby d6_0) (rfl : 0 + 1 = 1) rfl ?_
  refine g_aloadN X0 hx (hb hby d6_1) (rfl : 1 + 1 = 2) rfl rfl ?_
  refine g_len X0 hx hZ eh0 I3 (z := (10 : Int32)) rfl (hb hby d6_2) (rfl : 2 + 1 = 3) ?_
  refine g_icmpY X0 hx (hb hby d6_3) (XT.ii_ne_t (by decide)) (by decide) (pc' := 11) (by decide) ?_
  refine g_aloadN X0 hx (hb hby d6_11) (rfl : 11 + 1 = 12) rfl rfl ?_
  refine g_iloadN X0 hx (hb hby d6_12) (rfl : 12 + 1 = 13) rfl ?_
  refine g_aloadN X0 hx (hb hby d6_13) (rfl : 13 + 1 = 14) rfl rfl ?_
  refine g_aastore X0 hx hZ eh0 I3 rfl (by decide) (by rfl) (vs' := [(.ref x0), (.ref x), .null, .null, .null, .null, .null, .null, .null, .null]) (by rfl) rfl (stoOf I3 ov (Ins.of_exa I4 (wd hw 68 rfl))) P0 (Or.inl (List.mem_of_getElem? (i := 1) rfl)) (hb hby d6_14) (rfl : 14 + 1 = 15) fun T1 hh1 X1 eh1 W1 P1 A1 => ?_
  refine g_aloadN X1 hx (hb hby d6_15) (rfl : 15 + 1 = 16) rfl rfl ?_
  refine g_iloadN X1 hx (hb hby d6_16) (rfl : 16 + 1 = 17) rfl ?_
  refine g_iconst X1 hx (1 : Int32) (hb hby d6_17) (rfl : 17 + 1 = 18) (by decide) ?_
  refine g_iadd X1 hx (hb hby d6_18) (rfl : 18 + 1 = 19) (z := (2 : Int32)) (by decide) ?_
  have ne2 : a ≠ ar := neAry I0 (wd hw 2 rfl) I3
  have F3 := (I2.other W1 (Or.inl ne2))
  have F4 := (I0.wr W1)
  refine g_putf X1 hx hZ hown (host := "") (Or.inl (wd hw 45 rfl)) Via.refl eh1 F3 F4 (Or.inl (wd hw 46 rfl)) (wd hw 2 rfl) (ty := .int) (by decide) rfl rfl P1 (Or.inl (List.mem_of_getElem? (i := 0) rfl)) (hb hby d6_19) (rfl : 19 + 3 = 22) fun T5 hh5 X5 eh5 W5 P5 F5 => ?_
  have F6 := ((I1.other W1 (Or.inl ne2)).other W5 (Or.inr (slot_ne (Or.inl (wd hw 26 rfl)) (Or.inl (wd hw 46 rfl)) (by decide) (t := (.array (.object "java/lang/Object"))) (by decide) (t' := .int) (by decide))))
  have F7 := ((I5.other W1 (Or.inl ne2)).other W5 (Or.inr (slot_ne (Or.inl (wd hw 23 rfl)) (Or.inl (wd hw 46 rfl)) (by decide) (t := .int) (by decide) (t' := .int) (by decide))))
  have F8 := (aryO A1 W5 (Ne.symm ne2))
  exact g_ret0 X5 hx hret hlk (hb hby d6_22) (by decide) (by decide) eh5 hK ⟨rfl, P5, F6, F5, F7, F8⟩
theorem pn_rm_add_1 : plainFor (⟨"java/util/ArrayList", "add", "(Ljava/lang/Object;)Z"⟩ : MethodName) = true := by first | exact plainFor_of_name (by first | (simp [plainName, overriddenIn]; done) | decide +kernel) | decide +kernel
set_option maxRecDepth 65536 in
set_option maxHeartbeats 40000000 in
theorem rm_add_1 {l : Launch} {Z : State} {a0 : Array Value} (hw : ∀ d ∈ tables_1, d.before a0 Z = true) (a : Addr) (ar : Addr) (kr : ClassId) (x0 : Addr) (x : Addr) {h0 : Heap} (I0 : Exa Z h0 a "java/util/ArrayList") (I1 : Fld Z h0 a "java/util/ArrayList" "elementData" "[Ljava/lang/Object;" (.ref ar)) (I2 : Fld Z h0 a "java/util/ArrayList" "size" "I" (.int (1 : Int32))) (I3 : OAry Z h0 ar kr (.object "java/lang/Object") [(.ref x0), .null, .null, .null, .null, .null, .null, .null, .null, .null]) (I4 : Exa Z h0 x "java/lang/Integer") (I5 : Fld Z h0 a "java/util/AbstractList" "modCount" "I" (.int (1 : Int32))) (ov : Ovr Z kr "java/lang/Object") :
    OMet l (⟨"java/util/ArrayList", "add", "(Ljava/lang/Object;)Z"⟩ : MethodName) jdk_38_method_25_code 2 (Option.some Jvm.ClassFile.FieldType.boolean) ({ frames := 1, cells := 0, slots := 0, locals := 15 } : Room) #[(.ref a), (.ref x)] Z h0 (fun vR hR LR => vR = some (.int (1 : Int32)) ∧ OPr h0 [a, ar] hR LR ∧ Fld Z hR a "java/util/ArrayList" "elementData" "[Ljava/lang/Object;" (.ref ar) ∧ Fld Z hR a "java/util/ArrayList" "size" "I" (.int (2 : Int32)) ∧ Fld Z hR a "java/util/AbstractList" "modCount" "I" (.int (2 : Int32)) ∧ OAry Z hR ar kr (.object "java/lang/Object") [(.ref x0), (.ref x), .null, .null, .null, .null, .null, .null, .null, .null]) := by
  refine OMet.body pn_rm_add_1 (Ls := #[.val (.ref a), .val (.ref x)]) (fun m => by first | (simp [entryFrame, mkF, argsToLocals, Value.category]; done) | rfl) ?_
  intro p e s m below meth c T0 K hK X0 hx hby hml hown hnm hret hlk hZ eh0
  have P0 := OPr.refl h0 [a, ar]
  refine g_aloadN X0 hx (hb hby d5_0) (rfl : 0 + 1 = 1) rfl rfl ?_
  refine g_dup X0 hx (hb hby d5_1) (rfl : 1 + 1 = 2) rfl ?_
  refine g_getf X0 hx hZ hown (host := "") (Or.inl (wd hw 43 rfl)) (Via.of (wd hw 44 rfl)) eh0 I5 (hb hby d5_2) (rfl : 2 + 3 = 5) fun T1 X1 eh1 => ?_
  refine g_iconst X1 hx (1 : Int32) (hb hby d5_5) (rfl : 5 + 1 = 6) (by decide) ?_
  refine g_iadd X1 hx (hb hby d5_6) (rfl : 6 + 1 = 7) (z := (2 : Int32)) (by decide) ?_
  refine g_putf X1 hx hZ hown (host := "") (Or.inl (wd hw 43 rfl)) (Via.of (wd hw 44 rfl)) eh1 I5 I0 (Or.inl (wd hw 23 rfl)) (wd hw 2 rfl) (ty := .int) (by decide) rfl rfl P0 (Or.inl (List.mem_of_getElem? (i := 0) rfl)) (hb hby d5_7) (rfl : 7 + 3 = 10) fun T2 hh2 X2 eh2 W2 P2 F2 => ?_
  refine g_aloadN X2 hx (hb hby d5_10) (rfl : 10 + 1 = 11) rfl rfl ?_
  refine g_aloadN X2 hx (hb hby d5_11) (rfl : 11 + 1 = 12) rfl rfl ?_
  refine g_aloadN X2 hx (hb hby d5_12) (rfl : 12 + 1 = 13) rfl rfl ?_
  have F3 := (I1.other W2 (Or.inr (slot_ne (Or.inl (wd hw 26 rfl)) (Or.inl (wd hw 23 rfl)) (by decide) (t := (.array (.object "java/lang/Object"))) (by decide) (t' := .int) (by decide))))
  refine g_getf X2 hx hZ hown (host := "") (Or.inl (wd hw 25 rfl)) Via.refl eh2 F3 (hb hby d5_13) (rfl : 13 + 3 = 16) fun T4 X4 eh4 => ?_
  refine g_aloadN X4 hx (hb hby d5_16) (rfl : 16 + 1 = 17) rfl rfl ?_
  have F5 := (I2.other W2 (Or.inr (slot_ne (Or.inl (wd hw 46 rfl)) (Or.inl (wd hw 23 rfl)) (by decide) (t := .int) (by decide) (t' := .int) (by decide))))
  refine g_getf X4 hx hZ hown (host := "") (Or.inl (wd hw 45 rfl)) Via.refl eh4 F5 (hb hby d5_17) (rfl : 17 + 3 = 20) fun T6 X6 eh6 => ?_
  have F8 := (I0.wr W2)
  have ne9 : a ≠ ar := neAry I0 (wd hw 2 rfl) I3
  have F10 := (aryO I3 W2 (Ne.symm ne9))
  have F11 := (I4.wr W2)
  refine g_private X6 hx hZ hown eh6 (rm_add3_1 hw a ar kr x0 x (2 : Int32) F8 F3 F5 F10 F11 F2 ov) (C := "java/util/ArrayList") (wd hw 47 rfl) (wd hw 48 rfl) (wd hw 50 rfl) (wd hw 49 rfl) (wd hw 51 rfl) (wd hw 3 rfl) (by decide) (a := a) F8 (argsL := [(.ref x), (.ref ar), (.int (1 : Int32))]) (rest := []) rfl rfl (ps := [(.object "java/lang/Object"), (.array (.object "java/lang/Object")), .int]) (rt := none) (by decide) rfl (W := 0) (Nat.le_of_eq rfl) (by decide) (by decide) (by decide) (by decide) (by rw [hml]; rfl) (hb hby d5_20) (rfl : 20 + 3 = 23) fun v7 T7 hh7 L7 X7 eh7 Q7 => ?_
  obtain ⟨rfl, Pc7, G7_0, G7_1, G7_2, G7_3⟩ := Q7
  have P7 := P2.call Pc7 (allS (Or.inl (List.mem_of_getElem? (i := 0) rfl)) (allS (Or.inl (List.mem_of_getElem? (i := 1) rfl)) all0))
  show OGo p e below K T7 (mkF m 23 #[.val (.ref a), .val (.ref x)] [])
  refine g_iconst X7 hx (1 : Int32) (hb hby d5_23) (rfl : 23 + 1 = 24) (by decide) ?_
  exact g_ret X7 hx hret hlk rfl (Or.inl ⟨rfl, Or.inr (Or.inl rfl), _, rfl⟩) (hb hby d5_24) (by decide) (by decide) eh7 hK ⟨rfl, P7, G7_0, G7_1, G7_2, G7_3⟩
theorem pn_rm_add3_2 : plainFor (⟨"java/util/ArrayList", "add", "(Ljava/lang/Object;[Ljava/lang/Object;I)V"⟩ : MethodName) = true := by first | exact plainFor_of_name (by first | (simp [plainName, overriddenIn]; done) | decide +kernel) | decide +kernel
set_option maxRecDepth 65536 in
set_option maxHeartbeats 40000000 in
theorem rm_add3_2 {l : Launch} {Z : State} {a0 : Array Value} (hw : ∀ d ∈ tables_1, d.before a0 Z = true) (a : Addr) (ar : Addr) (kr : ClassId) (x0 : Addr) (x1 : Addr) (x : Addr) (mc : Int32) {h0 : Heap} (I0 : Exa Z h0 a "java/util/ArrayList") (I1 : Fld Z h0 a "java/util/ArrayList" "elementData" "[Ljava/lang/Object;" (.ref ar)) (I2 : Fld Z h0 a "java/util/ArrayList" "size" "I" (.int (2 : Int32))) (I3 : OAry Z h0 ar kr (.object "java/lang/Object") [(.ref x0), (.ref x1), .null, .null, .null, .null, .null, .null, .null, .null]) (I4 : Exa Z h0 x "java/lang/Integer") (I5 : Fld Z h0 a "java/util/AbstractList" "modCount" "I" (.int mc)) (ov : Ovr Z kr "java/lang/Object") :
    OMet l (⟨"java/util/ArrayList", "add", "(Ljava/lang/Object;[Ljava/lang/Object;I)V"⟩ : MethodName) jdk_38_method_24_code 4 (Option.none : Option Jvm.ClassFile.FieldType) ({ frames := 0, cells := 0, slots := 0, locals := 0 } : Room) #[(.ref a), (.ref x), (.ref ar), (.int (2 : Int32))] Z h0 (fun vR hR LR => vR = none ∧ OPr h0 [a, ar] hR LR ∧ Fld Z hR a "java/util/ArrayList" "elementData" "[Ljava/lang/Object;" (.ref ar) ∧ Fld Z hR a "java/util/ArrayList" "size" "I" (.int (3 : Int32)) ∧ Fld Z hR a "java/util/AbstractList" "modCount" "I" (.int mc) ∧ OAry Z hR ar kr (.object "java/lang/Object") [(.ref x0), (.ref x1), (.ref x), .null, .null, .null, .null, .null, .null, .null]) := by
  refine OMet.body pn_rm_add3_2 (Ls := #[.val (.ref a), .val (.ref x), .val (.ref ar), .val (.int (2 : Int32))]) (fun m => by first | (simp [entryFrame, mkF, argsToLocals, Value.category]; done) | rfl) ?_
  intro p e s m below meth c T0 K hK X0 hx hby hml hown hnm hret hlk hZ eh0
  have P0 := OPr.refl h0 [a, ar]
  refine g_iloadN X0 hx (hb hby d6_0) (rfl : 0 + 1 = 1) rfl ?_
  refine g_aloadN X0 hx (hb hby d6_1) (rfl : 1 + 1 = 2) rfl rfl ?_
  refine g_len X0 hx hZ eh0 I3 (z := (10 : Int32)) rfl (hb hby d6_2) (rfl : 2 + 1 = 3) ?_
  refine g_icmpY X0 hx (hb hby d6_3) (XT.ii_ne_t (by decide)) (by decide) (pc' := 11) (by decide) ?_
  refine g_aloadN X0 hx (hb hby d6_11) (rfl : 11 + 1 = 12) rfl rfl ?_
  refine g_iloadN X0 hx (hb hby d6_12) (rfl : 12 + 1 = 13) rfl ?_
  refine g_aloadN X0 hx (hb hby d6_13) (rfl : 13 + 1 = 14) rfl rfl ?_
  refine g_aastore X0 hx hZ eh0 I3 rfl (by decide) (by rfl) (vs' := [(.ref x0), (.ref x1), (.ref x), .null, .null, .null, .null, .null, .null, .null]) (by rfl) rfl (stoOf I3 ov (Ins.of_exa I4 (wd hw 68 rfl))) P0 (Or.inl (List.mem_of_getElem? (i := 1) rfl)) (hb hby d6_14) (rfl : 14 + 1 = 15) fun T1 hh1 X1 eh1 W1 P1 A1 => ?_
  refine g_aloadN X1 hx (hb hby d6_15) (rfl : 15 + 1 = 16) rfl rfl ?_
  refine g_iloadN X1 hx (hb hby d6_16) (rfl : 16 + 1 = 17) rfl ?_
  refine g_iconst X1 hx (1 : Int32) (hb hby d6_17) (rfl : 17 + 1 = 18) (by decide) ?_
  refine g_iadd X1 hx (hb hby d6_18) (rfl : 18 + 1 = 19) (z := (3 : Int32)) (by decide) ?_
  have ne2 : a ≠ ar := neAry I0 (wd hw 2 rfl) I3
  have F3 := (I2.other W1 (Or.inl ne2))
  have F4 := (I0.wr W1)
  refine g_putf X1 hx hZ hown (host := "") (Or.inl (wd hw 45 rfl)) Via.refl eh1 F3 F4 (Or.inl (wd hw 46 rfl)) (wd hw 2 rfl) (ty := .int) (by decide) rfl rfl P1 (Or.inl (List.mem_of_getElem? (i := 0) rfl)) (hb hby d6_19) (rfl : 19 + 3 = 22) fun T5 hh5 X5 eh5 W5 P5 F5 => ?_
  have F6 := ((I1.other W1 (Or.inl ne2)).other W5 (Or.inr (slot_ne (Or.inl (wd hw 26 rfl)) (Or.inl (wd hw 46 rfl)) (by decide) (t := (.array (.object "java/lang/Object"))) (by decide) (t' := .int) (by decide))))
  have F7 := ((I5.other W1 (Or.inl ne2)).other W5 (Or.inr (slot_ne (Or.inl (wd hw 23 rfl)) (Or.inl (wd hw 46 rfl)) (by decide) (t := .int) (by decide) (t' := .int) (by decide))))
  have F8 := (aryO A1 W5 (Ne.symm ne2))
  exact g_ret0 X5 hx hret hlk (hb hby d6_22) (by decide) (by decide) eh5 hK ⟨rfl, P5, F6, F5, F7, F8⟩
theorem pn_rm_add_2 : plainFor (⟨"java/util/ArrayList", "add", "(Ljava/lang/Object;)Z"⟩ : MethodName) = true := by first | exact plainFor_of_name (by first | (simp [plainName, overriddenIn]; done) | decide +kernel) | decide +kernel
set_option maxRecDepth 65536 in
set_option maxHeartbeats 40000000 in
theorem rm_add_2 {l : Launch} {Z : State} {a0 : Array Value} (hw : ∀ d ∈ tables_1, d.before a0 Z = true) (a : Addr) (ar : Addr) (kr : ClassId) (x0 : Addr) (x1 : Addr) (x : Addr) {h0 : Heap} (I0 : Exa Z h0 a "java/util/ArrayList") (I1 : Fld Z h0 a "java/util/ArrayList" "elementData" "[Ljava/lang/Object;" (.ref ar)) (I2 : Fld Z h0 a "java/util/ArrayList" "size" "I" (.int (2 : Int32))) (I3 : OAry Z h0 ar kr (.object "java/lang/Object") [(.ref x0), (.ref x1), .null, .null, .null, .null, .null, .null, .null, .null]) (I4 : Exa Z h0 x "java/lang/Integer") (I5 : Fld Z h0 a "java/util/AbstractList" "modCount" "I" (.int (2 : Int32))) (ov : Ovr Z kr "java/lang/Object") :
    OMet l (⟨"java/util/ArrayList", "add", "(Ljava/lang/Object;)Z"⟩ : MethodName) jdk_38_method_25_code 2 (Option.some Jvm.ClassFile.FieldType.boolean) ({ frames := 1, cells := 0, slots := 0, locals := 15 } : Room) #[(.ref a), (.ref x)] Z h0 (fun vR hR LR => vR = some (.int (1 : Int32)) ∧ OPr h0 [a, ar] hR LR ∧ Fld Z hR a "java/util/ArrayList" "elementData" "[Ljava/lang/Object;" (.ref ar) ∧ Fld Z hR a "java/util/ArrayList" "size" "I" (.int (3 : Int32)) ∧ Fld Z hR a "java/util/AbstractList" "modCount" "I" (.int (3 : Int32)) ∧ OAry Z hR ar kr (.object "java/lang/Object") [(.ref x0), (.ref x1), (.ref x), .null, .null, .null, .null, .null, .null, .null]) := by
  refine OMet.body pn_rm_add_2 (Ls := #[.val (.ref a), .val (.ref x)]) (fun m => by first | (simp [entryFrame, mkF, argsToLocals, Value.category]; done) | rfl) ?_
  intro p e s m below meth c T0 K hK X0 hx hby hml hown hnm hret hlk hZ eh0
  have P0 := OPr.refl h0 [a, ar]
  refine g_aloadN X0 hx (hb hby d5_0) (rfl : 0 + 1 = 1) rfl rfl ?_
  refine g_dup X0 hx (hb hby d5_1) (rfl : 1 + 1 = 2) rfl ?_
  refine g_getf X0 hx hZ hown (host := "") (Or.inl (wd hw 43 rfl)) (Via.of (wd hw 44 rfl)) eh0 I5 (hb hby d5_2) (rfl : 2 + 3 = 5) fun T1 X1 eh1 => ?_
  refine g_iconst X1 hx (1 : Int32) (hb hby d5_5) (rfl : 5 + 1 = 6) (by decide) ?_
  refine g_iadd X1 hx (hb hby d5_6) (rfl : 6 + 1 = 7) (z := (3 : Int32)) (by decide) ?_
  refine g_putf X1 hx hZ hown (host := "") (Or.inl (wd hw 43 rfl)) (Via.of (wd hw 44 rfl)) eh1 I5 I0 (Or.inl (wd hw 23 rfl)) (wd hw 2 rfl) (ty := .int) (by decide) rfl rfl P0 (Or.inl (List.mem_of_getElem? (i := 0) rfl)) (hb hby d5_7) (rfl : 7 + 3 = 10) fun T2 hh2 X2 eh2 W2 P2 F2 => ?_
  refine g_aloadN X2 hx (hb hby d5_10) (rfl : 10 + 1 = 11) rfl rfl ?_
  refine g_aloadN X2 hx (hb hby d5_11) (rfl : 11 + 1 = 12) rfl rfl ?_
  refine g_aloadN X2 hx (hb hby d5_12) (rfl : 12 + 1 = 13) rfl rfl ?_
  have F3 := (I1.other W2 (Or.inr (slot_ne (Or.inl (wd hw 26 rfl)) (Or.inl (wd hw 23 rfl)) (by decide) (t := (.array (.object "java/lang/Object"))) (by decide) (t' := .int) (by decide))))
  refine g_getf X2 hx hZ hown (host := "") (Or.inl (wd hw 25 rfl)) Via.refl eh2 F3 (hb hby d5_13) (rfl : 13 + 3 = 16) fun T4 X4 eh4 => ?_
  refine g_aloadN X4 hx (hb hby d5_16) (rfl : 16 + 1 = 17) rfl rfl ?_
  have F5 := (I2.other W2 (Or.inr (slot_ne (Or.inl (wd hw 46 rfl)) (Or.inl (wd hw 23 rfl)) (by decide) (t := .int) (by decide) (t' := .int) (by decide))))
  refine g_getf X4 hx hZ hown (host := "") (Or.inl (wd hw 45 rfl)) Via.refl eh4 F5 (hb hby d5_17) (rfl : 17 + 3 = 20) fun T6 X6 eh6 => ?_
  have F8 := (I0.wr W2)
  have ne9 : a ≠ ar := neAry I0 (wd hw 2 rfl) I3
  have F10 := (aryO I3 W2 (Ne.symm ne9))
  have F11 := (I4.wr W2)
  refine g_private X6 hx hZ hown eh6 (rm_add3_2 hw a ar kr x0 x1 x (3 : Int32) F8 F3 F5 F10 F11 F2 ov) (C := "java/util/ArrayList") (wd hw 47 rfl) (wd hw 48 rfl) (wd hw 50 rfl) (wd hw 49 rfl) (wd hw 51 rfl) (wd hw 3 rfl) (by decide) (a := a) F8 (argsL := [(.ref x), (.ref ar), (.int (2 : Int32))]) (rest := []) rfl rfl (ps := [(.object "java/lang/Object"), (.array (.object "java/lang/Object")), .int]) (rt := none) (by decide) rfl (W := 0) (Nat.le_of_eq rfl) (by decide) (by decide) (by decide) (by decide) (by rw [hml]; rfl) (hb hby d5_20) (rfl : 20 + 3 = 23) fun v7 T7 hh7 L7 X7 eh7 Q7 => ?_
  obtain ⟨rfl, Pc7, G7_0, G7_1, G7_2, G7_3⟩ := Q7
  have P7 := P2.call Pc7 (allS (Or.inl (List.mem_of_getElem? (i := 0) rfl)) (allS (Or.inl (List.mem_of_getElem? (i := 1) rfl)) all0))
  show OGo p e below K T7 (mkF m 23 #[.val (.ref a), .val (.ref x)] [])
  refine g_iconst X7 hx (1 : Int32) (hb hby d5_23) (rfl : 23 + 1 = 24) (by decide) ?_
  exact g_ret X7 hx hret hlk rfl (Or.inl ⟨rfl, Or.inr (Or.inl rfl), _, rfl⟩) (hb hby d5_24) (by decide) (by decide) eh7 hK ⟨rfl, P7, G7_0, G7_1, G7_2, G7_3⟩
theorem d11_0 : decode jdk_38_method_8_code 0 = .ok (.aload_n 0, 1) := by decide +kernel
theorem d11_1 : decode jdk_38_method_8_code 1 = .ok (.getfield 48, 3) := by decide +kernel
theorem d11_4 : decode jdk_38_method_8_code 4 = .ok (.ireturn, 1) := by decide +kernel
theorem pn_rm_size : plainFor (⟨"java/util/ArrayList", "size", "()I"⟩ : MethodName) = true := by first | exact plainFor_of_name (by first | (simp [plainName, overriddenIn]; done) | decide +kernel) | decide +kernel
set_option maxRecDepth 65536 in
set_option maxHeartbeats 40000000 in
theorem rm_size {l : Launch} {Z : State} {a0 : Array Value} (hw : ∀ d ∈ tables_1, d.before a0 Z = true) (a : Addr) (sz : Int32) {h0 : Heap} (I0 : Fld Z h0 a "java/util/ArrayList" "size" "I" (.int sz))  :
    OMet l (⟨"java/util/ArrayList", "size", "()I"⟩ : MethodName) jdk_38_method_8_code 1 (Option.some Jvm.ClassFile.FieldType.int) ({ frames := 0, cells := 0, slots := 0, locals := 0 } : Room) #[(.ref a)] Z h0 (fun vR hR LR => vR = some (.int sz) ∧ OPr h0 [] hR LR) := by
  refine OMet.body pn_rm_size (Ls := #[.val (.ref a)]) (fun m => by first | (simp [entryFrame, mkF, argsToLocals, Value.category]; done) | rfl) ?_
  intro p e s m below meth c T0 K hK X0 hx hby hml hown hnm hret hlk hZ eh0
  have P0 := OPr.refl h0 []
  refine g_aloadN X0 hx (hb hby d11_0) (rfl : 0 + 1 = 1) rfl rfl ?_
  refine g_getf X0 hx hZ hown (host := "") (Or.inl (wd hw 45 rfl)) Via.refl eh0 I0 (hb hby d11_1) (rfl : 1 + 3 = 4) fun T1 X1 eh1 => ?_
  exact g_ret X1 hx hret hlk rfl (Or.inl ⟨rfl, Or.inl rfl, _, rfl⟩) (hb hby d11_4) (by decide) (by decide) eh1 hK ⟨rfl, P0⟩
theorem d21_0 : decode jdk_38_method_9_code 0 = .ok (.aload_n 0, 1) := by decide +kernel
theorem d21_1 : decode jdk_38_method_9_code 1 = .ok (.getfield 48, 3) := by decide +kernel
theorem d21_4 : decode jdk_38_method_9_code 4 = .ok (.ifCond .ne 7, 3) := by decide +kernel
theorem d21_11 : decode jdk_38_method_9_code 11 = .ok (.iconst 0, 1) := by decide +kernel
theorem d21_12 : decode jdk_38_method_9_code 12 = .ok (.ireturn, 1) := by decide +kernel
theorem pn_rm_isempty : plainFor (⟨"java/util/ArrayList", "isEmpty", "()Z"⟩ : MethodName) = true := by first | exact plainFor_of_name (by first | (simp [plainName, overriddenIn]; done) | decide +kernel) | decide +kernel
set_option maxRecDepth 65536 in
set_option maxHeartbeats 40000000 in
theorem rm_isempty {l : Launch} {Z : State} {a0 : Array Value} (hw : ∀ d ∈ tables_1, d.before a0 Z = true) (a : Addr) (sz : Int32) {h0 : Heap} (I0 : Fld Z h0 a "java/util/ArrayList" "size" "I" (.int sz)) (hs : ¬ sz = 0) :
    OMet l (⟨"java/util/ArrayList", "isEmpty", "()Z"⟩ : MethodName) jdk_38_method_9_code 1 (Option.some Jvm.ClassFile.FieldType.boolean) ({ frames := 0, cells := 0, slots := 0, locals := 0 } : Room) #[(.ref a)] Z h0 (fun vR hR LR => vR = some (.int (0 : Int32)) ∧ OPr h0 [] hR LR) := by
  refine OMet.body pn_rm_isempty (Ls := #[.val (.ref a)]) (fun m => by first | (simp [entryFrame, mkF, argsToLocals, Value.category]; done) | rfl) ?_
  intro p e s m below meth c T0 K hK X0 hx hby hml hown hnm hret hlk hZ eh0
  have P0 := OPr.refl h0 []
  refine g_aloadN X0 hx (hb hby d21_0) (rfl : 0 + 1 = 1) rfl rfl ?_
  refine g_getf X0 hx hZ hown (host := "") (Or.inl (wd hw 45 rfl)) Via.refl eh0 I0 (hb hby d21_1) (rfl : 1 + 3 = 4) fun T1 X1 eh1 => ?_
  refine g_ifY X1 hx (hb hby d21_4) (XT.i0_ne_t hs) (by decide) (pc' := 11) (by decide) ?_
  refine g_iconst X1 hx (0 : Int32) (hb hby d21_11) (rfl : 11 + 1 = 12) (by decide) ?_
  exact g_ret X1 hx hret hlk rfl (Or.inl ⟨rfl, Or.inr (Or.inl rfl), _, rfl⟩) (hb hby d21_12) (by decide) (by decide) eh1 hK ⟨rfl, P0⟩
theorem d25_0 : decode jdk_29_method_69_code 0 = .ok (.iload_n 0, 1) := by decide +kernel
theorem d25_1 : decode jdk_29_method_69_code 1 = .ok (.iload_n 1, 1) := by decide +kernel
theorem d25_2 : decode jdk_29_method_69_code 2 = .ok (.if_icmp .gt 7, 3) := by decide +kernel
theorem d25_5 : decode jdk_29_method_69_code 5 = .ok (.iload_n 0, 1) := by decide +kernel
theorem d25_6 : decode jdk_29_method_69_code 6 = .ok (.goto 4, 3) := by decide +kernel
theorem d25_9 : decode jdk_29_method_69_code 9 = .ok (.iload_n 1, 1) := by decide +kernel
theorem d25_10 : decode jdk_29_method_69_code 10 = .ok (.ireturn, 1) := by decide +kernel
theorem pn_rm_mini : plainFor (⟨"java/lang/Math", "min", "(II)I"⟩ : MethodName) = true := by first | exact plainFor_of_name (by first | (simp [plainName, overriddenIn]; done) | decide +kernel) | exact Jvm.Free.JP.mathPlain rfl (by decide) | decide +kernel
set_option maxRecDepth 65536 in
set_option maxHeartbeats 40000000 in
theorem rm_mini {l : Launch} {Z : State} {a0 : Array Value} (hw : ∀ d ∈ tables_1, d.before a0 Z = true) (x : Int32) (y : Int32) (z : Int32) {h0 : Heap}  (hz : (if y < x then y else x : Int32) = z) :
    OMet l (⟨"java/lang/Math", "min", "(II)I"⟩ : MethodName) jdk_29_method_69_code 2 (Option.some Jvm.ClassFile.FieldType.int) ({ frames := 0, cells := 0, slots := 0, locals := 0 } : Room) #[(.int x), (.int y)] Z h0 (fun vR hR LR => vR = some (.int z) ∧ OPr h0 [] hR LR) := by
  refine OMet.body pn_rm_mini (Ls := #[.val (.int x), .val (.int y)]) (fun m => by first | (simp [entryFrame, mkF, argsToLocals, Value.category]; done) | rfl) ?_
  intro p e s m below meth c T0 K hK X0 hx hby hml hown hnm hret hlk hZ eh0
  have P0 := OPr.refl h0 []
  refine g_iloadN X0 hx (hb hby d25_0) (rfl : 0 + 1 = 1) rfl ?_
  refine g_iloadN X0 hx (hb hby d25_1) (rfl : 1 + 1 = 2) rfl ?_
  by_cases h : y < x
  · refine g_icmpY X0 hx (hb hby d25_2) (XT.ii_gt_t h) (by decide) (pc' := 9) (by decide) ?_
    refine g_iloadN X0 hx (hb hby d25_9) (rfl : 9 + 1 = 10) rfl ?_
    exact g_ret X0 hx hret hlk rfl (Or.inl ⟨rfl, Or.inl rfl, _, rfl⟩) (hb hby d25_10) (by decide) (by decide) eh0 hK ⟨(by rw [← hz, if_pos h]), P0⟩
  · refine g_icmpN X0 hx (hb hby d25_2) (XT.ii_gt_f h) (rfl : 2 + 3 = 5) ?_
    refine g_iloadN X0 hx (hb hby d25_5) (rfl : 5 + 1 = 6) rfl ?_
    refine g_goto X0 hx (hb hby d25_6) (by decide) (pc' := 10) (by decide) ?_
    exact g_ret X0 hx hret hlk rfl (Or.inl ⟨rfl, Or.inl rfl, _, rfl⟩) (hb hby d25_10) (by decide) (by decide) eh0 hK ⟨(by rw [← hz, if_neg h]), P0⟩
theorem d29_0 : decode jdk_47_method_1_code 0 = .ok (.aload_n 0, 1) := by decide +kernel
theorem d29_1 : decode jdk_47_method_1_code 1 = .ok (.invokespecial 1, 3) := by decide +kernel
theorem d29_4 : decode jdk_47_method_1_code 4 = .ok (.return_, 1) := by decide +kernel
theorem pn_rm_aic : plainFor (⟨"java/util/ImmutableCollections$AbstractImmutableCollection", "<init>", "()V"⟩ : MethodName) = true := by first | exact plainFor_of_name (by first | (simp [plainName, overriddenIn]; done) | decide +kernel) | decide +kernel
set_option maxRecDepth 65536 in
set_option maxHeartbeats 40000000 in
theorem rm_aic {l : Launch} {Z : State} {a0 : Array Value} (hw : ∀ d ∈ tables_1, d.before a0 Z = true) (a : Addr) {h0 : Heap}   :
    OMet l (⟨"java/util/ImmutableCollections$AbstractImmutableCollection", "<init>", "()V"⟩ : MethodName) jdk_47_method_1_code 1 (Option.none : Option Jvm.ClassFile.FieldType) ({ frames := 2, cells := 0, slots := 0, locals := 24 } : Room) #[(.ref a)] Z h0 (fun vR hR LR => vR = none ∧ OPr h0 [] hR LR) := by
  refine OMet.body pn_rm_aic (Ls := #[.val (.ref a)]) (fun m => by first | (simp [entryFrame, mkF, argsToLocals, Value.category]; done) | rfl) ?_
  intro p e s m below meth c T0 K hK X0 hx hby hml hown hnm hret hlk hZ eh0
  have P0 := OPr.refl h0 []
  refine g_aloadN X0 hx (hb hby d29_0) (rfl : 0 + 1 = 1) rfl rfl ?_
  refine g_special X0 hx hZ hown eh0 (rm_acol hw a) rfl (wd hw 220 rfl) (wd hw 14 rfl) (wd hw 18 rfl) (wd hw 17 rfl) (by decide) (a := a) (argsL := []) (rest := []) rfl rfl (ps := []) (by decide) rfl (W := 0) (Nat.le_of_eq rfl) (by decide) (by decide) (by decide) (by decide) (by rw [hml]; rfl) (hb hby d29_1) (rfl : 1 + 3 = 4) fun v1 T1 hh1 L1 X1 eh1 Q1 => ?_
  obtain ⟨rfl, Pc1⟩ := Q1
  have P1 := P0.call Pc1 all0
  show OGo p e below K T1 (mkF m 4 #[.val (.ref a)] [])
  exact g_ret0 X1 hx hret hlk (hb hby d29_4) (by decide) (by decide) eh1 hK ⟨rfl, P1⟩
theorem d28_0 : decode jdk_46_method_1_code 0 = .ok (.aload_n 0, 1) := by decide +kernel
theorem d28_1 : decode jdk_46_method_1_code 1 = .ok (.invokespecial 1, 3) := by decide +kernel
theorem d28_4 : decode jdk_46_method_1_code 4 = .ok (.return_, 1) := by decide +kernel
theorem pn_rm_ail : plainFor (⟨"java/util/ImmutableCollections$AbstractImmutableList", "<init>", "()V"⟩ : MethodName) = true := by first | exact plainFor_of_name (by first | (simp [plainName, overriddenIn]; done) | decide +kernel) | decide +kernel
set_option maxRecDepth 65536 in
set_option maxHeartbeats 40000000 in
theorem rm_ail {l : Launch} {Z : State} {a0 : Array Value} (hw : ∀ d ∈ tables_1, d.before a0 Z = true) (a : Addr) {h0 : Heap}   :
    OMet l (⟨"java/util/ImmutableCollections$AbstractImmutableList", "<init>", "()V"⟩ : MethodName) jdk_46_method_1_code 1 (Option.none : Option Jvm.ClassFile.FieldType) ({ frames := 3, cells := 0, slots := 0, locals := 36 } : Room) #[(.ref a)] Z h0 (fun vR hR LR => vR = none ∧ OPr h0 [] hR LR) := by
  refine OMet.body pn_rm_ail (Ls := #[.val (.ref a)]) (fun m => by first | (simp [entryFrame, mkF, argsToLocals, Value.category]; done) | rfl) ?_
  intro p e s m below meth c T0 K hK X0 hx hby hml hown hnm hret hlk hZ eh0
  have P0 := OPr.refl h0 []
  refine g_aloadN X0 hx (hb hby d28_0) (rfl : 0 + 1 = 1) rfl rfl ?_
  refine g_special X0 hx hZ hown eh0 (rm_aic hw a) rfl (wd hw 214 rfl) (wd hw 215 rfl) (wd hw 219 rfl) (wd hw 218 rfl) (by decide) (a := a) (argsL := []) (rest := []) rfl rfl (ps := []) (by decide) rfl (W := 0) (Nat.le_of_eq rfl) (by decide) (by decide) (by decide) (by decide) (by rw [hml]; rfl) (hb hby d28_1) (rfl : 1 + 3 = 4) fun v1 T1 hh1 L1 X1 eh1 Q1 => ?_
  obtain ⟨rfl, Pc1⟩ := Q1
  have P1 := P0.call Pc1 all0
  show OGo p e below K T1 (mkF m 4 #[.val (.ref a)] [])
  exact g_ret0 X1 hx hret hlk (hb hby d28_4) (by decide) (by decide) eh1 hK ⟨rfl, P1⟩
theorem d30_0 : decode jdk_31_method_10_code 0 = .ok (.aload_n 0, 1) := by decide +kernel
theorem d30_1 : decode jdk_31_method_10_code 1 = .ok (.ifnonnull 11, 3) := by decide +kernel
theorem d30_12 : decode jdk_31_method_10_code 12 = .ok (.aload_n 0, 1) := by decide +kernel
theorem d30_13 : decode jdk_31_method_10_code 13 = .ok (.areturn, 1) := by decide +kernel
theorem pn_rm_rnn : plainFor (⟨"java/util/Objects", "requireNonNull", "(Ljava/lang/Object;)Ljava/lang/Object;"⟩ : MethodName) = true := by first | exact plainFor_of_name (by first | (simp [plainName, overriddenIn]; done) | decide +kernel) | decide +kernel
set_option maxRecDepth 65536 in
set_option maxHeartbeats 40000000 in
theorem rm_rnn {l : Launch} {Z : State} {a0 : Array Value} (hw : ∀ d ∈ tables_1, d.before a0 Z = true) (vv : Addr) {h0 : Heap}   :
    OMet l (⟨"java/util/Objects", "requireNonNull", "(Ljava/lang/Object;)Ljava/lang/Object;"⟩ : MethodName) jdk_31_method_10_code 1 (Option.some (Jvm.ClassFile.FieldType.object "java/lang/Object")) ({ frames := 0, cells := 0, slots := 0, locals := 0 } : Room) #[(.ref vv)] Z h0 (fun vR hR LR => vR = some (.ref vv) ∧ OPr h0 [] hR LR) := by
  refine OMet.body pn_rm_rnn (Ls := #[.val (.ref vv)]) (fun m => by first | (simp [entryFrame, mkF, argsToLocals, Value.category]; done) | rfl) ?_
  intro p e s m below meth c T0 K hK X0 hx hby hml hown hnm hret hlk hZ eh0
  have P0 := OPr.refl h0 []
  refine g_aloadN X0 hx (hb hby d30_0) (rfl : 0 + 1 = 1) rfl rfl ?_
  refine g_nonnullY X0 hx (hb hby d30_1) (by decide) (pc' := 12) (by decide) ?_
  refine g_aloadN X0 hx (hb hby d30_12) (rfl : 12 + 1 = 13) rfl rfl ?_
  exact g_ret X0 hx hret hlk rfl (Or.inr (Or.inr (Or.inr (Or.inr ⟨rfl, rfl, rfl⟩)))) (hb hby d30_13) (by decide) (by decide) eh0 hK ⟨rfl, P0⟩
theorem d24_0 : decode jdk_65_method_120_code 0 = .ok (.aload_n 2, 1) := by decide +kernel
theorem d24_1 : decode jdk_65_method_120_code 1 = .ok (.ldc 110, 2) := by decide +kernel
theorem d24_3 : decode jdk_65_method_120_code 3 = .ok (.if_acmp .ne 10, 3) := by decide +kernel
theorem d24_6 : decode jdk_65_method_120_code 6 = .ok (.iload_n 1, 1) := by decide +kernel
theorem d24_7 : decode jdk_65_method_120_code 7 = .ok (.anewarray 2, 3) := by decide +kernel
theorem d24_10 : decode jdk_65_method_120_code 10 = .ok (.goto 14, 3) := by decide +kernel
theorem d24_24 : decode jdk_65_method_120_code 24 = .ok (.astore_n 3, 1) := by decide +kernel
theorem d24_25 : decode jdk_65_method_120_code 25 = .ok (.aload_n 0, 1) := by decide +kernel
theorem d24_26 : decode jdk_65_method_120_code 26 = .ok (.iconst 0, 1) := by decide +kernel
theorem d24_27 : decode jdk_65_method_120_code 27 = .ok (.aload_n 3, 1) := by decide +kernel
theorem d24_28 : decode jdk_65_method_120_code 28 = .ok (.iconst 0, 1) := by decide +kernel
theorem d24_29 : decode jdk_65_method_120_code 29 = .ok (.aload_n 0, 1) := by decide +kernel
theorem d24_30 : decode jdk_65_method_120_code 30 = .ok (.arraylength, 1) := by decide +kernel
theorem d24_31 : decode jdk_65_method_120_code 31 = .ok (.iload_n 1, 1) := by decide +kernel
theorem d24_32 : decode jdk_65_method_120_code 32 = .ok (.invokestatic 304, 3) := by decide +kernel
theorem d24_35 : decode jdk_65_method_120_code 35 = .ok (.invokestatic 150, 3) := by decide +kernel
theorem d24_38 : decode jdk_65_method_120_code 38 = .ok (.aload_n 3, 1) := by decide +kernel
theorem d24_39 : decode jdk_65_method_120_code 39 = .ok (.areturn, 1) := by decide +kernel
theorem pn_rm_cof3_1 : plainFor (⟨"java/util/Arrays", "copyOf", "([Ljava/lang/Object;ILjava/lang/Class;)[Ljava/lang/Object;"⟩ : MethodName) = true := by first | exact plainFor_of_name (by first | (simp [plainName, overriddenIn]; done) | decide +kernel) | decide +kernel
set_option maxRecDepth 65536 in
set_option maxHeartbeats 40000000 in
theorem rm_cof3_1 {l : Launch} {Z : State} {a0 : Array Value} (hw : ∀ d ∈ tables_1, d.before a0 Z = true) (ar : Addr) (kr : ClassId) (x0 : Addr) (mr : Addr) {h0 : Heap} (I0 : OAry Z h0 ar kr (.object "java/lang/Object") [(.ref x0), .null, .null, .null, .null, .null, .null, .null, .null, .null]) (I1 : Exa Z h0 x0 "java/lang/Integer") (hm : OMir Z "[Ljava/lang/Object;" mr) :
    OMet l (⟨"java/util/Arrays", "copyOf", "([Ljava/lang/Object;ILjava/lang/Class;)[Ljava/lang/Object;"⟩ : MethodName) jdk_65_method_120_code 4 (Option.some (Jvm.ClassFile.FieldType.array (Jvm.ClassFile.FieldType.object "java/lang/Object"))) ({ frames := 1, cells := 1, slots := 1, locals := 18 } : Room) #[(.ref ar), (.int (1 : Int32)), (.ref mr)] Z h0 (fun vR hR LR => ∃ br : Addr, ∃ kb : ClassId, vR = some (.ref br) ∧ OPr h0 [] hR LR ∧ h0.size ≤ br ∧ OAry Z hR br kb (.object "java/lang/Object") [(.ref x0)] ∧ Exa Z hR br "[Ljava/lang/Object;" ∧ Ovr Z kb "java/lang/Object") := by
  refine OMet.body pn_rm_cof3_1 (Ls := #[.val (.ref ar), .val (.int (1 : Int32)), .val (.ref mr), .unset]) (fun m => by first | (simp [entryFrame, mkF, argsToLocals, Value.category]; done) | rfl) ?_
  intro p e s m below meth c T0 K hK X0 hx hby hml hown hnm hret hlk hZ eh0
  have P0 := OPr.refl h0 []
  refine g_aloadN X0 hx (hb hby d24_0) (rfl : 0 + 1 = 1) rfl rfl ?_
  refine g_ldcCls X0 hx hZ hown (wd hw 189 rfl) eh0 hm (hb hby d24_1) (rfl : 1 + 2 = 3) fun T1 X1 eh1 => ?_
  refine g_acmpN X1 hx (hb hby d24_3) rfl rfl (XT.aa_ne_f rfl) (rfl : 3 + 3 = 6) ?_
  refine g_iloadN X1 hx (hb hby d24_6) (rfl : 6 + 1 = 7) rfl ?_
  refine g_anewarray X1 hx hZ hown (wd hw 190 rfl) (wd hw 67 rfl) (ad := "[Ljava/lang/Object;") (by decide) eh1 (vs := [.null]) (by decide) (by rfl) (cap := 1) (by decide) (by decide) P0 (hb hby d24_7) (rfl : 7 + 3 = 10) (by decide) (by decide) fun T2 hh2 a2 k2 q2 g2 X2 eh2 E2 P2 A2 O2 B2 => ?_
  refine g_goto X2 hx (hb hby d24_10) (by decide) (pc' := 24) (by decide) ?_
  refine g_astoreN X2 hx (hb hby d24_24) (rfl : 24 + 1 = 25) rfl (Ls' := #[.val (.ref ar), .val (.int (1 : Int32)), .val (.ref mr), .val (.ref a2)]) rfl ?_
  refine g_aloadN X2 hx (hb hby d24_25) (rfl : 25 + 1 = 26) rfl rfl ?_
  refine g_iconst X2 hx (0 : Int32) (hb hby d24_26) (rfl : 26 + 1 = 27) (by decide) ?_
  refine g_aloadN X2 hx (hb hby d24_27) (rfl : 27 + 1 = 28) rfl rfl ?_
  refine g_iconst X2 hx (0 : Int32) (hb hby d24_28) (rfl : 28 + 1 = 29) (by decide) ?_
  refine g_aloadN X2 hx (hb hby d24_29) (rfl : 29 + 1 = 30) rfl rfl ?_
  have F3 := (aryE I0 E2)
  refine g_len X2 hx hZ eh2 F3 (z := (10 : Int32)) rfl (hb hby d24_30) (rfl : 30 + 1 = 31) ?_
  refine g_iloadN X2 hx (hb hby d24_31) (rfl : 31 + 1 = 32) rfl ?_
  refine g_static X2 hx hZ hown eh2 (rm_mini hw (10 : Int32) (1 : Int32) (1 : Int32) (by decide)) (wd hw 191 rfl) (wd hw 192 rfl) (wd hw 193 rfl) (wd hw 64 rfl) (by decide) (argsL := [(.int (10 : Int32)), (.int (1 : Int32))]) (rest := [(.int (0 : Int32)), (.ref a2), (.int (0 : Int32)), (.ref ar)]) rfl rfl (ps := [.int, .int]) (rt := (some .int)) (by decide) rfl (W := 4) (Nat.le_of_eq rfl) (by decide) (by decide) (by decide) (by decide) (by rw [hml]; rfl) (hb hby d24_32) (rfl : 32 + 3 = 35) fun v4 T4 hh4 L4 X4 eh4 Q4 => ?_
  obtain ⟨rfl, Pc4⟩ := Q4
  have P4 := P2.call Pc4 all0
  show OGo p e below K T4 (mkF m 35 #[.val (.ref ar), .val (.int (1 : Int32)), .val (.ref mr), .val (.ref a2)] [(.int (1 : Int32)), (.int (0 : Int32)), (.ref a2), (.int (0 : Int32)), (.ref ar)])
  have F6 := (aryP F3 Pc4 nin0)
  have F7 := (aryP A2 Pc4 nin0)
  have F8 := (exaP I1 P4)
  refine g_copy X4 hx hZ hown (wd hw 194 rfl) (wd hw 197 rfl) (wd hw 195 rfl) (wd hw 196 rfl) eh4 F6 F7 rfl rfl (us := [(.ref x0)]) ⟨(stoOf F7 O2 (Ins.of_exa F8 (wd hw 68 rfl))), trivial⟩ rfl rfl rfl P4 g2 (by rw [hml]; rfl) (hb hby d24_35) (rfl : 35 + 3 = 38) (by decide) (W := 0) (Nat.le_of_eq rfl) (by decide) fun T5 hh5 L5 X5 eh5 P5 Pc5 A5 => ?_
  refine g_aloadN X5 hx (hb hby d24_38) (rfl : 38 + 1 = 39) rfl rfl ?_
  have F9 := (exaP (exaP B2 Pc4) Pc5)
  exact g_ret X5 hx hret hlk rfl (Or.inr (Or.inr (Or.inr (Or.inr ⟨rfl, rfl, rfl⟩)))) (hb hby d24_39) (by decide) (by decide) eh5 hK ⟨a2, k2, rfl, P5, g2, A5, F9, O2⟩
theorem d23_0 : decode jdk_65_method_119_code 0 = .ok (.aload_n 0, 1) := by decide +kernel
theorem d23_1 : decode jdk_65_method_119_code 1 = .ok (.iload_n 1, 1) := by decide +kernel
theorem d23_2 : decode jdk_65_method_119_code 2 = .ok (.aload_n 0, 1) := by decide +kernel
theorem d23_3 : decode jdk_65_method_119_code 3 = .ok (.invokevirtual 86, 3) := by decide +kernel
theorem d23_6 : decode jdk_65_method_119_code 6 = .ok (.invokestatic 300, 3) := by decide +kernel
theorem d23_9 : decode jdk_65_method_119_code 9 = .ok (.areturn, 1) := by decide +kernel
theorem pn_rm_cof_1 : plainFor (⟨"java/util/Arrays", "copyOf", "([Ljava/lang/Object;I)[Ljava/lang/Object;"⟩ : MethodName) = true := by first | exact plainFor_of_name (by first | (simp [plainName, overriddenIn]; done) | decide +kernel) | decide +kernel
set_option maxRecDepth 65536 in
set_option maxHeartbeats 40000000 in
theorem rm_cof_1 {l : Launch} {Z : State} {a0 : Array Value} (hw : ∀ d ∈ tables_1, d.before a0 Z = true) (ar : Addr) (kr : ClassId) (x0 : Addr) (mr : Addr) {h0 : Heap} (I0 : OAry Z h0 ar kr (.object "java/lang/Object") [(.ref x0), .null, .null, .null, .null, .null, .null, .null, .null, .null]) (I1 : Exa Z h0 ar "[Ljava/lang/Object;") (I2 : Exa Z h0 x0 "java/lang/Integer") (hm : OMir Z "[Ljava/lang/Object;" mr) :
    OMet l (⟨"java/util/Arrays", "copyOf", "([Ljava/lang/Object;I)[Ljava/lang/Object;"⟩ : MethodName) jdk_65_method_119_code 2 (Option.some (Jvm.ClassFile.FieldType.array (Jvm.ClassFile.FieldType.object "java/lang/Object"))) ({ frames := 2, cells := 1, slots := 1, locals := 33 } : Room) #[(.ref ar), (.int (1 : Int32))] Z h0 (fun vR hR LR => ∃ br : Addr, ∃ kb : ClassId, vR = some (.ref br) ∧ OPr h0 [] hR LR ∧ h0.size ≤ br ∧ OAry Z hR br kb (.object "java/lang/Object") [(.ref x0)] ∧ Exa Z hR br "[Ljava/lang/Object;" ∧ Ovr Z kb "java/lang/Object") := by
  refine OMet.body pn_rm_cof_1 (Ls := #[.val (.ref ar), .val (.int (1 : Int32))]) (fun m => by first | (simp [entryFrame, mkF, argsToLocals, Value.category]; done) | rfl) ?_
  intro p e s m below meth c T0 K hK X0 hx hby hml hown hnm hret hlk hZ eh0
  have P0 := OPr.refl h0 []
  refine g_aloadN X0 hx (hb hby d23_0) (rfl : 0 + 1 = 1) rfl rfl ?_
  refine g_iloadN X0 hx (hb hby d23_1) (rfl : 1 + 1 = 2) rfl ?_
  refine g_aloadN X0 hx (hb hby d23_2) (rfl : 2 + 1 = 3) rfl rfl ?_
  refine g_getcls X0 hx hZ hown (wd hw 180 rfl) (wd hw 181 rfl) (wd hw 157 rfl) (wd hw 183 rfl) (wd hw 182 rfl) (wd hw 184 rfl) eh0 I1 hm (by rw [hml]; rfl) (hb hby d23_3) (rfl : 3 + 3 = 6) (by decide) (W := 2) (Nat.le_of_eq rfl) (by decide) fun T1 X1 eh1 => ?_
  refine g_static X1 hx hZ hown eh1 (rm_cof3_1 hw ar kr x0 mr I0 I2 hm) (wd hw 186 rfl) (wd hw 187 rfl) (wd hw 188 rfl) (wd hw 178 rfl) (by decide) (argsL := [(.ref ar), (.int (1 : Int32)), (.ref mr)]) (rest := []) rfl rfl (ps := [(.array (.object "java/lang/Object")), .int, (.object "java/lang/Class")]) (rt := (some (.array (.object "java/lang/Object")))) (by decide) rfl (W := 0) (Nat.le_of_eq rfl) (by decide) (by decide) (by decide) (by decide) (by rw [hml]; rfl) (hb hby d23_6) (rfl : 6 + 3 = 9) fun v2 T2 hh2 L2 X2 eh2 Q2 => ?_
  obtain ⟨br_2, kb_2, rfl, Pc2, G2_0, G2_1, G2_2, G2_3⟩ := Q2
  have P2 := P0.call Pc2 all0
  show OGo p e below K T2 (mkF m 9 #[.val (.ref ar), .val (.int (1 : Int32))] [(.ref br_2)])
  exact g_ret X2 hx hret hlk rfl (Or.inr (Or.inr (Or.inr (Or.inr ⟨rfl, rfl, rfl⟩)))) (hb hby d23_9) (by decide) (by decide) eh2 hK ⟨br_2, kb_2, rfl, P2, (Nat.le_trans P0.size G2_0), G2_1, G2_2, G2_3⟩
theorem d22_0 : decode jdk_38_method_16_code 0 = .ok (.aload_n 0, 1) := by decide +kernel
theorem d22_1 : decode jdk_38_method_16_code 1 = .ok (.getfield 9, 3) := by decide +kernel
theorem d22_4 : decode jdk_38_method_16_code 4 = .ok (.aload_n 0, 1) := by decide +kernel
theorem d22_5 : decode jdk_38_method_16_code 5 = .ok (.getfield 48, 3) := by decide +kernel
theorem d22_8 : decode jdk_38_method_16_code 8 = .ok (.invokestatic 66, 3) := by decide +kernel
theorem d22_11 : decode jdk_38_method_16_code 11 = .ok (.areturn, 1) := by decide +kernel
theorem pn_rm_toarr_1 : plainFor (⟨"java/util/ArrayList", "toArray", "()[Ljava/lang/Object;"⟩ : MethodName) = true := by first | exact plainFor_of_name (by first | (simp [plainName, overriddenIn]; done) | decide +kernel) | decide +kernel
set_option maxRecDepth 65536 in
set_option maxHeartbeats 40000000 in
theorem rm_toarr_1 {l : Launch} {Z : State} {a0 : Array Value} (hw : ∀ d ∈ tables_1, d.before a0 Z = true) (a : Addr) (ar : Addr) (kr : ClassId) (x0 : Addr) (mr : Addr) {h0 : Heap} (I0 : Exa Z h0 a "java/util/ArrayList") (I1 : Fld Z h0 a "java/util/ArrayList" "elementData" "[Ljava/lang/Object;" (.ref ar)) (I2 : Fld Z h0 a "java/util/ArrayList" "size" "I" (.int (1 : Int32))) (I3 : OAry Z h0 ar kr (.object "java/lang/Object") [(.ref x0), .null, .null, .null, .null, .null, .null, .null, .null, .null]) (I4 : Exa Z h0 ar "[Ljava/lang/Object;") (I5 : Exa Z h0 x0 "java/lang/Integer") (hm : OMir Z "[Ljava/lang/Object;" mr) :
    OMet l (⟨"java/util/ArrayList", "toArray", "()[Ljava/lang/Object;"⟩ : MethodName) jdk_38_method_16_code 1 (Option.some (Jvm.ClassFile.FieldType.array (Jvm.ClassFile.FieldType.object "java/lang/Object"))) ({ frames := 3, cells := 1, slots := 1, locals := 46 } : Room) #[(.ref a)] Z h0 (fun vR hR LR => ∃ br : Addr, ∃ kb : ClassId, vR = some (.ref br) ∧ OPr h0 [] hR LR ∧ h0.size ≤ br ∧ OAry Z hR br kb (.object "java/lang/Object") [(.ref x0)] ∧ Exa Z hR br "[Ljava/lang/Object;" ∧ Ovr Z kb "java/lang/Object") := by
  refine OMet.body pn_rm_toarr_1 (Ls := #[.val (.ref a)]) (fun m => by first | (simp [entryFrame, mkF, argsToLocals, Value.category]; done) | rfl) ?_
  intro p e s m below meth c T0 K hK X0 hx hby hml hown hnm hret hlk hZ eh0
  have P0 := OPr.refl h0 []
  refine g_aloadN X0 hx (hb hby d22_0) (rfl : 0 + 1 = 1) rfl rfl ?_
  refine g_getf X0 hx hZ hown (host := "") (Or.inl (wd hw 25 rfl)) Via.refl eh0 I1 (hb hby d22_1) (rfl : 1 + 3 = 4) fun T1 X1 eh1 => ?_
  refine g_aloadN X1 hx (hb hby d22_4) (rfl : 4 + 1 = 5) rfl rfl ?_
  refine g_getf X1 hx hZ hown (host := "") (Or.inl (wd hw 45 rfl)) Via.refl eh1 I2 (hb hby d22_5) (rfl : 5 + 3 = 8) fun T2 X2 eh2 => ?_
  refine g_static X2 hx hZ hown eh2 (rm_cof_1 hw ar kr x0 mr I3 I4 I5 hm) (wd hw 176 rfl) (wd hw 177 rfl) (wd hw 179 rfl) (wd hw 178 rfl) (by decide) (argsL := [(.ref ar), (.int (1 : Int32))]) (rest := []) rfl rfl (ps := [(.array (.object "java/lang/Object")), .int]) (rt := (some (.array (.object "java/lang/Object")))) (by decide) rfl (W := 0) (Nat.le_of_eq rfl) (by decide) (by decide) (by decide) (by decide) (by rw [hml]; rfl) (hb hby d22_8) (rfl : 8 + 3 = 11) fun v3 T3 hh3 L3 X3 eh3 Q3 => ?_
  obtain ⟨br_3, kb_3, rfl, Pc3, G3_0, G3_1, G3_2, G3_3⟩ := Q3
  have P3 := P0.call Pc3 all0
  show OGo p e below K T3 (mkF m 11 #[.val (.ref a)] [(.ref br_3)])
  exact g_ret X3 hx hret hlk rfl (Or.inr (Or.inr (Or.inr (Or.inr ⟨rfl, rfl, rfl⟩)))) (hb hby d22_11) (by decide) (by decide) eh3 hK ⟨br_3, kb_3, rfl, P3, (Nat.le_trans P0.size G3_0), G3_1, G3_2, G3_3⟩
theorem d27_0 : decode jdk_44_method_1_code 0 = .ok (.aload_n 0, 1) := by decide +kernel
theorem d27_1 : decode jdk_44_method_1_code 1 = .ok (.invokespecial 1, 3) := by decide +kernel
theorem d27_4 : decode jdk_44_method_1_code 4 = .ok (.aload_n 0, 1) := by decide +kernel
theorem d27_5 : decode jdk_44_method_1_code 5 = .ok (.aload_n 1, 1) := by decide +kernel
theorem d27_6 : decode jdk_44_method_1_code 6 = .ok (.invokestatic 7, 3) := by decide +kernel
theorem d27_9 : decode jdk_44_method_1_code 9 = .ok (.putfield 13, 3) := by decide +kernel
theorem d27_12 : decode jdk_44_method_1_code 12 = .ok (.aload_n 0, 1) := by decide +kernel
theorem d27_13 : decode jdk_44_method_1_code 13 = .ok (.getstatic 19, 3) := by decide +kernel
theorem d27_16 : decode jdk_44_method_1_code 16 = .ok (.putfield 24, 3) := by decide +kernel
theorem d27_19 : decode jdk_44_method_1_code 19 = .ok (.return_, 1) := by decide +kernel
theorem pn_rm_l12_1 : plainFor (⟨"java/util/ImmutableCollections$List12", "<init>", "(Ljava/lang/Object;)V"⟩ : MethodName) = true := by first | exact plainFor_of_name (by first | (simp [plainName, overriddenIn]; done) | decide +kernel) | decide +kernel
set_option maxRecDepth 65536 in
set_option maxHeartbeats 40000000 in
theorem rm_l12_1 {l : Launch} {Z : State} {a0 : Array Value} (hw : ∀ d ∈ tables_1, d.before a0 Z = true) (o : Addr) (x0 : Addr) (em : Addr) {h0 : Heap} (I0 : Exa Z h0 o "java/util/ImmutableCollections$List12") (I1 : Fld Z h0 o "java/util/ImmutableCollections$List12" "e0" "Ljava/lang/Object;" .null) (I2 : Fld Z h0 o "java/util/ImmutableCollections$List12" "e1" "Ljava/lang/Object;" .null) (I3 : Sta Z h0 "java/util/ImmutableCollections" "EMPTY" "Ljava/lang/Object;" (.ref em))  :
    OMet l (⟨"java/util/ImmutableCollections$List12", "<init>", "(Ljava/lang/Object;)V"⟩ : MethodName) jdk_44_method_1_code 2 (Option.none : Option Jvm.ClassFile.FieldType) ({ frames := 4, cells := 0, slots := 0, locals := 48 } : Room) #[(.ref o), (.ref x0)] Z h0 (fun vR hR LR => vR = none ∧ OPr h0 [o] hR LR ∧ Fld Z hR o "java/util/ImmutableCollections$List12" "e0" "Ljava/lang/Object;" (.ref x0) ∧ Fld Z hR o "java/util/ImmutableCollections$List12" "e1" "Ljava/lang/Object;" (.ref em)) := by
  refine OMet.body pn_rm_l12_1 (Ls := #[.val (.ref o), .val (.ref x0)]) (fun m => by first | (simp [entryFrame, mkF, argsToLocals, Value.category]; done) | rfl) ?_
  intro p e s m below meth c T0 K hK X0 hx hby hml hown hnm hret hlk hZ eh0
  have P0 := OPr.refl h0 [o]
  refine g_aloadN X0 hx (hb hby d27_0) (rfl : 0 + 1 = 1) rfl rfl ?_
  refine g_special X0 hx hZ hown eh0 (rm_ail hw o) rfl (wd hw 208 rfl) (wd hw 209 rfl) (wd hw 213 rfl) (wd hw 212 rfl) (by decide) (a := o) (argsL := []) (rest := []) rfl rfl (ps := []) (by decide) rfl (W := 0) (Nat.le_of_eq rfl) (by decide) (by decide) (by decide) (by decide) (by rw [hml]; rfl) (hb hby d27_1) (rfl : 1 + 3 = 4) fun v1 T1 hh1 L1 X1 eh1 Q1 => ?_
  obtain ⟨rfl, Pc1⟩ := Q1
  have P1 := P0.call Pc1 all0
  show OGo p e below K T1 (mkF m 4 #[.val (.ref o), .val (.ref x0)] [])
  refine g_aloadN X1 hx (hb hby d27_4) (rfl : 4 + 1 = 5) rfl rfl ?_
  refine g_aloadN X1 hx (hb hby d27_5) (rfl : 5 + 1 = 6) rfl rfl ?_
  refine g_static X1 hx hZ hown eh1 (rm_rnn hw x0) (wd hw 222 rfl) (wd hw 223 rfl) (wd hw 225 rfl) (wd hw 224 rfl) (by decide) (argsL := [(.ref x0)]) (rest := [(.ref o)]) rfl rfl (ps := [(.object "java/lang/Object")]) (rt := (some (.object "java/lang/Object"))) (by decide) rfl (W := 1) (Nat.le_of_eq rfl) (by decide) (by decide) (by decide) (by decide) (by rw [hml]; rfl) (hb hby d27_6) (rfl : 6 + 3 = 9) fun v2 T2 hh2 L2 X2 eh2 Q2 => ?_
  obtain ⟨rfl, Pc2⟩ := Q2
  have P2 := P1.call Pc2 all0
  show OGo p e below K T2 (mkF m 9 #[.val (.ref o), .val (.ref x0)] [(.ref x0), (.ref o)])
  have F3 := (fldP (fldP I1 Pc1 nin0) Pc2 nin0)
  have F4 := (exaP I0 P2)
  refine g_putf X2 hx hZ hown (host := "") (Or.inl (wd hw 226 rfl)) Via.refl eh2 F3 F4 (Or.inr ⟨(wd hw 227 rfl), rfl, hnm⟩) (wd hw 202 rfl) (ty := (.object "java/lang/Object")) (by decide) rfl rfl P2 (Or.inl (List.mem_of_getElem? (i := 0) rfl)) (hb hby d27_9) (rfl : 9 + 3 = 12) fun T5 hh5 X5 eh5 W5 P5 F5 => ?_
  refine g_aloadN X5 hx (hb hby d27_12) (rfl : 12 + 1 = 13) rfl rfl ?_
  have F6 := (staP I3 P5)
  refine g_gets X5 hx hZ hown (Or.inr (wd hw 228 rfl)) Via.refl eh5 F6 (hb hby d27_13) (rfl : 13 + 3 = 16) fun T7 X7 eh7 => ?_
  have F8 := ((fldP (fldP I2 Pc1 nin0) Pc2 nin0).other W5 (Or.inr (slot_ne (Or.inr (wd hw 230 rfl)) (Or.inr (wd hw 227 rfl)) (by decide) (t := (.object "java/lang/Object")) (by decide) (t' := (.object "java/lang/Object")) (by decide))))
  have F9 := (F4.wr W5)
  refine g_putf X7 hx hZ hown (host := "") (Or.inl (wd hw 229 rfl)) Via.refl eh7 F8 F9 (Or.inr ⟨(wd hw 230 rfl), rfl, hnm⟩) (wd hw 202 rfl) (ty := (.object "java/lang/Object")) (by decide) rfl rfl P5 (Or.inl (List.mem_of_getElem? (i := 0) rfl)) (hb hby d27_16) (rfl : 16 + 3 = 19) fun T10 hh10 X10 eh10 W10 P10 F10 => ?_
  have F11 := (F5.other W10 (Or.inr (slot_ne (Or.inr (wd hw 227 rfl)) (Or.inr (wd hw 230 rfl)) (by decide) (t := (.object "java/lang/Object")) (by decide) (t' := (.object "java/lang/Object")) (by decide))))
  exact g_ret0 X10 hx hret hlk (hb hby d27_19) (by decide) (by decide) eh10 hK ⟨rfl, P10, F11, F10⟩
theorem d26_0 : decode jdk_40_method_47_code 0 = .ok (.aload_n 0, 1) := by decide +kernel
theorem d26_1 : decode jdk_40_method_47_code 1 = .ok (.arraylength, 1) := by decide +kernel
theorem d26_2 : decode jdk_40_method_47_code 2 = .ok (.tableswitch 57 0 2 #[26, 32, 43], 26) := by decide +kernel
theorem d26_34 : decode jdk_40_method_47_code 34 = .ok (.new 96, 3) := by decide +kernel
theorem d26_37 : decode jdk_40_method_47_code 37 = .ok (.dup, 1) := by decide +kernel
theorem d26_38 : decode jdk_40_method_47_code 38 = .ok (.aload_n 0, 1) := by decide +kernel
theorem d26_39 : decode jdk_40_method_47_code 39 = .ok (.iconst 0, 1) := by decide +kernel
theorem d26_40 : decode jdk_40_method_47_code 40 = .ok (.aaload, 1) := by decide +kernel
theorem d26_41 : decode jdk_40_method_47_code 41 = .ok (.invokespecial 98, 3) := by decide +kernel
theorem d26_44 : decode jdk_40_method_47_code 44 = .ok (.areturn, 1) := by decide +kernel
theorem pn_rm_lof_1 : plainFor (⟨"java/util/List", "of", "([Ljava/lang/Object;)Ljava/util/List;"⟩ : MethodName) = true := by first | exact plainFor_of_name (by first | (simp [plainName, overriddenIn]; done) | decide +kernel) | decide +kernel
set_option maxRecDepth 65536 in
set_option maxHeartbeats 40000000 in
theorem rm_lof_1 {l : Launch} {Z : State} {a0 : Array Value} (hw : ∀ d ∈ tables_1, d.before a0 Z = true) (br : Addr) (kb : ClassId) (x0 : Addr) (em : Addr) {h0 : Heap} (I0 : OAry Z h0 br kb (.object "java/lang/Object") [(.ref x0)]) (I1 : Sta Z h0 "java/util/ImmutableCollections" "EMPTY" "Ljava/lang/Object;" (.ref em))  :
    OMet l (⟨"java/util/List", "of", "([Ljava/lang/Object;)Ljava/util/List;"⟩ : MethodName) jdk_40_method_47_code 2 (Option.some (Jvm.ClassFile.FieldType.object "java/util/List")) ({ frames := 5, cells := 1, slots := 2, locals := 62 } : Room) #[(.ref br)] Z h0 (fun vR hR LR => ∃ o : Addr, vR = some (.ref o) ∧ OPr h0 [] hR LR ∧ h0.size ≤ o ∧ Exa Z hR o "java/util/ImmutableCollections$List12" ∧ Fld Z hR o "java/util/ImmutableCollections$List12" "e0" "Ljava/lang/Object;" (.ref x0) ∧ Fld Z hR o "java/util/ImmutableCollections$List12" "e1" "Ljava/lang/Object;" (.ref em)) := by
  refine OMet.body pn_rm_lof_1 (Ls := #[.val (.ref br), .unset]) (fun m => by first | (simp [entryFrame, mkF, argsToLocals, Value.category]; done) | rfl) ?_
  intro p e s m below meth c T0 K hK X0 hx hby hml hown hnm hret hlk hZ eh0
  have P0 := OPr.refl h0 []
  refine g_aloadN X0 hx (hb hby d26_0) (rfl : 0 + 1 = 1) rfl rfl ?_
  refine g_len X0 hx hZ eh0 I0 (z := (1 : Int32)) rfl (hb hby d26_1) (rfl : 1 + 1 = 2) ?_
  refine g_tswIn X0 hx (hb hby d26_2) (by decide) (o := 32) (by decide) (by decide) (pc' := 34) (by decide) ?_
  refine g_new X0 hx hZ hown (wd hw 201 rfl) (wd hw 202 rfl) (wd hw 203 rfl) eh0 P0 (hb hby d26_34) (rfl : 34 + 3 = 37) (by decide) (by decide) fun T1 hh1 a1 q1 g1 X1 eh1 E1 P1 A1 D1 => ?_
  have f2 : Fld Z hh1 a1 "java/util/ImmutableCollections$List12" "e0" "Ljava/lang/Object;" .null := D1 (Or.inr (wd hw 227 rfl)) (ty := (.object "java/lang/Object")) (by decide)
  have f3 : Fld Z hh1 a1 "java/util/ImmutableCollections$List12" "e1" "Ljava/lang/Object;" .null := D1 (Or.inr (wd hw 230 rfl)) (ty := (.object "java/lang/Object")) (by decide)
  refine g_dup X1 hx (hb hby d26_37) (rfl : 37 + 1 = 38) rfl ?_
  refine g_aloadN X1 hx (hb hby d26_38) (rfl : 38 + 1 = 39) rfl rfl ?_
  refine g_iconst X1 hx (0 : Int32) (hb hby d26_39) (rfl : 39 + 1 = 40) (by decide) ?_
  have F4 := (aryE I0 E1)
  refine g_aaload X1 hx hZ eh1 F4 rfl (v := (.ref x0)) (by decide) (by rfl) (hb hby d26_40) (rfl : 40 + 1 = 41) ?_
  have F6 := (I1.ext E1)
  refine g_special X1 hx hZ hown eh1 (rm_l12_1 hw a1 x0 em A1 f2 f3 F6) rfl (wd hw 204 rfl) (wd hw 205 rfl) (wd hw 207 rfl) (wd hw 203 rfl) (by decide) (a := a1) (argsL := [(.ref x0)]) (rest := [(.ref a1)]) rfl rfl (ps := [(.object "java/lang/Object")]) (by decide) rfl (W := 1) (Nat.le_of_eq rfl) (by decide) (by decide) (by decide) (by decide) (by rw [hml]; rfl) (hb hby d26_41) (rfl : 41 + 3 = 44) fun v5 T5 hh5 L5 X5 eh5 Q5 => ?_
  obtain ⟨rfl, Pc5, G5_0, G5_1⟩ := Q5
  have P5 := P1.call Pc5 (allS (Or.inr g1) all0)
  show OGo p e below K T5 (mkF m 44 #[.val (.ref br), .unset] [(.ref a1)])
  have F7 := (exaP A1 Pc5)
  exact g_ret X5 hx hret hlk rfl (Or.inr (Or.inr (Or.inr (Or.inr ⟨rfl, rfl, rfl⟩)))) (hb hby d26_44) (by decide) (by decide) eh5 hK ⟨a1, rfl, P5, g1, F7, G5_0, G5_1⟩
theorem d20_0 : decode jdk_56_method_3_code 0 = .ok (.aload_n 0, 1) := by decide +kernel
theorem d20_1 : decode jdk_56_method_3_code 1 = .ok (.instanceof 10, 3) := by decide +kernel
theorem d20_4 : decode jdk_56_method_3_code 4 = .ok (.ifCond .ne 22, 3) := by decide +kernel
theorem d20_7 : decode jdk_56_method_3_code 7 = .ok (.aload_n 0, 1) := by decide +kernel
theorem d20_8 : decode jdk_56_method_3_code 8 = .ok (.instanceof 12, 3) := by decide +kernel
theorem d20_11 : decode jdk_56_method_3_code 11 = .ok (.ifCond .eq 20, 3) := by decide +kernel
theorem d20_31 : decode jdk_56_method_3_code 31 = .ok (.aload_n 0, 1) := by decide +kernel
theorem d20_32 : decode jdk_56_method_3_code 32 = .ok (.invokeinterface 20 1, 5) := by decide +kernel
theorem d20_37 : decode jdk_56_method_3_code 37 = .ok (.ifCond .eq 7, 3) := by decide +kernel
theorem d20_44 : decode jdk_56_method_3_code 44 = .ok (.aload_n 0, 1) := by decide +kernel
theorem d20_45 : decode jdk_56_method_3_code 45 = .ok (.invokeinterface 30 1, 5) := by decide +kernel
theorem d20_50 : decode jdk_56_method_3_code 50 = .ok (.invokestatic 34, 3) := by decide +kernel
theorem d20_53 : decode jdk_56_method_3_code 53 = .ok (.areturn, 1) := by decide +kernel
theorem pn_rm_lcopy_1 : plainFor (⟨"java/util/ImmutableCollections", "listCopy", "(Ljava/util/Collection;)Ljava/util/List;"⟩ : MethodName) = true := by first | exact plainFor_of_name (by first | (simp [plainName, overriddenIn]; done) | decide +kernel) | decide +kernel
set_option maxRecDepth 65536 in
set_option maxHeartbeats 40000000 in
theorem rm_lcopy_1 {l : Launch} {Z : State} {a0 : Array Value} (hw : ∀ d ∈ tables_1, d.before a0 Z = true) (a : Addr) (ar : Addr) (kr : ClassId) (x0 : Addr) (mr : Addr) (em : Addr) {h0 : Heap} (I0 : Exa Z h0 a "java/util/ArrayList") (I1 : Fld Z h0 a "java/util/ArrayList" "elementData" "[Ljava/lang/Object;" (.ref ar)) (I2 : Fld Z h0 a "java/util/ArrayList" "size" "I" (.int (1 : Int32))) (I3 : OAry Z h0 ar kr (.object "java/lang/Object") [(.ref x0), .null, .null, .null, .null, .null, .null, .null, .null, .null]) (I4 : Exa Z h0 ar "[Ljava/lang/Object;") (I5 : Exa Z h0 x0 "java/lang/Integer") (I6 : Sta Z h0 "java/util/ImmutableCollections" "EMPTY" "Ljava/lang/Object;" (.ref em)) (hm : OMir Z "[Ljava/lang/Object;" mr) :
    OMet l (⟨"java/util/ImmutableCollections", "listCopy", "(Ljava/util/Collection;)Ljava/util/List;"⟩ : MethodName) jdk_56_method_3_code 2 (Option.some (Jvm.ClassFile.FieldType.object "java/util/List")) ({ frames := 6, cells := 2, slots := 3, locals := 75 } : Room) #[(.ref a)] Z h0 (fun vR hR LR => ∃ o : Addr, vR = some (.ref o) ∧ OPr h0 [] hR LR ∧ h0.size ≤ o ∧ Exa Z hR o "java/util/ImmutableCollections$List12" ∧ Fld Z hR o "java/util/ImmutableCollections$List12" "e0" "Ljava/lang/Object;" (.ref x0) ∧ Fld Z hR o "java/util/ImmutableCollections$List12" "e1" "Ljava/lang/Object;" (.ref em)) := by
  refine OMet.body pn_rm_lcopy_1 (Ls := #[.val (.ref a), .unset]) (fun m => by first | (simp [entryFrame, mkF, argsToLocals, Value.category]; done) | rfl) ?_
  intro p e s m below meth c T0 K hK X0 hx hby hml hown hnm hret hlk hZ eh0
  have P0 := OPr.refl h0 []
  refine g_aloadN X0 hx (hb hby d20_0) (rfl : 0 + 1 = 1) rfl rfl ?_
  refine g_instNo X0 hx hZ hown (wd hw 153 rfl) eh0 I0 (noIns (wd hw 154 rfl) (wd hw 202 rfl) (NS.step (wd hw 154 rfl) (NS.step (wd hw 155 rfl) (NS.step (wd hw 156 rfl) (nsRoot (wd hw 157 rfl) (wd hw 202 rfl) (by decide)) (by decide)) (by decide)) (by decide)) (by decide)) (hb hby d20_1) (rfl : 1 + 3 = 4) fun T1 X1 eh1 => ?_
  refine g_ifN X1 hx (hb hby d20_4) (XT.i0_ne_f (by decide)) (rfl : 4 + 3 = 7) ?_
  refine g_aloadN X1 hx (hb hby d20_7) (rfl : 7 + 1 = 8) rfl rfl ?_
  refine g_instNo X1 hx hZ hown (wd hw 158 rfl) eh1 I0 (noIns (wd hw 154 rfl) (wd hw 254 rfl) (NS.step (wd hw 154 rfl) (NS.step (wd hw 155 rfl) (NS.step (wd hw 156 rfl) (nsRoot (wd hw 157 rfl) (wd hw 254 rfl) (by decide)) (by decide)) (by decide)) (by decide)) (by decide)) (hb hby d20_8) (rfl : 8 + 3 = 11) fun T2 X2 eh2 => ?_
  refine g_ifY X2 hx (hb hby d20_11) (XT.i0_eq_t (by decide)) (by decide) (pc' := 31) (by decide) ?_
  refine g_aloadN X2 hx (hb hby d20_31) (rfl : 31 + 1 = 32) rfl rfl ?_
  refine g_face X2 hx hZ hown eh2 (rm_isempty hw a (1 : Int32) I2 (by decide)) (C := "java/util/ArrayList") (wd hw 159 rfl) (wd hw 160 rfl) (wd hw 161 rfl) (wd hw 162 rfl) (wd hw 163 rfl) (wd hw 164 rfl) (wd hw 165 rfl) (wd hw 166 rfl) (wd hw 167 rfl) (wd hw 3 rfl) (by decide) (a := a) I0 (argsL := []) (rest := []) rfl rfl (ps := []) (rt := (some .boolean)) (by decide) rfl (W := 0) (Nat.le_of_eq rfl) (by decide) (by decide) (by decide) (by decide) (by rw [hml]; rfl) (hb hby d20_32) (rfl : 32 + 5 = 37) fun v3 T3 hh3 L3 X3 eh3 Q3 => ?_
  obtain ⟨rfl, Pc3⟩ := Q3
  have P3 := P0.call Pc3 all0
  show OGo p e below K T3 (mkF m 37 #[.val (.ref a), .unset] [(.int (0 : Int32))])
  refine g_ifY X3 hx (hb hby d20_37) (XT.i0_eq_t (by decide)) (by decide) (pc' := 44) (by decide) ?_
  refine g_aloadN X3 hx (hb hby d20_44) (rfl : 44 + 1 = 45) rfl rfl ?_
  have F5 := (exaP I0 Pc3)
  have F6 := (fldP I1 Pc3 nin0)
  have F7 := (fldP I2 Pc3 nin0)
  have F8 := (aryP I3 Pc3 nin0)
  have F9 := (exaP I4 Pc3)
  have F10 := (exaP I5 Pc3)
  refine g_face X3 hx hZ hown eh3 (rm_toarr_1 hw a ar kr x0 mr F5 F6 F7 F8 F9 F10 hm) (C := "java/util/ArrayList") (wd hw 168 rfl) (wd hw 169 rfl) (wd hw 170 rfl) (wd hw 171 rfl) (wd hw 172 rfl) (wd hw 173 rfl) (wd hw 174 rfl) (wd hw 166 rfl) (wd hw 175 rfl) (wd hw 3 rfl) (by decide) (a := a) F5 (argsL := []) (rest := []) rfl rfl (ps := []) (rt := (some (.array (.object "java/lang/Object")))) (by decide) rfl (W := 0) (Nat.le_of_eq rfl) (by decide) (by decide) (by decide) (by decide) (by rw [hml]; rfl) (hb hby d20_45) (rfl : 45 + 5 = 50) fun v4 T4 hh4 L4 X4 eh4 Q4 => ?_
  obtain ⟨br_4, kb_4, rfl, Pc4, G4_0, G4_1, G4_2, G4_3⟩ := Q4
  have P4 := P3.call Pc4 all0
  show OGo p e below K T4 (mkF m 50 #[.val (.ref a), .unset] [(.ref br_4)])
  have F12 := (staP I6 P4)
  refine g_static X4 hx hZ hown eh4 (rm_lof_1 hw br_4 kb_4 x0 em G4_1 F12) (wd hw 198 rfl) (wd hw 199 rfl) (wd hw 200 rfl) (wd hw 147 rfl) (by decide) (argsL := [(.ref br_4)]) (rest := []) rfl rfl (ps := [(.array (.object "java/lang/Object"))]) (rt := (some (.object "java/util/List"))) (by decide) rfl (W := 0) (Nat.le_of_eq rfl) (by decide) (by decide) (by decide) (by decide) (by rw [hml]; rfl) (hb hby d20_50) (rfl : 50 + 3 = 53) fun v11 T11 hh11 L11 X11 eh11 Q11 => ?_
  obtain ⟨o_11, rfl, Pc11, G11_0, G11_1, G11_2, G11_3⟩ := Q11
  have P11 := P4.call Pc11 all0
  show OGo p e below K T11 (mkF m 53 #[.val (.ref a), .unset] [(.ref o_11)])
  exact g_ret X11 hx hret hlk rfl (Or.inr (Or.inr (Or.inr (Or.inr ⟨rfl, rfl, rfl⟩)))) (hb hby d20_53) (by decide) (by decide) eh11 hK ⟨o_11, rfl, P11, (Nat.le_trans P4.size G11_0), G11_1, G11_2, G11_3⟩
theorem d19_0 : decode jdk_40_method_48_code 0 = .ok (.aload_n 0, 1) := by decide +kernel
theorem d19_1 : decode jdk_40_method_48_code 1 = .ok (.invokestatic 112, 3) := by decide +kernel
theorem d19_4 : decode jdk_40_method_48_code 4 = .ok (.areturn, 1) := by decide +kernel
theorem pn_rm_copyof_1 : plainFor (⟨"java/util/List", "copyOf", "(Ljava/util/Collection;)Ljava/util/List;"⟩ : MethodName) = true := by first | exact plainFor_of_name (by first | (simp [plainName, overriddenIn]; done) | decide +kernel) | decide +kernel
set_option maxRecDepth 65536 in
set_option maxHeartbeats 40000000 in
theorem rm_copyof_1 {l : Launch} {Z : State} {a0 : Array Value} (hw : ∀ d ∈ tables_1, d.before a0 Z = true) (a : Addr) (ar : Addr) (kr : ClassId) (x0 : Addr) (mr : Addr) (em : Addr) {h0 : Heap} (I0 : Exa Z h0 a "java/util/ArrayList") (I1 : Fld Z h0 a "java/util/ArrayList" "elementData" "[Ljava/lang/Object;" (.ref ar)) (I2 : Fld Z h0 a "java/util/ArrayList" "size" "I" (.int (1 : Int32))) (I3 : OAry Z h0 ar kr (.object "java/lang/Object") [(.ref x0), .null, .null, .null, .null, .null, .null, .null, .null, .null]) (I4 : Exa Z h0 ar "[Ljava/lang/Object;") (I5 : Exa Z h0 x0 "java/lang/Integer") (I6 : Sta Z h0 "java/util/ImmutableCollections" "EMPTY" "Ljava/lang/Object;" (.ref em)) (hm : OMir Z "[Ljava/lang/Object;" mr) :
    OMet l (⟨"java/util/List", "copyOf", "(Ljava/util/Collection;)Ljava/util/List;"⟩ : MethodName) jdk_40_method_48_code 1 (Option.some (Jvm.ClassFile.FieldType.object "java/util/List")) ({ frames := 7, cells := 2, slots := 3, locals := 88 } : Room) #[(.ref a)] Z h0 (fun vR hR LR => ∃ o : Addr, vR = some (.ref o) ∧ OPr h0 [] hR LR ∧ h0.size ≤ o ∧ Exa Z hR o "java/util/ImmutableCollections$List12" ∧ Fld Z hR o "java/util/ImmutableCollections$List12" "e0" "Ljava/lang/Object;" (.ref x0) ∧ Fld Z hR o "java/util/ImmutableCollections$List12" "e1" "Ljava/lang/Object;" (.ref em)) := by
  refine OMet.body pn_rm_copyof_1 (Ls := #[.val (.ref a)]) (fun m => by first | (simp [entryFrame, mkF, argsToLocals, Value.category]; done) | rfl) ?_
  intro p e s m below meth c T0 K hK X0 hx hby hml hown hnm hret hlk hZ eh0
  have P0 := OPr.refl h0 []
  refine g_aloadN X0 hx (hb hby d19_0) (rfl : 0 + 1 = 1) rfl rfl ?_
  refine g_static X0 hx hZ hown eh0 (rm_lcopy_1 hw a ar kr x0 mr em I0 I1 I2 I3 I4 I5 I6 hm) (wd hw 149 rfl) (wd hw 150 rfl) (wd hw 152 rfl) (wd hw 151 rfl) (by decide) (argsL := [(.ref a)]) (rest := []) rfl rfl (ps := [(.object "java/util/Collection")]) (rt := (some (.object "java/util/List"))) (by decide) rfl (W := 0) (Nat.le_of_eq rfl) (by decide) (by decide) (by decide) (by decide) (by rw [hml]; rfl) (hb hby d19_1) (rfl : 1 + 3 = 4) fun v1 T1 hh1 L1 X1 eh1 Q1 => ?_
  obtain ⟨o_1, rfl, Pc1, G1_0, G1_1, G1_2, G1_3⟩ := Q1
  have P1 := P0.call Pc1 all0
  show OGo p e below K T1 (mkF m 4 #[.val (.ref a)] [(.ref o_1)])
  exact g_ret X1 hx hret hlk rfl (Or.inr (Or.inr (Or.inr (Or.inr ⟨rfl, rfl, rfl⟩)))) (hb hby d19_4) (by decide) (by decide) eh1 hK ⟨o_1, rfl, P1, (Nat.le_trans P0.size G1_0), G1_1, G1_2, G1_3⟩
theorem pn_rm_cof3_2 : plainFor (⟨"java/util/Arrays", "copyOf", "([Ljava/lang/Object;ILjava/lang/Class;)[Ljava/lang/Object;"⟩ : MethodName) = true := by first | exact plainFor_of_name (by first | (simp [plainName, overriddenIn]; done) | decide +kernel) | decide +kernel
set_option maxRecDepth 65536 in
set_option maxHeartbeats 40000000 in
theorem rm_cof3_2 {l : Launch} {Z : State} {a0 : Array Value} (hw : ∀ d ∈ tables_1, d.before a0 Z = true) (ar : Addr) (kr : ClassId) (x0 : Addr) (x1 : Addr) (mr : Addr) {h0 : Heap} (I0 : OAry Z h0 ar kr (.object "java/lang/Object") [(.ref x0), (.ref x1), .null, .null, .null, .null, .null, .null, .null, .null]) (I1 : Exa Z h0 x0 "java/lang/Integer") (I2 : Exa Z h0 x1 "java/lang/Integer") (hm : OMir Z "[Ljava/lang/Object;" mr) :
    OMet l (⟨"java/util/Arrays", "copyOf", "([Ljava/lang/Object;ILjava/lang/Class;)[Ljava/lang/Object;"⟩ : MethodName) jdk_65_method_120_code 4 (Option.some (Jvm.ClassFile.FieldType.array (Jvm.ClassFile.FieldType.object "java/lang/Object"))) ({ frames := 1, cells := 1, slots := 2, locals := 18 } : Room) #[(.ref ar), (.int (2 : Int32)), (.ref mr)] Z h0 (fun vR hR LR => ∃ br : Addr, ∃ kb : ClassId, vR = some (.ref br) ∧ OPr h0 [] hR LR ∧ h0.size ≤ br ∧ OAry Z hR br kb (.object "java/lang/Object") [(.ref x0), (.ref x1)] ∧ Exa Z hR br "[Ljava/lang/Object;" ∧ Ovr Z kb "java/lang/Object") := by
  refine OMet.body pn_rm_cof3_2 (Ls := #[.val (.ref ar), .val (.int (2 : Int32)), .val (.ref mr), .unset]) (fun m => by first | (simp [entryFrame, mkF, argsToLocals, Value.category]; done) | rfl) ?_
  intro p e s m below meth c T0 K hK X0 hx hby hml hown hnm hret hlk hZ eh0
  have P0 := OPr.refl h0 []
  refine g_aloadN X0 hx (hb hby d24_0) (rfl : 0 + 1 = 1) rfl rfl ?_
  refine g_ldcCls X0 hx hZ hown (wd hw 189 rfl) eh0 hm (hb hby d24_1) (rfl : 1 + 2 = 3) fun T1 X1 eh1 => ?_
  refine g_acmpN X1 hx (hb hby d24_3) rfl rfl (XT.aa_ne_f rfl) (rfl : 3 + 3 = 6) ?_
  refine g_iloadN X1 hx (hb hby d24_6) (rfl : 6 + 1 = 7) rfl ?_
  refine g_anewarray X1 hx hZ hown (wd hw 190 rfl) (wd hw 67 rfl) (ad := "[Ljava/lang/Object;") (by decide) eh1 (vs := [.null, .null]) (by decide) (by rfl) (cap := 2) (by decide) (by decide) P0 (hb hby d24_7) (rfl : 7 + 3 = 10) (by decide) (by decide) fun T2 hh2 a2 k2 q2 g2 X2 eh2 E2 P2 A2 O2 B2 => ?_
  refine g_goto X2 hx (hb hby d24_10) (by decide) (pc' := 24) (by decide) ?_
  refine g_astoreN X2 hx (hb hby d24_24) (rfl : 24 + 1 = 25) rfl (Ls' := #[.val (.ref ar), .val (.int (2 : Int32)), .val (.ref mr), .val (.ref a2)]) rfl ?_
  refine g_aloadN X2 hx (hb hby d24_25) (rfl : 25 + 1 = 26) rfl rfl ?_
  refine g_iconst X2 hx (0 : Int32) (hb hby d24_26) (rfl : 26 + 1 = 27) (by decide) ?_
  refine g_aloadN X2 hx (hb hby d24_27) (rfl : 27 + 1 = 28) rfl rfl ?_
  refine g_iconst X2 hx (0 : Int32) (hb hby d24_28) (rfl : 28 + 1 = 29) (by decide) ?_
  refine g_aloadN X2 hx (hb hby d24_29) (rfl : 29 + 1 = 30) rfl rfl ?_
  have F3 := (aryE I0 E2)
  refine g_len X2 hx hZ eh2 F3 (z := (10 : Int32)) rfl (hb hby d24_30) (rfl : 30 + 1 = 31) ?_
  refine g_iloadN X2 hx (hb hby d24_31) (rfl : 31 + 1 = 32) rfl ?_
  refine g_static X2 hx hZ hown eh2 (rm_mini hw (10 : Int32) (2 : Int32) (2 : Int32) (by decide)) (wd hw 191 rfl) (wd hw 192 rfl) (wd hw 193 rfl) (wd hw 64 rfl) (by decide) (argsL := [(.int (10 : Int32)), (.int (2 : Int32))]) (rest := [(.int (0 : Int32)), (.ref a2), (.int (0 : Int32)), (.ref ar)]) rfl rfl (ps := [.int, .int]) (rt := (some .int)) (by decide) rfl (W := 4) (Nat.le_of_eq rfl) (by decide) (by decide) (by decide) (by decide) (by rw [hml]; rfl) (hb hby d24_32) (rfl : 32 + 3 = 35) fun v4 T4 hh4 L4 X4 eh4 Q4 => ?_
  obtain ⟨rfl, Pc4⟩ := Q4
  have P4 := P2.call Pc4 all0
  show OGo p e below K T4 (mkF m 35 #[.val (.ref ar), .val (.int (2 : Int32)), .val (.ref mr), .val (.ref a2)] [(.int (2 : Int32)), (.int (0 : Int32)), (.ref a2), (.int (0 : Int32)), (.ref ar)])
  have F6 := (aryP F3 Pc4 nin0)
  have F7 := (aryP A2 Pc4 nin0)
  have F8 := (exaP I2 P4)
  have F9 := (exaP I1 P4)
  refine g_copy X4 hx hZ hown (wd hw 194 rfl) (wd hw 197 rfl) (wd hw 195 rfl) (wd hw 196 rfl) eh4 F6 F7 rfl rfl (us := [(.ref x0), (.ref x1)]) ⟨(stoOf F7 O2 (Ins.of_exa F9 (wd hw 68 rfl))), ⟨(stoOf F7 O2 (Ins.of_exa F8 (wd hw 68 rfl))), trivial⟩⟩ rfl rfl rfl P4 g2 (by rw [hml]; rfl) (hb hby d24_35) (rfl : 35 + 3 = 38) (by decide) (W := 0) (Nat.le_of_eq rfl) (by decide) fun T5 hh5 L5 X5 eh5 P5 Pc5 A5 => ?_
  refine g_aloadN X5 hx (hb hby d24_38) (rfl : 38 + 1 = 39) rfl rfl ?_
  have F10 := (exaP (exaP B2 Pc4) Pc5)
  exact g_ret X5 hx hret hlk rfl (Or.inr (Or.inr (Or.inr (Or.inr ⟨rfl, rfl, rfl⟩)))) (hb hby d24_39) (by decide) (by decide) eh5 hK ⟨a2, k2, rfl, P5, g2, A5, F10, O2⟩
theorem pn_rm_cof_2 : plainFor (⟨"java/util/Arrays", "copyOf", "([Ljava/lang/Object;I)[Ljava/lang/Object;"⟩ : MethodName) = true := by first | exact plainFor_of_name (by first | (simp [plainName, overriddenIn]; done) | decide +kernel) | decide +kernel
set_option maxRecDepth 65536 in
set_option maxHeartbeats 40000000 in
theorem rm_cof_2 {l : Launch} {Z : State} {a0 : Array Value} (hw : ∀ d ∈ tables_1, d.before a0 Z = true) (ar : Addr) (kr : ClassId) (x0 : Addr) (x1 : Addr) (mr : Addr) {h0 : Heap} (I0 : OAry Z h0 ar kr (.object "java/lang/Object") [(.ref x0), (.ref x1), .null, .null, .null, .null, .null, .null, .null, .null]) (I1 : Exa Z h0 ar "[Ljava/lang/Object;") (I2 : Exa Z h0 x0 "java/lang/Integer") (I3 : Exa Z h0 x1 "java/lang/Integer") (hm : OMir Z "[Ljava/lang/Object;" mr) :
    OMet l (⟨"java/util/Arrays", "copyOf", "([Ljava/lang/Object;I)[Ljava/lang/Object;"⟩ : MethodName) jdk_65_method_119_code 2 (Option.some (Jvm.ClassFile.FieldType.array (Jvm.ClassFile.FieldType.object "java/lang/Object"))) ({ frames := 2, cells := 1, slots := 2, locals := 33 } : Room) #[(.ref ar), (.int (2 : Int32))] Z h0 (fun vR hR LR => ∃ br : Addr, ∃ kb : ClassId, vR = some (.ref br) ∧ OPr h0 [] hR LR ∧ h0.size ≤ br ∧ OAry Z hR br kb (.object "java/lang/Object") [(.ref x0), (.ref x1)] ∧ Exa Z hR br "[Ljava/lang/Object;" ∧ Ovr Z kb "java/lang/Object") := by
  refine OMet.body pn_rm_cof_2 (Ls := #[.val (.ref ar), .val (.int (2 : Int32))]) (fun m => by first | (simp [entryFrame, mkF, argsToLocals, Value.category]; done) | rfl) ?_
  intro p e s m below meth c T0 K hK X0 hx hby hml hown hnm hret hlk hZ eh0
  have P0 := OPr.refl h0 []
  refine g_aloadN X0 hx (hb hby d23_0) (rfl : 0 + 1 = 1) rfl rfl ?_
  refine g_iloadN X0 hx (hb hby d23_1) (rfl : 1 + 1 = 2) rfl ?_
  refine g_aloadN X0 hx (hb hby d23_2) (rfl : 2 + 1 = 3) rfl rfl ?_
  refine g_getcls X0 hx hZ hown (wd hw 180 rfl) (wd hw 181 rfl) (wd hw 157 rfl) (wd hw 183 rfl) (wd hw 182 rfl) (wd hw 184 rfl) eh0 I1 hm (by rw [hml]; rfl) (hb hby d23_3) (rfl : 3 + 3 = 6) (by decide) (W := 2) (Nat.le_of_eq rfl) (by decide) fun T1 X1 eh1 => ?_
  refine g_static X1 hx hZ hown eh1 (rm_cof3_2 hw ar kr x0 x1 mr I0 I2 I3 hm) (wd hw 186 rfl) (wd hw 187 rfl) (wd hw 188 rfl) (wd hw 178 rfl) (by decide) (argsL := [(.ref ar), (.int (2 : Int32)), (.ref mr)]) (rest := []) rfl rfl (ps := [(.array (.object "java/lang/Object")), .int, (.object "java/lang/Class")]) (rt := (some (.array (.object "java/lang/Object")))) (by decide) rfl (W := 0) (Nat.le_of_eq rfl) (by decide) (by decide) (by decide) (by decide) (by rw [hml]; rfl) (hb hby d23_6) (rfl : 6 + 3 = 9) fun v2 T2 hh2 L2 X2 eh2 Q2 => ?_
  obtain ⟨br_2, kb_2, rfl, Pc2, G2_0, G2_1, G2_2, G2_3⟩ := Q2
  have P2 := P0.call Pc2 all0
  show OGo p e below K T2 (mkF m 9 #[.val (.ref ar), .val (.int (2 : Int32))] [(.ref br_2)])
  exact g_ret X2 hx hret hlk rfl (Or.inr (Or.inr (Or.inr (Or.inr ⟨rfl, rfl, rfl⟩)))) (hb hby d23_9) (by decide) (by decide) eh2 hK ⟨br_2, kb_2, rfl, P2, (Nat.le_trans P0.size G2_0), G2_1, G2_2, G2_3⟩
theorem pn_rm_toarr_2 : plainFor (⟨"java/util/ArrayList", "toArray", "()[Ljava/lang/Object;"⟩ : MethodName) = true := by first | exact plainFor_of_name (by first | (simp [plainName, overriddenIn]; done) | decide +kernel) | decide +kernel
set_option maxRecDepth 65536 in
set_option maxHeartbeats 40000000 in
theorem rm_toarr_2 {l : Launch} {Z : State} {a0 : Array Value} (hw : ∀ d ∈ tables_1, d.before a0 Z = true) (a : Addr) (ar : Addr) (kr : ClassId) (x0 : Addr) (x1 : Addr) (mr : Addr) {h0 : Heap} (I0 : Exa Z h0 a "java/util/ArrayList") (I1 : Fld Z h0 a "java/util/ArrayList" "elementData" "[Ljava/lang/Object;" (.ref ar)) (I2 : Fld Z h0 a "java/util/ArrayList" "size" "I" (.int (2 : Int32))) (I3 : OAry Z h0 ar kr (.object "java/lang/Object") [(.ref x0), (.ref x1), .null, .null, .null, .null, .null, .null, .null, .null]) (I4 : Exa Z h0 ar "[Ljava/lang/Object;") (I5 : Exa Z h0 x0 "java/lang/Integer") (I6 : Exa Z h0 x1 "java/lang/Integer") (hm : OMir Z "[Ljava/lang/Object;" mr) :
    OMet l (⟨"java/util/ArrayList", "toArray", "()[Ljava/lang/Object;"⟩ : MethodName) jdk_38_method_16_code 1 (Option.some (Jvm.ClassFile.FieldType.array (Jvm.ClassFile.FieldType.object "java/lang/Object"))) ({ frames := 3, cells := 1, slots := 2, locals := 46 } : Room) #[(.ref a)] Z h0 (fun vR hR LR => ∃ br : Addr, ∃ kb : ClassId, vR = some (.ref br) ∧ OPr h0 [] hR LR ∧ h0.size ≤ br ∧ OAry Z hR br kb (.object "java/lang/Object") [(.ref x0), (.ref x1)] ∧ Exa Z hR br "[Ljava/lang/Object;" ∧ Ovr Z kb "java/lang/Object") := by
  refine OMet.body pn_rm_toarr_2 (Ls := #[.val (.ref a)]) (fun m => by first | (simp [entryFrame, mkF, argsToLocals, Value.category]; done) | rfl) ?_
  intro p e s m below meth c T0 K hK X0 hx hby hml hown hnm hret hlk hZ eh0
  have P0 := OPr.refl h0 []
  refine g_aloadN X0 hx (hb hby d22_0) (rfl : 0 + 1 = 1) rfl rfl ?_
  refine g_getf X0 hx hZ hown (host := "") (Or.inl (wd hw 25 rfl)) Via.refl eh0 I1 (hb hby d22_1) (rfl : 1 + 3 = 4) fun T1 X1 eh1 => ?_
  refine g_aloadN X1 hx (hb hby d22_4) (rfl : 4 + 1 = 5) rfl rfl ?_
  refine g_getf X1 hx hZ hown (host := "") (Or.inl (wd hw 45 rfl)) Via.refl eh1 I2 (hb hby d22_5) (rfl : 5 + 3 = 8) fun T2 X2 eh2 => ?_
  refine g_static X2 hx hZ hown eh2 (rm_cof_2 hw ar kr x0 x1 mr I3 I4 I5 I6 hm) (wd hw 176 rfl) (wd hw 177 rfl) (wd hw 179 rfl) (wd hw 178 rfl) (by decide) (argsL := [(.ref ar), (.int (2 : Int32))]) (rest := []) rfl rfl (ps := [(.array (.object "java/lang/Object")), .int]) (rt := (some (.array (.object "java/lang/Object")))) (by decide) rfl (W := 0) (Nat.le_of_eq rfl) (by decide) (by decide) (by decide) (by decide) (by rw [hml]; rfl) (hb hby d22_8) (rfl : 8 + 3 = 11) fun v3 T3 hh3 L3 X3 eh3 Q3 => ?_
  obtain ⟨br_3, kb_3, rfl, Pc3, G3_0, G3_1, G3_2, G3_3⟩ := Q3
  have P3 := P0.call Pc3 all0
  show OGo p e below K T3 (mkF m 11 #[.val (.ref a)] [(.ref br_3)])
  exact g_ret X3 hx hret hlk rfl (Or.inr (Or.inr (Or.inr (Or.inr ⟨rfl, rfl, rfl⟩)))) (hb hby d22_11) (by decide) (by decide) eh3 hK ⟨br_3, kb_3, rfl, P3, (Nat.le_trans P0.size G3_0), G3_1, G3_2, G3_3⟩
theorem d38_0 : decode jdk_44_method_2_code 0 = .ok (.aload_n 0, 1) := by decide +kernel
theorem d38_1 : decode jdk_44_method_2_code 1 = .ok (.invokespecial 1, 3) := by decide +kernel
theorem d38_4 : decode jdk_44_method_2_code 4 = .ok (.aload_n 0, 1) := by decide +kernel
theorem d38_5 : decode jdk_44_method_2_code 5 = .ok (.aload_n 1, 1) := by decide +kernel
theorem d38_6 : decode jdk_44_method_2_code 6 = .ok (.invokestatic 7, 3) := by decide +kernel
theorem d38_9 : decode jdk_44_method_2_code 9 = .ok (.putfield 13, 3) := by decide +kernel
theorem d38_12 : decode jdk_44_method_2_code 12 = .ok (.aload_n 0, 1) := by decide +kernel
theorem d38_13 : decode jdk_44_method_2_code 13 = .ok (.aload_n 2, 1) := by decide +kernel
theorem d38_14 : decode jdk_44_method_2_code 14 = .ok (.invokestatic 7, 3) := by decide +kernel
theorem d38_17 : decode jdk_44_method_2_code 17 = .ok (.putfield 24, 3) := by decide +kernel
theorem d38_20 : decode jdk_44_method_2_code 20 = .ok (.return_, 1) := by decide +kernel
theorem pn_rm_l12_2 : plainFor (⟨"java/util/ImmutableCollections$List12", "<init>", "(Ljava/lang/Object;Ljava/lang/Object;)V"⟩ : MethodName) = true := by first | exact plainFor_of_name (by first | (simp [plainName, overriddenIn]; done) | decide +kernel) | decide +kernel
set_option maxRecDepth 65536 in
set_option maxHeartbeats 40000000 in
theorem rm_l12_2 {l : Launch} {Z : State} {a0 : Array Value} (hw : ∀ d ∈ tables_1, d.before a0 Z = true) (o : Addr) (x0 : Addr) (x1 : Addr) {h0 : Heap} (I0 : Exa Z h0 o "java/util/ImmutableCollections$List12") (I1 : Fld Z h0 o "java/util/ImmutableCollections$List12" "e0" "Ljava/lang/Object;" .null) (I2 : Fld Z h0 o "java/util/ImmutableCollections$List12" "e1" "Ljava/lang/Object;" .null)  :
    OMet l (⟨"java/util/ImmutableCollections$List12", "<init>", "(Ljava/lang/Object;Ljava/lang/Object;)V"⟩ : MethodName) jdk_44_method_2_code 3 (Option.none : Option Jvm.ClassFile.FieldType) ({ frames := 4, cells := 0, slots := 0, locals := 48 } : Room) #[(.ref o), (.ref x0), (.ref x1)] Z h0 (fun vR hR LR => vR = none ∧ OPr h0 [o] hR LR ∧ Fld Z hR o "java/util/ImmutableCollections$List12" "e0" "Ljava/lang/Object;" (.ref x0) ∧ Fld Z hR o "java/util/ImmutableCollections$List12" "e1" "Ljava/lang/Object;" (.ref x1)) := by
  refine OMet.body pn_rm_l12_2 (Ls := #[.val (.ref o), .val (.ref x0), .val (.ref x1)]) (fun m => by first | (simp [entryFrame, mkF, argsToLocals, Value.category]; done) | rfl) ?_
  intro p e s m below meth c T0 K hK X0 hx hby hml hown hnm hret hlk hZ eh0
  have P0 := OPr.refl h0 [o]
  refine g_aloadN X0 hx (hb hby d38_0) (rfl : 0 + 1 = 1) rfl rfl ?_
  refine g_special X0 hx hZ hown eh0 (rm_ail hw o) rfl (wd hw 208 rfl) (wd hw 209 rfl) (wd hw 213 rfl) (wd hw 212 rfl) (by decide) (a := o) (argsL := []) (rest := []) rfl rfl (ps := []) (by decide) rfl (W := 0) (Nat.le_of_eq rfl) (by decide) (by decide) (by decide) (by decide) (by rw [hml]; rfl) (hb hby d38_1) (rfl : 1 + 3 = 4) fun v1 T1 hh1 L1 X1 eh1 Q1 => ?_
  obtain ⟨rfl, Pc1⟩ := Q1
  have P1 := P0.call Pc1 all0
  show OGo p e below K T1 (mkF m 4 #[.val (.ref o), .val (.ref x0), .val (.ref x1)] [])
  refine g_aloadN X1 hx (hb hby d38_4) (rfl : 4 + 1 = 5) rfl rfl ?_
  refine g_aloadN X1 hx (hb hby d38_5) (rfl : 5 + 1 = 6) rfl rfl ?_
  refine g_static X1 hx hZ hown eh1 (rm_rnn hw x0) (wd hw 222 rfl) (wd hw 223 rfl) (wd hw 225 rfl) (wd hw 224 rfl) (by decide) (argsL := [(.ref x0)]) (rest := [(.ref o)]) rfl rfl (ps := [(.object "java/lang/Object")]) (rt := (some (.object "java/lang/Object"))) (by decide) rfl (W := 1) (Nat.le_of_eq rfl) (by decide) (by decide) (by decide) (by decide) (by rw [hml]; rfl) (hb hby d38_6) (rfl : 6 + 3 = 9) fun v2 T2 hh2 L2 X2 eh2 Q2 => ?_
  obtain ⟨rfl, Pc2⟩ := Q2
  have P2 := P1.call Pc2 all0
  show OGo p e below K T2 (mkF m 9 #[.val (.ref o), .val (.ref x0), .val (.ref x1)] [(.ref x0), (.ref o)])
  have F3 := (fldP (fldP I1 Pc1 nin0) Pc2 nin0)
  have F4 := (exaP I0 P2)
  refine g_putf X2 hx hZ hown (host := "") (Or.inl (wd hw 226 rfl)) Via.refl eh2 F3 F4 (Or.inr ⟨(wd hw 227 rfl), rfl, hnm⟩) (wd hw 202 rfl) (ty := (.object "java/lang/Object")) (by decide) rfl rfl P2 (Or.inl (List.mem_of_getElem? (i := 0) rfl)) (hb hby d38_9) (rfl : 9 + 3 = 12) fun T5 hh5 X5 eh5 W5 P5 F5 => ?_
  refine g_aloadN X5 hx (hb hby d38_12) (rfl : 12 + 1 = 13) rfl rfl ?_
  refine g_aloadN X5 hx (hb hby d38_13) (rfl : 13 + 1 = 14) rfl rfl ?_
  refine g_static X5 hx hZ hown eh5 (rm_rnn hw x1) (wd hw 222 rfl) (wd hw 223 rfl) (wd hw 225 rfl) (wd hw 224 rfl) (by decide) (argsL := [(.ref x1)]) (rest := [(.ref o)]) rfl rfl (ps := [(.object "java/lang/Object")]) (rt := (some (.object "java/lang/Object"))) (by decide) rfl (W := 1) (Nat.le_of_eq rfl) (by decide) (by decide) (by decide) (by decide) (by rw [hml]; rfl) (hb hby d38_14) (rfl : 14 + 3 = 17) fun v6 T6 hh6 L6 X6 eh6 Q6 => ?_
  obtain ⟨rfl, Pc6⟩ := Q6
  have P6 := P5.call Pc6 all0
  show OGo p e below K T6 (mkF m 17 #[.val (.ref o), .val (.ref x0), .val (.ref x1)] [(.ref x1), (.ref o)])
  have F7 := (fldP ((fldP (fldP I2 Pc1 nin0) Pc2 nin0).other W5 (Or.inr (slot_ne (Or.inr (wd hw 230 rfl)) (Or.inr (wd hw 227 rfl)) (by decide) (t := (.object "java/lang/Object")) (by decide) (t' := (.object "java/lang/Object")) (by decide)))) Pc6 nin0)
  have F8 := (exaP (F4.wr W5) Pc6)
  refine g_putf X6 hx hZ hown (host := "") (Or.inl (wd hw 229 rfl)) Via.refl eh6 F7 F8 (Or.inr ⟨(wd hw 230 rfl), rfl, hnm⟩) (wd hw 202 rfl) (ty := (.object "java/lang/Object")) (by decide) rfl rfl P6 (Or.inl (List.mem_of_getElem? (i := 0) rfl)) (hb hby d38_17) (rfl : 17 + 3 = 20) fun T9 hh9 X9 eh9 W9 P9 F9 => ?_
  have F10 := ((fldP F5 Pc6 nin0).other W9 (Or.inr (slot_ne (Or.inr (wd hw 227 rfl)) (Or.inr (wd hw 230 rfl)) (by decide) (t := (.object "java/lang/Object")) (by decide) (t' := (.object "java/lang/Object")) (by decide))))
  exact g_ret0 X9 hx hret hlk (hb hby d38_20) (by decide) (by decide) eh9 hK ⟨rfl, P9, F10, F9⟩
theorem d26_45 : decode jdk_40_method_47_code 45 = .ok (.new 96, 3) := by decide +kernel
theorem d26_48 : decode jdk_40_method_47_code 48 = .ok (.dup, 1) := by decide +kernel
theorem d26_49 : decode jdk_40_method_47_code 49 = .ok (.aload_n 0, 1) := by decide +kernel
theorem d26_50 : decode jdk_40_method_47_code 50 = .ok (.iconst 0, 1) := by decide +kernel
theorem d26_51 : decode jdk_40_method_47_code 51 = .ok (.aaload, 1) := by decide +kernel
theorem d26_52 : decode jdk_40_method_47_code 52 = .ok (.aload_n 0, 1) := by decide +kernel
theorem d26_53 : decode jdk_40_method_47_code 53 = .ok (.iconst 1, 1) := by decide +kernel
theorem d26_54 : decode jdk_40_method_47_code 54 = .ok (.aaload, 1) := by decide +kernel
theorem d26_55 : decode jdk_40_method_47_code 55 = .ok (.invokespecial 100, 3) := by decide +kernel
theorem d26_58 : decode jdk_40_method_47_code 58 = .ok (.areturn, 1) := by decide +kernel
theorem pn_rm_lof_2 : plainFor (⟨"java/util/List", "of", "([Ljava/lang/Object;)Ljava/util/List;"⟩ : MethodName) = true := by first | exact plainFor_of_name (by first | (simp [plainName, overriddenIn]; done) | decide +kernel) | decide +kernel
set_option maxRecDepth 65536 in
set_option maxHeartbeats 40000000 in
theorem rm_lof_2 {l : Launch} {Z : State} {a0 : Array Value} (hw : ∀ d ∈ tables_1, d.before a0 Z = true) (br : Addr) (kb : ClassId) (x0 : Addr) (x1 : Addr) {h0 : Heap} (I0 : OAry Z h0 br kb (.object "java/lang/Object") [(.ref x0), (.ref x1)])  :
    OMet l (⟨"java/util/List", "of", "([Ljava/lang/Object;)Ljava/util/List;"⟩ : MethodName) jdk_40_method_47_code 2 (Option.some (Jvm.ClassFile.FieldType.object "java/util/List")) ({ frames := 5, cells := 1, slots := 2, locals := 63 } : Room) #[(.ref br)] Z h0 (fun vR hR LR => ∃ o : Addr, vR = some (.ref o) ∧ OPr h0 [] hR LR ∧ h0.size ≤ o ∧ Exa Z hR o "java/util/ImmutableCollections$List12" ∧ Fld Z hR o "java/util/ImmutableCollections$List12" "e0" "Ljava/lang/Object;" (.ref x0) ∧ Fld Z hR o "java/util/ImmutableCollections$List12" "e1" "Ljava/lang/Object;" (.ref x1)) := by
  refine OMet.body pn_rm_lof_2 (Ls := #[.val (.ref br), .unset]) (fun m => by first | (simp [entryFrame, mkF, argsToLocals, Value.category]; done) | rfl) ?_
  intro p e s m below meth c T0 K hK X0 hx hby hml hown hnm hret hlk hZ eh0
  have P0 := OPr.refl h0 []
  refine g_aloadN X0 hx (hb hby d26_0) (rfl : 0 + 1 = 1) rfl rfl ?_
  refine g_len X0 hx hZ eh0 I0 (z := (2 : Int32)) rfl (hb hby d26_1) (rfl : 1 + 1 = 2) ?_
  refine g_tswIn X0 hx (hb hby d26_2) (by decide) (o := 43) (by decide) (by decide) (pc' := 45) (by decide) ?_
  refine g_new X0 hx hZ hown (wd hw 201 rfl) (wd hw 202 rfl) (wd hw 203 rfl) eh0 P0 (hb hby d26_45) (rfl : 45 + 3 = 48) (by decide) (by decide) fun T1 hh1 a1 q1 g1 X1 eh1 E1 P1 A1 D1 => ?_
  have f2 : Fld Z hh1 a1 "java/util/ImmutableCollections$List12" "e0" "Ljava/lang/Object;" .null := D1 (Or.inr (wd hw 227 rfl)) (ty := (.object "java/lang/Object")) (by decide)
  have f3 : Fld Z hh1 a1 "java/util/ImmutableCollections$List12" "e1" "Ljava/lang/Object;" .null := D1 (Or.inr (wd hw 230 rfl)) (ty := (.object "java/lang/Object")) (by decide)
  refine g_dup X1 hx (hb hby d26_48) (rfl : 48 + 1 = 49) rfl ?_
  refine g_aloadN X1 hx (hb hby d26_49) (rfl : 49 + 1 = 50) rfl rfl ?_
  refine g_iconst X1 hx (0 : Int32) (hb hby d26_50) (rfl : 50 + 1 = 51) (by decide) ?_
  have F4 := (aryE I0 E1)
  refine g_aaload X1 hx hZ eh1 F4 rfl (v := (.ref x0)) (by decide) (by rfl) (hb hby d26_51) (rfl : 51 + 1 = 52) ?_
  refine g_aloadN X1 hx (hb hby d26_52) (rfl : 52 + 1 = 53) rfl rfl ?_
  refine g_iconst X1 hx (1 : Int32) (hb hby d26_53) (rfl : 53 + 1 = 54) (by decide) ?_
  refine g_aaload X1 hx hZ eh1 F4 rfl (v := (.ref x1)) (by decide) (by rfl) (hb hby d26_54) (rfl : 54 + 1 = 55) ?_
  refine g_special X1 hx hZ hown eh1 (rm_l12_2 hw a1 x0 x1 A1 f2 f3) rfl (wd hw 286 rfl) (wd hw 287 rfl) (wd hw 288 rfl) (wd hw 203 rfl) (by decide) (a := a1) (argsL := [(.ref x0), (.ref x1)]) (rest := [(.ref a1)]) rfl rfl (ps := [(.object "java/lang/Object"), (.object "java/lang/Object")]) (by decide) rfl (W := 1) (Nat.le_of_eq rfl) (by decide) (by decide) (by decide) (by decide) (by rw [hml]; rfl) (hb hby d26_55) (rfl : 55 + 3 = 58) fun v5 T5 hh5 L5 X5 eh5 Q5 => ?_
  obtain ⟨rfl, Pc5, G5_0, G5_1⟩ := Q5
  have P5 := P1.call Pc5 (allS (Or.inr g1) all0)
  show OGo p e below K T5 (mkF m 58 #[.val (.ref br), .unset] [(.ref a1)])
  have F6 := (exaP A1 Pc5)
  exact g_ret X5 hx hret hlk rfl (Or.inr (Or.inr (Or.inr (Or.inr ⟨rfl, rfl, rfl⟩)))) (hb hby d26_58) (by decide) (by decide) eh5 hK ⟨a1, rfl, P5, g1, F6, G5_0, G5_1⟩
theorem pn_rm_lcopy_2 : plainFor (⟨"java/util/ImmutableCollections", "listCopy", "(Ljava/util/Collection;)Ljava/util/List;"⟩ : MethodName) = true := by first | exact plainFor_of_name (by first | (simp [plainName, overriddenIn]; done) | decide +kernel) | decide +kernel
set_option maxRecDepth 65536 in
set_option maxHeartbeats 40000000 in
theorem rm_lcopy_2 {l : Launch} {Z : State} {a0 : Array Value} (hw : ∀ d ∈ tables_1, d.before a0 Z = true) (a : Addr) (ar : Addr) (kr : ClassId) (x0 : Addr) (x1 : Addr) (mr : Addr) {h0 : Heap} (I0 : Exa Z h0 a "java/util/ArrayList") (I1 : Fld Z h0 a "java/util/ArrayList" "elementData" "[Ljava/lang/Object;" (.ref ar)) (I2 : Fld Z h0 a "java/util/ArrayList" "size" "I" (.int (2 : Int32))) (I3 : OAry Z h0 ar kr (.object "java/lang/Object") [(.ref x0), (.ref x1), .null, .null, .null, .null, .null, .null, .null, .null]) (I4 : Exa Z h0 ar "[Ljava/lang/Object;") (I5 : Exa Z h0 x0 "java/lang/Integer") (I6 : Exa Z h0 x1 "java/lang/Integer") (hm : OMir Z "[Ljava/lang/Object;" mr) :
    OMet l (⟨"java/util/ImmutableCollections", "listCopy", "(Ljava/util/Collection;)Ljava/util/List;"⟩ : MethodName) jdk_56_method_3_code 2 (Option.some (Jvm.ClassFile.FieldType.object "java/util/List")) ({ frames := 6, cells := 2, slots := 4, locals := 76 } : Room) #[(.ref a)] Z h0 (fun vR hR LR => ∃ o : Addr, vR = some (.ref o) ∧ OPr h0 [] hR LR ∧ h0.size ≤ o ∧ Exa Z hR o "java/util/ImmutableCollections$List12" ∧ Fld Z hR o "java/util/ImmutableCollections$List12" "e0" "Ljava/lang/Object;" (.ref x0) ∧ Fld Z hR o "java/util/ImmutableCollections$List12" "e1" "Ljava/lang/Object;" (.ref x1)) := by
  refine OMet.body pn_rm_lcopy_2 (Ls := #[.val (.ref a), .unset]) (fun m => by first | (simp [entryFrame, mkF, argsToLocals, Value.category]; done) | rfl) ?_
  intro p e s m below meth c T0 K hK X0 hx hby hml hown hnm hret hlk hZ eh0
  have P0 := OPr.refl h0 []
  refine g_aloadN X0 hx (hb hby d20_0) (rfl : 0 + 1 = 1) rfl rfl ?_
  refine g_instNo X0 hx hZ hown (wd hw 153 rfl) eh0 I0 (noIns (wd hw 154 rfl) (wd hw 202 rfl) (NS.step (wd hw 154 rfl) (NS.step (wd hw 155 rfl) (NS.step (wd hw 156 rfl) (nsRoot (wd hw 157 rfl) (wd hw 202 rfl) (by decide)) (by decide)) (by decide)) (by decide)) (by decide)) (hb hby d20_1) (rfl : 1 + 3 = 4) fun T1 X1 eh1 => ?_
  refine g_ifN X1 hx (hb hby d20_4) (XT.i0_ne_f (by decide)) (rfl : 4 + 3 = 7) ?_
  refine g_aloadN X1 hx (hb hby d20_7) (rfl : 7 + 1 = 8) rfl rfl ?_
  refine g_instNo X1 hx hZ hown (wd hw 158 rfl) eh1 I0 (noIns (wd hw 154 rfl) (wd hw 254 rfl) (NS.step (wd hw 154 rfl) (NS.step (wd hw 155 rfl) (NS.step (wd hw 156 rfl) (nsRoot (wd hw 157 rfl) (wd hw 254 rfl) (by decide)) (by decide)) (by decide)) (by decide)) (by decide)) (hb hby d20_8) (rfl : 8 + 3 = 11) fun T2 X2 eh2 => ?_
  refine g_ifY X2 hx (hb hby d20_11) (XT.i0_eq_t (by decide)) (by decide) (pc' := 31) (by decide) ?_
  refine g_aloadN X2 hx (hb hby d20_31) (rfl : 31 + 1 = 32) rfl rfl ?_
  refine g_face X2 hx hZ hown eh2 (rm_isempty hw a (2 : Int32) I2 (by decide)) (C := "java/util/ArrayList") (wd hw 159 rfl) (wd hw 160 rfl) (wd hw 161 rfl) (wd hw 162 rfl) (wd hw 163 rfl) (wd hw 164 rfl) (wd hw 165 rfl) (wd hw 166 rfl) (wd hw 167 rfl) (wd hw 3 rfl) (by decide) (a := a) I0 (argsL := []) (rest := []) rfl rfl (ps := []) (rt := (some .boolean)) (by decide) rfl (W := 0) (Nat.le_of_eq rfl) (by decide) (by decide) (by decide) (by decide) (by rw [hml]; rfl) (hb hby d20_32) (rfl : 32 + 5 = 37) fun v3 T3 hh3 L3 X3 eh3 Q3 => ?_
  obtain ⟨rfl, Pc3⟩ := Q3
  have P3 := P0.call Pc3 all0
  show OGo p e below K T3 (mkF m 37 #[.val (.ref a), .unset] [(.int (0 : Int32))])
  refine g_ifY X3 hx (hb hby d20_37) (XT.i0_eq_t (by decide)) (by decide) (pc' := 44) (by decide) ?_
  refine g_aloadN X3 hx (hb hby d20_44) (rfl : 44 + 1 = 45) rfl rfl ?_
  have F5 := (exaP I0 Pc3)
  have F6 := (fldP I1 Pc3 nin0)
  have F7 := (fldP I2 Pc3 nin0)
  have F8 := (aryP I3 Pc3 nin0)
  have F9 := (exaP I4 Pc3)
  have F10 := (exaP I5 Pc3)
  have F11 := (exaP I6 Pc3)
  refine g_face X3 hx hZ hown eh3 (rm_toarr_2 hw a ar kr x0 x1 mr F5 F6 F7 F8 F9 F10 F11 hm) (C := "java/util/ArrayList") (wd hw 168 rfl) (wd hw 169 rfl) (wd hw 170 rfl) (wd hw 171 rfl) (wd hw 172 rfl) (wd hw 173 rfl) (wd hw 174 rfl) (wd hw 166 rfl) (wd hw 175 rfl) (wd hw 3 rfl) (by decide) (a := a) F5 (argsL := []) (rest := []) rfl rfl (ps := []) (rt := (some (.array (.object "java/lang/Object")))) (by decide) rfl (W := 0) (Nat.le_of_eq rfl) (by decide) (by decide) (by decide) (by decide) (by rw [hml]; rfl) (hb hby d20_45) (rfl : 45 + 5 = 50) fun v4 T4 hh4 L4 X4 eh4 Q4 => ?_
  obtain ⟨br_4, kb_4, rfl, Pc4, G4_0, G4_1, G4_2, G4_3⟩ := Q4
  have P4 := P3.call Pc4 all0
  show OGo p e below K T4 (mkF m 50 #[.val (.ref a), .unset] [(.ref br_4)])
  refine g_static X4 hx hZ hown eh4 (rm_lof_2 hw br_4 kb_4 x0 x1 G4_1) (wd hw 198 rfl) (wd hw 199 rfl) (wd hw 200 rfl) (wd hw 147 rfl) (by decide) (argsL := [(.ref br_4)]) (rest := []) rfl rfl (ps := [(.array (.object "java/lang/Object"))]) (rt := (some (.object "java/util/List"))) (by decide) rfl (W := 0) (Nat.le_of_eq rfl) (by decide) (by decide) (by decide) (by decide) (by rw [hml]; rfl) (hb hby d20_50) (rfl : 50 + 3 = 53) fun v12 T12 hh12 L12 X12 eh12 Q12 => ?_
  obtain ⟨o_12, rfl, Pc12, G12_0, G12_1, G12_2, G12_3⟩ := Q12
  have P12 := P4.call Pc12 all0
  show OGo p e below K T12 (mkF m 53 #[.val (.ref a), .unset] [(.ref o_12)])
  exact g_ret X12 hx hret hlk rfl (Or.inr (Or.inr (Or.inr (Or.inr ⟨rfl, rfl, rfl⟩)))) (hb hby d20_53) (by decide) (by decide) eh12 hK ⟨o_12, rfl, P12, (Nat.le_trans P4.size G12_0), G12_1, G12_2, G12_3⟩
theorem pn_rm_copyof_2 : plainFor (⟨"java/util/List", "copyOf", "(Ljava/util/Collection;)Ljava/util/List;"⟩ : MethodName) = true := by first | exact plainFor_of_name (by first | (simp [plainName, overriddenIn]; done) | decide +kernel) | decide +kernel
set_option maxRecDepth 65536 in
set_option maxHeartbeats 40000000 in
theorem rm_copyof_2 {l : Launch} {Z : State} {a0 : Array Value} (hw : ∀ d ∈ tables_1, d.before a0 Z = true) (a : Addr) (ar : Addr) (kr : ClassId) (x0 : Addr) (x1 : Addr) (mr : Addr) {h0 : Heap} (I0 : Exa Z h0 a "java/util/ArrayList") (I1 : Fld Z h0 a "java/util/ArrayList" "elementData" "[Ljava/lang/Object;" (.ref ar)) (I2 : Fld Z h0 a "java/util/ArrayList" "size" "I" (.int (2 : Int32))) (I3 : OAry Z h0 ar kr (.object "java/lang/Object") [(.ref x0), (.ref x1), .null, .null, .null, .null, .null, .null, .null, .null]) (I4 : Exa Z h0 ar "[Ljava/lang/Object;") (I5 : Exa Z h0 x0 "java/lang/Integer") (I6 : Exa Z h0 x1 "java/lang/Integer") (hm : OMir Z "[Ljava/lang/Object;" mr) :
    OMet l (⟨"java/util/List", "copyOf", "(Ljava/util/Collection;)Ljava/util/List;"⟩ : MethodName) jdk_40_method_48_code 1 (Option.some (Jvm.ClassFile.FieldType.object "java/util/List")) ({ frames := 7, cells := 2, slots := 4, locals := 89 } : Room) #[(.ref a)] Z h0 (fun vR hR LR => ∃ o : Addr, vR = some (.ref o) ∧ OPr h0 [] hR LR ∧ h0.size ≤ o ∧ Exa Z hR o "java/util/ImmutableCollections$List12" ∧ Fld Z hR o "java/util/ImmutableCollections$List12" "e0" "Ljava/lang/Object;" (.ref x0) ∧ Fld Z hR o "java/util/ImmutableCollections$List12" "e1" "Ljava/lang/Object;" (.ref x1)) := by
  refine OMet.body pn_rm_copyof_2 (Ls := #[.val (.ref a)]) (fun m => by first | (simp [entryFrame, mkF, argsToLocals, Value.category]; done) | rfl) ?_
  intro p e s m below meth c T0 K hK X0 hx hby hml hown hnm hret hlk hZ eh0
  have P0 := OPr.refl h0 []
  refine g_aloadN X0 hx (hb hby d19_0) (rfl : 0 + 1 = 1) rfl rfl ?_
  refine g_static X0 hx hZ hown eh0 (rm_lcopy_2 hw a ar kr x0 x1 mr I0 I1 I2 I3 I4 I5 I6 hm) (wd hw 149 rfl) (wd hw 150 rfl) (wd hw 152 rfl) (wd hw 151 rfl) (by decide) (argsL := [(.ref a)]) (rest := []) rfl rfl (ps := [(.object "java/util/Collection")]) (rt := (some (.object "java/util/List"))) (by decide) rfl (W := 0) (Nat.le_of_eq rfl) (by decide) (by decide) (by decide) (by decide) (by rw [hml]; rfl) (hb hby d19_1) (rfl : 1 + 3 = 4) fun v1 T1 hh1 L1 X1 eh1 Q1 => ?_
  obtain ⟨o_1, rfl, Pc1, G1_0, G1_1, G1_2, G1_3⟩ := Q1
  have P1 := P0.call Pc1 all0
  show OGo p e below K T1 (mkF m 4 #[.val (.ref a)] [(.ref o_1)])
  exact g_ret X1 hx hret hlk rfl (Or.inr (Or.inr (Or.inr (Or.inr ⟨rfl, rfl, rfl⟩)))) (hb hby d19_4) (by decide) (by decide) eh1 hK ⟨o_1, rfl, P1, (Nat.le_trans P0.size G1_0), G1_1, G1_2, G1_3⟩
theorem pn_rm_cof3_3 : plainFor (⟨"java/util/Arrays", "copyOf", "([Ljava/lang/Object;ILjava/lang/Class;)[Ljava/lang/Object;"⟩ : MethodName) = true := by first | exact plainFor_of_name (by first | (simp [plainName, overriddenIn]; done) | decide +kernel) | decide +kernel
set_option maxRecDepth 65536 in
set_option maxHeartbeats 40000000 in
theorem rm_cof3_3 {l : Launch} {Z : State} {a0 : Array Value} (hw : ∀ d ∈ tables_1, d.before a0 Z = true) (ar : Addr) (kr : ClassId) (x0 : Addr) (x1 : Addr) (x2 : Addr) (mr : Addr) {h0 : Heap} (I0 : OAry Z h0 ar kr (.object "java/lang/Object") [(.ref x0), (.ref x1), (.ref x2), .null, .null, .null, .null, .null, .null, .null]) (I1 : Exa Z h0 x0 "java/lang/Integer") (I2 : Exa Z h0 x1 "java/lang/Integer") (I3 : Exa Z h0 x2 "java/lang/Integer") (hm : OMir Z "[Ljava/lang/Object;" mr) :
    OMet l (⟨"java/util/Arrays", "copyOf", "([Ljava/lang/Object;ILjava/lang/Class;)[Ljava/lang/Object;"⟩ : MethodName) jdk_65_method_120_code 4 (Option.some (Jvm.ClassFile.FieldType.array (Jvm.ClassFile.FieldType.object "java/lang/Object"))) ({ frames := 1, cells := 1, slots := 3, locals := 18 } : Room) #[(.ref ar), (.int (3 : Int32)), (.ref mr)] Z h0 (fun vR hR LR => ∃ br : Addr, ∃ kb : ClassId, vR = some (.ref br) ∧ OPr h0 [] hR LR ∧ h0.size ≤ br ∧ OAry Z hR br kb (.object "java/lang/Object") [(.ref x0), (.ref x1), (.ref x2)] ∧ Exa Z hR br "[Ljava/lang/Object;" ∧ Ovr Z kb "java/lang/Object") := by
  refine OMet.body pn_rm_cof3_3 (Ls := #[.val (.ref ar), .val (.int (3 : Int32)), .val (.ref mr), .unset]) (fun m => by first | (simp [entryFrame, mkF, argsToLocals, Value.category]; done) | rfl) ?_
  intro p e s m below meth c T0 K hK X0 hx hby hml hown hnm hret hlk hZ eh0
  have P0 := OPr.refl h0 []
  refine g_aloadN X0 hx (hb hby d24_0) (rfl : 0 + 1 = 1) rfl rfl ?_
  refine g_ldcCls X0 hx hZ hown (wd hw 189 rfl) eh0 hm (hb hby d24_1) (rfl : 1 + 2 = 3) fun T1 X1 eh1 => ?_
  refine g_acmpN X1 hx (hb hby d24_3) rfl rfl (XT.aa_ne_f rfl) (rfl : 3 + 3 = 6) ?_
  refine g_iloadN X1 hx (hb hby d24_6) (rfl : 6 + 1 = 7) rfl ?_
  refine g_anewarray X1 hx hZ hown (wd hw 190 rfl) (wd hw 67 rfl) (ad := "[Ljava/lang/Object;") (by decide) eh1 (vs := [.null, .null, .null]) (by decide) (by rfl) (cap := 3) (by decide) (by decide) P0 (hb hby d24_7) (rfl : 7 + 3 = 10) (by decide) (by decide) fun T2 hh2 a2 k2 q2 g2 X2 eh2 E2 P2 A2 O2 B2 => ?_
  refine g_goto X2 hx (hb hby d24_10) (by decide) (pc' := 24) (by decide) ?_
  refine g_astoreN X2 hx (hb hby d24_24) (rfl : 24 + 1 = 25) rfl (Ls' := #[.val (.ref ar), .val (.int (3 : Int32)), .val (.ref mr), .val (.ref a2)]) rfl ?_
  refine g_aloadN X2 hx (hb hby d24_25) (rfl : 25 + 1 = 26) rfl rfl ?_
  refine g_iconst X2 hx (0 : Int32) (hb hby d24_26) (rfl : 26 + 1 = 27) (by decide) ?_
  refine g_aloadN X2 hx (hb hby d24_27) (rfl : 27 + 1 = 28) rfl rfl ?_
  refine g_iconst X2 hx (0 : Int32) (hb hby d24_28) (rfl : 28 + 1 = 29) (by decide) ?_
  refine g_aloadN X2 hx (hb hby d24_29) (rfl : 29 + 1 = 30) rfl rfl ?_
  have F3 := (aryE I0 E2)
  refine g_len X2 hx hZ eh2 F3 (z := (10 : Int32)) rfl (hb hby d24_30) (rfl : 30 + 1 = 31) ?_
  refine g_iloadN X2 hx (hb hby d24_31) (rfl : 31 + 1 = 32) rfl ?_
  refine g_static X2 hx hZ hown eh2 (rm_mini hw (10 : Int32) (3 : Int32) (3 : Int32) (by decide)) (wd hw 191 rfl) (wd hw 192 rfl) (wd hw 193 rfl) (wd hw 64 rfl) (by decide) (argsL := [(.int (10 : Int32)), (.int (3 : Int32))]) (rest := [(.int (0 : Int32)), (.ref a2), (.int (0 : Int32)), (.ref ar)]) rfl rfl (ps := [.int, .int]) (rt := (some .int)) (by decide) rfl (W := 4) (Nat.le_of_eq rfl) (by decide) (by decide) (by decide) (by decide) (by rw [hml]; rfl) (hb hby d24_32) (rfl : 32 + 3 = 35) fun v4 T4 hh4 L4 X4 eh4 Q4 => ?_
  obtain ⟨rfl, Pc4⟩ := Q4
  have P4 := P2.call Pc4 all0
  show OGo p e below K T4 (mkF m 35 #[.val (.ref ar), .val (.int (3 : Int32)), .val (.ref mr), .val (.ref a2)] [(.int (3 : Int32)), (.int (0 : Int32)), (.ref a2), (.int (0 : Int32)), (.ref ar)])
  have F6 := (aryP F3 Pc4 nin0)
  have F7 := (aryP A2 Pc4 nin0)
  have F8 := (exaP I3 P4)
  have F9 := (exaP I2 P4)
  have F10 := (exaP I1 P4)
  refine g_copy X4 hx hZ hown (wd hw 194 rfl) (wd hw 197 rfl) (wd hw 195 rfl) (wd hw 196 rfl) eh4 F6 F7 rfl rfl (us := [(.ref x0), (.ref x1), (.ref x2)]) ⟨(stoOf F7 O2 (Ins.of_exa F10 (wd hw 68 rfl))), ⟨(stoOf F7 O2 (Ins.of_exa F9 (wd hw 68 rfl))), ⟨(stoOf F7 O2 (Ins.of_exa F8 (wd hw 68 rfl))), trivial⟩⟩⟩ rfl rfl rfl P4 g2 (by rw [hml]; rfl) (hb hby d24_35) (rfl : 35 + 3 = 38) (by decide) (W := 0) (Nat.le_of_eq rfl) (by decide) fun T5 hh5 L5 X5 eh5 P5 Pc5 A5 => ?_
  refine g_aloadN X5 hx (hb hby d24_38) (rfl : 38 + 1 = 39) rfl rfl ?_
  have F11 := (exaP (exaP B2 Pc4) Pc5)
  exact g_ret X5 hx hret hlk rfl (Or.inr (Or.inr (Or.inr (Or.inr ⟨rfl, rfl, rfl⟩)))) (hb hby d24_39) (by decide) (by decide) eh5 hK ⟨a2, k2, rfl, P5, g2, A5, F11, O2⟩
theorem pn_rm_cof_3 : plainFor (⟨"java/util/Arrays", "copyOf", "([Ljava/lang/Object;I)[Ljava/lang/Object;"⟩ : MethodName) = true := by first | exact plainFor_of_name (by first | (simp [plainName, overriddenIn]; done) | decide +kernel) | decide +kernel
set_option maxRecDepth 65536 in
set_option maxHeartbeats 40000000 in
theorem rm_cof_3 {l : Launch} {Z : State} {a0 : Array Value} (hw : ∀ d ∈ tables_1, d.before a0 Z = true) (ar : Addr) (kr : ClassId) (x0 : Addr) (x1 : Addr) (x2 : Addr) (mr : Addr) {h0 : Heap} (I0 : OAry Z h0 ar kr (.object "java/lang/Object") [(.ref x0), (.ref x1), (.ref x2), .null, .null, .null, .null, .null, .null, .null]) (I1 : Exa Z h0 ar "[Ljava/lang/Object;") (I2 : Exa Z h0 x0 "java/lang/Integer") (I3 : Exa Z h0 x1 "java/lang/Integer") (I4 : Exa Z h0 x2 "java/lang/Integer") (hm : OMir Z "[Ljava/lang/Object;" mr) :
    OMet l (⟨"java/util/Arrays", "copyOf", "([Ljava/lang/Object;I)[Ljava/lang/Object;"⟩ : MethodName) jdk_65_method_119_code 2 (Option.some (Jvm.ClassFile.FieldType.array (Jvm.ClassFile.FieldType.object "java/lang/Object"))) ({ frames := 2, cells := 1, slots := 3, locals := 33 } : Room) #[(.ref ar), (.int (3 : Int32))] Z h0 (fun vR hR LR => ∃ br : Addr, ∃ kb : ClassId, vR = some (.ref br) ∧ OPr h0 [] hR LR ∧ h0.size ≤ br ∧ OAry Z hR br kb (.object "java/lang/Object") [(.ref x0), (.ref x1), (.ref x2)] ∧ Exa Z hR br "[Ljava/lang/Object;" ∧ Ovr Z kb "java/lang/Object") := by
  refine OMet.body pn_rm_cof_3 (Ls := #[.val (.ref ar), .val (.int (3 : Int32))]) (fun m => by first | (simp [entryFrame, mkF, argsToLocals, Value.category]; done) | rfl) ?_
  intro p e s m below meth c T0 K hK X0 hx hby hml hown hnm hret hlk hZ eh0
  have P0 := OPr.refl h0 []
  refine g_aloadN X0 hx (hb hby d23_0) (rfl : 0 + 1 = 1) rfl rfl ?_
  refine g_iloadN X0 hx (hb hby d23_1) (rfl : 1 + 1 = 2) rfl ?_
  refine g_aloadN X0 hx (hb hby d23_2) (rfl : 2 + 1 = 3) rfl rfl ?_
  refine g_getcls X0 hx hZ hown (wd hw 180 rfl) (wd hw 181 rfl) (wd hw 157 rfl) (wd hw 183 rfl) (wd hw 182 rfl) (wd hw 184 rfl) eh0 I1 hm (by rw [hml]; rfl) (hb hby d23_3) (rfl : 3 + 3 = 6) (by decide) (W := 2) (Nat.le_of_eq rfl) (by decide) fun T1 X1 eh1 => ?_
  refine g_static X1 hx hZ hown eh1 (rm_cof3_3 hw ar kr x0 x1 x2 mr I0 I2 I3 I4 hm) (wd hw 186 rfl) (wd hw 187 rfl) (wd hw 188 rfl) (wd hw 178 rfl) (by decide) (argsL := [(.ref ar), (.int (3 : Int32)), (.ref mr)]) (rest := []) rfl rfl (ps := [(.array (.object "java/lang/Object")), .int, (.object "java/lang/Class")]) (rt := (some (.array (.object "java/lang/Object")))) (by decide) rfl (W := 0) (Nat.le_of_eq rfl) (by decide) (by decide) (by decide) (by decide) (by rw [hml]; rfl) (hb hby d23_6) (rfl : 6 + 3 = 9) fun v2 T2 hh2 L2 X2 eh2 Q2 => ?_
  obtain ⟨br_2, kb_2, rfl, Pc2, G2_0, G2_1, G2_2, G2_3⟩ := Q2
  have P2 := P0.call Pc2 all0
  show OGo p e below K T2 (mkF m 9 #[.val (.ref ar), .val (.int (3 : Int32))] [(.ref br_2)])
  exact g_ret X2 hx hret hlk rfl (Or.inr (Or.inr (Or.inr (Or.inr ⟨rfl, rfl, rfl⟩)))) (hb hby d23_9) (by decide) (by decide) eh2 hK ⟨br_2, kb_2, rfl, P2, (Nat.le_trans P0.size G2_0), G2_1, G2_2, G2_3⟩
theorem pn_rm_toarr_3 : plainFor (⟨"java/util/ArrayList", "toArray", "()[Ljava/lang/Object;"⟩ : MethodName) = true := by first | exact plainFor_of_name (by first | (simp [plainName, overriddenIn]; done) | decide +kernel) | decide +kernel
set_option maxRecDepth 65536 in
set_option maxHeartbeats 40000000 in
theorem rm_toarr_3 {l : Launch} {Z : State} {a0 : Array Value} (hw : ∀ d ∈ tables_1, d.before a0 Z = true) (a : Addr) (ar : Addr) (kr : ClassId) (x0 : Addr) (x1 : Addr) (x2 : Addr) (mr : Addr) {h0 : Heap} (I0 : Exa Z h0 a "java/util/ArrayList") (I1 : Fld Z h0 a "java/util/ArrayList" "elementData" "[Ljava/lang/Object;" (.ref ar)) (I2 : Fld Z h0 a "java/util/ArrayList" "size" "I" (.int (3 : Int32))) (I3 : OAry Z h0 ar kr (.object "java/lang/Object") [(.ref x0), (.ref x1), (.ref x2), .null, .null, .null, .null, .null, .null, .null]) (I4 : Exa Z h0 ar "[Ljava/lang/Object;") (I5 : Exa Z h0 x0 "java/lang/Integer") (I6 : Exa Z h0 x1 "java/lang/Integer") (I7 : Exa Z h0 x2 "java/lang/Integer") (hm : OMir Z "[Ljava/lang/Object;" mr) :
    OMet l (⟨"java/util/ArrayList", "toArray", "()[Ljava/lang/Object;"⟩ : MethodName) jdk_38_method_16_code 1 (Option.some (Jvm.ClassFile.FieldType.array (Jvm.ClassFile.FieldType.object "java/lang/Object"))) ({ frames := 3, cells := 1, slots := 3, locals := 46 } : Room) #[(.ref a)] Z h0 (fun vR hR LR => ∃ br : Addr, ∃ kb : ClassId, vR = some (.ref br) ∧ OPr h0 [] hR LR ∧ h0.size ≤ br ∧ OAry Z hR br kb (.object "java/lang/Object") [(.ref x0), (.ref x1), (.ref x2)] ∧ Exa Z hR br "[Ljava/lang/Object;" ∧ Ovr Z kb "java/lang/Object") := by
  refine OMet.body pn_rm_toarr_3 (Ls := #[.val (.ref a)]) (fun m => by first | (simp [entryFrame, mkF, argsToLocals, Value.category]; done) | rfl) ?_
  intro p e s m below meth c T0 K hK X0 hx hby hml hown hnm hret hlk hZ eh0
  have P0 := OPr.refl h0 []
  refine g_aloadN X0 hx (hb hby d22_0) (rfl : 0 + 1 = 1) rfl rfl ?_
  refine g_getf X0 hx hZ hown (host := "") (Or.inl (wd hw 25 rfl)) Via.refl eh0 I1 (hb hby d22_1) (rfl : 1 + 3 = 4) fun T1 X1 eh1 => ?_
  refine g_aloadN X1 hx (hb hby d22_4) (rfl : 4 + 1 = 5) rfl rfl ?_
  refine g_getf X1 hx hZ hown (host := "") (Or.inl (wd hw 45 rfl)) Via.refl eh1 I2 (hb hby d22_5) (rfl : 5 + 3 = 8) fun T2 X2 eh2 => ?_
  refine g_static X2 hx hZ hown eh2 (rm_cof_3 hw ar kr x0 x1 x2 mr I3 I4 I5 I6 I7 hm) (wd hw 176 rfl) (wd hw 177 rfl) (wd hw 179 rfl) (wd hw 178 rfl) (by decide) (argsL := [(.ref ar), (.int (3 : Int32))]) (rest := []) rfl rfl (ps := [(.array (.object "java/lang/Object")), .int]) (rt := (some (.array (.object "java/lang/Object")))) (by decide) rfl (W := 0) (Nat.le_of_eq rfl) (by decide) (by decide) (by decide) (by decide) (by rw [hml]; rfl) (hb hby d22_8) (rfl : 8 + 3 = 11) fun v3 T3 hh3 L3 X3 eh3 Q3 => ?_
  obtain ⟨br_3, kb_3, rfl, Pc3, G3_0, G3_1, G3_2, G3_3⟩ := Q3
  have P3 := P0.call Pc3 all0
  show OGo p e below K T3 (mkF m 11 #[.val (.ref a)] [(.ref br_3)])
  exact g_ret X3 hx hret hlk rfl (Or.inr (Or.inr (Or.inr (Or.inr ⟨rfl, rfl, rfl⟩)))) (hb hby d22_11) (by decide) (by decide) eh3 hK ⟨br_3, kb_3, rfl, P3, (Nat.le_trans P0.size G3_0), G3_1, G3_2, G3_3⟩
theorem d34_0 : decode jdk_45_method_1_code 0 = .ok (.aload_n 0, 1) := by decide +kernel
theorem d34_1 : decode jdk_45_method_1_code 1 = .ok (.invokespecial 1, 3) := by decide +kernel
theorem d34_4 : decode jdk_45_method_1_code 4 = .ok (.aload_n 0, 1) := by decide +kernel
theorem d34_5 : decode jdk_45_method_1_code 5 = .ok (.aload_n 1, 1) := by decide +kernel
theorem d34_6 : decode jdk_45_method_1_code 6 = .ok (.putfield 7, 3) := by decide +kernel
theorem d34_9 : decode jdk_45_method_1_code 9 = .ok (.aload_n 0, 1) := by decide +kernel
theorem d34_10 : decode jdk_45_method_1_code 10 = .ok (.iload_n 2, 1) := by decide +kernel
theorem d34_11 : decode jdk_45_method_1_code 11 = .ok (.putfield 13, 3) := by decide +kernel
theorem d34_14 : decode jdk_45_method_1_code 14 = .ok (.return_, 1) := by decide +kernel
theorem pn_rm_lni : plainFor (⟨"java/util/ImmutableCollections$ListN", "<init>", "([Ljava/lang/Object;Z)V"⟩ : MethodName) = true := by first | exact plainFor_of_name (by first | (simp [plainName, overriddenIn]; done) | decide +kernel) | decide +kernel
set_option maxRecDepth 65536 in
set_option maxHeartbeats 40000000 in
theorem rm_lni {l : Launch} {Z : State} {a0 : Array Value} (hw : ∀ d ∈ tables_1, d.before a0 Z = true) (o : Addr) (er : Addr) {h0 : Heap} (I0 : Exa Z h0 o "java/util/ImmutableCollections$ListN") (I1 : Fld Z h0 o "java/util/ImmutableCollections$ListN" "elements" "[Ljava/lang/Object;" .null) (I2 : Fld Z h0 o "java/util/ImmutableCollections$ListN" "allowNulls" "Z" (.int (0 : Int32)))  :
    OMet l (⟨"java/util/ImmutableCollections$ListN", "<init>", "([Ljava/lang/Object;Z)V"⟩ : MethodName) jdk_45_method_1_code 3 (Option.none : Option Jvm.ClassFile.FieldType) ({ frames := 4, cells := 0, slots := 0, locals := 48 } : Room) #[(.ref o), (.ref er), (.int (0 : Int32))] Z h0 (fun vR hR LR => vR = none ∧ OPr h0 [o] hR LR ∧ Fld Z hR o "java/util/ImmutableCollections$ListN" "elements" "[Ljava/lang/Object;" (.ref er) ∧ Fld Z hR o "java/util/ImmutableCollections$ListN" "allowNulls" "Z" (.int (0 : Int32))) := by
  refine OMet.body pn_rm_lni (Ls := #[.val (.ref o), .val (.ref er), .val (.int (0 : Int32))]) (fun m => by first | (simp [entryFrame, mkF, argsToLocals, Value.category]; done) | rfl) ?_
  intro p e s m below meth c T0 K hK X0 hx hby hml hown hnm hret hlk hZ eh0
  have P0 := OPr.refl h0 [o]
  refine g_aloadN X0 hx (hb hby d34_0) (rfl : 0 + 1 = 1) rfl rfl ?_
  refine g_special X0 hx hZ hown eh0 (rm_ail hw o) rfl (wd hw 260 rfl) (wd hw 209 rfl) (wd hw 213 rfl) (wd hw 212 rfl) (by decide) (a := o) (argsL := []) (rest := []) rfl rfl (ps := []) (by decide) rfl (W := 0) (Nat.le_of_eq rfl) (by decide) (by decide) (by decide) (by decide) (by rw [hml]; rfl) (hb hby d34_1) (rfl : 1 + 3 = 4) fun v1 T1 hh1 L1 X1 eh1 Q1 => ?_
  obtain ⟨rfl, Pc1⟩ := Q1
  have P1 := P0.call Pc1 all0
  show OGo p e below K T1 (mkF m 4 #[.val (.ref o), .val (.ref er), .val (.int (0 : Int32))] [])
  refine g_aloadN X1 hx (hb hby d34_4) (rfl : 4 + 1 = 5) rfl rfl ?_
  refine g_aloadN X1 hx (hb hby d34_5) (rfl : 5 + 1 = 6) rfl rfl ?_
  have F2 := (fldP I1 Pc1 nin0)
  have F3 := (exaP I0 Pc1)
  refine g_putf X1 hx hZ hown (host := "") (Or.inl (wd hw 264 rfl)) Via.refl eh1 F2 F3 (Or.inr ⟨(wd hw 265 rfl), rfl, hnm⟩) (wd hw 254 rfl) (ty := (.array (.object "java/lang/Object"))) (by decide) rfl rfl P1 (Or.inl (List.mem_of_getElem? (i := 0) rfl)) (hb hby d34_6) (rfl : 6 + 3 = 9) fun T4 hh4 X4 eh4 W4 P4 F4 => ?_
  refine g_aloadN X4 hx (hb hby d34_9) (rfl : 9 + 1 = 10) rfl rfl ?_
  refine g_iloadN X4 hx (hb hby d34_10) (rfl : 10 + 1 = 11) rfl ?_
  have F5 := ((fldP I2 Pc1 nin0).other W4 (Or.inr (slot_ne (Or.inr (wd hw 267 rfl)) (Or.inr (wd hw 265 rfl)) (by decide) (t := .boolean) (by decide) (t' := (.array (.object "java/lang/Object"))) (by decide))))
  have F6 := (F3.wr W4)
  refine g_putf X4 hx hZ hown (host := "") (Or.inl (wd hw 266 rfl)) Via.refl eh4 F5 F6 (Or.inr ⟨(wd hw 267 rfl), rfl, hnm⟩) (wd hw 254 rfl) (ty := .boolean) (by decide) (by decide) (by decide) P4 (Or.inl (List.mem_of_getElem? (i := 0) rfl)) (hb hby d34_11) (rfl : 11 + 3 = 14) fun T7 hh7 X7 eh7 W7 P7 F7 => ?_
  have F8 := (F4.other W7 (Or.inr (slot_ne (Or.inr (wd hw 265 rfl)) (Or.inr (wd hw 267 rfl)) (by decide) (t := (.array (.object "java/lang/Object"))) (by decide) (t' := .boolean) (by decide))))
  exact g_ret0 X7 hx hret hlk (hb hby d34_14) (by decide) (by decide) eh7 hK ⟨rfl, P7, F8, F7⟩
theorem d33_0 : decode jdk_56_method_4_code 0 = .ok (.aload_n 0, 1) := by decide +kernel
theorem d33_1 : decode jdk_56_method_4_code 1 = .ok (.arraylength, 1) := by decide +kernel
theorem d33_2 : decode jdk_56_method_4_code 2 = .ok (.anewarray 2, 3) := by decide +kernel
theorem d33_5 : decode jdk_56_method_4_code 5 = .ok (.astore_n 1, 1) := by decide +kernel
theorem d33_6 : decode jdk_56_method_4_code 6 = .ok (.iconst 0, 1) := by decide +kernel
theorem d33_7 : decode jdk_56_method_4_code 7 = .ok (.istore_n 2, 1) := by decide +kernel
theorem d33_8 : decode jdk_56_method_4_code 8 = .ok (.iload_n 2, 1) := by decide +kernel
theorem d33_9 : decode jdk_56_method_4_code 9 = .ok (.aload_n 0, 1) := by decide +kernel
theorem d33_10 : decode jdk_56_method_4_code 10 = .ok (.arraylength, 1) := by decide +kernel
theorem d33_11 : decode jdk_56_method_4_code 11 = .ok (.if_icmp .ge 18, 3) := by decide +kernel
theorem d33_14 : decode jdk_56_method_4_code 14 = .ok (.aload_n 1, 1) := by decide +kernel
theorem d33_15 : decode jdk_56_method_4_code 15 = .ok (.iload_n 2, 1) := by decide +kernel
theorem d33_16 : decode jdk_56_method_4_code 16 = .ok (.aload_n 0, 1) := by decide +kernel
theorem d33_17 : decode jdk_56_method_4_code 17 = .ok (.iload_n 2, 1) := by decide +kernel
theorem d33_18 : decode jdk_56_method_4_code 18 = .ok (.aaload, 1) := by decide +kernel
theorem d33_19 : decode jdk_56_method_4_code 19 = .ok (.invokestatic 37, 3) := by decide +kernel
theorem d33_22 : decode jdk_56_method_4_code 22 = .ok (.aastore, 1) := by decide +kernel
theorem d33_23 : decode jdk_56_method_4_code 23 = .ok (.iinc 2 1, 3) := by decide +kernel
theorem d33_26 : decode jdk_56_method_4_code 26 = .ok (.goto (-18), 3) := by decide +kernel
theorem d33_29 : decode jdk_56_method_4_code 29 = .ok (.new 12, 3) := by decide +kernel
theorem d33_32 : decode jdk_56_method_4_code 32 = .ok (.dup, 1) := by decide +kernel
theorem d33_33 : decode jdk_56_method_4_code 33 = .ok (.aload_n 1, 1) := by decide +kernel
theorem d33_34 : decode jdk_56_method_4_code 34 = .ok (.iconst 0, 1) := by decide +kernel
theorem d33_35 : decode jdk_56_method_4_code 35 = .ok (.invokespecial 43, 3) := by decide +kernel
theorem d33_38 : decode jdk_56_method_4_code 38 = .ok (.areturn, 1) := by decide +kernel
theorem pn_rm_lfa : plainFor (⟨"java/util/ImmutableCollections", "listFromArray", "([Ljava/lang/Object;)Ljava/util/List;"⟩ : MethodName) = true := by first | exact plainFor_of_name (by first | (simp [plainName, overriddenIn]; done) | decide +kernel) | decide +kernel
set_option maxRecDepth 65536 in
set_option maxHeartbeats 40000000 in
theorem rm_lfa {l : Launch} {Z : State} {a0 : Array Value} (hw : ∀ d ∈ tables_1, d.before a0 Z = true) (br : Addr) (kb : ClassId) (x0 : Addr) (x1 : Addr) (x2 : Addr) {h0 : Heap} (I0 : OAry Z h0 br kb (.object "java/lang/Object") [(.ref x0), (.ref x1), (.ref x2)]) (I1 : Exa Z h0 x0 "java/lang/Integer") (I2 : Exa Z h0 x1 "java/lang/Integer") (I3 : Exa Z h0 x2 "java/lang/Integer")  :
    OMet l (⟨"java/util/ImmutableCollections", "listFromArray", "([Ljava/lang/Object;)Ljava/util/List;"⟩ : MethodName) jdk_56_method_4_code 3 (Option.some (Jvm.ClassFile.FieldType.object "java/util/List")) ({ frames := 5, cells := 2, slots := 5, locals := 63 } : Room) #[(.ref br)] Z h0 (fun vR hR LR => ∃ o : Addr, ∃ er : Addr, ∃ ke : ClassId, vR = some (.ref o) ∧ OPr h0 [] hR LR ∧ h0.size ≤ o ∧ Exa Z hR o "java/util/ImmutableCollections$ListN" ∧ Fld Z hR o "java/util/ImmutableCollections$ListN" "elements" "[Ljava/lang/Object;" (.ref er) ∧ h0.size ≤ er ∧ OAry Z hR er ke (.object "java/lang/Object") [(.ref x0), (.ref x1), (.ref x2)]) := by
  refine OMet.body pn_rm_lfa (Ls := #[.val (.ref br), .unset, .unset]) (fun m => by first | (simp [entryFrame, mkF, argsToLocals, Value.category]; done) | rfl) ?_
  intro p e s m below meth c T0 K hK X0 hx hby hml hown hnm hret hlk hZ eh0
  have P0 := OPr.refl h0 []
  refine g_aloadN X0 hx (hb hby d33_0) (rfl : 0 + 1 = 1) rfl rfl ?_
  refine g_len X0 hx hZ eh0 I0 (z := (3 : Int32)) rfl (hb hby d33_1) (rfl : 1 + 1 = 2) ?_
  refine g_anewarray X0 hx hZ hown (wd hw 252 rfl) (wd hw 67 rfl) (ad := "[Ljava/lang/Object;") (by decide) eh0 (vs := [.null, .null, .null]) (by decide) (by rfl) (cap := 3) (by decide) (by decide) P0 (hb hby d33_2) (rfl : 2 + 3 = 5) (by decide) (by decide) fun T1 hh1 a1 k1 q1 g1 X1 eh1 E1 P1 A1 O1 B1 => ?_
  refine g_astoreN X1 hx (hb hby d33_5) (rfl : 5 + 1 = 6) rfl (Ls' := #[.val (.ref br), .val (.ref a1), .unset]) rfl ?_
  refine g_iconst X1 hx (0 : Int32) (hb hby d33_6) (rfl : 6 + 1 = 7) (by decide) ?_
  refine g_istoreN X1 hx (hb hby d33_7) (rfl : 7 + 1 = 8) (Ls' := #[.val (.ref br), .val (.ref a1), .val (.int (0 : Int32))]) rfl ?_
  refine g_iloadN X1 hx (hb hby d33_8) (rfl : 8 + 1 = 9) rfl ?_
  refine g_aloadN X1 hx (hb hby d33_9) (rfl : 9 + 1 = 10) rfl rfl ?_
  have F2 := (aryE I0 E1)
  refine g_len X1 hx hZ eh1 F2 (z := (3 : Int32)) rfl (hb hby d33_10) (rfl : 10 + 1 = 11) ?_
  refine g_icmpN X1 hx (hb hby d33_11) (XT.ii_ge_f (by decide)) (rfl : 11 + 3 = 14) ?_
  refine g_aloadN X1 hx (hb hby d33_14) (rfl : 14 + 1 = 15) rfl rfl ?_
  refine g_iloadN X1 hx (hb hby d33_15) (rfl : 15 + 1 = 16) rfl ?_
  refine g_aloadN X1 hx (hb hby d33_16) (rfl : 16 + 1 = 17) rfl rfl ?_
  refine g_iloadN X1 hx (hb hby d33_17) (rfl : 17 + 1 = 18) rfl ?_
  refine g_aaload X1 hx hZ eh1 F2 rfl (v := (.ref x0)) (by decide) (by rfl) (hb hby d33_18) (rfl : 18 + 1 = 19) ?_
  refine g_static X1 hx hZ hown eh1 (rm_rnn hw x0) (wd hw 253 rfl) (wd hw 223 rfl) (wd hw 225 rfl) (wd hw 224 rfl) (by decide) (argsL := [(.ref x0)]) (rest := [(.int (0 : Int32)), (.ref a1)]) rfl rfl (ps := [(.object "java/lang/Object")]) (rt := (some (.object "java/lang/Object"))) (by decide) rfl (W := 2) (Nat.le_of_eq rfl) (by decide) (by decide) (by decide) (by decide) (by rw [hml]; rfl) (hb hby d33_19) (rfl : 19 + 3 = 22) fun v3 T3 hh3 L3 X3 eh3 Q3 => ?_
  obtain ⟨rfl, Pc3⟩ := Q3
  have P3 := P1.call Pc3 all0
  show OGo p e below K T3 (mkF m 22 #[.val (.ref br), .val (.ref a1), .val (.int (0 : Int32))] [(.ref x0), (.int (0 : Int32)), (.ref a1)])
  have F4 := (aryP A1 Pc3 nin0)
  have F6 := (exaP I1 P3)
  refine g_aastore X3 hx hZ eh3 F4 rfl (by decide) (by rfl) (vs' := [(.ref x0), .null, .null]) (by rfl) rfl (stoOf F4 O1 (Ins.of_exa F6 (wd hw 68 rfl))) P3 (Or.inr g1) (hb hby d33_22) (rfl : 22 + 1 = 23) fun T5 hh5 X5 eh5 W5 P5 A5 => ?_
  refine g_iinc X5 hx (1 : Int32) (hb hby d33_23) (rfl : 23 + 3 = 26) (by decide) rfl (z := (1 : Int32)) (by decide) (Ls' := #[.val (.ref br), .val (.ref a1), .val (.int (1 : Int32))]) rfl ?_
  refine g_goto X5 hx (hb hby d33_26) (by decide) (pc' := 8) (by decide) ?_
  refine g_iloadN X5 hx (hb hby d33_8) (rfl : 8 + 1 = 9) rfl ?_
  refine g_aloadN X5 hx (hb hby d33_9) (rfl : 9 + 1 = 10) rfl rfl ?_
  have ne7 : br ≠ a1 := Nat.ne_of_lt (Nat.lt_of_lt_of_le (aryLt I0) (Nat.le_of_eq q1.symm))
  have F8 := (aryO (aryP F2 Pc3 nin0) W5 ne7)
  refine g_len X5 hx hZ eh5 F8 (z := (3 : Int32)) rfl (hb hby d33_10) (rfl : 10 + 1 = 11) ?_
  refine g_icmpN X5 hx (hb hby d33_11) (XT.ii_ge_f (by decide)) (rfl : 11 + 3 = 14) ?_
  refine g_aloadN X5 hx (hb hby d33_14) (rfl : 14 + 1 = 15) rfl rfl ?_
  refine g_iloadN X5 hx (hb hby d33_15) (rfl : 15 + 1 = 16) rfl ?_
  refine g_aloadN X5 hx (hb hby d33_16) (rfl : 16 + 1 = 17) rfl rfl ?_
  refine g_iloadN X5 hx (hb hby d33_17) (rfl : 17 + 1 = 18) rfl ?_
  refine g_aaload X5 hx hZ eh5 F8 rfl (v := (.ref x1)) (by decide) (by rfl) (hb hby d33_18) (rfl : 18 + 1 = 19) ?_
  refine g_static X5 hx hZ hown eh5 (rm_rnn hw x1) (wd hw 253 rfl) (wd hw 223 rfl) (wd hw 225 rfl) (wd hw 224 rfl) (by decide) (argsL := [(.ref x1)]) (rest := [(.int (1 : Int32)), (.ref a1)]) rfl rfl (ps := [(.object "java/lang/Object")]) (rt := (some (.object "java/lang/Object"))) (by decide) rfl (W := 2) (Nat.le_of_eq rfl) (by decide) (by decide) (by decide) (by decide) (by rw [hml]; rfl) (hb hby d33_19) (rfl : 19 + 3 = 22) fun v9 T9 hh9 L9 X9 eh9 Q9 => ?_
  obtain ⟨rfl, Pc9⟩ := Q9
  have P9 := P5.call Pc9 all0
  show OGo p e below K T9 (mkF m 22 #[.val (.ref br), .val (.ref a1), .val (.int (1 : Int32))] [(.ref x1), (.int (1 : Int32)), (.ref a1)])
  have F10 := (aryP A5 Pc9 nin0)
  have F12 := (exaP I2 P9)
  refine g_aastore X9 hx hZ eh9 F10 rfl (by decide) (by rfl) (vs' := [(.ref x0), (.ref x1), .null]) (by rfl) rfl (stoOf F10 O1 (Ins.of_exa F12 (wd hw 68 rfl))) P9 (Or.inr g1) (hb hby d33_22) (rfl : 22 + 1 = 23) fun T11 hh11 X11 eh11 W11 P11 A11 => ?_
  refine g_iinc X11 hx (1 : Int32) (hb hby d33_23) (rfl : 23 + 3 = 26) (by decide) rfl (z := (2 : Int32)) (by decide) (Ls' := #[.val (.ref br), .val (.ref a1), .val (.int (2 : Int32))]) rfl ?_
  refine g_goto X11 hx (hb hby d33_26) (by decide) (pc' := 8) (by decide) ?_
  refine g_iloadN X11 hx (hb hby d33_8) (rfl : 8 + 1 = 9) rfl ?_
  refine g_aloadN X11 hx (hb hby d33_9) (rfl : 9 + 1 = 10) rfl rfl ?_
  have F13 := (aryO (aryP F8 Pc9 nin0) W11 ne7)
  refine g_len X11 hx hZ eh11 F13 (z := (3 : Int32)) rfl (hb hby d33_10) (rfl : 10 + 1 = 11) ?_
  refine g_icmpN X11 hx (hb hby d33_11) (XT.ii_ge_f (by decide)) (rfl : 11 + 3 = 14) ?_
  refine g_aloadN X11 hx (hb hby d33_14) (rfl : 14 + 1 = 15) rfl rfl ?_
  refine g_iloadN X11 hx (hb hby d33_15) (rfl : 15 + 1 = 16) rfl ?_
  refine g_aloadN X11 hx (hb hby d33_16) (rfl : 16 + 1 = 17) rfl rfl ?_
  refine g_iloadN X11 hx (hb hby d33_17) (rfl : 17 + 1 = 18) rfl ?_
  refine g_aaload X11 hx hZ eh11 F13 rfl (v := (.ref x2)) (by decide) (by rfl) (hb hby d33_18) (rfl : 18 + 1 = 19) ?_
  refine g_static X11 hx hZ hown eh11 (rm_rnn hw x2) (wd hw 253 rfl) (wd hw 223 rfl) (wd hw 225 rfl) (wd hw 224 rfl) (by decide) (argsL := [(.ref x2)]) (rest := [(.int (2 : Int32)), (.ref a1)]) rfl rfl (ps := [(.object "java/lang/Object")]) (rt := (some (.object "java/lang/Object"))) (by decide) rfl (W := 2) (Nat.le_of_eq rfl) (by decide) (by decide) (by decide) (by decide) (by rw [hml]; rfl) (hb hby d33_19) (rfl : 19 + 3 = 22) fun v14 T14 hh14 L14 X14 eh14 Q14 => ?_
  obtain ⟨rfl, Pc14⟩ := Q14
  have P14 := P11.call Pc14 all0
  show OGo p e below K T14 (mkF m 22 #[.val (.ref br), .val (.ref a1), .val (.int (2 : Int32))] [(.ref x2), (.int (2 : Int32)), (.ref a1)])
  have F15 := (aryP A11 Pc14 nin0)
  have F17 := (exaP I3 P14)
  refine g_aastore X14 hx hZ eh14 F15 rfl (by decide) (by rfl) (vs' := [(.ref x0), (.ref x1), (.ref x2)]) (by rfl) rfl (stoOf F15 O1 (Ins.of_exa F17 (wd hw 68 rfl))) P14 (Or.inr g1) (hb hby d33_22) (rfl : 22 + 1 = 23) fun T16 hh16 X16 eh16 W16 P16 A16 => ?_
  refine g_iinc X16 hx (1 : Int32) (hb hby d33_23) (rfl : 23 + 3 = 26) (by decide) rfl (z := (3 : Int32)) (by decide) (Ls' := #[.val (.ref br), .val (.ref a1), .val (.int (3 : Int32))]) rfl ?_
  refine g_goto X16 hx (hb hby d33_26) (by decide) (pc' := 8) (by decide) ?_
  refine g_iloadN X16 hx (hb hby d33_8) (rfl : 8 + 1 = 9) rfl ?_
  refine g_aloadN X16 hx (hb hby d33_9) (rfl : 9 + 1 = 10) rfl rfl ?_
  have F18 := (aryO (aryP F13 Pc14 nin0) W16 ne7)
  refine g_len X16 hx hZ eh16 F18 (z := (3 : Int32)) rfl (hb hby d33_10) (rfl : 10 + 1 = 11) ?_
  refine g_icmpY X16 hx (hb hby d33_11) (XT.ii_ge_t (by decide)) (by decide) (pc' := 29) (by decide) ?_
  refine g_new X16 hx hZ hown (wd hw 158 rfl) (wd hw 254 rfl) (wd hw 255 rfl) eh16 P16 (hb hby d33_29) (rfl : 29 + 3 = 32) (by decide) (by decide) fun T19 hh19 a19 q19 g19 X19 eh19 E19 P19 A19 D19 => ?_
  have f20 : Fld Z hh19 a19 "java/util/ImmutableCollections$ListN" "elements" "[Ljava/lang/Object;" .null := D19 (Or.inr (wd hw 265 rfl)) (ty := (.array (.object "java/lang/Object"))) (by decide)
  have f21 : Fld Z hh19 a19 "java/util/ImmutableCollections$ListN" "allowNulls" "Z" (.int (0 : Int32)) := D19 (Or.inr (wd hw 267 rfl)) (ty := .boolean) (by decide)
  refine g_dup X19 hx (hb hby d33_32) (rfl : 32 + 1 = 33) rfl ?_
  refine g_aloadN X19 hx (hb hby d33_33) (rfl : 33 + 1 = 34) rfl rfl ?_
  refine g_iconst X19 hx (0 : Int32) (hb hby d33_34) (rfl : 34 + 1 = 35) (by decide) ?_
  refine g_specialN X19 hx hZ hown eh19 (rm_lni hw a19 a1 A19 f20 f21) rfl (wd hw 256 rfl) (wd hw 257 rfl) (wd hw 259 rfl) (wd hw 255 rfl) (by decide) (a := a19) (argsL := [(.ref a1), (.int (0 : Int32))]) (rest := [(.ref a19)]) rfl rfl (ps := [(.array (.object "java/lang/Object")), .boolean]) (by decide) rfl (W := 1) (Nat.le_of_eq rfl) (by decide) (by decide) (by decide) (by decide) (by rw [hml]; rfl) (hb hby d33_35) (rfl : 35 + 3 = 38) fun v22 T22 hh22 L22 X22 eh22 Q22 => ?_
  obtain ⟨rfl, Pc22, G22_0, G22_1⟩ := Q22
  have P22 := P19.call Pc22 (allS (Or.inr g19) all0)
  show OGo p e below K T22 (mkF m 38 #[.val (.ref br), .val (.ref a1), .val (.int (3 : Int32))] [(.ref a19)])
  have F23 := (exaP A19 Pc22)
  have F24 := ((exaP ((exaP ((exaP B1 Pc3).wr W5) Pc9).wr W11) Pc14).wr W16)
  have ne25 : a1 ≠ a19 := Nat.ne_of_lt (Nat.lt_of_lt_of_le F24.lt (Nat.le_of_eq q19.symm))
  have F26 := (aryP (aryE A16 E19) Pc22 (ninS ne25 nin0))
  exact g_ret X22 hx hret hlk rfl (Or.inr (Or.inr (Or.inr (Or.inr ⟨rfl, rfl, rfl⟩)))) (hb hby d33_38) (by decide) (by decide) eh22 hK ⟨a19, a1, k1, rfl, P22, g19, F23, G22_0, g1, F26⟩
theorem d26_59 : decode jdk_40_method_47_code 59 = .ok (.aload_n 0, 1) := by decide +kernel
theorem d26_60 : decode jdk_40_method_47_code 60 = .ok (.invokestatic 109, 3) := by decide +kernel
theorem d26_63 : decode jdk_40_method_47_code 63 = .ok (.areturn, 1) := by decide +kernel
theorem pn_rm_lof_3 : plainFor (⟨"java/util/List", "of", "([Ljava/lang/Object;)Ljava/util/List;"⟩ : MethodName) = true := by first | exact plainFor_of_name (by first | (simp [plainName, overriddenIn]; done) | decide +kernel) | decide +kernel
set_option maxRecDepth 65536 in
set_option maxHeartbeats 40000000 in
theorem rm_lof_3 {l : Launch} {Z : State} {a0 : Array Value} (hw : ∀ d ∈ tables_1, d.before a0 Z = true) (br : Addr) (kb : ClassId) (x0 : Addr) (x1 : Addr) (x2 : Addr) {h0 : Heap} (I0 : OAry Z h0 br kb (.object "java/lang/Object") [(.ref x0), (.ref x1), (.ref x2)]) (I1 : Exa Z h0 x0 "java/lang/Integer") (I2 : Exa Z h0 x1 "java/lang/Integer") (I3 : Exa Z h0 x2 "java/lang/Integer")  :
    OMet l (⟨"java/util/List", "of", "([Ljava/lang/Object;)Ljava/util/List;"⟩ : MethodName) jdk_40_method_47_code 2 (Option.some (Jvm.ClassFile.FieldType.object "java/util/List")) ({ frames := 6, cells := 2, slots := 5, locals := 77 } : Room) #[(.ref br)] Z h0 (fun vR hR LR => ∃ o : Addr, ∃ er : Addr, ∃ ke : ClassId, vR = some (.ref o) ∧ OPr h0 [] hR LR ∧ h0.size ≤ o ∧ Exa Z hR o "java/util/ImmutableCollections$ListN" ∧ Fld Z hR o "java/util/ImmutableCollections$ListN" "elements" "[Ljava/lang/Object;" (.ref er) ∧ h0.size ≤ er ∧ OAry Z hR er ke (.object "java/lang/Object") [(.ref x0), (.ref x1), (.ref x2)]) := by
  refine OMet.body pn_rm_lof_3 (Ls := #[.val (.ref br), .unset]) (fun m => by first | (simp [entryFrame, mkF, argsToLocals, Value.category]; done) | rfl) ?_
  intro p e s m below meth c T0 K hK X0 hx hby hml hown hnm hret hlk hZ eh0
  have P0 := OPr.refl h0 []
  refine g_aloadN X0 hx (hb hby d26_0) (rfl : 0 + 1 = 1) rfl rfl ?_
  refine g_len X0 hx hZ eh0 I0 (z := (3 : Int32)) rfl (hb hby d26_1) (rfl : 1 + 1 = 2) ?_
  refine g_tswOut X0 hx (hb hby d26_2) (by decide) (by decide) (pc' := 59) (by decide) ?_
  refine g_aloadN X0 hx (hb hby d26_59) (rfl : 59 + 1 = 60) rfl rfl ?_
  refine g_static X0 hx hZ hown eh0 (rm_lfa hw br kb x0 x1 x2 I0 I1 I2 I3) (wd hw 249 rfl) (wd hw 250 rfl) (wd hw 251 rfl) (wd hw 151 rfl) (by decide) (argsL := [(.ref br)]) (rest := []) rfl rfl (ps := [(.array (.object "java/lang/Object"))]) (rt := (some (.object "java/util/List"))) (by decide) rfl (W := 0) (Nat.le_of_eq rfl) (by decide) (by decide) (by decide) (by decide) (by rw [hml]; rfl) (hb hby d26_60) (rfl : 60 + 3 = 63) fun v1 T1 hh1 L1 X1 eh1 Q1 => ?_
  obtain ⟨o_1, er_1, ke_1, rfl, Pc1, G1_0, G1_1, G1_2, G1_3, G1_4⟩ := Q1
  have P1 := P0.call Pc1 all0
  show OGo p e below K T1 (mkF m 63 #[.val (.ref br), .unset] [(.ref o_1)])
  exact g_ret X1 hx hret hlk rfl (Or.inr (Or.inr (Or.inr (Or.inr ⟨rfl, rfl, rfl⟩)))) (hb hby d26_63) (by decide) (by decide) eh1 hK ⟨o_1, er_1, ke_1, rfl, P1, (Nat.le_trans P0.size G1_0), G1_1, G1_2, (Nat.le_trans P0.size G1_3), G1_4⟩
theorem pn_rm_lcopy_3 : plainFor (⟨"java/util/ImmutableCollections", "listCopy", "(Ljava/util/Collection;)Ljava/util/List;"⟩ : MethodName) = true := by first | exact plainFor_of_name (by first | (simp [plainName, overriddenIn]; done) | decide +kernel) | decide +kernel
set_option maxRecDepth 65536 in
set_option maxHeartbeats 40000000 in
theorem rm_lcopy_3 {l : Launch} {Z : State} {a0 : Array Value} (hw : ∀ d ∈ tables_1, d.before a0 Z = true) (a : Addr) (ar : Addr) (kr : ClassId) (x0 : Addr) (x1 : Addr) (x2 : Addr) (mr : Addr) {h0 : Heap} (I0 : Exa Z h0 a "java/util/ArrayList") (I1 : Fld Z h0 a "java/util/ArrayList" "elementData" "[Ljava/lang/Object;" (.ref ar)) (I2 : Fld Z h0 a "java/util/ArrayList" "size" "I" (.int (3 : Int32))) (I3 : OAry Z h0 ar kr (.object "java/lang/Object") [(.ref x0), (.ref x1), (.ref x2), .null, .null, .null, .null, .null, .null, .null]) (I4 : Exa Z h0 ar "[Ljava/lang/Object;") (I5 : Exa Z h0 x0 "java/lang/Integer") (I6 : Exa Z h0 x1 "java/lang/Integer") (I7 : Exa Z h0 x2 "java/lang/Integer") (hm : OMir Z "[Ljava/lang/Object;" mr) :
    OMet l (⟨"java/util/ImmutableCollections", "listCopy", "(Ljava/util/Collection;)Ljava/util/List;"⟩ : MethodName) jdk_56_method_3_code 2 (Option.some (Jvm.ClassFile.FieldType.object "java/util/List")) ({ frames := 7, cells := 3, slots := 8, locals := 90 } : Room) #[(.ref a)] Z h0 (fun vR hR LR => ∃ o : Addr, ∃ er : Addr, ∃ ke : ClassId, vR = some (.ref o) ∧ OPr h0 [] hR LR ∧ h0.size ≤ o ∧ Exa Z hR o "java/util/ImmutableCollections$ListN" ∧ Fld Z hR o "java/util/ImmutableCollections$ListN" "elements" "[Ljava/lang/Object;" (.ref er) ∧ h0.size ≤ er ∧ OAry Z hR er ke (.object "java/lang/Object") [(.ref x0), (.ref x1), (.ref x2)]) := by
  refine OMet.body pn_rm_lcopy_3 (Ls := #[.val (.ref a), .unset]) (fun m => by first | (simp [entryFrame, mkF, argsToLocals, Value.category]; done) | rfl) ?_
  intro p e s m below meth c T0 K hK X0 hx hby hml hown hnm hret hlk hZ eh0
  have P0 := OPr.refl h0 []
  refine g_aloadN X0 hx (hb hby d20_0) (rfl : 0 + 1 = 1) rfl rfl ?_
  refine g_instNo X0 hx hZ hown (wd hw 153 rfl) eh0 I0 (noIns (wd hw 154 rfl) (wd hw 202 rfl) (NS.step (wd hw 154 rfl) (NS.step (wd hw 155 rfl) (NS.step (wd hw 156 rfl) (nsRoot (wd hw 157 rfl) (wd hw 202 rfl) (by decide)) (by decide)) (by decide)) (by decide)) (by decide)) (hb hby d20_1) (rfl : 1 + 3 = 4) fun T1 X1 eh1 => ?_
  refine g_ifN X1 hx (hb hby d20_4) (XT.i0_ne_f (by decide)) (rfl : 4 + 3 = 7) ?_
  refine g_aloadN X1 hx (hb hby d20_7) (rfl : 7 + 1 = 8) rfl rfl ?_
  refine g_instNo X1 hx hZ hown (wd hw 158 rfl) eh1 I0 (noIns (wd hw 154 rfl) (wd hw 254 rfl) (NS.step (wd hw 154 rfl) (NS.step (wd hw 155 rfl) (NS.step (wd hw 156 rfl) (nsRoot (wd hw 157 rfl) (wd hw 254 rfl) (by decide)) (by decide)) (by decide)) (by decide)) (by decide)) (hb hby d20_8) (rfl : 8 + 3 = 11) fun T2 X2 eh2 => ?_
  refine g_ifY X2 hx (hb hby d20_11) (XT.i0_eq_t (by decide)) (by decide) (pc' := 31) (by decide) ?_
  refine g_aloadN X2 hx (hb hby d20_31) (rfl : 31 + 1 = 32) rfl rfl ?_
  refine g_face X2 hx hZ hown eh2 (rm_isempty hw a (3 : Int32) I2 (by decide)) (C := "java/util/ArrayList") (wd hw 159 rfl) (wd hw 160 rfl) (wd hw 161 rfl) (wd hw 162 rfl) (wd hw 163 rfl) (wd hw 164 rfl) (wd hw 165 rfl) (wd hw 166 rfl) (wd hw 167 rfl) (wd hw 3 rfl) (by decide) (a := a) I0 (argsL := []) (rest := []) rfl rfl (ps := []) (rt := (some .boolean)) (by decide) rfl (W := 0) (Nat.le_of_eq rfl) (by decide) (by decide) (by decide) (by decide) (by rw [hml]; rfl) (hb hby d20_32) (rfl : 32 + 5 = 37) fun v3 T3 hh3 L3 X3 eh3 Q3 => ?_
  obtain ⟨rfl, Pc3⟩ := Q3
  have P3 := P0.call Pc3 all0
  show OGo p e below K T3 (mkF m 37 #[.val (.ref a), .unset] [(.int (0 : Int32))])
  refine g_ifY X3 hx (hb hby d20_37) (XT.i0_eq_t (by decide)) (by decide) (pc' := 44) (by decide) ?_
  refine g_aloadN X3 hx (hb hby d20_44) (rfl : 44 + 1 = 45) rfl rfl ?_
  have F5 := (exaP I0 Pc3)
  have F6 := (fldP I1 Pc3 nin0)
  have F7 := (fldP I2 Pc3 nin0)
  have F8 := (aryP I3 Pc3 nin0)
  have F9 := (exaP I4 Pc3)
  have F10 := (exaP I5 Pc3)
  have F11 := (exaP I6 Pc3)
  have F12 := (exaP I7 Pc3)
  refine g_face X3 hx hZ hown eh3 (rm_toarr_3 hw a ar kr x0 x1 x2 mr F5 F6 F7 F8 F9 F10 F11 F12 hm) (C := "java/util/ArrayList") (wd hw 168 rfl) (wd hw 169 rfl) (wd hw 170 rfl) (wd hw 171 rfl) (wd hw 172 rfl) (wd hw 173 rfl) (wd hw 174 rfl) (wd hw 166 rfl) (wd hw 175 rfl) (wd hw 3 rfl) (by decide) (a := a) F5 (argsL := []) (rest := []) rfl rfl (ps := []) (rt := (some (.array (.object "java/lang/Object")))) (by decide) rfl (W := 0) (Nat.le_of_eq rfl) (by decide) (by decide) (by decide) (by decide) (by rw [hml]; rfl) (hb hby d20_45) (rfl : 45 + 5 = 50) fun v4 T4 hh4 L4 X4 eh4 Q4 => ?_
  obtain ⟨br_4, kb_4, rfl, Pc4, G4_0, G4_1, G4_2, G4_3⟩ := Q4
  have P4 := P3.call Pc4 all0
  show OGo p e below K T4 (mkF m 50 #[.val (.ref a), .unset] [(.ref br_4)])
  have F14 := (exaP F10 Pc4)
  have F15 := (exaP F11 Pc4)
  have F16 := (exaP F12 Pc4)
  refine g_static X4 hx hZ hown eh4 (rm_lof_3 hw br_4 kb_4 x0 x1 x2 G4_1 F14 F15 F16) (wd hw 198 rfl) (wd hw 199 rfl) (wd hw 200 rfl) (wd hw 147 rfl) (by decide) (argsL := [(.ref br_4)]) (rest := []) rfl rfl (ps := [(.array (.object "java/lang/Object"))]) (rt := (some (.object "java/util/List"))) (by decide) rfl (W := 0) (Nat.le_of_eq rfl) (by decide) (by decide) (by decide) (by decide) (by rw [hml]; rfl) (hb hby d20_50) (rfl : 50 + 3 = 53) fun v13 T13 hh13 L13 X13 eh13 Q13 => ?_
  obtain ⟨o_13, er_13, ke_13, rfl, Pc13, G13_0, G13_1, G13_2, G13_3, G13_4⟩ := Q13
  have P13 := P4.call Pc13 all0
  show OGo p e below K T13 (mkF m 53 #[.val (.ref a), .unset] [(.ref o_13)])
  exact g_ret X13 hx hret hlk rfl (Or.inr (Or.inr (Or.inr (Or.inr ⟨rfl, rfl, rfl⟩)))) (hb hby d20_53) (by decide) (by decide) eh13 hK ⟨o_13, er_13, ke_13, rfl, P13, (Nat.le_trans P4.size G13_0), G13_1, G13_2, (Nat.le_trans P4.size G13_3), G13_4⟩
theorem pn_rm_copyof_3 : plainFor (⟨"java/util/List", "copyOf", "(Ljava/util/Collection;)Ljava/util/List;"⟩ : MethodName) = true := by first | exact plainFor_of_name (by first | (simp [plainName, overriddenIn]; done) | decide +kernel) | decide +kernel
set_option maxRecDepth 65536 in
set_option maxHeartbeats 40000000 in
theorem rm_copyof_3 {l : Launch} {Z : State} {a0 : Array Value} (hw : ∀ d ∈ tables_1, d.before a0 Z = true) (a : Addr) (ar : Addr) (kr : ClassId) (x0 : Addr) (x1 : Addr) (x2 : Addr) (mr : Addr) {h0 : Heap} (I0 : Exa Z h0 a "java/util/ArrayList") (I1 : Fld Z h0 a "java/util/ArrayList" "elementData" "[Ljava/lang/Object;" (.ref ar)) (I2 : Fld Z h0 a "java/util/ArrayList" "size" "I" (.int (3 : Int32))) (I3 : OAry Z h0 ar kr (.object "java/lang/Object") [(.ref x0), (.ref x1), (.ref x2), .null, .null, .null, .null, .null, .null, .null]) (I4 : Exa Z h0 ar "[Ljava/lang/Object;") (I5 : Exa Z h0 x0 "java/lang/Integer") (I6 : Exa Z h0 x1 "java/lang/Integer") (I7 : Exa Z h0 x2 "java/lang/Integer") (hm : OMir Z "[Ljava/lang/Object;" mr) :
    OMet l (⟨"java/util/List", "copyOf", "(Ljava/util/Collection;)Ljava/util/List;"⟩ : MethodName) jdk_40_method_48_code 1 (Option.some (Jvm.ClassFile.FieldType.object "java/util/List")) ({ frames := 8, cells := 3, slots := 8, locals := 103 } : Room) #[(.ref a)] Z h0 (fun vR hR LR => ∃ o : Addr, ∃ er : Addr, ∃ ke : ClassId, vR = some (.ref o) ∧ OPr h0 [] hR LR ∧ h0.size ≤ o ∧ Exa Z hR o "java/util/ImmutableCollections$ListN" ∧ Fld Z hR o "java/util/ImmutableCollections$ListN" "elements" "[Ljava/lang/Object;" (.ref er) ∧ h0.size ≤ er ∧ OAry Z hR er ke (.object "java/lang/Object") [(.ref x0), (.ref x1), (.ref x2)]) := by
  refine OMet.body pn_rm_copyof_3 (Ls := #[.val (.ref a)]) (fun m => by first | (simp [entryFrame, mkF, argsToLocals, Value.category]; done) | rfl) ?_
  intro p e s m below meth c T0 K hK X0 hx hby hml hown hnm hret hlk hZ eh0
  have P0 := OPr.refl h0 []
  refine g_aloadN X0 hx (hb hby d19_0) (rfl : 0 + 1 = 1) rfl rfl ?_
  refine g_static X0 hx hZ hown eh0 (rm_lcopy_3 hw a ar kr x0 x1 x2 mr I0 I1 I2 I3 I4 I5 I6 I7 hm) (wd hw 149 rfl) (wd hw 150 rfl) (wd hw 152 rfl) (wd hw 151 rfl) (by decide) (argsL := [(.ref a)]) (rest := []) rfl rfl (ps := [(.object "java/util/Collection")]) (rt := (some (.object "java/util/List"))) (by decide) rfl (W := 0) (Nat.le_of_eq rfl) (by decide) (by decide) (by decide) (by decide) (by rw [hml]; rfl) (hb hby d19_1) (rfl : 1 + 3 = 4) fun v1 T1 hh1 L1 X1 eh1 Q1 => ?_
  obtain ⟨o_1, er_1, ke_1, rfl, Pc1, G1_0, G1_1, G1_2, G1_3, G1_4⟩ := Q1
  have P1 := P0.call Pc1 all0
  show OGo p e below K T1 (mkF m 4 #[.val (.ref a)] [(.ref o_1)])
  exact g_ret X1 hx hret hlk rfl (Or.inr (Or.inr (Or.inr (Or.inr ⟨rfl, rfl, rfl⟩)))) (hb hby d19_4) (by decide) (by decide) eh1 hK ⟨o_1, er_1, ke_1, rfl, P1, (Nat.le_trans P0.size G1_0), G1_1, G1_2, (Nat.le_trans P0.size G1_3), G1_4⟩
theorem d14_0 : decode jdk_49_method_1_code 0 = .ok (.aload_n 0, 1) := by decide +kernel
theorem d14_1 : decode jdk_49_method_1_code 1 = .ok (.aload_n 1, 1) := by decide +kernel
theorem d14_2 : decode jdk_49_method_1_code 2 = .ok (.putfield 1, 3) := by decide +kernel
theorem d14_5 : decode jdk_49_method_1_code 5 = .ok (.aload_n 0, 1) := by decide +kernel
theorem d14_6 : decode jdk_49_method_1_code 6 = .ok (.invokespecial 7, 3) := by decide +kernel
theorem d14_9 : decode jdk_49_method_1_code 9 = .ok (.aload_n 0, 1) := by decide +kernel
theorem d14_10 : decode jdk_49_method_1_code 10 = .ok (.iconst (-1), 1) := by decide +kernel
theorem d14_11 : decode jdk_49_method_1_code 11 = .ok (.putfield 13, 3) := by decide +kernel
theorem d14_14 : decode jdk_49_method_1_code 14 = .ok (.aload_n 0, 1) := by decide +kernel
theorem d14_15 : decode jdk_49_method_1_code 15 = .ok (.aload_n 0, 1) := by decide +kernel
theorem d14_16 : decode jdk_49_method_1_code 16 = .ok (.getfield 1, 3) := by decide +kernel
theorem d14_19 : decode jdk_49_method_1_code 19 = .ok (.getfield 17, 3) := by decide +kernel
theorem d14_22 : decode jdk_49_method_1_code 22 = .ok (.putfield 22, 3) := by decide +kernel
theorem d14_25 : decode jdk_49_method_1_code 25 = .ok (.return_, 1) := by decide +kernel
theorem pn_rm_iti : plainFor (⟨"java/util/ArrayList$Itr", "<init>", "(Ljava/util/ArrayList;)V"⟩ : MethodName) = true := by first | exact plainFor_of_name (by first | (simp [plainName, overriddenIn]; done) | decide +kernel) | decide +kernel
set_option maxRecDepth 65536 in
set_option maxHeartbeats 40000000 in
theorem rm_iti {l : Launch} {Z : State} {a0 : Array Value} (hw : ∀ d ∈ tables_1, d.before a0 Z = true) (it : Addr) (a : Addr) (mc : Int32) {h0 : Heap} (I0 : Exa Z h0 it "java/util/ArrayList$Itr") (I1 : Fld Z h0 it "java/util/ArrayList$Itr" "this$0" "Ljava/util/ArrayList;" .null) (I2 : Fld Z h0 it "java/util/ArrayList$Itr" "cursor" "I" (.int (0 : Int32))) (I3 : Fld Z h0 it "java/util/ArrayList$Itr" "lastRet" "I" (.int (0 : Int32))) (I4 : Fld Z h0 it "java/util/ArrayList$Itr" "expectedModCount" "I" (.int (0 : Int32))) (I5 : Fld Z h0 a "java/util/AbstractList" "modCount" "I" (.int mc)) (nia : a ≠ it) :
    OMet l (⟨"java/util/ArrayList$Itr", "<init>", "(Ljava/util/ArrayList;)V"⟩ : MethodName) jdk_49_method_1_code 2 (Option.none : Option Jvm.ClassFile.FieldType) ({ frames := 1, cells := 0, slots := 0, locals := 12 } : Room) #[(.ref it), (.ref a)] Z h0 (fun vR hR LR => vR = none ∧ OPr h0 [it] hR LR ∧ Fld Z hR it "java/util/ArrayList$Itr" "this$0" "Ljava/util/ArrayList;" (.ref a) ∧ Fld Z hR it "java/util/ArrayList$Itr" "cursor" "I" (.int (0 : Int32)) ∧ Fld Z hR it "java/util/ArrayList$Itr" "lastRet" "I" (.int (-1 : Int32)) ∧ Fld Z hR it "java/util/ArrayList$Itr" "expectedModCount" "I" (.int mc)) := by
  refine OMet.body pn_rm_iti (Ls := #[.val (.ref it), .val (.ref a)]) (fun m => by first | (simp [entryFrame, mkF, argsToLocals, Value.category]; done) | rfl) ?_
  intro p e s m below meth c T0 K hK X0 hx hby hml hown hnm hret hlk hZ eh0
  have P0 := OPr.refl h0 [it]
  refine g_aloadN X0 hx (hb hby d14_0) (rfl : 0 + 1 = 1) rfl rfl ?_
  refine g_aloadN X0 hx (hb hby d14_1) (rfl : 1 + 1 = 2) rfl rfl ?_
  refine g_putf X0 hx hZ hown (host := "") (Or.inl (wd hw 102 rfl)) Via.refl eh0 I1 I0 (Or.inr ⟨(wd hw 103 rfl), rfl, hnm⟩) (wd hw 96 rfl) (ty := (.object "java/util/ArrayList")) (by decide) rfl rfl P0 (Or.inl (List.mem_of_getElem? (i := 0) rfl)) (hb hby d14_2) (rfl : 2 + 3 = 5) fun T1 hh1 X1 eh1 W1 P1 F1 => ?_
  refine g_aloadN X1 hx (hb hby d14_5) (rfl : 5 + 1 = 6) rfl rfl ?_
  refine g_inito X1 hx hZ hown (wd hw 104 rfl) (wd hw 20 rfl) (wd hw 21 rfl) eh1 (by rw [hml]; rfl) (hb hby d14_6) (rfl : 6 + 3 = 9) (by decide) (W := 0) (Nat.le_of_eq rfl) (by decide) fun T2 X2 eh2 => ?_
  refine g_aloadN X2 hx (hb hby d14_9) (rfl : 9 + 1 = 10) rfl rfl ?_
  refine g_iconst X2 hx (-1 : Int32) (hb hby d14_10) (rfl : 10 + 1 = 11) (by decide) ?_
  have F3 := (I3.other W1 (Or.inr (slot_ne (Or.inl (wd hw 106 rfl)) (Or.inr (wd hw 103 rfl)) (by decide) (t := .int) (by decide) (t' := (.object "java/util/ArrayList")) (by decide))))
  have F4 := (I0.wr W1)
  refine g_putf X2 hx hZ hown (host := "") (Or.inl (wd hw 105 rfl)) Via.refl eh2 F3 F4 (Or.inl (wd hw 106 rfl)) (wd hw 96 rfl) (ty := .int) (by decide) rfl rfl P1 (Or.inl (List.mem_of_getElem? (i := 0) rfl)) (hb hby d14_11) (rfl : 11 + 3 = 14) fun T5 hh5 X5 eh5 W5 P5 F5 => ?_
  refine g_aloadN X5 hx (hb hby d14_14) (rfl : 14 + 1 = 15) rfl rfl ?_
  refine g_aloadN X5 hx (hb hby d14_15) (rfl : 15 + 1 = 16) rfl rfl ?_
  have F6 := (F1.other W5 (Or.inr (slot_ne (Or.inr (wd hw 103 rfl)) (Or.inl (wd hw 106 rfl)) (by decide) (t := (.object "java/util/ArrayList")) (by decide) (t' := .int) (by decide))))
  refine g_getf X5 hx hZ hown (host := "") (Or.inl (wd hw 102 rfl)) Via.refl eh5 F6 (hb hby d14_16) (rfl : 16 + 3 = 19) fun T7 X7 eh7 => ?_
  have F8 := (fldP I5 P5 (ninS nia nin0))
  refine g_getf X7 hx hZ hown (host := "") (Or.inl (wd hw 107 rfl)) (Via.of (wd hw 44 rfl)) eh7 F8 (hb hby d14_19) (rfl : 19 + 3 = 22) fun T9 X9 eh9 => ?_
  have F10 := ((I4.other W1 (Or.inr (slot_ne (Or.inl (wd hw 109 rfl)) (Or.inr (wd hw 103 rfl)) (by decide) (t := .int) (by decide) (t' := (.object "java/util/ArrayList")) (by decide)))).other W5 (Or.inr (slot_ne (Or.inl (wd hw 109 rfl)) (Or.inl (wd hw 106 rfl)) (by decide) (t := .int) (by decide) (t' := .int) (by decide))))
  have F11 := (F4.wr W5)
  refine g_putf X9 hx hZ hown (host := "") (Or.inl (wd hw 108 rfl)) Via.refl eh9 F10 F11 (Or.inl (wd hw 109 rfl)) (wd hw 96 rfl) (ty := .int) (by decide) rfl rfl P5 (Or.inl (List.mem_of_getElem? (i := 0) rfl)) (hb hby d14_22) (rfl : 22 + 3 = 25) fun T12 hh12 X12 eh12 W12 P12 F12 => ?_
  have F13 := (F6.other W12 (Or.inr (slot_ne (Or.inr (wd hw 103 rfl)) (Or.inl (wd hw 109 rfl)) (by decide) (t := (.object "java/util/ArrayList")) (by decide) (t' := .int) (by decide))))
  have F14 := (((I2.other W1 (Or.inr (slot_ne (Or.inl (wd hw 120 rfl)) (Or.inr (wd hw 103 rfl)) (by decide) (t := .int) (by decide) (t' := (.object "java/util/ArrayList")) (by decide)))).other W5 (Or.inr (slot_ne (Or.inl (wd hw 120 rfl)) (Or.inl (wd hw 106 rfl)) (by decide) (t := .int) (by decide) (t' := .int) (by decide)))).other W12 (Or.inr (slot_ne (Or.inl (wd hw 120 rfl)) (Or.inl (wd hw 109 rfl)) (by decide) (t := .int) (by decide) (t' := .int) (by decide))))
  have F15 := (F5.other W12 (Or.inr (slot_ne (Or.inl (wd hw 106 rfl)) (Or.inl (wd hw 109 rfl)) (by decide) (t := .int) (by decide) (t' := .int) (by decide))))
  exact g_ret0 X12 hx hret hlk (hb hby d14_25) (by decide) (by decide) eh12 hK ⟨rfl, P12, F13, F14, F15, F12⟩
theorem d13_0 : decode jdk_38_method_55_code 0 = .ok (.new 267, 3) := by decide +kernel
theorem d13_3 : decode jdk_38_method_55_code 3 = .ok (.dup, 1) := by decide +kernel
theorem d13_4 : decode jdk_38_method_55_code 4 = .ok (.aload_n 0, 1) := by decide +kernel
theorem d13_5 : decode jdk_38_method_55_code 5 = .ok (.invokespecial 269, 3) := by decide +kernel
theorem d13_8 : decode jdk_38_method_55_code 8 = .ok (.areturn, 1) := by decide +kernel
theorem pn_rm_iter : plainFor (⟨"java/util/ArrayList", "iterator", "()Ljava/util/Iterator;"⟩ : MethodName) = true := by first | exact plainFor_of_name (by first | (simp [plainName, overriddenIn]; done) | decide +kernel) | decide +kernel
set_option maxRecDepth 65536 in
set_option maxHeartbeats 40000000 in
theorem rm_iter {l : Launch} {Z : State} {a0 : Array Value} (hw : ∀ d ∈ tables_1, d.before a0 Z = true) (a : Addr) (mc : Int32) {h0 : Heap} (I0 : Exa Z h0 a "java/util/ArrayList") (I1 : Fld Z h0 a "java/util/AbstractList" "modCount" "I" (.int mc))  :
    OMet l (⟨"java/util/ArrayList", "iterator", "()Ljava/util/Iterator;"⟩ : MethodName) jdk_38_method_55_code 1 (Option.some (Jvm.ClassFile.FieldType.object "java/util/Iterator")) ({ frames := 2, cells := 1, slots := 4, locals := 26 } : Room) #[(.ref a)] Z h0 (fun vR hR LR => ∃ it : Addr, vR = some (.ref it) ∧ OPr h0 [] hR LR ∧ h0.size ≤ it ∧ Exa Z hR it "java/util/ArrayList$Itr" ∧ Fld Z hR it "java/util/ArrayList$Itr" "this$0" "Ljava/util/ArrayList;" (.ref a) ∧ Fld Z hR it "java/util/ArrayList$Itr" "cursor" "I" (.int (0 : Int32)) ∧ Fld Z hR it "java/util/ArrayList$Itr" "lastRet" "I" (.int (-1 : Int32)) ∧ Fld Z hR it "java/util/ArrayList$Itr" "expectedModCount" "I" (.int mc)) := by
  refine OMet.body pn_rm_iter (Ls := #[.val (.ref a)]) (fun m => by first | (simp [entryFrame, mkF, argsToLocals, Value.category]; done) | rfl) ?_
  intro p e s m below meth c T0 K hK X0 hx hby hml hown hnm hret hlk hZ eh0
  have P0 := OPr.refl h0 []
  refine g_new X0 hx hZ hown (wd hw 95 rfl) (wd hw 96 rfl) (wd hw 97 rfl) eh0 P0 (hb hby d13_0) (rfl : 0 + 3 = 3) (by decide) (by decide) fun T1 hh1 a1 q1 g1 X1 eh1 E1 P1 A1 D1 => ?_
  have f2 : Fld Z hh1 a1 "java/util/ArrayList$Itr" "this$0" "Ljava/util/ArrayList;" .null := D1 (Or.inr (wd hw 103 rfl)) (ty := (.object "java/util/ArrayList")) (by decide)
  have f3 : Fld Z hh1 a1 "java/util/ArrayList$Itr" "lastRet" "I" (.int (0 : Int32)) := D1 (Or.inl (wd hw 106 rfl)) (ty := .int) (by decide)
  have f4 : Fld Z hh1 a1 "java/util/ArrayList$Itr" "expectedModCount" "I" (.int (0 : Int32)) := D1 (Or.inl (wd hw 109 rfl)) (ty := .int) (by decide)
  have f5 : Fld Z hh1 a1 "java/util/ArrayList$Itr" "cursor" "I" (.int (0 : Int32)) := D1 (Or.inl (wd hw 120 rfl)) (ty := .int) (by decide)
  refine g_dup X1 hx (hb hby d13_3) (rfl : 3 + 1 = 4) rfl ?_
  refine g_aloadN X1 hx (hb hby d13_4) (rfl : 4 + 1 = 5) rfl rfl ?_
  have ne7 : a ≠ a1 := Nat.ne_of_lt (Nat.lt_of_lt_of_le I0.lt (Nat.le_of_eq q1.symm))
  have F8 := (I1.ext E1)
  refine g_special X1 hx hZ hown eh1 (rm_iti hw a1 a mc A1 f2 f5 f3 f4 F8 ne7) rfl (wd hw 98 rfl) (wd hw 99 rfl) (wd hw 101 rfl) (wd hw 97 rfl) (by decide) (a := a1) (argsL := [(.ref a)]) (rest := [(.ref a1)]) rfl rfl (ps := [(.object "java/util/ArrayList")]) (by decide) rfl (W := 1) (Nat.le_of_eq rfl) (by decide) (by decide) (by decide) (by decide) (by rw [hml]; rfl) (hb hby d13_5) (rfl : 5 + 3 = 8) fun v6 T6 hh6 L6 X6 eh6 Q6 => ?_
  obtain ⟨rfl, Pc6, G6_0, G6_1, G6_2, G6_3⟩ := Q6
  have P6 := P1.call Pc6 (allS (Or.inr g1) all0)
  show OGo p e below K T6 (mkF m 8 #[.val (.ref a)] [(.ref a1)])
  have F9 := (exaP A1 Pc6)
  exact g_ret X6 hx hret hlk rfl (Or.inr (Or.inr (Or.inr (Or.inr ⟨rfl, rfl, rfl⟩)))) (hb hby d13_8) (by decide) (by decide) eh6 hK ⟨a1, rfl, P6, g1, F9, G6_0, G6_1, G6_2, G6_3⟩
theorem d15_0 : decode jdk_49_method_2_code 0 = .ok (.aload_n 0, 1) := by decide +kernel
theorem d15_1 : decode jdk_49_method_2_code 1 = .ok (.getfield 25, 3) := by decide +kernel
theorem d15_4 : decode jdk_49_method_2_code 4 = .ok (.aload_n 0, 1) := by decide +kernel
theorem d15_5 : decode jdk_49_method_2_code 5 = .ok (.getfield 1, 3) := by decide +kernel
theorem d15_8 : decode jdk_49_method_2_code 8 = .ok (.getfield 28, 3) := by decide +kernel
theorem d15_11 : decode jdk_49_method_2_code 11 = .ok (.if_icmp .eq 7, 3) := by decide +kernel
theorem d15_14 : decode jdk_49_method_2_code 14 = .ok (.iconst 1, 1) := by decide +kernel
theorem d15_15 : decode jdk_49_method_2_code 15 = .ok (.goto 4, 3) := by decide +kernel
theorem d15_18 : decode jdk_49_method_2_code 18 = .ok (.iconst 0, 1) := by decide +kernel
theorem d15_19 : decode jdk_49_method_2_code 19 = .ok (.ireturn, 1) := by decide +kernel
theorem pn_rm_hasnext : plainFor (⟨"java/util/ArrayList$Itr", "hasNext", "()Z"⟩ : MethodName) = true := by first | exact plainFor_of_name (by first | (simp [plainName, overriddenIn]; done) | decide +kernel) | decide +kernel
set_option maxRecDepth 65536 in
set_option maxHeartbeats 40000000 in
theorem rm_hasnext {l : Launch} {Z : State} {a0 : Array Value} (hw : ∀ d ∈ tables_1, d.before a0 Z = true) (it : Addr) (a : Addr) (cu : Int32) (sz : Int32) (z : Int32) {h0 : Heap} (I0 : Fld Z h0 it "java/util/ArrayList$Itr" "this$0" "Ljava/util/ArrayList;" (.ref a)) (I1 : Fld Z h0 it "java/util/ArrayList$Itr" "cursor" "I" (.int cu)) (I2 : Fld Z h0 a "java/util/ArrayList" "size" "I" (.int sz)) (hz : (if cu = sz then 0 else 1 : Int32) = z) :
    OMet l (⟨"java/util/ArrayList$Itr", "hasNext", "()Z"⟩ : MethodName) jdk_49_method_2_code 1 (Option.some Jvm.ClassFile.FieldType.boolean) ({ frames := 0, cells := 0, slots := 0, locals := 0 } : Room) #[(.ref it)] Z h0 (fun vR hR LR => vR = some (.int z) ∧ OPr h0 [] hR LR) := by
  refine OMet.body pn_rm_hasnext (Ls := #[.val (.ref it)]) (fun m => by first | (simp [entryFrame, mkF, argsToLocals, Value.category]; done) | rfl) ?_
  intro p e s m below meth c T0 K hK X0 hx hby hml hown hnm hret hlk hZ eh0
  have P0 := OPr.refl h0 []
  refine g_aloadN X0 hx (hb hby d15_0) (rfl : 0 + 1 = 1) rfl rfl ?_
  refine g_getf X0 hx hZ hown (host := "") (Or.inl (wd hw 119 rfl)) Via.refl eh0 I1 (hb hby d15_1) (rfl : 1 + 3 = 4) fun T1 X1 eh1 => ?_
  refine g_aloadN X1 hx (hb hby d15_4) (rfl : 4 + 1 = 5) rfl rfl ?_
  refine g_getf X1 hx hZ hown (host := "") (Or.inl (wd hw 102 rfl)) Via.refl eh1 I0 (hb hby d15_5) (rfl : 5 + 3 = 8) fun T2 X2 eh2 => ?_
  refine g_getf X2 hx hZ hown (Or.inr (wd hw 121 rfl)) Via.refl eh2 I2 (hb hby d15_8) (rfl : 8 + 3 = 11) fun T3 X3 eh3 => ?_
  by_cases h : cu = sz
  · refine g_icmpY X3 hx (hb hby d15_11) (XT.ii_eq_t h) (by decide) (pc' := 18) (by decide) ?_
    refine g_iconst X3 hx (0 : Int32) (hb hby d15_18) (rfl : 18 + 1 = 19) (by decide) ?_
    exact g_ret X3 hx hret hlk rfl (Or.inl ⟨rfl, Or.inr (Or.inl rfl), _, rfl⟩) (hb hby d15_19) (by decide) (by decide) eh3 hK ⟨(by rw [← hz, if_pos h]), P0⟩
  · refine g_icmpN X3 hx (hb hby d15_11) (XT.ii_eq_f h) (rfl : 11 + 3 = 14) ?_
    refine g_iconst X3 hx (1 : Int32) (hb hby d15_14) (rfl : 14 + 1 = 15) (by decide) ?_
    refine g_goto X3 hx (hb hby d15_15) (by decide) (pc' := 19) (by decide) ?_
    exact g_ret X3 hx hret hlk rfl (Or.inl ⟨rfl, Or.inr (Or.inl rfl), _, rfl⟩) (hb hby d15_19) (by decide) (by decide) eh3 hK ⟨(by rw [← hz, if_neg h]), P0⟩
theorem d17_0 : decode jdk_49_method_6_code 0 = .ok (.aload_n 0, 1) := by decide +kernel
theorem d17_1 : decode jdk_49_method_6_code 1 = .ok (.getfield 1, 3) := by decide +kernel
theorem d17_4 : decode jdk_49_method_6_code 4 = .ok (.getfield 17, 3) := by decide +kernel
theorem d17_7 : decode jdk_49_method_6_code 7 = .ok (.aload_n 0, 1) := by decide +kernel
theorem d17_8 : decode jdk_49_method_6_code 8 = .ok (.getfield 22, 3) := by decide +kernel
theorem d17_11 : decode jdk_49_method_6_code 11 = .ok (.if_icmp .eq 11, 3) := by decide +kernel
theorem d17_22 : decode jdk_49_method_6_code 22 = .ok (.return_, 1) := by decide +kernel
theorem pn_rm_chk : plainFor (⟨"java/util/ArrayList$Itr", "checkForComodification", "()V"⟩ : MethodName) = true := by first | exact plainFor_of_name (by first | (simp [plainName, overriddenIn]; done) | decide +kernel) | decide +kernel
set_option maxRecDepth 65536 in
set_option maxHeartbeats 40000000 in
theorem rm_chk {l : Launch} {Z : State} {a0 : Array Value} (hw : ∀ d ∈ tables_1, d.before a0 Z = true) (it : Addr) (a : Addr) (mc : Int32) {h0 : Heap} (I0 : Fld Z h0 it "java/util/ArrayList$Itr" "this$0" "Ljava/util/ArrayList;" (.ref a)) (I1 : Fld Z h0 a "java/util/AbstractList" "modCount" "I" (.int mc)) (I2 : Fld Z h0 it "java/util/ArrayList$Itr" "expectedModCount" "I" (.int mc))  :
    OMet l (⟨"java/util/ArrayList$Itr", "checkForComodification", "()V"⟩ : MethodName) jdk_49_method_6_code 1 (Option.none : Option Jvm.ClassFile.FieldType) ({ frames := 0, cells := 0, slots := 0, locals := 0 } : Room) #[(.ref it)] Z h0 (fun vR hR LR => vR = none ∧ OPr h0 [] hR LR) := by
  refine OMet.body pn_rm_chk (Ls := #[.val (.ref it)]) (fun m => by first | (simp [entryFrame, mkF, argsToLocals, Value.category]; done) | rfl) ?_
  intro p e s m below meth c T0 K hK X0 hx hby hml hown hnm hret hlk hZ eh0
  have P0 := OPr.refl h0 []
  refine g_aloadN X0 hx (hb hby d17_0) (rfl : 0 + 1 = 1) rfl rfl ?_
  refine g_getf X0 hx hZ hown (host := "") (Or.inl (wd hw 102 rfl)) Via.refl eh0 I0 (hb hby d17_1) (rfl : 1 + 3 = 4) fun T1 X1 eh1 => ?_
  refine g_getf X1 hx hZ hown (host := "") (Or.inl (wd hw 107 rfl)) (Via.of (wd hw 44 rfl)) eh1 I1 (hb hby d17_4) (rfl : 4 + 3 = 7) fun T2 X2 eh2 => ?_
  refine g_aloadN X2 hx (hb hby d17_7) (rfl : 7 + 1 = 8) rfl rfl ?_
  refine g_getf X2 hx hZ hown (host := "") (Or.inl (wd hw 108 rfl)) Via.refl eh2 I2 (hb hby d17_8) (rfl : 8 + 3 = 11) fun T3 X3 eh3 => ?_
  refine g_icmpY X3 hx (hb hby d17_11) (XT.ii_eq_t rfl) (by decide) (pc' := 22) (by decide) ?_
  exact g_ret0 X3 hx hret hlk (hb hby d17_22) (by decide) (by decide) eh3 hK ⟨rfl, P0⟩
theorem d16_0 : decode jdk_49_method_3_code 0 = .ok (.aload_n 0, 1) := by decide +kernel
theorem d16_1 : decode jdk_49_method_3_code 1 = .ok (.invokevirtual 31, 3) := by decide +kernel
theorem d16_4 : decode jdk_49_method_3_code 4 = .ok (.aload_n 0, 1) := by decide +kernel
theorem d16_5 : decode jdk_49_method_3_code 5 = .ok (.getfield 25, 3) := by decide +kernel
theorem d16_8 : decode jdk_49_method_3_code 8 = .ok (.istore_n 1, 1) := by decide +kernel
theorem d16_9 : decode jdk_49_method_3_code 9 = .ok (.iload_n 1, 1) := by decide +kernel
theorem d16_10 : decode jdk_49_method_3_code 10 = .ok (.aload_n 0, 1) := by decide +kernel
theorem d16_11 : decode jdk_49_method_3_code 11 = .ok (.getfield 1, 3) := by decide +kernel
theorem d16_14 : decode jdk_49_method_3_code 14 = .ok (.getfield 28, 3) := by decide +kernel
theorem d16_17 : decode jdk_49_method_3_code 17 = .ok (.if_icmp .lt 11, 3) := by decide +kernel
theorem d16_28 : decode jdk_49_method_3_code 28 = .ok (.aload_n 0, 1) := by decide +kernel
theorem d16_29 : decode jdk_49_method_3_code 29 = .ok (.getfield 1, 3) := by decide +kernel
theorem d16_32 : decode jdk_49_method_3_code 32 = .ok (.getfield 37, 3) := by decide +kernel
theorem d16_35 : decode jdk_49_method_3_code 35 = .ok (.astore_n 2, 1) := by decide +kernel
theorem d16_36 : decode jdk_49_method_3_code 36 = .ok (.iload_n 1, 1) := by decide +kernel
theorem d16_37 : decode jdk_49_method_3_code 37 = .ok (.aload_n 2, 1) := by decide +kernel
theorem d16_38 : decode jdk_49_method_3_code 38 = .ok (.arraylength, 1) := by decide +kernel
theorem d16_39 : decode jdk_49_method_3_code 39 = .ok (.if_icmp .lt 11, 3) := by decide +kernel
theorem d16_50 : decode jdk_49_method_3_code 50 = .ok (.aload_n 0, 1) := by decide +kernel
theorem d16_51 : decode jdk_49_method_3_code 51 = .ok (.iload_n 1, 1) := by decide +kernel
theorem d16_52 : decode jdk_49_method_3_code 52 = .ok (.iconst 1, 1) := by decide +kernel
theorem d16_53 : decode jdk_49_method_3_code 53 = .ok (.iadd, 1) := by decide +kernel
theorem d16_54 : decode jdk_49_method_3_code 54 = .ok (.putfield 25, 3) := by decide +kernel
theorem d16_57 : decode jdk_49_method_3_code 57 = .ok (.aload_n 2, 1) := by decide +kernel
theorem d16_58 : decode jdk_49_method_3_code 58 = .ok (.aload_n 0, 1) := by decide +kernel
theorem d16_59 : decode jdk_49_method_3_code 59 = .ok (.iload_n 1, 1) := by decide +kernel
theorem d16_60 : decode jdk_49_method_3_code 60 = .ok (.dup_x1, 1) := by decide +kernel
theorem d16_61 : decode jdk_49_method_3_code 61 = .ok (.putfield 13, 3) := by decide +kernel
theorem d16_64 : decode jdk_49_method_3_code 64 = .ok (.aaload, 1) := by decide +kernel
theorem d16_65 : decode jdk_49_method_3_code 65 = .ok (.areturn, 1) := by decide +kernel
theorem pn_rm_next_1_0 : plainFor (⟨"java/util/ArrayList$Itr", "next", "()Ljava/lang/Object;"⟩ : MethodName) = true := by first | exact plainFor_of_name (by first | (simp [plainName, overriddenIn]; done) | decide +kernel) | decide +kernel
set_option maxRecDepth 65536 in
set_option maxHeartbeats 40000000 in
theorem rm_next_1_0 {l : Launch} {Z : State} {a0 : Array Value} (hw : ∀ d ∈ tables_1, d.before a0 Z = true) (it : Addr) (a : Addr) (ar : Addr) (kr : ClassId) (mc : Int32) (lr : Int32) (x0 : Addr) {h0 : Heap} (I0 : Exa Z h0 it "java/util/ArrayList$Itr") (I1 : Fld Z h0 it "java/util/ArrayList$Itr" "this$0" "Ljava/util/ArrayList;" (.ref a)) (I2 : Fld Z h0 it "java/util/ArrayList$Itr" "cursor" "I" (.int (0 : Int32))) (I3 : Fld Z h0 it "java/util/ArrayList$Itr" "lastRet" "I" (.int lr)) (I4 : Fld Z h0 it "java/util/ArrayList$Itr" "expectedModCount" "I" (.int mc)) (I5 : Fld Z h0 a "java/util/AbstractList" "modCount" "I" (.int mc)) (I6 : Fld Z h0 a "java/util/ArrayList" "size" "I" (.int (1 : Int32))) (I7 : Fld Z h0 a "java/util/ArrayList" "elementData" "[Ljava/lang/Object;" (.ref ar)) (I8 : OAry Z h0 ar kr (.object "java/lang/Object") [(.ref x0), .null, .null, .null, .null, .null, .null, .null, .null, .null]) (nia : a ≠ it) (nira : ar ≠ it) :
    OMet l (⟨"java/util/ArrayList$Itr", "next", "()Ljava/lang/Object;"⟩ : MethodName) jdk_49_method_3_code 3 (Option.some (Jvm.ClassFile.FieldType.object "java/lang/Object")) ({ frames := 1, cells := 0, slots := 0, locals := 12 } : Room) #[(.ref it)] Z h0 (fun vR hR LR => vR = some (.ref x0) ∧ OPr h0 [it] hR LR ∧ Fld Z hR it "java/util/ArrayList$Itr" "this$0" "Ljava/util/ArrayList;" (.ref a) ∧ Fld Z hR it "java/util/ArrayList$Itr" "cursor" "I" (.int (1 : Int32)) ∧ Fld Z hR it "java/util/ArrayList$Itr" "lastRet" "I" (.int (0 : Int32)) ∧ Fld Z hR it "java/util/ArrayList$Itr" "expectedModCount" "I" (.int mc)) := by
  refine OMet.body pn_rm_next_1_0 (Ls := #[.val (.ref it), .unset, .unset]) (fun m => by first | (simp [entryFrame, mkF, argsToLocals, Value.category]; done) | rfl) ?_
  intro p e s m below meth c T0 K hK X0 hx hby hml hown hnm hret hlk hZ eh0
  have P0 := OPr.refl h0 [it]
  refine g_aloadN X0 hx (hb hby d16_0) (rfl : 0 + 1 = 1) rfl rfl ?_
  refine g_virtual X0 hx hZ hown eh0 (rm_chk hw it a mc I1 I5 I4) (C := "java/util/ArrayList$Itr") (wd hw 130 rfl) (wd hw 131 rfl) (notFace_of_selects (args := #[]) (mvT hZ (wd hw 133 rfl))) (wd hw 133 rfl) (wd hw 132 rfl) (wd hw 134 rfl) (wd hw 97 rfl) (by decide) (a := it) I0 (argsL := []) (rest := []) rfl rfl (ps := []) (rt := none) (by decide) rfl (W := 0) (Nat.le_of_eq rfl) (by decide) (by decide) (by decide) (by decide) (by rw [hml]; rfl) (hb hby d16_1) (rfl : 1 + 3 = 4) fun v1 T1 hh1 L1 X1 eh1 Q1 => ?_
  obtain ⟨rfl, Pc1⟩ := Q1
  have P1 := P0.call Pc1 all0
  show OGo p e below K T1 (mkF m 4 #[.val (.ref it), .unset, .unset] [])
  refine g_aloadN X1 hx (hb hby d16_4) (rfl : 4 + 1 = 5) rfl rfl ?_
  have F2 := (fldP I2 Pc1 nin0)
  refine g_getf X1 hx hZ hown (host := "") (Or.inl (wd hw 119 rfl)) Via.refl eh1 F2 (hb hby d16_5) (rfl : 5 + 3 = 8) fun T3 X3 eh3 => ?_
  refine g_istoreN X3 hx (hb hby d16_8) (rfl : 8 + 1 = 9) (Ls' := #[.val (.ref it), .val (.int (0 : Int32)), .unset]) rfl ?_
  refine g_iloadN X3 hx (hb hby d16_9) (rfl : 9 + 1 = 10) rfl ?_
  refine g_aloadN X3 hx (hb hby d16_10) (rfl : 10 + 1 = 11) rfl rfl ?_
  have F4 := (fldP I1 Pc1 nin0)
  refine g_getf X3 hx hZ hown (host := "") (Or.inl (wd hw 102 rfl)) Via.refl eh3 F4 (hb hby d16_11) (rfl : 11 + 3 = 14) fun T5 X5 eh5 => ?_
  have F6 := (fldP I6 Pc1 nin0)
  refine g_getf X5 hx hZ hown (Or.inr (wd hw 121 rfl)) Via.refl eh5 F6 (hb hby d16_14) (rfl : 14 + 3 = 17) fun T7 X7 eh7 => ?_
  refine g_icmpY X7 hx (hb hby d16_17) (XT.ii_lt_t (by decide)) (by decide) (pc' := 28) (by decide) ?_
  refine g_aloadN X7 hx (hb hby d16_28) (rfl : 28 + 1 = 29) rfl rfl ?_
  refine g_getf X7 hx hZ hown (host := "") (Or.inl (wd hw 102 rfl)) Via.refl eh7 F4 (hb hby d16_29) (rfl : 29 + 3 = 32) fun T8 X8 eh8 => ?_
  have F9 := (fldP I7 Pc1 nin0)
  refine g_getf X8 hx hZ hown (host := "") (Or.inl (wd hw 135 rfl)) Via.refl eh8 F9 (hb hby d16_32) (rfl : 32 + 3 = 35) fun T10 X10 eh10 => ?_
  refine g_astoreN X10 hx (hb hby d16_35) (rfl : 35 + 1 = 36) rfl (Ls' := #[.val (.ref it), .val (.int (0 : Int32)), .val (.ref ar)]) rfl ?_
  refine g_iloadN X10 hx (hb hby d16_36) (rfl : 36 + 1 = 37) rfl ?_
  refine g_aloadN X10 hx (hb hby d16_37) (rfl : 37 + 1 = 38) rfl rfl ?_
  have F11 := (aryP I8 Pc1 nin0)
  refine g_len X10 hx hZ eh10 F11 (z := (10 : Int32)) rfl (hb hby d16_38) (rfl : 38 + 1 = 39) ?_
  refine g_icmpY X10 hx (hb hby d16_39) (XT.ii_lt_t (by decide)) (by decide) (pc' := 50) (by decide) ?_
  refine g_aloadN X10 hx (hb hby d16_50) (rfl : 50 + 1 = 51) rfl rfl ?_
  refine g_iloadN X10 hx (hb hby d16_51) (rfl : 51 + 1 = 52) rfl ?_
  refine g_iconst X10 hx (1 : Int32) (hb hby d16_52) (rfl : 52 + 1 = 53) (by decide) ?_
  refine g_iadd X10 hx (hb hby d16_53) (rfl : 53 + 1 = 54) (z := (1 : Int32)) (by decide) ?_
  have F12 := (exaP I0 Pc1)
  refine g_putf X10 hx hZ hown (host := "") (Or.inl (wd hw 119 rfl)) Via.refl eh10 F2 F12 (Or.inl (wd hw 120 rfl)) (wd hw 96 rfl) (ty := .int) (by decide) rfl rfl P1 (Or.inl (List.mem_of_getElem? (i := 0) rfl)) (hb hby d16_54) (rfl : 54 + 3 = 57) fun T13 hh13 X13 eh13 W13 P13 F13 => ?_
  refine g_aloadN X13 hx (hb hby d16_57) (rfl : 57 + 1 = 58) rfl rfl ?_
  refine g_aloadN X13 hx (hb hby d16_58) (rfl : 58 + 1 = 59) rfl rfl ?_
  refine g_iloadN X13 hx (hb hby d16_59) (rfl : 59 + 1 = 60) rfl ?_
  refine g_dupx1 X13 hx (hb hby d16_60) (rfl : 60 + 1 = 61) rfl rfl ?_
  have F14 := ((fldP I3 Pc1 nin0).other W13 (Or.inr (slot_ne (Or.inl (wd hw 106 rfl)) (Or.inl (wd hw 120 rfl)) (by decide) (t := .int) (by decide) (t' := .int) (by decide))))
  have F15 := (F12.wr W13)
  refine g_putf X13 hx hZ hown (host := "") (Or.inl (wd hw 105 rfl)) Via.refl eh13 F14 F15 (Or.inl (wd hw 106 rfl)) (wd hw 96 rfl) (ty := .int) (by decide) rfl rfl P13 (Or.inl (List.mem_of_getElem? (i := 0) rfl)) (hb hby d16_61) (rfl : 61 + 3 = 64) fun T16 hh16 X16 eh16 W16 P16 F16 => ?_
  have F17 := (aryO (aryO F11 W13 nira) W16 nira)
  refine g_aaload X16 hx hZ eh16 F17 rfl (v := (.ref x0)) (by decide) (by rfl) (hb hby d16_64) (rfl : 64 + 1 = 65) ?_
  have F18 := ((F4.other W13 (Or.inr (slot_ne (Or.inr (wd hw 103 rfl)) (Or.inl (wd hw 120 rfl)) (by decide) (t := (.object "java/util/ArrayList")) (by decide) (t' := .int) (by decide)))).other W16 (Or.inr (slot_ne (Or.inr (wd hw 103 rfl)) (Or.inl (wd hw 106 rfl)) (by decide) (t := (.object "java/util/ArrayList")) (by decide) (t' := .int) (by decide))))
  have F19 := (F13.other W16 (Or.inr (slot_ne (Or.inl (wd hw 120 rfl)) (Or.inl (wd hw 106 rfl)) (by decide) (t := .int) (by decide) (t' := .int) (by decide))))
  have F20 := (((fldP I4 Pc1 nin0).other W13 (Or.inr (slot_ne (Or.inl (wd hw 109 rfl)) (Or.inl (wd hw 120 rfl)) (by decide) (t := .int) (by decide) (t' := .int) (by decide)))).other W16 (Or.inr (slot_ne (Or.inl (wd hw 109 rfl)) (Or.inl (wd hw 106 rfl)) (by decide) (t := .int) (by decide) (t' := .int) (by decide))))
  exact g_ret X16 hx hret hlk rfl (Or.inr (Or.inr (Or.inr (Or.inr ⟨rfl, rfl, rfl⟩)))) (hb hby d16_65) (by decide) (by decide) eh16 hK ⟨rfl, P16, F18, F19, F16, F20⟩
theorem pn_rm_next_2_0 : plainFor (⟨"java/util/ArrayList$Itr", "next", "()Ljava/lang/Object;"⟩ : MethodName) = true := by first | exact plainFor_of_name (by first | (simp [plainName, overriddenIn]; done) | decide +kernel) | decide +kernel
set_option maxRecDepth 65536 in
set_option maxHeartbeats 40000000 in
theorem rm_next_2_0 {l : Launch} {Z : State} {a0 : Array Value} (hw : ∀ d ∈ tables_1, d.before a0 Z = true) (it : Addr) (a : Addr) (ar : Addr) (kr : ClassId) (mc : Int32) (lr : Int32) (x0 : Addr) (x1 : Addr) {h0 : Heap} (I0 : Exa Z h0 it "java/util/ArrayList$Itr") (I1 : Fld Z h0 it "java/util/ArrayList$Itr" "this$0" "Ljava/util/ArrayList;" (.ref a)) (I2 : Fld Z h0 it "java/util/ArrayList$Itr" "cursor" "I" (.int (0 : Int32))) (I3 : Fld Z h0 it "java/util/ArrayList$Itr" "lastRet" "I" (.int lr)) (I4 : Fld Z h0 it "java/util/ArrayList$Itr" "expectedModCount" "I" (.int mc)) (I5 : Fld Z h0 a "java/util/AbstractList" "modCount" "I" (.int mc)) (I6 : Fld Z h0 a "java/util/ArrayList" "size" "I" (.int (2 : Int32))) (I7 : Fld Z h0 a "java/util/ArrayList" "elementData" "[Ljava/lang/Object;" (.ref ar)) (I8 : OAry Z h0 ar kr (.object "java/lang/Object") [(.ref x0), (.ref x1), .null, .null, .null, .null, .null, .null, .null, .null]) (nia : a ≠ it) (nira : ar ≠ it) :
    OMet l (⟨"java/util/ArrayList$Itr", "next", "()Ljava/lang/Object;"⟩ : MethodName) jdk_49_method_3_code 3 (Option.some (Jvm.ClassFile.FieldType.object "java/lang/Object")) ({ frames := 1, cells := 0, slots := 0, locals := 12 } : Room) #[(.ref it)] Z h0 (fun vR hR LR => vR = some (.ref x0) ∧ OPr h0 [it] hR LR ∧ Fld Z hR it "java/util/ArrayList$Itr" "this$0" "Ljava/util/ArrayList;" (.ref a) ∧ Fld Z hR it "java/util/ArrayList$Itr" "cursor" "I" (.int (1 : Int32)) ∧ Fld Z hR it "java/util/ArrayList$Itr" "lastRet" "I" (.int (0 : Int32)) ∧ Fld Z hR it "java/util/ArrayList$Itr" "expectedModCount" "I" (.int mc)) := by
  refine OMet.body pn_rm_next_2_0 (Ls := #[.val (.ref it), .unset, .unset]) (fun m => by first | (simp [entryFrame, mkF, argsToLocals, Value.category]; done) | rfl) ?_
  intro p e s m below meth c T0 K hK X0 hx hby hml hown hnm hret hlk hZ eh0
  have P0 := OPr.refl h0 [it]
  refine g_aloadN X0 hx (hb hby d16_0) (rfl : 0 + 1 = 1) rfl rfl ?_
  refine g_virtual X0 hx hZ hown eh0 (rm_chk hw it a mc I1 I5 I4) (C := "java/util/ArrayList$Itr") (wd hw 130 rfl) (wd hw 131 rfl) (notFace_of_selects (args := #[]) (mvT hZ (wd hw 133 rfl))) (wd hw 133 rfl) (wd hw 132 rfl) (wd hw 134 rfl) (wd hw 97 rfl) (by decide) (a := it) I0 (argsL := []) (rest := []) rfl rfl (ps := []) (rt := none) (by decide) rfl (W := 0) (Nat.le_of_eq rfl) (by decide) (by decide) (by decide) (by decide) (by rw [hml]; rfl) (hb hby d16_1) (rfl : 1 + 3 = 4) fun v1 T1 hh1 L1 X1 eh1 Q1 => ?_
  obtain ⟨rfl, Pc1⟩ := Q1
  have P1 := P0.call Pc1 all0
  show OGo p e below K T1 (mkF m 4 #[.val (.ref it), .unset, .unset] [])
  refine g_aloadN X1 hx (hb hby d16_4) (rfl : 4 + 1 = 5) rfl rfl ?_
  have F2 := (fldP I2 Pc1 nin0)
  refine g_getf X1 hx hZ hown (host := "") (Or.inl (wd hw 119 rfl)) Via.refl eh1 F2 (hb hby d16_5) (rfl : 5 + 3 = 8) fun T3 X3 eh3 => ?_
  refine g_istoreN X3 hx (hb hby d16_8) (rfl : 8 + 1 = 9) (Ls' := #[.val (.ref it), .val (.int (0 : Int32)), .unset]) rfl ?_
  refine g_iloadN X3 hx (hb hby d16_9) (rfl : 9 + 1 = 10) rfl ?_
  refine g_aloadN X3 hx (hb hby d16_10) (rfl : 10 + 1 = 11) rfl rfl ?_
  have F4 := (fldP I1 Pc1 nin0)
  refine g_getf X3 hx hZ hown (host := "") (Or.inl (wd hw 102 rfl)) Via.refl eh3 F4 (hb hby d16_11) (rfl : 11 + 3 = 14) fun T5 X5 eh5 => ?_
  have F6 := (fldP I6 Pc1 nin0)
  refine g_getf X5 hx hZ hown (Or.inr (wd hw 121 rfl)) Via.refl eh5 F6 (hb hby d16_14) (rfl : 14 + 3 = 17) fun T7 X7 eh7 => ?_
  refine g_icmpY X7 hx (hb hby d16_17) (XT.ii_lt_t (by decide)) (by decide) (pc' := 28) (by decide) ?_
  refine g_aloadN X7 hx (hb hby d16_28) (rfl : 28 + 1 = 29) rfl rfl ?_
  refine g_getf X7 hx hZ hown (host := "") (Or.inl (wd hw 102 rfl)) Via.refl eh7 F4 (hb hby d16_29) (rfl : 29 + 3 = 32) fun T8 X8 eh8 => ?_
  have F9 := (fldP I7 Pc1 nin0)
  refine g_getf X8 hx hZ hown (host := "") (Or.inl (wd hw 135 rfl)) Via.refl eh8 F9 (hb hby d16_32) (rfl : 32 + 3 = 35) fun T10 X10 eh10 => ?_
  refine g_astoreN X10 hx (hb hby d16_35) (rfl : 35 + 1 = 36) rfl (Ls' := #[.val (.ref it), .val (.int (0 : Int32)), .val (.ref ar)]) rfl ?_
  refine g_iloadN X10 hx (hb hby d16_36) (rfl : 36 + 1 = 37) rfl ?_
  refine g_aloadN X10 hx (hb hby d16_37) (rfl : 37 + 1 = 38) rfl rfl ?_
  have F11 := (aryP I8 Pc1 nin0)
  refine g_len X10 hx hZ eh10 F11 (z := (10 : Int32)) rfl (hb hby d16_38) (rfl : 38 + 1 = 39) ?_
  refine g_icmpY X10 hx (hb hby d16_39) (XT.ii_lt_t (by decide)) (by decide) (pc' := 50) (by decide) ?_
  refine g_aloadN X10 hx (hb hby d16_50) (rfl : 50 + 1 = 51) rfl rfl ?_
  refine g_iloadN X10 hx (hb hby d16_51) (rfl : 51 + 1 = 52) rfl ?_
  refine g_iconst X10 hx (1 : Int32) (hb hby d16_52) (rfl : 52 + 1 = 53) (by decide) ?_
  refine g_iadd X10 hx (hb hby d16_53) (rfl : 53 + 1 = 54) (z := (1 : Int32)) (by decide) ?_
  have F12 := (exaP I0 Pc1)
  refine g_putf X10 hx hZ hown (host := "") (Or.inl (wd hw 119 rfl)) Via.refl eh10 F2 F12 (Or.inl (wd hw 120 rfl)) (wd hw 96 rfl) (ty := .int) (by decide) rfl rfl P1 (Or.inl (List.mem_of_getElem? (i := 0) rfl)) (hb hby d16_54) (rfl : 54 + 3 = 57) fun T13 hh13 X13 eh13 W13 P13 F13 => ?_
  refine g_aloadN X13 hx (hb hby d16_57) (rfl : 57 + 1 = 58) rfl rfl ?_
  refine g_aloadN X13 hx (hb hby d16_58) (rfl : 58 + 1 = 59) rfl rfl ?_
  refine g_iloadN X13 hx (hb hby d16_59) (rfl : 59 + 1 = 60) rfl ?_
  refine g_dupx1 X13 hx (hb hby d16_60) (rfl : 60 + 1 = 61) rfl rfl ?_
  have F14 := ((fldP I3 Pc1 nin0).other W13 (Or.inr (slot_ne (Or.inl (wd hw 106 rfl)) (Or.inl (wd hw 120 rfl)) (by decide) (t := .int) (by decide) (t' := .int) (by decide))))
  have F15 := (F12.wr W13)
  refine g_putf X13 hx hZ hown (host := "") (Or.inl (wd hw 105 rfl)) Via.refl eh13 F14 F15 (Or.inl (wd hw 106 rfl)) (wd hw 96 rfl) (ty := .int) (by decide) rfl rfl P13 (Or.inl (List.mem_of_getElem? (i := 0) rfl)) (hb hby d16_61) (rfl : 61 + 3 = 64) fun T16 hh16 X16 eh16 W16 P16 F16 => ?_
  have F17 := (aryO (aryO F11 W13 nira) W16 nira)
  refine g_aaload X16 hx hZ eh16 F17 rfl (v := (.ref x0)) (by decide) (by rfl) (hb hby d16_64) (rfl : 64 + 1 = 65) ?_
  have F18 := ((F4.other W13 (Or.inr (slot_ne (Or.inr (wd hw 103 rfl)) (Or.inl (wd hw 120 rfl)) (by decide) (t := (.object "java/util/ArrayList")) (by decide) (t' := .int) (by decide)))).other W16 (Or.inr (slot_ne (Or.inr (wd hw 103 rfl)) (Or.inl (wd hw 106 rfl)) (by decide) (t := (.object "java/util/ArrayList")) (by decide) (t' := .int) (by decide))))
  have F19 := (F13.other W16 (Or.inr (slot_ne (Or.inl (wd hw 120 rfl)) (Or.inl (wd hw 106 rfl)) (by decide) (t := .int) (by decide) (t' := .int) (by decide))))
  have F20 := (((fldP I4 Pc1 nin0).other W13 (Or.inr (slot_ne (Or.inl (wd hw 109 rfl)) (Or.inl (wd hw 120 rfl)) (by decide) (t := .int) (by decide) (t' := .int) (by decide)))).other W16 (Or.inr (slot_ne (Or.inl (wd hw 109 rfl)) (Or.inl (wd hw 106 rfl)) (by decide) (t := .int) (by decide) (t' := .int) (by decide))))
  exact g_ret X16 hx hret hlk rfl (Or.inr (Or.inr (Or.inr (Or.inr ⟨rfl, rfl, rfl⟩)))) (hb hby d16_65) (by decide) (by decide) eh16 hK ⟨rfl, P16, F18, F19, F16, F20⟩
theorem pn_rm_next_2_1 : plainFor (⟨"java/util/ArrayList$Itr", "next", "()Ljava/lang/Object;"⟩ : MethodName) = true := by first | exact plainFor_of_name (by first | (simp [plainName, overriddenIn]; done) | decide +kernel) | decide +kernel
set_option maxRecDepth 65536 in
set_option maxHeartbeats 40000000 in
theorem rm_next_2_1 {l : Launch} {Z : State} {a0 : Array Value} (hw : ∀ d ∈ tables_1, d.before a0 Z = true) (it : Addr) (a : Addr) (ar : Addr) (kr : ClassId) (mc : Int32) (lr : Int32) (x0 : Addr) (x1 : Addr) {h0 : Heap} (I0 : Exa Z h0 it "java/util/ArrayList$Itr") (I1 : Fld Z h0 it "java/util/ArrayList$Itr" "this$0" "Ljava/util/ArrayList;" (.ref a)) (I2 : Fld Z h0 it "java/util/ArrayList$Itr" "cursor" "I" (.int (1 : Int32))) (I3 : Fld Z h0 it "java/util/ArrayList$Itr" "lastRet" "I" (.int lr)) (I4 : Fld Z h0 it "java/util/ArrayList$Itr" "expectedModCount" "I" (.int mc)) (I5 : Fld Z h0 a "java/util/AbstractList" "modCount" "I" (.int mc)) (I6 : Fld Z h0 a "java/util/ArrayList" "size" "I" (.int (2 : Int32))) (I7 : Fld Z h0 a "java/util/ArrayList" "elementData" "[Ljava/lang/Object;" (.ref ar)) (I8 : OAry Z h0 ar kr (.object "java/lang/Object") [(.ref x0), (.ref x1), .null, .null, .null, .null, .null, .null, .null, .null]) (nia : a ≠ it) (nira : ar ≠ it) :
    OMet l (⟨"java/util/ArrayList$Itr", "next", "()Ljava/lang/Object;"⟩ : MethodName) jdk_49_method_3_code 3 (Option.some (Jvm.ClassFile.FieldType.object "java/lang/Object")) ({ frames := 1, cells := 0, slots := 0, locals := 12 } : Room) #[(.ref it)] Z h0 (fun vR hR LR => vR = some (.ref x1) ∧ OPr h0 [it] hR LR ∧ Fld Z hR it "java/util/ArrayList$Itr" "this$0" "Ljava/util/ArrayList;" (.ref a) ∧ Fld Z hR it "java/util/ArrayList$Itr" "cursor" "I" (.int (2 : Int32)) ∧ Fld Z hR it "java/util/ArrayList$Itr" "lastRet" "I" (.int (1 : Int32)) ∧ Fld Z hR it "java/util/ArrayList$Itr" "expectedModCount" "I" (.int mc)) := by
  refine OMet.body pn_rm_next_2_1 (Ls := #[.val (.ref it), .unset, .unset]) (fun m => by first | (simp [entryFrame, mkF, argsToLocals, Value.category]; done) | rfl) ?_
  intro p e s m below meth c T0 K hK X0 hx hby hml hown hnm hret hlk hZ eh0
  have P0 := OPr.refl h0 [it]
  refine g_aloadN X0 hx (hb hby d16_0) (rfl : 0 + 1 = 1) rfl rfl ?_
  refine g_virtual X0 hx hZ hown eh0 (rm_chk hw it a mc I1 I5 I4) (C := "java/util/ArrayList$Itr") (wd hw 130 rfl) (wd hw 131 rfl) (notFace_of_selects (args := #[]) (mvT hZ (wd hw 133 rfl))) (wd hw 133 rfl) (wd hw 132 rfl) (wd hw 134 rfl) (wd hw 97 rfl) (by decide) (a := it) I0 (argsL := []) (rest := []) rfl rfl (ps := []) (rt := none) (by decide) rfl (W := 0) (Nat.le_of_eq rfl) (by decide) (by decide) (by decide) (by decide) (by rw [hml]; rfl) (hb hby d16_1) (rfl : 1 + 3 = 4) fun v1 T1 hh1 L1 X1 eh1 Q1 => ?_
  obtain ⟨rfl, Pc1⟩ := Q1
  have P1 := P0.call Pc1 all0
  show OGo p e below K T1 (mkF m 4 #[.val (.ref it), .unset, .unset] [])
  refine g_aloadN X1 hx (hb hby d16_4) (rfl : 4 + 1 = 5) rfl rfl ?_
  have F2 := (fldP I2 Pc1 nin0)
  refine g_getf X1 hx hZ hown (host := "") (Or.inl (wd hw 119 rfl)) Via.refl eh1 F2 (hb hby d16_5) (rfl : 5 + 3 = 8) fun T3 X3 eh3 => ?_
  refine g_istoreN X3 hx (hb hby d16_8) (rfl : 8 + 1 = 9) (Ls' := #[.val (.ref it), .val (.int (1 : Int32)), .unset]) rfl ?_
  refine g_iloadN X3 hx (hb hby d16_9) (rfl : 9 + 1 = 10) rfl ?_
  refine g_aloadN X3 hx (hb hby d16_10) (rfl : 10 + 1 = 11) rfl rfl ?_
  have F4 := (fldP I1 Pc1 nin0)
  refine g_getf X3 hx hZ hown (host := "") (Or.inl (wd hw 102 rfl)) Via.refl eh3 F4 (hb hby d16_11) (rfl : 11 + 3 = 14) fun T5 X5 eh5 => ?_
  have F6 := (fldP I6 Pc1 nin0)
  refine g_getf X5 hx hZ hown (Or.inr (wd hw 121 rfl)) Via.refl eh5 F6 (hb hby d16_14) (rfl : 14 + 3 = 17) fun T7 X7 eh7 => ?_
  refine g_icmpY X7 hx (hb hby d16_17) (XT.ii_lt_t (by decide)) (by decide) (pc' := 28) (by decide) ?_
  refine g_aloadN X7 hx (hb hby d16_28) (rfl : 28 + 1 = 29) rfl rfl ?_
  refine g_getf X7 hx hZ hown (host := "") (Or.inl (wd hw 102 rfl)) Via.refl eh7 F4 (hb hby d16_29) (rfl : 29 + 3 = 32) fun T8 X8 eh8 => ?_
  have F9 := (fldP I7 Pc1 nin0)
  refine g_getf X8 hx hZ hown (host := "") (Or.inl (wd hw 135 rfl)) Via.refl eh8 F9 (hb hby d16_32) (rfl : 32 + 3 = 35) fun T10 X10 eh10 => ?_
  refine g_astoreN X10 hx (hb hby d16_35) (rfl : 35 + 1 = 36) rfl (Ls' := #[.val (.ref it), .val (.int (1 : Int32)), .val (.ref ar)]) rfl ?_
  refine g_iloadN X10 hx (hb hby d16_36) (rfl : 36 + 1 = 37) rfl ?_
  refine g_aloadN X10 hx (hb hby d16_37) (rfl : 37 + 1 = 38) rfl rfl ?_
  have F11 := (aryP I8 Pc1 nin0)
  refine g_len X10 hx hZ eh10 F11 (z := (10 : Int32)) rfl (hb hby d16_38) (rfl : 38 + 1 = 39) ?_
  refine g_icmpY X10 hx (hb hby d16_39) (XT.ii_lt_t (by decide)) (by decide) (pc' := 50) (by decide) ?_
  refine g_aloadN X10 hx (hb hby d16_50) (rfl : 50 + 1 = 51) rfl rfl ?_
  refine g_iloadN X10 hx (hb hby d16_51) (rfl : 51 + 1 = 52) rfl ?_
  refine g_iconst X10 hx (1 : Int32) (hb hby d16_52) (rfl : 52 + 1 = 53) (by decide) ?_
  refine g_iadd X10 hx (hb hby d16_53) (rfl : 53 + 1 = 54) (z := (2 : Int32)) (by decide) ?_
  have F12 := (exaP I0 Pc1)
  refine g_putf X10 hx hZ hown (host := "") (Or.inl (wd hw 119 rfl)) Via.refl eh10 F2 F12 (Or.inl (wd hw 120 rfl)) (wd hw 96 rfl) (ty := .int) (by decide) rfl rfl P1 (Or.inl (List.mem_of_getElem? (i := 0) rfl)) (hb hby d16_54) (rfl : 54 + 3 = 57) fun T13 hh13 X13 eh13 W13 P13 F13 => ?_
  refine g_aloadN X13 hx (hb hby d16_57) (rfl : 57 + 1 = 58) rfl rfl ?_
  refine g_aloadN X13 hx (hb hby d16_58) (rfl : 58 + 1 = 59) rfl rfl ?_
  refine g_iloadN X13 hx (hb hby d16_59) (rfl : 59 + 1 = 60) rfl ?_
  refine g_dupx1 X13 hx (hb hby d16_60) (rfl : 60 + 1 = 61) rfl rfl ?_
  have F14 := ((fldP I3 Pc1 nin0).other W13 (Or.inr (slot_ne (Or.inl (wd hw 106 rfl)) (Or.inl (wd hw 120 rfl)) (by decide) (t := .int) (by decide) (t' := .int) (by decide))))
  have F15 := (F12.wr W13)
  refine g_putf X13 hx hZ hown (host := "") (Or.inl (wd hw 105 rfl)) Via.refl eh13 F14 F15 (Or.inl (wd hw 106 rfl)) (wd hw 96 rfl) (ty := .int) (by decide) rfl rfl P13 (Or.inl (List.mem_of_getElem? (i := 0) rfl)) (hb hby d16_61) (rfl : 61 + 3 = 64) fun T16 hh16 X16 eh16 W16 P16 F16 => ?_
  have F17 := (aryO (aryO F11 W13 nira) W16 nira)
  refine g_aaload X16 hx hZ eh16 F17 rfl (v := (.ref x1)) (by decide) (by rfl) (hb hby d16_64) (rfl : 64 + 1 = 65) ?_
  have F18 := ((F4.other W13 (Or.inr (slot_ne (Or.inr (wd hw 103 rfl)) (Or.inl (wd hw 120 rfl)) (by decide) (t := (.object "java/util/ArrayList")) (by decide) (t' := .int) (by decide)))).other W16 (Or.inr (slot_ne (Or.inr (wd hw 103 rfl)) (Or.inl (wd hw 106 rfl)) (by decide) (t := (.object "java/util/ArrayList")) (by decide) (t' := .int) (by decide))))
  have F19 := (F13.other W16 (Or.inr (slot_ne (Or.inl (wd hw 120 rfl)) (Or.inl (wd hw 106 rfl)) (by decide) (t := .int) (by decide) (t' := .int) (by decide))))
  have F20 := (((fldP I4 Pc1 nin0).other W13 (Or.inr (slot_ne (Or.inl (wd hw 109 rfl)) (Or.inl (wd hw 120 rfl)) (by decide) (t := .int) (by decide) (t' := .int) (by decide)))).other W16 (Or.inr (slot_ne (Or.inl (wd hw 109 rfl)) (Or.inl (wd hw 106 rfl)) (by decide) (t := .int) (by decide) (t' := .int) (by decide))))
  exact g_ret X16 hx hret hlk rfl (Or.inr (Or.inr (Or.inr (Or.inr ⟨rfl, rfl, rfl⟩)))) (hb hby d16_65) (by decide) (by decide) eh16 hK ⟨rfl, P16, F18, F19, F16, F20⟩
theorem pn_rm_next_3_0 : plainFor (⟨"java/util/ArrayList$Itr", "next", "()Ljava/lang/Object;"⟩ : MethodName) = true := by first | exact plainFor_of_name (by first | (simp [plainName, overriddenIn]; done) | decide +kernel) | decide +kernel
set_option maxRecDepth 65536 in
set_option maxHeartbeats 40000000 in
theorem rm_next_3_0 {l : Launch} {Z : State} {a0 : Array Value} (hw : ∀ d ∈ tables_1, d.before a0 Z = true) (it : Addr) (a : Addr) (ar : Addr) (kr : ClassId) (mc : Int32) (lr : Int32) (x0 : Addr) (x1 : Addr) (x2 : Addr) {h0 : Heap} (I0 : Exa Z h0 it "java/util/ArrayList$Itr") (I1 : Fld Z h0 it "java/util/ArrayList$Itr" "this$0" "Ljava/util/ArrayList;" (.ref a)) (I2 : Fld Z h0 it "java/util/ArrayList$Itr" "cursor" "I" (.int (0 : Int32))) (I3 : Fld Z h0 it "java/util/ArrayList$Itr" "lastRet" "I" (.int lr)) (I4 : Fld Z h0 it "java/util/ArrayList$Itr" "expectedModCount" "I" (.int mc)) (I5 : Fld Z h0 a "java/util/AbstractList" "modCount" "I" (.int mc)) (I6 : Fld Z h0 a "java/util/ArrayList" "size" "I" (.int (3 : Int32))) (I7 : Fld Z h0 a "java/util/ArrayList" "elementData" "[Ljava/lang/Object;" (.ref ar)) (I8 : OAry Z h0 ar kr (.object "java/lang/Object") [(.ref x0), (.ref x1), (.ref x2), .null, .null, .null, .null, .null, .null, .null]) (nia : a ≠ it) (nira : ar ≠ it) :
    OMet l (⟨"java/util/ArrayList$Itr", "next", "()Ljava/lang/Object;"⟩ : MethodName) jdk_49_method_3_code 3 (Option.some (Jvm.ClassFile.FieldType.object "java/lang/Object")) ({ frames := 1, cells := 0, slots := 0, locals := 12 } : Room) #[(.ref it)] Z h0 (fun vR hR LR => vR = some (.ref x0) ∧ OPr h0 [it] hR LR ∧ Fld Z hR it "java/util/ArrayList$Itr" "this$0" "Ljava/util/ArrayList;" (.ref a) ∧ Fld Z hR it "java/util/ArrayList$Itr" "cursor" "I" (.int (1 : Int32)) ∧ Fld Z hR it "java/util/ArrayList$Itr" "lastRet" "I" (.int (0 : Int32)) ∧ Fld Z hR it "java/util/ArrayList$Itr" "expectedModCount" "I" (.int mc)) := by
  refine OMet.body pn_rm_next_3_0 (Ls := #[.val (.ref it), .unset, .unset]) (fun m => by first | (simp [entryFrame, mkF, argsToLocals, Value.category]; done) | rfl) ?_
  intro p e s m below meth c T0 K hK X0 hx hby hml hown hnm hret hlk hZ eh0
  have P0 := OPr.refl h0 [it]
  refine g_aloadN X0 hx (hb hby d16_0) (rfl : 0 + 1 = 1) rfl rfl ?_
  refine g_virtual X0 hx hZ hown eh0 (rm_chk hw it a mc I1 I5 I4) (C := "java/util/ArrayList$Itr") (wd hw 130 rfl) (wd hw 131 rfl) (notFace_of_selects (args := #[]) (mvT hZ (wd hw 133 rfl))) (wd hw 133 rfl) (wd hw 132 rfl) (wd hw 134 rfl) (wd hw 97 rfl) (by decide) (a := it) I0 (argsL := []) (rest := []) rfl rfl (ps := []) (rt := none) (by decide) rfl (W := 0) (Nat.le_of_eq rfl) (by decide) (by decide) (by decide) (by decide) (by rw [hml]; rfl) (hb hby d16_1) (rfl : 1 + 3 = 4) fun v1 T1 hh1 L1 X1 eh1 Q1 => ?_
  obtain ⟨rfl, Pc1⟩ := Q1
  have P1 := P0.call Pc1 all0
  show OGo p e below K T1 (mkF m 4 #[.val (.ref it), .unset, .unset] [])
  refine g_aloadN X1 hx (hb hby d16_4) (rfl : 4 + 1 = 5) rfl rfl ?_
  have F2 := (fldP I2 Pc1 nin0)
  refine g_getf X1 hx hZ hown (host := "") (Or.inl (wd hw 119 rfl)) Via.refl eh1 F2 (hb hby d16_5) (rfl : 5 + 3 = 8) fun T3 X3 eh3 => ?_
  refine g_istoreN X3 hx (hb hby d16_8) (rfl : 8 + 1 = 9) (Ls' := #[.val (.ref it), .val (.int (0 : Int32)), .unset]) rfl ?_
  refine g_iloadN X3 hx (hb hby d16_9) (rfl : 9 + 1 = 10) rfl ?_
  refine g_aloadN X3 hx (hb hby d16_10) (rfl : 10 + 1 = 11) rfl rfl ?_
  have F4 := (fldP I1 Pc1 nin0)
  refine g_getf X3 hx hZ hown (host := "") (Or.inl (wd hw 102 rfl)) Via.refl eh3 F4 (hb hby d16_11) (rfl : 11 + 3 = 14) fun T5 X5 eh5 => ?_
  have F6 := (fldP I6 Pc1 nin0)
  refine g_getf X5 hx hZ hown (Or.inr (wd hw 121 rfl)) Via.refl eh5 F6 (hb hby d16_14) (rfl : 14 + 3 = 17) fun T7 X7 eh7 => ?_
  refine g_icmpY X7 hx (hb hby d16_17) (XT.ii_lt_t (by decide)) (by decide) (pc' := 28) (by decide) ?_
  refine g_aloadN X7 hx (hb hby d16_28) (rfl : 28 + 1 = 29) rfl rfl ?_
  refine g_getf X7 hx hZ hown (host := "") (Or.inl (wd hw 102 rfl)) Via.refl eh7 F4 (hb hby d16_29) (rfl : 29 + 3 = 32) fun T8 X8 eh8 => ?_
  have F9 := (fldP I7 Pc1 nin0)
  refine g_getf X8 hx hZ hown (host := "") (Or.inl (wd hw 135 rfl)) Via.refl eh8 F9 (hb hby d16_32) (rfl : 32 + 3 = 35) fun T10 X10 eh10 => ?_
  refine g_astoreN X10 hx (hb hby d16_35) (rfl : 35 + 1 = 36) rfl (Ls' := #[.val (.ref it), .val (.int (0 : Int32)), .val (.ref ar)]) rfl ?_
  refine g_iloadN X10 hx (hb hby d16_36) (rfl : 36 + 1 = 37) rfl ?_
  refine g_aloadN X10 hx (hb hby d16_37) (rfl : 37 + 1 = 38) rfl rfl ?_
  have F11 := (aryP I8 Pc1 nin0)
  refine g_len X10 hx hZ eh10 F11 (z := (10 : Int32)) rfl (hb hby d16_38) (rfl : 38 + 1 = 39) ?_
  refine g_icmpY X10 hx (hb hby d16_39) (XT.ii_lt_t (by decide)) (by decide) (pc' := 50) (by decide) ?_
  refine g_aloadN X10 hx (hb hby d16_50) (rfl : 50 + 1 = 51) rfl rfl ?_
  refine g_iloadN X10 hx (hb hby d16_51) (rfl : 51 + 1 = 52) rfl ?_
  refine g_iconst X10 hx (1 : Int32) (hb hby d16_52) (rfl : 52 + 1 = 53) (by decide) ?_
  refine g_iadd X10 hx (hb hby d16_53) (rfl : 53 + 1 = 54) (z := (1 : Int32)) (by decide) ?_
  have F12 := (exaP I0 Pc1)
  refine g_putf X10 hx hZ hown (host := "") (Or.inl (wd hw 119 rfl)) Via.refl eh10 F2 F12 (Or.inl (wd hw 120 rfl)) (wd hw 96 rfl) (ty := .int) (by decide) rfl rfl P1 (Or.inl (List.mem_of_getElem? (i := 0) rfl)) (hb hby d16_54) (rfl : 54 + 3 = 57) fun T13 hh13 X13 eh13 W13 P13 F13 => ?_
  refine g_aloadN X13 hx (hb hby d16_57) (rfl : 57 + 1 = 58) rfl rfl ?_
  refine g_aloadN X13 hx (hb hby d16_58) (rfl : 58 + 1 = 59) rfl rfl ?_
  refine g_iloadN X13 hx (hb hby d16_59) (rfl : 59 + 1 = 60) rfl ?_
  refine g_dupx1 X13 hx (hb hby d16_60) (rfl : 60 + 1 = 61) rfl rfl ?_
  have F14 := ((fldP I3 Pc1 nin0).other W13 (Or.inr (slot_ne (Or.inl (wd hw 106 rfl)) (Or.inl (wd hw 120 rfl)) (by decide) (t := .int) (by decide) (t' := .int) (by decide))))
  have F15 := (F12.wr W13)
  refine g_putf X13 hx hZ hown (host := "") (Or.inl (wd hw 105 rfl)) Via.refl eh13 F14 F15 (Or.inl (wd hw 106 rfl)) (wd hw 96 rfl) (ty := .int) (by decide) rfl rfl P13 (Or.inl (List.mem_of_getElem? (i := 0) rfl)) (hb hby d16_61) (rfl : 61 + 3 = 64) fun T16 hh16 X16 eh16 W16 P16 F16 => ?_
  have F17 := (aryO (aryO F11 W13 nira) W16 nira)
  refine g_aaload X16 hx hZ eh16 F17 rfl (v := (.ref x0)) (by decide) (by rfl) (hb hby d16_64) (rfl : 64 + 1 = 65) ?_
  have F18 := ((F4.other W13 (Or.inr (slot_ne (Or.inr (wd hw 103 rfl)) (Or.inl (wd hw 120 rfl)) (by decide) (t := (.object "java/util/ArrayList")) (by decide) (t' := .int) (by decide)))).other W16 (Or.inr (slot_ne (Or.inr (wd hw 103 rfl)) (Or.inl (wd hw 106 rfl)) (by decide) (t := (.object "java/util/ArrayList")) (by decide) (t' := .int) (by decide))))
  have F19 := (F13.other W16 (Or.inr (slot_ne (Or.inl (wd hw 120 rfl)) (Or.inl (wd hw 106 rfl)) (by decide) (t := .int) (by decide) (t' := .int) (by decide))))
  have F20 := (((fldP I4 Pc1 nin0).other W13 (Or.inr (slot_ne (Or.inl (wd hw 109 rfl)) (Or.inl (wd hw 120 rfl)) (by decide) (t := .int) (by decide) (t' := .int) (by decide)))).other W16 (Or.inr (slot_ne (Or.inl (wd hw 109 rfl)) (Or.inl (wd hw 106 rfl)) (by decide) (t := .int) (by decide) (t' := .int) (by decide))))
  exact g_ret X16 hx hret hlk rfl (Or.inr (Or.inr (Or.inr (Or.inr ⟨rfl, rfl, rfl⟩)))) (hb hby d16_65) (by decide) (by decide) eh16 hK ⟨rfl, P16, F18, F19, F16, F20⟩
theorem pn_rm_next_3_1 : plainFor (⟨"java/util/ArrayList$Itr", "next", "()Ljava/lang/Object;"⟩ : MethodName) = true := by first | exact plainFor_of_name (by first | (simp [plainName, overriddenIn]; done) | decide +kernel) | decide +kernel
set_option maxRecDepth 65536 in
set_option maxHeartbeats 40000000 in
theorem rm_next_3_1 {l : Launch} {Z : State} {a0 : Array Value} (hw : ∀ d ∈ tables_1, d.before a0 Z = true) (it : Addr) (a : Addr) (ar : Addr) (kr : ClassId) (mc : Int32) (lr : Int32) (x0 : Addr) (x1 : Addr) (x2 : Addr) {h0 : Heap} (I0 : Exa Z h0 it "java/util/ArrayList$Itr") (I1 : Fld Z h0 it "java/util/ArrayList$Itr" "this$0" "Ljava/util/ArrayList;" (.ref a)) (I2 : Fld Z h0 it "java/util/ArrayList$Itr" "cursor" "I" (.int (1 : Int32))) (I3 : Fld Z h0 it "java/util/ArrayList$Itr" "lastRet" "I" (.int lr)) (I4 : Fld Z h0 it "java/util/ArrayList$Itr" "expectedModCount" "I" (.int mc)) (I5 : Fld Z h0 a "java/util/AbstractList" "modCount" "I" (.int mc)) (I6 : Fld Z h0 a "java/util/ArrayList" "size" "I" (.int (3 : Int32))) (I7 : Fld Z h0 a "java/util/ArrayList" "elementData" "[Ljava/lang/Object;" (.ref ar)) (I8 : OAry Z h0 ar kr (.object "java/lang/Object") [(.ref x0), (.ref x1), (.ref x2), .null, .null, .null, .null, .null, .null, .null]) (nia : a ≠ it) (nira : ar ≠ it) :
    OMet l (⟨"java/util/ArrayList$Itr", "next", "()Ljava/lang/Object;"⟩ : MethodName) jdk_49_method_3_code 3 (Option.some (Jvm.ClassFile.FieldType.object "java/lang/Object")) ({ frames := 1, cells := 0, slots := 0, locals := 12 } : Room) #[(.ref it)] Z h0 (fun vR hR LR => vR = some (.ref x1) ∧ OPr h0 [it] hR LR ∧ Fld Z hR it "java/util/ArrayList$Itr" "this$0" "Ljava/util/ArrayList;" (.ref a) ∧ Fld Z hR it "java/util/ArrayList$Itr" "cursor" "I" (.int (2 : Int32)) ∧ Fld Z hR it "java/util/ArrayList$Itr" "lastRet" "I" (.int (1 : Int32)) ∧ Fld Z hR it "java/util/ArrayList$Itr" "expectedModCount" "I" (.int mc)) := by
  refine OMet.body pn_rm_next_3_1 (Ls := #[.val (.ref it), .unset, .unset]) (fun m => by first | (simp [entryFrame, mkF, argsToLocals, Value.category]; done) | rfl) ?_
  intro p e s m below meth c T0 K hK X0 hx hby hml hown hnm hret hlk hZ eh0
  have P0 := OPr.refl h0 [it]
  refine g_aloadN X0 hx (hb hby d16_0) (rfl : 0 + 1 = 1) rfl rfl ?_
  refine g_virtual X0 hx hZ hown eh0 (rm_chk hw it a mc I1 I5 I4) (C := "java/util/ArrayList$Itr") (wd hw 130 rfl) (wd hw 131 rfl) (notFace_of_selects (args := #[]) (mvT hZ (wd hw 133 rfl))) (wd hw 133 rfl) (wd hw 132 rfl) (wd hw 134 rfl) (wd hw 97 rfl) (by decide) (a := it) I0 (argsL := []) (rest := []) rfl rfl (ps := []) (rt := none) (by decide) rfl (W := 0) (Nat.le_of_eq rfl) (by decide) (by decide) (by decide) (by decide) (by rw [hml]; rfl) (hb hby d16_1) (rfl : 1 + 3 = 4) fun v1 T1 hh1 L1 X1 eh1 Q1 => ?_
  obtain ⟨rfl, Pc1⟩ := Q1
  have P1 := P0.call Pc1 all0
  show OGo p e below K T1 (mkF m 4 #[.val (.ref it), .unset, .unset] [])
  refine g_aloadN X1 hx (hb hby d16_4) (rfl : 4 + 1 = 5) rfl rfl ?_
  have F2 := (fldP I2 Pc1 nin0)
  refine g_getf X1 hx hZ hown (host := "") (Or.inl (wd hw 119 rfl)) Via.refl eh1 F2 (hb hby d16_5) (rfl : 5 + 3 = 8) fun T3 X3 eh3 => ?_
  refine g_istoreN X3 hx (hb hby d16_8) (rfl : 8 + 1 = 9) (Ls' := #[.val (.ref it), .val (.int (1 : Int32)), .unset]) rfl ?_
  refine g_iloadN X3 hx (hb hby d16_9) (rfl : 9 + 1 = 10) rfl ?_
  refine g_aloadN X3 hx (hb hby d16_10) (rfl : 10 + 1 = 11) rfl rfl ?_
  have F4 := (fldP I1 Pc1 nin0)
  refine g_getf X3 hx hZ hown (host := "") (Or.inl (wd hw 102 rfl)) Via.refl eh3 F4 (hb hby d16_11) (rfl : 11 + 3 = 14) fun T5 X5 eh5 => ?_
  have F6 := (fldP I6 Pc1 nin0)
  refine g_getf X5 hx hZ hown (Or.inr (wd hw 121 rfl)) Via.refl eh5 F6 (hb hby d16_14) (rfl : 14 + 3 = 17) fun T7 X7 eh7 => ?_
  refine g_icmpY X7 hx (hb hby d16_17) (XT.ii_lt_t (by decide)) (by decide) (pc' := 28) (by decide) ?_
  refine g_aloadN X7 hx (hb hby d16_28) (rfl : 28 + 1 = 29) rfl rfl ?_
  refine g_getf X7 hx hZ hown (host := "") (Or.inl (wd hw 102 rfl)) Via.refl eh7 F4 (hb hby d16_29) (rfl : 29 + 3 = 32) fun T8 X8 eh8 => ?_
  have F9 := (fldP I7 Pc1 nin0)
  refine g_getf X8 hx hZ hown (host := "") (Or.inl (wd hw 135 rfl)) Via.refl eh8 F9 (hb hby d16_32) (rfl : 32 + 3 = 35) fun T10 X10 eh10 => ?_
  refine g_astoreN X10 hx (hb hby d16_35) (rfl : 35 + 1 = 36) rfl (Ls' := #[.val (.ref it), .val (.int (1 : Int32)), .val (.ref ar)]) rfl ?_
  refine g_iloadN X10 hx (hb hby d16_36) (rfl : 36 + 1 = 37) rfl ?_
  refine g_aloadN X10 hx (hb hby d16_37) (rfl : 37 + 1 = 38) rfl rfl ?_
  have F11 := (aryP I8 Pc1 nin0)
  refine g_len X10 hx hZ eh10 F11 (z := (10 : Int32)) rfl (hb hby d16_38) (rfl : 38 + 1 = 39) ?_
  refine g_icmpY X10 hx (hb hby d16_39) (XT.ii_lt_t (by decide)) (by decide) (pc' := 50) (by decide) ?_
  refine g_aloadN X10 hx (hb hby d16_50) (rfl : 50 + 1 = 51) rfl rfl ?_
  refine g_iloadN X10 hx (hb hby d16_51) (rfl : 51 + 1 = 52) rfl ?_
  refine g_iconst X10 hx (1 : Int32) (hb hby d16_52) (rfl : 52 + 1 = 53) (by decide) ?_
  refine g_iadd X10 hx (hb hby d16_53) (rfl : 53 + 1 = 54) (z := (2 : Int32)) (by decide) ?_
  have F12 := (exaP I0 Pc1)
  refine g_putf X10 hx hZ hown (host := "") (Or.inl (wd hw 119 rfl)) Via.refl eh10 F2 F12 (Or.inl (wd hw 120 rfl)) (wd hw 96 rfl) (ty := .int) (by decide) rfl rfl P1 (Or.inl (List.mem_of_getElem? (i := 0) rfl)) (hb hby d16_54) (rfl : 54 + 3 = 57) fun T13 hh13 X13 eh13 W13 P13 F13 => ?_
  refine g_aloadN X13 hx (hb hby d16_57) (rfl : 57 + 1 = 58) rfl rfl ?_
  refine g_aloadN X13 hx (hb hby d16_58) (rfl : 58 + 1 = 59) rfl rfl ?_
  refine g_iloadN X13 hx (hb hby d16_59) (rfl : 59 + 1 = 60) rfl ?_
  refine g_dupx1 X13 hx (hb hby d16_60) (rfl : 60 + 1 = 61) rfl rfl ?_
  have F14 := ((fldP I3 Pc1 nin0).other W13 (Or.inr (slot_ne (Or.inl (wd hw 106 rfl)) (Or.inl (wd hw 120 rfl)) (by decide) (t := .int) (by decide) (t' := .int) (by decide))))
  have F15 := (F12.wr W13)
  refine g_putf X13 hx hZ hown (host := "") (Or.inl (wd hw 105 rfl)) Via.refl eh13 F14 F15 (Or.inl (wd hw 106 rfl)) (wd hw 96 rfl) (ty := .int) (by decide) rfl rfl P13 (Or.inl (List.mem_of_getElem? (i := 0) rfl)) (hb hby d16_61) (rfl : 61 + 3 = 64) fun T16 hh16 X16 eh16 W16 P16 F16 => ?_
  have F17 := (aryO (aryO F11 W13 nira) W16 nira)
  refine g_aaload X16 hx hZ eh16 F17 rfl (v := (.ref x1)) (by decide) (by rfl) (hb hby d16_64) (rfl : 64 + 1 = 65) ?_
  have F18 := ((F4.other W13 (Or.inr (slot_ne (Or.inr (wd hw 103 rfl)) (Or.inl (wd hw 120 rfl)) (by decide) (t := (.object "java/util/ArrayList")) (by decide) (t' := .int) (by decide)))).other W16 (Or.inr (slot_ne (Or.inr (wd hw 103 rfl)) (Or.inl (wd hw 106 rfl)) (by decide) (t := (.object "java/util/ArrayList")) (by decide) (t' := .int) (by decide))))
  have F19 := (F13.other W16 (Or.inr (slot_ne (Or.inl (wd hw 120 rfl)) (Or.inl (wd hw 106 rfl)) (by decide) (t := .int) (by decide) (t' := .int) (by decide))))
  have F20 := (((fldP I4 Pc1 nin0).other W13 (Or.inr (slot_ne (Or.inl (wd hw 109 rfl)) (Or.inl (wd hw 120 rfl)) (by decide) (t := .int) (by decide) (t' := .int) (by decide)))).other W16 (Or.inr (slot_ne (Or.inl (wd hw 109 rfl)) (Or.inl (wd hw 106 rfl)) (by decide) (t := .int) (by decide) (t' := .int) (by decide))))
  exact g_ret X16 hx hret hlk rfl (Or.inr (Or.inr (Or.inr (Or.inr ⟨rfl, rfl, rfl⟩)))) (hb hby d16_65) (by decide) (by decide) eh16 hK ⟨rfl, P16, F18, F19, F16, F20⟩
theorem pn_rm_next_3_2 : plainFor (⟨"java/util/ArrayList$Itr", "next", "()Ljava/lang/Object;"⟩ : MethodName) = true := by first | exact plainFor_of_name (by first | (simp [plainName, overriddenIn]; done) | decide +kernel) | decide +kernel
set_option maxRecDepth 65536 in
set_option maxHeartbeats 40000000 in
theorem rm_next_3_2 {l : Launch} {Z : State} {a0 : Array Value} (hw : ∀ d ∈ tables_1, d.before a0 Z = true) (it : Addr) (a : Addr) (ar : Addr) (kr : ClassId) (mc : Int32) (lr : Int32) (x0 : Addr) (x1 : Addr) (x2 : Addr) {h0 : Heap} (I0 : Exa Z h0 it "java/util/ArrayList$Itr") (I1 : Fld Z h0 it "java/util/ArrayList$Itr" "this$0" "Ljava/util/ArrayList;" (.ref a)) (I2 : Fld Z h0 it "java/util/ArrayList$Itr" "cursor" "I" (.int (2 : Int32))) (I3 : Fld Z h0 it "java/util/ArrayList$Itr" "lastRet" "I" (.int lr)) (I4 : Fld Z h0 it "java/util/ArrayList$Itr" "expectedModCount" "I" (.int mc)) (I5 : Fld Z h0 a "java/util/AbstractList" "modCount" "I" (.int mc)) (I6 : Fld Z h0 a "java/util/ArrayList" "size" "I" (.int (3 : Int32))) (I7 : Fld Z h0 a "java/util/ArrayList" "elementData" "[Ljava/lang/Object;" (.ref ar)) (I8 : OAry Z h0 ar kr (.object "java/lang/Object") [(.ref x0), (.ref x1), (.ref x2), .null, .null, .null, .null, .null, .null, .null]) (nia : a ≠ it) (nira : ar ≠ it) :
    OMet l (⟨"java/util/ArrayList$Itr", "next", "()Ljava/lang/Object;"⟩ : MethodName) jdk_49_method_3_code 3 (Option.some (Jvm.ClassFile.FieldType.object "java/lang/Object")) ({ frames := 1, cells := 0, slots := 0, locals := 12 } : Room) #[(.ref it)] Z h0 (fun vR hR LR => vR = some (.ref x2) ∧ OPr h0 [it] hR LR ∧ Fld Z hR it "java/util/ArrayList$Itr" "this$0" "Ljava/util/ArrayList;" (.ref a) ∧ Fld Z hR it "java/util/ArrayList$Itr" "cursor" "I" (.int (3 : Int32)) ∧ Fld Z hR it "java/util/ArrayList$Itr" "lastRet" "I" (.int (2 : Int32)) ∧ Fld Z hR it "java/util/ArrayList$Itr" "expectedModCount" "I" (.int mc)) := by
  refine OMet.body pn_rm_next_3_2 (Ls := #[.val (.ref it), .unset, .unset]) (fun m => by first | (simp [entryFrame, mkF, argsToLocals, Value.category]; done) | rfl) ?_
  intro p e s m below meth c T0 K hK X0 hx hby hml hown hnm hret hlk hZ eh0
  have P0 := OPr.refl h0 [it]
  refine g_aloadN X0 hx (hb hby d16_0) (rfl : 0 + 1 = 1) rfl rfl ?_
  refine g_virtual X0 hx hZ hown eh0 (rm_chk hw it a mc I1 I5 I4) (C := "java/util/ArrayList$Itr") (wd hw 130 rfl) (wd hw 131 rfl) (notFace_of_selects (args := #[]) (mvT hZ (wd hw 133 rfl))) (wd hw 133 rfl) (wd hw 132 rfl) (wd hw 134 rfl) (wd hw 97 rfl) (by decide) (a := it) I0 (argsL := []) (rest := []) rfl rfl (ps := []) (rt := none) (by decide) rfl (W := 0) (Nat.le_of_eq rfl) (by decide) (by decide) (by decide) (by decide) (by rw [hml]; rfl) (hb hby d16_1) (rfl : 1 + 3 = 4) fun v1 T1 hh1 L1 X1 eh1 Q1 => ?_
  obtain ⟨rfl, Pc1⟩ := Q1
  have P1 := P0.call Pc1 all0
  show OGo p e below K T1 (mkF m 4 #[.val (.ref it), .unset, .unset] [])
  refine g_aloadN X1 hx (hb hby d16_4) (rfl : 4 + 1 = 5) rfl rfl ?_
  have F2 := (fldP I2 Pc1 nin0)
  refine g_getf X1 hx hZ hown (host := "") (Or.inl (wd hw 119 rfl)) Via.refl eh1 F2 (hb hby d16_5) (rfl : 5 + 3 = 8) fun T3 X3 eh3 => ?_
  refine g_istoreN X3 hx (hb hby d16_8) (rfl : 8 + 1 = 9) (Ls' := #[.val (.ref it), .val (.int (2 : Int32)), .unset]) rfl ?_
  refine g_iloadN X3 hx (hb hby d16_9) (rfl : 9 + 1 = 10) rfl ?_
  refine g_aloadN X3 hx (hb hby d16_10) (rfl : 10 + 1 = 11) rfl rfl ?_
  have F4 := (fldP I1 Pc1 nin0)
  refine g_getf X3 hx hZ hown (host := "") (Or.inl (wd hw 102 rfl)) Via.refl eh3 F4 (hb hby d16_11) (rfl : 11 + 3 = 14) fun T5 X5 eh5 => ?_
  have F6 := (fldP I6 Pc1 nin0)
  refine g_getf X5 hx hZ hown (Or.inr (wd hw 121 rfl)) Via.refl eh5 F6 (hb hby d16_14) (rfl : 14 + 3 = 17) fun T7 X7 eh7 => ?_
  refine g_icmpY X7 hx (hb hby d16_17) (XT.ii_lt_t (by decide)) (by decide) (pc' := 28) (by decide) ?_
  refine g_aloadN X7 hx (hb hby d16_28) (rfl : 28 + 1 = 29) rfl rfl ?_
  refine g_getf X7 hx hZ hown (host := "") (Or.inl (wd hw 102 rfl)) Via.refl eh7 F4 (hb hby d16_29) (rfl : 29 + 3 = 32) fun T8 X8 eh8 => ?_
  have F9 := (fldP I7 Pc1 nin0)
  refine g_getf X8 hx hZ hown (host := "") (Or.inl (wd hw 135 rfl)) Via.refl eh8 F9 (hb hby d16_32) (rfl : 32 + 3 = 35) fun T10 X10 eh10 => ?_
  refine g_astoreN X10 hx (hb hby d16_35) (rfl : 35 + 1 = 36) rfl (Ls' := #[.val (.ref it), .val (.int (2 : Int32)), .val (.ref ar)]) rfl ?_
  refine g_iloadN X10 hx (hb hby d16_36) (rfl : 36 + 1 = 37) rfl ?_
  refine g_aloadN X10 hx (hb hby d16_37) (rfl : 37 + 1 = 38) rfl rfl ?_
  have F11 := (aryP I8 Pc1 nin0)
  refine g_len X10 hx hZ eh10 F11 (z := (10 : Int32)) rfl (hb hby d16_38) (rfl : 38 + 1 = 39) ?_
  refine g_icmpY X10 hx (hb hby d16_39) (XT.ii_lt_t (by decide)) (by decide) (pc' := 50) (by decide) ?_
  refine g_aloadN X10 hx (hb hby d16_50) (rfl : 50 + 1 = 51) rfl rfl ?_
  refine g_iloadN X10 hx (hb hby d16_51) (rfl : 51 + 1 = 52) rfl ?_
  refine g_iconst X10 hx (1 : Int32) (hb hby d16_52) (rfl : 52 + 1 = 53) (by decide) ?_
  refine g_iadd X10 hx (hb hby d16_53) (rfl : 53 + 1 = 54) (z := (3 : Int32)) (by decide) ?_
  have F12 := (exaP I0 Pc1)
  refine g_putf X10 hx hZ hown (host := "") (Or.inl (wd hw 119 rfl)) Via.refl eh10 F2 F12 (Or.inl (wd hw 120 rfl)) (wd hw 96 rfl) (ty := .int) (by decide) rfl rfl P1 (Or.inl (List.mem_of_getElem? (i := 0) rfl)) (hb hby d16_54) (rfl : 54 + 3 = 57) fun T13 hh13 X13 eh13 W13 P13 F13 => ?_
  refine g_aloadN X13 hx (hb hby d16_57) (rfl : 57 + 1 = 58) rfl rfl ?_
  refine g_aloadN X13 hx (hb hby d16_58) (rfl : 58 + 1 = 59) rfl rfl ?_
  refine g_iloadN X13 hx (hb hby d16_59) (rfl : 59 + 1 = 60) rfl ?_
  refine g_dupx1 X13 hx (hb hby d16_60) (rfl : 60 + 1 = 61) rfl rfl ?_
  have F14 := ((fldP I3 Pc1 nin0).other W13 (Or.inr (slot_ne (Or.inl (wd hw 106 rfl)) (Or.inl (wd hw 120 rfl)) (by decide) (t := .int) (by decide) (t' := .int) (by decide))))
  have F15 := (F12.wr W13)
  refine g_putf X13 hx hZ hown (host := "") (Or.inl (wd hw 105 rfl)) Via.refl eh13 F14 F15 (Or.inl (wd hw 106 rfl)) (wd hw 96 rfl) (ty := .int) (by decide) rfl rfl P13 (Or.inl (List.mem_of_getElem? (i := 0) rfl)) (hb hby d16_61) (rfl : 61 + 3 = 64) fun T16 hh16 X16 eh16 W16 P16 F16 => ?_
  have F17 := (aryO (aryO F11 W13 nira) W16 nira)
  refine g_aaload X16 hx hZ eh16 F17 rfl (v := (.ref x2)) (by decide) (by rfl) (hb hby d16_64) (rfl : 64 + 1 = 65) ?_
  have F18 := ((F4.other W13 (Or.inr (slot_ne (Or.inr (wd hw 103 rfl)) (Or.inl (wd hw 120 rfl)) (by decide) (t := (.object "java/util/ArrayList")) (by decide) (t' := .int) (by decide)))).other W16 (Or.inr (slot_ne (Or.inr (wd hw 103 rfl)) (Or.inl (wd hw 106 rfl)) (by decide) (t := (.object "java/util/ArrayList")) (by decide) (t' := .int) (by decide))))
  have F19 := (F13.other W16 (Or.inr (slot_ne (Or.inl (wd hw 120 rfl)) (Or.inl (wd hw 106 rfl)) (by decide) (t := .int) (by decide) (t' := .int) (by decide))))
  have F20 := (((fldP I4 Pc1 nin0).other W13 (Or.inr (slot_ne (Or.inl (wd hw 109 rfl)) (Or.inl (wd hw 120 rfl)) (by decide) (t := .int) (by decide) (t' := .int) (by decide)))).other W16 (Or.inr (slot_ne (Or.inl (wd hw 109 rfl)) (Or.inl (wd hw 106 rfl)) (by decide) (t := .int) (by decide) (t' := .int) (by decide))))
  exact g_ret X16 hx hret hlk rfl (Or.inr (Or.inr (Or.inr (Or.inr ⟨rfl, rfl, rfl⟩)))) (hb hby d16_65) (by decide) (by decide) eh16 hK ⟨rfl, P16, F18, F19, F16, F20⟩
theorem d37_0 : decode jdk_18_method_1_code 0 = .ok (.aload_n 0, 1) := by decide +kernel
theorem d37_1 : decode jdk_18_method_1_code 1 = .ok (.invokespecial 1, 3) := by decide +kernel
theorem d37_4 : decode jdk_18_method_1_code 4 = .ok (.return_, 1) := by decide +kernel
theorem pn_rm_num : plainFor (⟨"java/lang/Number", "<init>", "()V"⟩ : MethodName) = true := by first | exact plainFor_of_name (by first | (simp [plainName, overriddenIn]; done) | decide +kernel) | decide +kernel
set_option maxRecDepth 65536 in
set_option maxHeartbeats 40000000 in
theorem rm_num {l : Launch} {Z : State} {a0 : Array Value} (hw : ∀ d ∈ tables_1, d.before a0 Z = true) (a : Addr) {h0 : Heap}   :
    OMet l (⟨"java/lang/Number", "<init>", "()V"⟩ : MethodName) jdk_18_method_1_code 1 (Option.none : Option Jvm.ClassFile.FieldType) ({ frames := 1, cells := 0, slots := 0, locals := 12 } : Room) #[(.ref a)] Z h0 (fun vR hR LR => vR = none ∧ OPr h0 [] hR LR) := by
  refine OMet.body pn_rm_num (Ls := #[.val (.ref a)]) (fun m => by first | (simp [entryFrame, mkF, argsToLocals, Value.category]; done) | rfl) ?_
  intro p e s m below meth c T0 K hK X0 hx hby hml hown hnm hret hlk hZ eh0
  have P0 := OPr.refl h0 []
  refine g_aloadN X0 hx (hb hby d37_0) (rfl : 0 + 1 = 1) rfl rfl ?_
  refine g_inito X0 hx hZ hown (wd hw 285 rfl) (wd hw 20 rfl) (wd hw 21 rfl) eh0 (by rw [hml]; rfl) (hb hby d37_1) (rfl : 1 + 3 = 4) (by decide) (W := 0) (Nat.le_of_eq rfl) (by decide) fun T1 X1 eh1 => ?_
  exact g_ret0 X1 hx hret hlk (hb hby d37_4) (by decide) (by decide) eh1 hK ⟨rfl, P0⟩
theorem d36_0 : decode jdk_33_method_23_code 0 = .ok (.aload_n 0, 1) := by decide +kernel
theorem d36_1 : decode jdk_33_method_23_code 1 = .ok (.invokespecial 202, 3) := by decide +kernel
theorem d36_4 : decode jdk_33_method_23_code 4 = .ok (.aload_n 0, 1) := by decide +kernel
theorem d36_5 : decode jdk_33_method_23_code 5 = .ok (.iload_n 1, 1) := by decide +kernel
theorem d36_6 : decode jdk_33_method_23_code 6 = .ok (.putfield 205, 3) := by decide +kernel
theorem d36_9 : decode jdk_33_method_23_code 9 = .ok (.return_, 1) := by decide +kernel
theorem pn_rm_inti : plainFor (⟨"java/lang/Integer", "<init>", "(I)V"⟩ : MethodName) = true := by first | exact plainFor_of_name (by first | (simp [plainName, overriddenIn]; done) | decide +kernel) | decide +kernel
set_option maxRecDepth 65536 in
set_option maxHeartbeats 40000000 in
theorem rm_inti {l : Launch} {Z : State} {a0 : Array Value} (hw : ∀ d ∈ tables_1, d.before a0 Z = true) (a : Addr) (x : Int32) {h0 : Heap} (I0 : Exa Z h0 a "java/lang/Integer") (I1 : Fld Z h0 a "java/lang/Integer" "value" "I" (.int (0 : Int32)))  :
    OMet l (⟨"java/lang/Integer", "<init>", "(I)V"⟩ : MethodName) jdk_33_method_23_code 2 (Option.none : Option Jvm.ClassFile.FieldType) ({ frames := 2, cells := 0, slots := 0, locals := 24 } : Room) #[(.ref a), (.int x)] Z h0 (fun vR hR LR => vR = none ∧ OPr h0 [a] hR LR ∧ Fld Z hR a "java/lang/Integer" "value" "I" (.int x)) := by
  refine OMet.body pn_rm_inti (Ls := #[.val (.ref a), .val (.int x)]) (fun m => by first | (simp [entryFrame, mkF, argsToLocals, Value.category]; done) | rfl) ?_
  intro p e s m below meth c T0 K hK X0 hx hby hml hown hnm hret hlk hZ eh0
  have P0 := OPr.refl h0 [a]
  refine g_aloadN X0 hx (hb hby d36_0) (rfl : 0 + 1 = 1) rfl rfl ?_
  refine g_special X0 hx hZ hown eh0 (rm_num hw a) rfl (wd hw 279 rfl) (wd hw 280 rfl) (wd hw 284 rfl) (wd hw 283 rfl) (by decide) (a := a) (argsL := []) (rest := []) rfl rfl (ps := []) (by decide) rfl (W := 0) (Nat.le_of_eq rfl) (by decide) (by decide) (by decide) (by decide) (by rw [hml]; rfl) (hb hby d36_1) (rfl : 1 + 3 = 4) fun v1 T1 hh1 L1 X1 eh1 Q1 => ?_
  obtain ⟨rfl, Pc1⟩ := Q1
  have P1 := P0.call Pc1 all0
  show OGo p e below K T1 (mkF m 4 #[.val (.ref a), .val (.int x)] [])
  refine g_aloadN X1 hx (hb hby d36_4) (rfl : 4 + 1 = 5) rfl rfl ?_
  refine g_iloadN X1 hx (hb hby d36_5) (rfl : 5 + 1 = 6) rfl ?_
  have F2 := (fldP I1 Pc1 nin0)
  have F3 := (exaP I0 Pc1)
  refine g_putf X1 hx hZ hown (host := "") (Or.inl (wd hw 143 rfl)) Via.refl eh1 F2 F3 (Or.inr ⟨(wd hw 144 rfl), rfl, hnm⟩) (wd hw 275 rfl) (ty := .int) (by decide) rfl rfl P1 (Or.inl (List.mem_of_getElem? (i := 0) rfl)) (hb hby d36_6) (rfl : 6 + 3 = 9) fun T4 hh4 X4 eh4 W4 P4 F4 => ?_
  exact g_ret0 X4 hx hret hlk (hb hby d36_9) (by decide) (by decide) eh4 hK ⟨rfl, P4, F4⟩
theorem d18_0 : decode jdk_33_method_27_code 0 = .ok (.aload_n 0, 1) := by decide +kernel
theorem d18_1 : decode jdk_33_method_27_code 1 = .ok (.getfield 205, 3) := by decide +kernel
theorem d18_4 : decode jdk_33_method_27_code 4 = .ok (.ireturn, 1) := by decide +kernel
theorem pn_rm_intv : plainFor (⟨"java/lang/Integer", "intValue", "()I"⟩ : MethodName) = true := by first | exact plainFor_of_name (by first | (simp [plainName, overriddenIn]; done) | decide +kernel) | decide +kernel
set_option maxRecDepth 65536 in
set_option maxHeartbeats 40000000 in
theorem rm_intv {l : Launch} {Z : State} {a0 : Array Value} (hw : ∀ d ∈ tables_1, d.before a0 Z = true) (b : Addr) (x : Int32) {h0 : Heap} (I0 : Fld Z h0 b "java/lang/Integer" "value" "I" (.int x))  :
    OMet l (⟨"java/lang/Integer", "intValue", "()I"⟩ : MethodName) jdk_33_method_27_code 1 (Option.some Jvm.ClassFile.FieldType.int) ({ frames := 0, cells := 0, slots := 0, locals := 0 } : Room) #[(.ref b)] Z h0 (fun vR hR LR => vR = some (.int x) ∧ OPr h0 [] hR LR) := by
  refine OMet.body pn_rm_intv (Ls := #[.val (.ref b)]) (fun m => by first | (simp [entryFrame, mkF, argsToLocals, Value.category]; done) | rfl) ?_
  intro p e s m below meth c T0 K hK X0 hx hby hml hown hnm hret hlk hZ eh0
  have P0 := OPr.refl h0 []
  refine g_aloadN X0 hx (hb hby d18_0) (rfl : 0 + 1 = 1) rfl rfl ?_
  refine g_getf X0 hx hZ hown (host := "") (Or.inl (wd hw 143 rfl)) Via.refl eh0 I0 (hb hby d18_1) (rfl : 1 + 3 = 4) fun T1 X1 eh1 => ?_
  exact g_ret X1 hx hret hlk rfl (Or.inl ⟨rfl, Or.inl rfl, _, rfl⟩) (hb hby d18_4) (by decide) (by decide) eh1 hK ⟨rfl, P0⟩
theorem d4_0 : decode jdk_33_method_22_code 0 = .ok (.iload_n 0, 1) := by decide +kernel
theorem d4_1 : decode jdk_33_method_22_code 1 = .ok (.bipush (-128), 2) := by decide +kernel
theorem d4_3 : decode jdk_33_method_22_code 3 = .ok (.if_icmp .lt 20, 3) := by decide +kernel
theorem d4_6 : decode jdk_33_method_22_code 6 = .ok (.iload_n 0, 1) := by decide +kernel
theorem d4_7 : decode jdk_33_method_22_code 7 = .ok (.getstatic 191, 3) := by decide +kernel
theorem d4_10 : decode jdk_33_method_22_code 10 = .ok (.if_icmp .gt 13, 3) := by decide +kernel
theorem d4_13 : decode jdk_33_method_22_code 13 = .ok (.getstatic 195, 3) := by decide +kernel
theorem d4_16 : decode jdk_33_method_22_code 16 = .ok (.iload_n 0, 1) := by decide +kernel
theorem d4_17 : decode jdk_33_method_22_code 17 = .ok (.sipush 128, 3) := by decide +kernel
theorem d4_20 : decode jdk_33_method_22_code 20 = .ok (.iadd, 1) := by decide +kernel
theorem d4_21 : decode jdk_33_method_22_code 21 = .ok (.aaload, 1) := by decide +kernel
theorem d4_22 : decode jdk_33_method_22_code 22 = .ok (.areturn, 1) := by decide +kernel
theorem d4_23 : decode jdk_33_method_22_code 23 = .ok (.new 1, 3) := by decide +kernel
theorem d4_26 : decode jdk_33_method_22_code 26 = .ok (.dup, 1) := by decide +kernel
theorem d4_27 : decode jdk_33_method_22_code 27 = .ok (.iload_n 0, 1) := by decide +kernel
theorem d4_28 : decode jdk_33_method_22_code 28 = .ok (.invokespecial 199, 3) := by decide +kernel
theorem d4_31 : decode jdk_33_method_22_code 31 = .ok (.areturn, 1) := by decide +kernel
theorem pn_rm_valueof : plainFor (⟨"java/lang/Integer", "valueOf", "(I)Ljava/lang/Integer;"⟩ : MethodName) = true := by first | exact plainFor_of_name (by first | (simp [plainName, overriddenIn]; done) | decide +kernel) | decide +kernel
set_option maxRecDepth 65536 in
set_option maxHeartbeats 40000000 in
theorem rm_valueof {l : Launch} {Z : State} {a0 : Array Value} (hw : ∀ d ∈ tables_1, d.before a0 Z = true) (x : Int32) (ca : Addr) (kc : ClassId) (cv : List Value) {h0 : Heap} (I0 : Sta Z h0 "java/lang/Integer$IntegerCache" "high" "I" (.int (127 : Int32))) (I1 : Sta Z h0 "java/lang/Integer$IntegerCache" "cache" "[Ljava/lang/Integer;" (.ref ca)) (I2 : OAry Z h0 ca kc (.object "java/lang/Integer") cv) (hx0 : ¬ x < 0) (hca : (∀ j : Int32, ¬ j < 0 → j < 256 → ∃ b, cv[j.toNatClampNeg]? = some (.ref b) ∧ Exa Z h0 b "java/lang/Integer" ∧ Fld Z h0 b "java/lang/Integer" "value" "I" (.int (j - 128)))) :
    OMet l (⟨"java/lang/Integer", "valueOf", "(I)Ljava/lang/Integer;"⟩ : MethodName) jdk_33_method_22_code 1 (Option.some (Jvm.ClassFile.FieldType.object "java/lang/Integer")) ({ frames := 3, cells := 1, slots := 1, locals := 38 } : Room) #[(.int x)] Z h0 (fun vR hR LR => ∃ b : Addr, vR = some (.ref b) ∧ OPr h0 [] hR LR ∧ Exa Z hR b "java/lang/Integer" ∧ Fld Z hR b "java/lang/Integer" "value" "I" (.int x)) := by
  refine OMet.body pn_rm_valueof (Ls := #[.val (.int x)]) (fun m => by first | (simp [entryFrame, mkF, argsToLocals, Value.category]; done) | rfl) ?_
  intro p e s m below meth c T0 K hK X0 hx hby hml hown hnm hret hlk hZ eh0
  have P0 := OPr.refl h0 []
  refine g_iloadN X0 hx (hb hby d4_0) (rfl : 0 + 1 = 1) rfl ?_
  refine g_bipush X0 hx (-128 : Int32) (hb hby d4_1) (rfl : 1 + 2 = 3) (by decide) ?_
  refine g_icmpN X0 hx (hb hby d4_3) (XT.ii_lt_f (fun q => hx0 (Int32.lt_trans q (by decide)))) (rfl : 3 + 3 = 6) ?_
  refine g_iloadN X0 hx (hb hby d4_6) (rfl : 6 + 1 = 7) rfl ?_
  refine g_gets X0 hx hZ hown (host := "") (Or.inl (wd hw 31 rfl)) Via.refl eh0 I0 (hb hby d4_7) (rfl : 7 + 3 = 10) fun T1 X1 eh1 => ?_
  by_cases h1 : (127 : Int32) < x
  · refine g_icmpY X1 hx (hb hby d4_10) (XT.ii_gt_t h1) (by decide) (pc' := 23) (by decide) ?_
    refine g_new X1 hx hZ hown (wd hw 274 rfl) (wd hw 275 rfl) (wd hw 29 rfl) eh1 P0 (hb hby d4_23) (rfl : 23 + 3 = 26) (by decide) (by decide) fun T2 hh2 a2 q2 g2 X2 eh2 E2 P2 A2 D2 => ?_
    have f3 : Fld Z hh2 a2 "java/lang/Integer" "value" "I" (.int (0 : Int32)) := D2 (Or.inr (wd hw 144 rfl)) (ty := .int) (by decide)
    refine g_dup X2 hx (hb hby d4_26) (rfl : 26 + 1 = 27) rfl ?_
    refine g_iloadN X2 hx (hb hby d4_27) (rfl : 27 + 1 = 28) rfl ?_
    refine g_special X2 hx hZ hown eh2 (rm_inti hw a2 x A2 f3) rfl (wd hw 276 rfl) (wd hw 277 rfl) (wd hw 278 rfl) (wd hw 29 rfl) (by decide) (a := a2) (argsL := [(.int x)]) (rest := [(.ref a2)]) rfl rfl (ps := [.int]) (by decide) rfl (W := 1) (Nat.le_of_eq rfl) (by decide) (by decide) (by decide) (by decide) (by rw [hml]; rfl) (hb hby d4_28) (rfl : 28 + 3 = 31) fun v4 T4 hh4 L4 X4 eh4 Q4 => ?_
    obtain ⟨rfl, Pc4, G4_0⟩ := Q4
    have P4 := P2.call Pc4 (allS (Or.inr g2) all0)
    show OGo p e below K T4 (mkF m 31 #[.val (.int x)] [(.ref a2)])
    have F5 := (exaP A2 Pc4)
    exact g_ret X4 hx hret hlk rfl (Or.inr (Or.inr (Or.inr (Or.inr ⟨rfl, rfl, rfl⟩)))) (hb hby d4_31) (by decide) (by decide) eh4 hK ⟨a2, rfl, P4, F5, G4_0⟩
  · refine g_icmpN X1 hx (hb hby d4_10) (XT.ii_gt_f h1) (rfl : 10 + 3 = 13) ?_
    refine g_gets X1 hx hZ hown (host := "") (Or.inl (wd hw 33 rfl)) Via.refl eh1 I1 (hb hby d4_13) (rfl : 13 + 3 = 16) fun T6 X6 eh6 => ?_
    refine g_iloadN X6 hx (hb hby d4_16) (rfl : 16 + 1 = 17) rfl ?_
    refine g_sipush X6 hx (128 : Int32) (hb hby d4_17) (rfl : 17 + 3 = 20) (by decide) ?_
    refine g_iadd X6 hx (hb hby d4_20) (rfl : 20 + 1 = 21) (z := (x + (128 : Int32))) rfl ?_
    obtain ⟨b, hb1, hb2, hb3⟩ := hca (x + 128) (idx128 hx0 h1).1 (idx128 hx0 h1).2.1
    rw [(idx128 hx0 h1).2.2] at hb3
    refine g_aaload X6 hx hZ eh6 I2 rfl (v := (.ref b)) (idx128 hx0 h1).1 hb1 (hb hby d4_21) (rfl : 21 + 1 = 22) ?_
    exact g_ret X6 hx hret hlk rfl (Or.inr (Or.inr (Or.inr (Or.inr ⟨rfl, rfl, rfl⟩)))) (hb hby d4_22) (by decide) (by decide) eh6 hK ⟨b, rfl, P0, hb2, hb3⟩
theorem d12_0 : decode prog_3_method_9_code 0 = .ok (.aload_n 0, 1) := by decide +kernel
theorem d12_1 : decode prog_3_method_9_code 1 = .ok (.invokeinterface 81 1, 5) := by decide +kernel
theorem d12_6 : decode prog_3_method_9_code 6 = .ok (.astore_n 1, 1) := by decide +kernel
theorem d12_7 : decode prog_3_method_9_code 7 = .ok (.aload_n 1, 1) := by decide +kernel
theorem d12_8 : decode prog_3_method_9_code 8 = .ok (.invokeinterface 85 1, 5) := by decide +kernel
theorem d12_13 : decode prog_3_method_9_code 13 = .ok (.ifCond .eq 37, 3) := by decide +kernel
theorem d12_16 : decode prog_3_method_9_code 16 = .ok (.aload_n 1, 1) := by decide +kernel
theorem d12_17 : decode prog_3_method_9_code 17 = .ok (.invokeinterface 91 1, 5) := by decide +kernel
theorem d12_22 : decode prog_3_method_9_code 22 = .ok (.checkcast 1, 3) := by decide +kernel
theorem d12_25 : decode prog_3_method_9_code 25 = .ok (.invokevirtual 54, 3) := by decide +kernel
theorem d12_28 : decode prog_3_method_9_code 28 = .ok (.istore_n 2, 1) := by decide +kernel
theorem d12_29 : decode prog_3_method_9_code 29 = .ok (.iload_n 2, 1) := by decide +kernel
theorem d12_30 : decode prog_3_method_9_code 30 = .ok (.ifCond .ge 17, 3) := by decide +kernel
theorem d12_47 : decode prog_3_method_9_code 47 = .ok (.goto (-40), 3) := by decide +kernel
theorem d12_50 : decode prog_3_method_9_code 50 = .ok (.aload_n 0, 1) := by decide +kernel
theorem d12_51 : decode prog_3_method_9_code 51 = .ok (.invokestatic 98, 3) := by decide +kernel
theorem d12_54 : decode prog_3_method_9_code 54 = .ok (.areturn, 1) := by decide +kernel
theorem pn_rm_chkn_1 : plainFor (⟨"com/example/evenhand/evenhand/Bounds", "checkNonNegative", "(Ljava/util/List;)Ljava/util/List;"⟩ : MethodName) = true := by first | exact plainFor_of_name (by first | (simp [plainName, overriddenIn]; done) | decide +kernel) | decide +kernel
set_option maxRecDepth 65536 in
set_option maxHeartbeats 40000000 in
theorem rm_chkn_1 {l : Launch} {Z : State} {a0 : Array Value} (hw : ∀ d ∈ tables_1, d.before a0 Z = true) (a : Addr) (ar : Addr) (kr : ClassId) (x0 : Addr) (mr : Addr) (em : Addr) (v0 : Int32) {h0 : Heap} (I0 : Exa Z h0 a "java/util/ArrayList") (I1 : Fld Z h0 a "java/util/ArrayList" "elementData" "[Ljava/lang/Object;" (.ref ar)) (I2 : Fld Z h0 a "java/util/ArrayList" "size" "I" (.int (1 : Int32))) (I3 : OAry Z h0 ar kr (.object "java/lang/Object") [(.ref x0), .null, .null, .null, .null, .null, .null, .null, .null, .null]) (I4 : Exa Z h0 ar "[Ljava/lang/Object;") (I5 : Exa Z h0 x0 "java/lang/Integer") (I6 : Sta Z h0 "java/util/ImmutableCollections" "EMPTY" "Ljava/lang/Object;" (.ref em)) (I7 : Fld Z h0 a "java/util/AbstractList" "modCount" "I" (.int (1 : Int32))) (I8 : Fld Z h0 x0 "java/lang/Integer" "value" "I" (.int v0)) (hm : OMir Z "[Ljava/lang/Object;" mr) (hv0 : ¬ v0 < 0) :
    OMet l (⟨"com/example/evenhand/evenhand/Bounds", "checkNonNegative", "(Ljava/util/List;)Ljava/util/List;"⟩ : MethodName) prog_3_method_9_code 3 (Option.some (Jvm.ClassFile.FieldType.object "java/util/List")) ({ frames := 8, cells := 3, slots := 7, locals := 100 } : Room) #[(.ref a)] Z h0 (fun vR hR LR => ∃ o : Addr, vR = some (.ref o) ∧ OPr h0 [] hR LR ∧ h0.size ≤ o ∧ Exa Z hR o "java/util/ImmutableCollections$List12" ∧ Fld Z hR o "java/util/ImmutableCollections$List12" "e0" "Ljava/lang/Object;" (.ref x0) ∧ Fld Z hR o "java/util/ImmutableCollections$List12" "e1" "Ljava/lang/Object;" (.ref em)) := by
  refine OMet.body pn_rm_chkn_1 (Ls := #[.val (.ref a), .unset, .unset]) (fun m => by first | (simp [entryFrame, mkF, argsToLocals, Value.category]; done) | rfl) ?_
  intro p e s m below meth c T0 K hK X0 hx hby hml hown hnm hret hlk hZ eh0
  have P0 := OPr.refl h0 []
  refine g_aloadN X0 hx (hb hby d12_0) (rfl : 0 + 1 = 1) rfl rfl ?_
  refine g_face X0 hx hZ hown eh0 (rm_iter hw a (1 : Int32) I0 I7) (C := "java/util/ArrayList") (wd hw 87 rfl) (wd hw 88 rfl) (wd hw 89 rfl) (wd hw 90 rfl) (wd hw 91 rfl) (wd hw 92 rfl) (wd hw 93 rfl) (wd hw 41 rfl) (wd hw 94 rfl) (wd hw 3 rfl) (by decide) (a := a) I0 (argsL := []) (rest := []) rfl rfl (ps := []) (rt := (some (.object "java/util/Iterator"))) (by decide) rfl (W := 0) (Nat.le_of_eq rfl) (by decide) (by decide) (by decide) (by decide) (by rw [hml]; rfl) (hb hby d12_1) (rfl : 1 + 5 = 6) fun v1 T1 hh1 L1 X1 eh1 Q1 => ?_
  obtain ⟨it_1, rfl, Pc1, G1_0, G1_1, G1_2, G1_3, G1_4, G1_5⟩ := Q1
  have P1 := P0.call Pc1 all0
  show OGo p e below K T1 (mkF m 6 #[.val (.ref a), .unset, .unset] [(.ref it_1)])
  refine g_astoreN X1 hx (hb hby d12_6) (rfl : 6 + 1 = 7) rfl (Ls' := #[.val (.ref a), .val (.ref it_1), .unset]) rfl ?_
  refine g_aloadN X1 hx (hb hby d12_7) (rfl : 7 + 1 = 8) rfl rfl ?_
  have F3 := (fldP I2 Pc1 nin0)
  refine g_face X1 hx hZ hown eh1 (rm_hasnext hw it_1 a (0 : Int32) (1 : Int32) (1 : Int32) G1_2 G1_3 F3 (by decide)) (C := "java/util/ArrayList$Itr") (wd hw 110 rfl) (wd hw 111 rfl) (wd hw 112 rfl) (wd hw 113 rfl) (wd hw 114 rfl) (wd hw 115 rfl) (wd hw 116 rfl) (wd hw 117 rfl) (wd hw 118 rfl) (wd hw 97 rfl) (by decide) (a := it_1) G1_1 (argsL := []) (rest := []) rfl rfl (ps := []) (rt := (some .boolean)) (by decide) rfl (W := 0) (Nat.le_of_eq rfl) (by decide) (by decide) (by decide) (by decide) (by rw [hml]; rfl) (hb hby d12_8) (rfl : 8 + 5 = 13) fun v2 T2 hh2 L2 X2 eh2 Q2 => ?_
  obtain ⟨rfl, Pc2⟩ := Q2
  have P2 := P1.call Pc2 all0
  show OGo p e below K T2 (mkF m 13 #[.val (.ref a), .val (.ref it_1), .unset] [(.int (1 : Int32))])
  refine g_ifN X2 hx (hb hby d12_13) (XT.i0_eq_f (by decide)) (rfl : 13 + 3 = 16) ?_
  refine g_aloadN X2 hx (hb hby d12_16) (rfl : 16 + 1 = 17) rfl rfl ?_
  have ne5 : a ≠ it_1 := Nat.ne_of_lt (Nat.lt_of_lt_of_le I0.lt G1_0)
  have ne6 : ar ≠ it_1 := Nat.ne_of_lt (Nat.lt_of_lt_of_le I4.lt G1_0)
  have F7 := (exaP G1_1 Pc2)
  have F8 := (fldP G1_2 Pc2 nin0)
  have F9 := (fldP G1_3 Pc2 nin0)
  have F10 := (fldP G1_4 Pc2 nin0)
  have F11 := (fldP G1_5 Pc2 nin0)
  have F12 := (fldP I7 P2 nin0)
  have F13 := (fldP F3 Pc2 nin0)
  have F14 := (fldP I1 P2 nin0)
  have F15 := (aryP I3 P2 nin0)
  refine g_face X2 hx hZ hown eh2 (rm_next_1_0 hw it_1 a ar kr (1 : Int32) (-1 : Int32) x0 F7 F8 F9 F10 F11 F12 F13 F14 F15 ne5 ne6) (C := "java/util/ArrayList$Itr") (wd hw 122 rfl) (wd hw 123 rfl) (wd hw 124 rfl) (wd hw 125 rfl) (wd hw 126 rfl) (wd hw 127 rfl) (wd hw 128 rfl) (wd hw 117 rfl) (wd hw 129 rfl) (wd hw 97 rfl) (by decide) (a := it_1) F7 (argsL := []) (rest := []) rfl rfl (ps := []) (rt := (some (.object "java/lang/Object"))) (by decide) rfl (W := 0) (Nat.le_of_eq rfl) (by decide) (by decide) (by decide) (by decide) (by rw [hml]; rfl) (hb hby d12_17) (rfl : 17 + 5 = 22) fun v4 T4 hh4 L4 X4 eh4 Q4 => ?_
  obtain ⟨rfl, Pc4, G4_0, G4_1, G4_2, G4_3⟩ := Q4
  have P4 := P2.call Pc4 (allS (Or.inr (Nat.le_trans P0.size G1_0)) all0)
  show OGo p e below K T4 (mkF m 22 #[.val (.ref a), .val (.ref it_1), .unset] [(.ref x0)])
  have F17 := (exaP I5 P4)
  refine g_cast X4 hx hZ hown (wd hw 136 rfl) eh4 (Ins.self F17) (hb hby d12_22) (rfl : 22 + 3 = 25) fun T16 X16 eh16 => ?_
  have F19 := (fldP I8 P4 nin0)
  refine g_virtual X16 hx hZ hown eh16 (rm_intv hw x0 v0 F19) (C := "java/lang/Integer") (wd hw 138 rfl) (wd hw 139 rfl) (notFace_of_selects (args := #[]) (mvT hZ (wd hw 141 rfl))) (wd hw 141 rfl) (wd hw 140 rfl) (wd hw 142 rfl) (wd hw 29 rfl) (by decide) (a := x0) F17 (argsL := []) (rest := []) rfl rfl (ps := []) (rt := (some .int)) (by decide) rfl (W := 0) (Nat.le_of_eq rfl) (by decide) (by decide) (by decide) (by decide) (by rw [hml]; rfl) (hb hby d12_25) (rfl : 25 + 3 = 28) fun v18 T18 hh18 L18 X18 eh18 Q18 => ?_
  obtain ⟨rfl, Pc18⟩ := Q18
  have P18 := P4.call Pc18 all0
  show OGo p e below K T18 (mkF m 28 #[.val (.ref a), .val (.ref it_1), .unset] [(.int v0)])
  refine g_istoreN X18 hx (hb hby d12_28) (rfl : 28 + 1 = 29) (Ls' := #[.val (.ref a), .val (.ref it_1), .val (.int v0)]) rfl ?_
  refine g_iloadN X18 hx (hb hby d12_29) (rfl : 29 + 1 = 30) rfl ?_
  refine g_ifY X18 hx (hb hby d12_30) (XT.i0_ge_t hv0) (by decide) (pc' := 47) (by decide) ?_
  refine g_goto X18 hx (hb hby d12_47) (by decide) (pc' := 7) (by decide) ?_
  refine g_aloadN X18 hx (hb hby d12_7) (rfl : 7 + 1 = 8) rfl rfl ?_
  have F21 := (fldP G4_0 Pc18 nin0)
  have F22 := (fldP G4_1 Pc18 nin0)
  have F23 := (fldP (fldP F13 Pc4 (ninS ne5 nin0)) Pc18 nin0)
  have F24 := (exaP (exaP F7 Pc4) Pc18)
  refine g_face X18 hx hZ hown eh18 (rm_hasnext hw it_1 a (1 : Int32) (1 : Int32) (0 : Int32) F21 F22 F23 (by decide)) (C := "java/util/ArrayList$Itr") (wd hw 110 rfl) (wd hw 111 rfl) (wd hw 112 rfl) (wd hw 113 rfl) (wd hw 114 rfl) (wd hw 115 rfl) (wd hw 116 rfl) (wd hw 117 rfl) (wd hw 118 rfl) (wd hw 97 rfl) (by decide) (a := it_1) F24 (argsL := []) (rest := []) rfl rfl (ps := []) (rt := (some .boolean)) (by decide) rfl (W := 0) (Nat.le_of_eq rfl) (by decide) (by decide) (by decide) (by decide) (by rw [hml]; rfl) (hb hby d12_8) (rfl : 8 + 5 = 13) fun v20 T20 hh20 L20 X20 eh20 Q20 => ?_
  obtain ⟨rfl, Pc20⟩ := Q20
  have P20 := P18.call Pc20 all0
  show OGo p e below K T20 (mkF m 13 #[.val (.ref a), .val (.ref it_1), .val (.int v0)] [(.int (0 : Int32))])
  refine g_ifY X20 hx (hb hby d12_13) (XT.i0_eq_t (by decide)) (by decide) (pc' := 50) (by decide) ?_
  refine g_aloadN X20 hx (hb hby d12_50) (rfl : 50 + 1 = 51) rfl rfl ?_
  have F26 := (exaP I0 P20)
  have F27 := (fldP (fldP (fldP F14 Pc4 (ninS ne5 nin0)) Pc18 nin0) Pc20 nin0)
  have F28 := (fldP F23 Pc20 nin0)
  have F29 := (aryP (aryP (aryP F15 Pc4 (ninS ne6 nin0)) Pc18 nin0) Pc20 nin0)
  have F30 := (exaP I4 P20)
  have F31 := (exaP (exaP F17 Pc18) Pc20)
  have F32 := (staP I6 P20)
  refine g_static X20 hx hZ hown eh20 (rm_copyof_1 hw a ar kr x0 mr em F26 F27 F28 F29 F30 F31 F32 hm) (wd hw 145 rfl) (wd hw 146 rfl) (wd hw 148 rfl) (wd hw 147 rfl) (by decide) (argsL := [(.ref a)]) (rest := []) rfl rfl (ps := [(.object "java/util/Collection")]) (rt := (some (.object "java/util/List"))) (by decide) rfl (W := 0) (Nat.le_of_eq rfl) (by decide) (by decide) (by decide) (by decide) (by rw [hml]; rfl) (hb hby d12_51) (rfl : 51 + 3 = 54) fun v25 T25 hh25 L25 X25 eh25 Q25 => ?_
  obtain ⟨o_25, rfl, Pc25, G25_0, G25_1, G25_2, G25_3⟩ := Q25
  have P25 := P20.call Pc25 all0
  show OGo p e below K T25 (mkF m 54 #[.val (.ref a), .val (.ref it_1), .val (.int v0)] [(.ref o_25)])
  exact g_ret X25 hx hret hlk rfl (Or.inr (Or.inr (Or.inr (Or.inr ⟨rfl, rfl, rfl⟩)))) (hb hby d12_54) (by decide) (by decide) eh25 hK ⟨o_25, rfl, P25, (Nat.le_trans P20.size G25_0), G25_1, G25_2, G25_3⟩
theorem d10_0 : decode prog_3_method_1_code 0 = .ok (.aload_n 0, 1) := by decide +kernel
theorem d10_1 : decode prog_3_method_1_code 1 = .ok (.invokespecial 3, 3) := by decide +kernel
theorem d10_4 : decode prog_3_method_1_code 4 = .ok (.aload_n 1, 1) := by decide +kernel
theorem d10_5 : decode prog_3_method_1_code 5 = .ok (.invokeinterface 9 1, 5) := by decide +kernel
theorem d10_10 : decode prog_3_method_1_code 10 = .ok (.aload_n 2, 1) := by decide +kernel
theorem d10_11 : decode prog_3_method_1_code 11 = .ok (.invokeinterface 9 1, 5) := by decide +kernel
theorem d10_16 : decode prog_3_method_1_code 16 = .ok (.if_icmp .eq 28, 3) := by decide +kernel
theorem d10_44 : decode prog_3_method_1_code 44 = .ok (.aload_n 0, 1) := by decide +kernel
theorem d10_45 : decode prog_3_method_1_code 45 = .ok (.aload_n 1, 1) := by decide +kernel
theorem d10_46 : decode prog_3_method_1_code 46 = .ok (.invokestatic 24, 3) := by decide +kernel
theorem d10_49 : decode prog_3_method_1_code 49 = .ok (.putfield 30, 3) := by decide +kernel
theorem d10_52 : decode prog_3_method_1_code 52 = .ok (.aload_n 0, 1) := by decide +kernel
theorem d10_53 : decode prog_3_method_1_code 53 = .ok (.aload_n 2, 1) := by decide +kernel
theorem d10_54 : decode prog_3_method_1_code 54 = .ok (.invokestatic 24, 3) := by decide +kernel
theorem d10_57 : decode prog_3_method_1_code 57 = .ok (.putfield 34, 3) := by decide +kernel
theorem d10_60 : decode prog_3_method_1_code 60 = .ok (.return_, 1) := by decide +kernel
theorem pn_rm_bi_1 : plainFor (⟨"com/example/evenhand/evenhand/Bounds", "<init>", "(Ljava/util/List;Ljava/util/List;)V"⟩ : MethodName) = true := by first | exact plainFor_of_name (by first | (simp [plainName, overriddenIn]; done) | decide +kernel) | decide +kernel
set_option maxRecDepth 65536 in
set_option maxHeartbeats 40000000 in
theorem rm_bi_1 {l : Launch} {Z : State} {a0 : Array Value} (hw : ∀ d ∈ tables_1, d.before a0 Z = true) (t : Addr) (a : Addr) (ar : Addr) (kr : ClassId) (x0 : Addr) (v0 : Int32) (aq : Addr) (arq : Addr) (krq : ClassId) (x0q : Addr) (v0q : Int32) (mr : Addr) (em : Addr) {h0 : Heap} (I0 : Exa Z h0 t "com/example/evenhand/evenhand/Bounds") (I1 : Fld Z h0 t "com/example/evenhand/evenhand/Bounds" "min" "Ljava/util/List;" .null) (I2 : Fld Z h0 t "com/example/evenhand/evenhand/Bounds" "max" "Ljava/util/List;" .null) (I3 : Exa Z h0 a "java/util/ArrayList") (I4 : Fld Z h0 a "java/util/ArrayList" "elementData" "[Ljava/lang/Object;" (.ref ar)) (I5 : Fld Z h0 a "java/util/ArrayList" "size" "I" (.int (1 : Int32))) (I6 : OAry Z h0 ar kr (.object "java/lang/Object") [(.ref x0), .null, .null, .null, .null, .null, .null, .null, .null, .null]) (I7 : Exa Z h0 ar "[Ljava/lang/Object;") (I8 : Exa Z h0 x0 "java/lang/Integer") (I9 : Fld Z h0 a "java/util/AbstractList" "modCount" "I" (.int (1 : Int32))) (I10 : Fld Z h0 x0 "java/lang/Integer" "value" "I" (.int v0)) (I11 : Exa Z h0 aq "java/util/ArrayList") (I12 : Fld Z h0 aq "java/util/ArrayList" "elementData" "[Ljava/lang/Object;" (.ref arq)) (I13 : Fld Z h0 aq "java/util/ArrayList" "size" "I" (.int (1 : Int32))) (I14 : OAry Z h0 arq krq (.object "java/lang/Object") [(.ref x0q), .null, .null, .null, .null, .null, .null, .null, .null, .null]) (I15 : Exa Z h0 arq "[Ljava/lang/Object;") (I16 : Exa Z h0 x0q "java/lang/Integer") (I17 : Fld Z h0 aq "java/util/AbstractList" "modCount" "I" (.int (1 : Int32))) (I18 : Fld Z h0 x0q "java/lang/Integer" "value" "I" (.int v0q)) (I19 : Sta Z h0 "java/util/ImmutableCollections" "EMPTY" "Ljava/lang/Object;" (.ref em)) (hm : OMir Z "[Ljava/lang/Object;" mr) (hv0 : ¬ v0 < 0) (hv0q : ¬ v0q < 0) (nt_a : a ≠ t) (nt_ar : ar ≠ t) (nt_aq : aq ≠ t) (nt_arq : arq ≠ t) (nt_x0 : x0 ≠ t) (nt_x0q : x0q ≠ t) :
    OMet l (⟨"com/example/evenhand/evenhand/Bounds", "<init>", "(Ljava/util/List;Ljava/util/List;)V"⟩ : MethodName) prog_3_method_1_code 3 (Option.none : Option Jvm.ClassFile.FieldType) ({ frames := 9, cells := 6, slots := 14, locals := 115 } : Room) #[(.ref t), (.ref a), (.ref aq)] Z h0 (fun vR hR LR => ∃ o : Addr, vR = none ∧ OPr h0 [t] hR LR ∧ Fld Z hR t "com/example/evenhand/evenhand/Bounds" "max" "Ljava/util/List;" (.ref o) ∧ h0.size ≤ o ∧ Exa Z hR o "java/util/ImmutableCollections$List12" ∧ Fld Z hR o "java/util/ImmutableCollections$List12" "e0" "Ljava/lang/Object;" (.ref x0q) ∧ Fld Z hR o "java/util/ImmutableCollections$List12" "e1" "Ljava/lang/Object;" (.ref em)) := by
  refine OMet.body pn_rm_bi_1 (Ls := #[.val (.ref t), .val (.ref a), .val (.ref aq)]) (fun m => by first | (simp [entryFrame, mkF, argsToLocals, Value.category]; done) | rfl) ?_
  intro p e s m below meth c T0 K hK X0 hx hby hml hown hnm hret hlk hZ eh0
  have P0 := OPr.refl h0 [t]
  refine g_aloadN X0 hx (hb hby d10_0) (rfl : 0 + 1 = 1) rfl rfl ?_
  refine g_inito X0 hx hZ hown (wd hw 75 rfl) (wd hw 20 rfl) (wd hw 21 rfl) eh0 (by rw [hml]; rfl) (hb hby d10_1) (rfl : 1 + 3 = 4) (by decide) (W := 0) (Nat.le_of_eq rfl) (by decide) fun T1 X1 eh1 => ?_
  refine g_aloadN X1 hx (hb hby d10_4) (rfl : 4 + 1 = 5) rfl rfl ?_
  refine g_face X1 hx hZ hown eh1 (rm_size hw a (1 : Int32) I5) (C := "java/util/ArrayList") (wd hw 76 rfl) (wd hw 77 rfl) (wd hw 78 rfl) (wd hw 79 rfl) (wd hw 80 rfl) (wd hw 81 rfl) (wd hw 82 rfl) (wd hw 41 rfl) (wd hw 83 rfl) (wd hw 3 rfl) (by decide) (a := a) I3 (argsL := []) (rest := []) rfl rfl (ps := []) (rt := (some .int)) (by decide) rfl (W := 0) (Nat.le_of_eq rfl) (by decide) (by decide) (by decide) (by decide) (by rw [hml]; rfl) (hb hby d10_5) (rfl : 5 + 5 = 10) fun v2 T2 hh2 L2 X2 eh2 Q2 => ?_
  obtain ⟨rfl, Pc2⟩ := Q2
  have P2 := P0.call Pc2 all0
  show OGo p e below K T2 (mkF m 10 #[.val (.ref t), .val (.ref a), .val (.ref aq)] [(.int (1 : Int32))])
  refine g_aloadN X2 hx (hb hby d10_10) (rfl : 10 + 1 = 11) rfl rfl ?_
  have F4 := (fldP I13 Pc2 nin0)
  have F5 := (exaP I11 Pc2)
  refine g_face X2 hx hZ hown eh2 (rm_size hw aq (1 : Int32) F4) (C := "java/util/ArrayList") (wd hw 76 rfl) (wd hw 77 rfl) (wd hw 78 rfl) (wd hw 79 rfl) (wd hw 80 rfl) (wd hw 81 rfl) (wd hw 82 rfl) (wd hw 41 rfl) (wd hw 83 rfl) (wd hw 3 rfl) (by decide) (a := aq) F5 (argsL := []) (rest := [(.int (1 : Int32))]) rfl rfl (ps := []) (rt := (some .int)) (by decide) rfl (W := 1) (Nat.le_of_eq rfl) (by decide) (by decide) (by decide) (by decide) (by rw [hml]; rfl) (hb hby d10_11) (rfl : 11 + 5 = 16) fun v3 T3 hh3 L3 X3 eh3 Q3 => ?_
  obtain ⟨rfl, Pc3⟩ := Q3
  have P3 := P2.call Pc3 all0
  show OGo p e below K T3 (mkF m 16 #[.val (.ref t), .val (.ref a), .val (.ref aq)] [(.int (1 : Int32)), (.int (1 : Int32))])
  refine g_icmpY X3 hx (hb hby d10_16) (XT.ii_eq_t rfl) (by decide) (pc' := 44) (by decide) ?_
  refine g_aloadN X3 hx (hb hby d10_44) (rfl : 44 + 1 = 45) rfl rfl ?_
  refine g_aloadN X3 hx (hb hby d10_45) (rfl : 45 + 1 = 46) rfl rfl ?_
  have F7 := (exaP I3 P3)
  have F8 := (fldP I4 P3 (ninS nt_a nin0))
  have F9 := (fldP I5 P3 (ninS nt_a nin0))
  have F10 := (aryP I6 P3 (ninS nt_ar nin0))
  have F11 := (exaP I7 P3)
  have F12 := (exaP I8 P3)
  have F13 := (staP I19 P3)
  have F14 := (fldP I9 P3 (ninS nt_a nin0))
  have F15 := (fldP I10 P3 (ninS nt_x0 nin0))
  refine g_static X3 hx hZ hown eh3 (rm_chkn_1 hw a ar kr x0 mr em v0 F7 F8 F9 F10 F11 F12 F13 F14 F15 hm hv0) (wd hw 84 rfl) (wd hw 85 rfl) (wd hw 86 rfl) (wd hw 71 rfl) (by decide) (argsL := [(.ref a)]) (rest := [(.ref t)]) rfl rfl (ps := [(.object "java/util/List")]) (rt := (some (.object "java/util/List"))) (by decide) rfl (W := 1) (Nat.le_of_eq rfl) (by decide) (by decide) (by decide) (by decide) (by rw [hml]; rfl) (hb hby d10_46) (rfl : 46 + 3 = 49) fun v6 T6 hh6 L6 X6 eh6 Q6 => ?_
  obtain ⟨o_6, rfl, Pc6, G6_0, G6_1, G6_2, G6_3⟩ := Q6
  have P6 := P3.call Pc6 all0
  show OGo p e below K T6 (mkF m 49 #[.val (.ref t), .val (.ref a), .val (.ref aq)] [(.ref o_6), (.ref t)])
  have F16 := (fldP (fldP (fldP I1 Pc2 nin0) Pc3 nin0) Pc6 nin0)
  have F17 := (exaP I0 P6)
  refine g_putf X6 hx hZ hown (host := "") (Or.inl (wd hw 231 rfl)) Via.refl eh6 F16 F17 (Or.inr ⟨(wd hw 232 rfl), rfl, hnm⟩) (wd hw 70 rfl) (ty := (.object "java/util/List")) (by decide) rfl rfl P6 (Or.inl (List.mem_of_getElem? (i := 0) rfl)) (hb hby d10_49) (rfl : 49 + 3 = 52) fun T18 hh18 X18 eh18 W18 P18 F18 => ?_
  refine g_aloadN X18 hx (hb hby d10_52) (rfl : 52 + 1 = 53) rfl rfl ?_
  refine g_aloadN X18 hx (hb hby d10_53) (rfl : 53 + 1 = 54) rfl rfl ?_
  have F20 := ((exaP (exaP F5 Pc3) Pc6).wr W18)
  have F21 := (fldP I12 P18 (ninS nt_aq nin0))
  have F22 := ((fldP (fldP F4 Pc3 nin0) Pc6 nin0).other W18 (Or.inl nt_aq))
  have F23 := (aryP I14 P18 (ninS nt_arq nin0))
  have F24 := (exaP I15 P18)
  have F25 := (exaP I16 P18)
  have F26 := ((staP F13 Pc6).wr W18)
  have F27 := (fldP I17 P18 (ninS nt_aq nin0))
  have F28 := (fldP I18 P18 (ninS nt_x0q nin0))
  refine g_static X18 hx hZ hown eh18 (rm_chkn_1 hw aq arq krq x0q mr em v0q F20 F21 F22 F23 F24 F25 F26 F27 F28 hm hv0q) (wd hw 84 rfl) (wd hw 85 rfl) (wd hw 86 rfl) (wd hw 71 rfl) (by decide) (argsL := [(.ref aq)]) (rest := [(.ref t)]) rfl rfl (ps := [(.object "java/util/List")]) (rt := (some (.object "java/util/List"))) (by decide) rfl (W := 1) (Nat.le_of_eq rfl) (by decide) (by decide) (by decide) (by decide) (by rw [hml]; rfl) (hb hby d10_54) (rfl : 54 + 3 = 57) fun v19 T19 hh19 L19 X19 eh19 Q19 => ?_
  obtain ⟨o_19, rfl, Pc19, G19_0, G19_1, G19_2, G19_3⟩ := Q19
  have P19 := P18.call Pc19 all0
  show OGo p e below K T19 (mkF m 57 #[.val (.ref t), .val (.ref a), .val (.ref aq)] [(.ref o_19), (.ref t)])
  have F29 := (fldP ((fldP (fldP (fldP I2 Pc2 nin0) Pc3 nin0) Pc6 nin0).other W18 (Or.inr (slot_ne (Or.inr (wd hw 234 rfl)) (Or.inr (wd hw 232 rfl)) (by decide) (t := (.object "java/util/List")) (by decide) (t' := (.object "java/util/List")) (by decide)))) Pc19 nin0)
  have F30 := (exaP (F17.wr W18) Pc19)
  refine g_putf X19 hx hZ hown (host := "") (Or.inl (wd hw 233 rfl)) Via.refl eh19 F29 F30 (Or.inr ⟨(wd hw 234 rfl), rfl, hnm⟩) (wd hw 70 rfl) (ty := (.object "java/util/List")) (by decide) rfl rfl P19 (Or.inl (List.mem_of_getElem? (i := 0) rfl)) (hb hby d10_57) (rfl : 57 + 3 = 60) fun T31 hh31 X31 eh31 W31 P31 F31 => ?_
  have F32 := (G19_1.wr W31)
  have F33 := (F17.wr W18)
  have ne34 : t ≠ o_19 := Nat.ne_of_lt (Nat.lt_of_lt_of_le F33.lt G19_0)
  have F35 := (G19_2.other W31 (Or.inl (Ne.symm ne34)))
  have F36 := (G19_3.other W31 (Or.inl (Ne.symm ne34)))
  exact g_ret0 X31 hx hret hlk (hb hby d10_60) (by decide) (by decide) eh31 hK ⟨o_19, rfl, P31, F31, (Nat.le_trans P18.size G19_0), F32, F35, F36⟩
theorem d32_0 : decode jdk_44_method_5_code 0 = .ok (.iload_n 1, 1) := by decide +kernel
theorem d32_1 : decode jdk_44_method_5_code 1 = .ok (.ifCond .ne 8, 3) := by decide +kernel
theorem d32_4 : decode jdk_44_method_5_code 4 = .ok (.aload_n 0, 1) := by decide +kernel
theorem d32_5 : decode jdk_44_method_5_code 5 = .ok (.getfield 13, 3) := by decide +kernel
theorem d32_8 : decode jdk_44_method_5_code 8 = .ok (.areturn, 1) := by decide +kernel
theorem pn_rm_l12get_1_0 : plainFor (⟨"java/util/ImmutableCollections$List12", "get", "(I)Ljava/lang/Object;"⟩ : MethodName) = true := by first | exact plainFor_of_name (by first | (simp [plainName, overriddenIn]; done) | decide +kernel) | decide +kernel
set_option maxRecDepth 65536 in
set_option maxHeartbeats 40000000 in
theorem rm_l12get_1_0 {l : Launch} {Z : State} {a0 : Array Value} (hw : ∀ d ∈ tables_1, d.before a0 Z = true) (o : Addr) (b : Addr) {h0 : Heap} (I0 : Fld Z h0 o "java/util/ImmutableCollections$List12" "e0" "Ljava/lang/Object;" (.ref b))  :
    OMet l (⟨"java/util/ImmutableCollections$List12", "get", "(I)Ljava/lang/Object;"⟩ : MethodName) jdk_44_method_5_code 2 (Option.some (Jvm.ClassFile.FieldType.object "java/lang/Object")) ({ frames := 0, cells := 0, slots := 0, locals := 0 } : Room) #[(.ref o), (.int (0 : Int32))] Z h0 (fun vR hR LR => vR = some (.ref b) ∧ OPr h0 [] hR LR) := by
  refine OMet.body pn_rm_l12get_1_0 (Ls := #[.val (.ref o), .val (.int (0 : Int32))]) (fun m => by first | (simp [entryFrame, mkF, argsToLocals, Value.category]; done) | rfl) ?_
  intro p e s m below meth c T0 K hK X0 hx hby hml hown hnm hret hlk hZ eh0
  have P0 := OPr.refl h0 []
  refine g_iloadN X0 hx (hb hby d32_0) (rfl : 0 + 1 = 1) rfl ?_
  refine g_ifN X0 hx (hb hby d32_1) (XT.i0_ne_f (by decide)) (rfl : 1 + 3 = 4) ?_
  refine g_aloadN X0 hx (hb hby d32_4) (rfl : 4 + 1 = 5) rfl rfl ?_
  refine g_getf X0 hx hZ hown (host := "") (Or.inl (wd hw 226 rfl)) Via.refl eh0 I0 (hb hby d32_5) (rfl : 5 + 3 = 8) fun T1 X1 eh1 => ?_
  exact g_ret X1 hx hret hlk rfl (Or.inr (Or.inr (Or.inr (Or.inr ⟨rfl, rfl, rfl⟩)))) (hb hby d32_8) (by decide) (by decide) eh1 hK ⟨rfl, P0⟩
theorem d31_0 : decode prog_3_method_5_code 0 = .ok (.aload_n 0, 1) := by decide +kernel
theorem d31_1 : decode prog_3_method_5_code 1 = .ok (.getfield 34, 3) := by decide +kernel
theorem d31_4 : decode prog_3_method_5_code 4 = .ok (.iload_n 1, 1) := by decide +kernel
theorem d31_5 : decode prog_3_method_5_code 5 = .ok (.invokeinterface 50 2, 5) := by decide +kernel
theorem d31_10 : decode prog_3_method_5_code 10 = .ok (.checkcast 1, 3) := by decide +kernel
theorem d31_13 : decode prog_3_method_5_code 13 = .ok (.invokevirtual 54, 3) := by decide +kernel
theorem d31_16 : decode prog_3_method_5_code 16 = .ok (.ireturn, 1) := by decide +kernel
theorem pn_rm_bmax_1_0 : plainFor (⟨"com/example/evenhand/evenhand/Bounds", "max", "(I)I"⟩ : MethodName) = true := by first | exact plainFor_of_name (by first | (simp [plainName, overriddenIn]; done) | decide +kernel) | decide +kernel
set_option maxRecDepth 65536 in
set_option maxHeartbeats 40000000 in
theorem rm_bmax_1_0 {l : Launch} {Z : State} {a0 : Array Value} (hw : ∀ d ∈ tables_1, d.before a0 Z = true) (t : Addr) (o : Addr) (b : Addr) (v : Int32) {h0 : Heap} (I0 : Fld Z h0 t "com/example/evenhand/evenhand/Bounds" "max" "Ljava/util/List;" (.ref o)) (I1 : Exa Z h0 o "java/util/ImmutableCollections$List12") (I2 : Fld Z h0 o "java/util/ImmutableCollections$List12" "e0" "Ljava/lang/Object;" (.ref b)) (I3 : Exa Z h0 b "java/lang/Integer") (I4 : Fld Z h0 b "java/lang/Integer" "value" "I" (.int v))  :
    OMet l (⟨"com/example/evenhand/evenhand/Bounds", "max", "(I)I"⟩ : MethodName) prog_3_method_5_code 2 (Option.some Jvm.ClassFile.FieldType.int) ({ frames := 1, cells := 0, slots := 0, locals := 13 } : Room) #[(.ref t), (.int (0 : Int32))] Z h0 (fun vR hR LR => vR = some (.int v) ∧ OPr h0 [] hR LR) := by
  refine OMet.body pn_rm_bmax_1_0 (Ls := #[.val (.ref t), .val (.int (0 : Int32))]) (fun m => by first | (simp [entryFrame, mkF, argsToLocals, Value.category]; done) | rfl) ?_
  intro p e s m below meth c T0 K hK X0 hx hby hml hown hnm hret hlk hZ eh0
  have P0 := OPr.refl h0 []
  refine g_aloadN X0 hx (hb hby d31_0) (rfl : 0 + 1 = 1) rfl rfl ?_
  refine g_getf X0 hx hZ hown (host := "") (Or.inl (wd hw 233 rfl)) Via.refl eh0 I0 (hb hby d31_1) (rfl : 1 + 3 = 4) fun T1 X1 eh1 => ?_
  refine g_iloadN X1 hx (hb hby d31_4) (rfl : 4 + 1 = 5) rfl ?_
  refine g_face X1 hx hZ hown eh1 (rm_l12get_1_0 hw o b I2) (C := "java/util/ImmutableCollections$List12") (wd hw 240 rfl) (wd hw 241 rfl) (wd hw 242 rfl) (wd hw 243 rfl) (wd hw 244 rfl) (wd hw 245 rfl) (wd hw 246 rfl) (wd hw 247 rfl) (wd hw 248 rfl) (wd hw 203 rfl) (by decide) (a := o) I1 (argsL := [(.int (0 : Int32))]) (rest := []) rfl rfl (ps := [.int]) (rt := (some (.object "java/lang/Object"))) (by decide) rfl (W := 0) (Nat.le_of_eq rfl) (by decide) (by decide) (by decide) (by decide) (by rw [hml]; rfl) (hb hby d31_5) (rfl : 5 + 5 = 10) fun v2 T2 hh2 L2 X2 eh2 Q2 => ?_
  obtain ⟨rfl, Pc2⟩ := Q2
  have P2 := P0.call Pc2 all0
  show OGo p e below K T2 (mkF m 10 #[.val (.ref t), .val (.int (0 : Int32))] [(.ref b)])
  have F4 := (exaP I3 Pc2)
  refine g_cast X2 hx hZ hown (wd hw 136 rfl) eh2 (Ins.self F4) (hb hby d31_10) (rfl : 10 + 3 = 13) fun T3 X3 eh3 => ?_
  have F6 := (fldP I4 Pc2 nin0)
  refine g_virtual X3 hx hZ hown eh3 (rm_intv hw b v F6) (C := "java/lang/Integer") (wd hw 138 rfl) (wd hw 139 rfl) (notFace_of_selects (args := #[]) (mvT hZ (wd hw 141 rfl))) (wd hw 141 rfl) (wd hw 140 rfl) (wd hw 142 rfl) (wd hw 29 rfl) (by decide) (a := b) F4 (argsL := []) (rest := []) rfl rfl (ps := []) (rt := (some .int)) (by decide) rfl (W := 0) (Nat.le_of_eq rfl) (by decide) (by decide) (by decide) (by decide) (by rw [hml]; rfl) (hb hby d31_13) (rfl : 13 + 3 = 16) fun v5 T5 hh5 L5 X5 eh5 Q5 => ?_
  obtain ⟨rfl, Pc5⟩ := Q5
  have P5 := P2.call Pc5 all0
  show OGo p e below K T5 (mkF m 16 #[.val (.ref t), .val (.int (0 : Int32))] [(.int v)])
  exact g_ret X5 hx hret hlk rfl (Or.inl ⟨rfl, Or.inl rfl, _, rfl⟩) (hb hby d31_16) (by decide) (by decide) eh5 hK ⟨rfl, P5⟩
theorem pn_rm_chkn_2 : plainFor (⟨"com/example/evenhand/evenhand/Bounds", "checkNonNegative", "(Ljava/util/List;)Ljava/util/List;"⟩ : MethodName) = true := by first | exact plainFor_of_name (by first | (simp [plainName, overriddenIn]; done) | decide +kernel) | decide +kernel
set_option maxRecDepth 65536 in
set_option maxHeartbeats 40000000 in
theorem rm_chkn_2 {l : Launch} {Z : State} {a0 : Array Value} (hw : ∀ d ∈ tables_1, d.before a0 Z = true) (a : Addr) (ar : Addr) (kr : ClassId) (x0 : Addr) (x1 : Addr) (mr : Addr) (v0 : Int32) (v1 : Int32) {h0 : Heap} (I0 : Exa Z h0 a "java/util/ArrayList") (I1 : Fld Z h0 a "java/util/ArrayList" "elementData" "[Ljava/lang/Object;" (.ref ar)) (I2 : Fld Z h0 a "java/util/ArrayList" "size" "I" (.int (2 : Int32))) (I3 : OAry Z h0 ar kr (.object "java/lang/Object") [(.ref x0), (.ref x1), .null, .null, .null, .null, .null, .null, .null, .null]) (I4 : Exa Z h0 ar "[Ljava/lang/Object;") (I5 : Exa Z h0 x0 "java/lang/Integer") (I6 : Exa Z h0 x1 "java/lang/Integer") (I7 : Fld Z h0 a "java/util/AbstractList" "modCount" "I" (.int (2 : Int32))) (I8 : Fld Z h0 x0 "java/lang/Integer" "value" "I" (.int v0)) (I9 : Fld Z h0 x1 "java/lang/Integer" "value" "I" (.int v1)) (hm : OMir Z "[Ljava/lang/Object;" mr) (hv0 : ¬ v0 < 0) (hv1 : ¬ v1 < 0) :
    OMet l (⟨"com/example/evenhand/evenhand/Bounds", "checkNonNegative", "(Ljava/util/List;)Ljava/util/List;"⟩ : MethodName) prog_3_method_9_code 3 (Option.some (Jvm.ClassFile.FieldType.object "java/util/List")) ({ frames := 8, cells := 3, slots := 8, locals := 101 } : Room) #[(.ref a)] Z h0 (fun vR hR LR => ∃ o : Addr, vR = some (.ref o) ∧ OPr h0 [] hR LR ∧ h0.size ≤ o ∧ Exa Z hR o "java/util/ImmutableCollections$List12" ∧ Fld Z hR o "java/util/ImmutableCollections$List12" "e0" "Ljava/lang/Object;" (.ref x0) ∧ Fld Z hR o "java/util/ImmutableCollections$List12" "e1" "Ljava/lang/Object;" (.ref x1)) := by
  refine OMet.body pn_rm_chkn_2 (Ls := #[.val (.ref a), .unset, .unset]) (fun m => by first | (simp [entryFrame, mkF, argsToLocals, Value.category]; done) | rfl) ?_
  intro p e s m below meth c T0 K hK X0 hx hby hml hown hnm hret hlk hZ eh0
  have P0 := OPr.refl h0 []
  refine g_aloadN X0 hx (hb hby d12_0) (rfl : 0 + 1 = 1) rfl rfl ?_
  refine g_face X0 hx hZ hown eh0 (rm_iter hw a (2 : Int32) I0 I7) (C := "java/util/ArrayList") (wd hw 87 rfl) (wd hw 88 rfl) (wd hw 89 rfl) (wd hw 90 rfl) (wd hw 91 rfl) (wd hw 92 rfl) (wd hw 93 rfl) (wd hw 41 rfl) (wd hw 94 rfl) (wd hw 3 rfl) (by decide) (a := a) I0 (argsL := []) (rest := []) rfl rfl (ps := []) (rt := (some (.object "java/util/Iterator"))) (by decide) rfl (W := 0) (Nat.le_of_eq rfl) (by decide) (by decide) (by decide) (by decide) (by rw [hml]; rfl) (hb hby d12_1) (rfl : 1 + 5 = 6) fun v1 T1 hh1 L1 X1 eh1 Q1 => ?_
  obtain ⟨it_1, rfl, Pc1, G1_0, G1_1, G1_2, G1_3, G1_4, G1_5⟩ := Q1
  have P1 := P0.call Pc1 all0
  show OGo p e below K T1 (mkF m 6 #[.val (.ref a), .unset, .unset] [(.ref it_1)])
  refine g_astoreN X1 hx (hb hby d12_6) (rfl : 6 + 1 = 7) rfl (Ls' := #[.val (.ref a), .val (.ref it_1), .unset]) rfl ?_
  refine g_aloadN X1 hx (hb hby d12_7) (rfl : 7 + 1 = 8) rfl rfl ?_
  have F3 := (fldP I2 Pc1 nin0)
  refine g_face X1 hx hZ hown eh1 (rm_hasnext hw it_1 a (0 : Int32) (2 : Int32) (1 : Int32) G1_2 G1_3 F3 (by decide)) (C := "java/util/ArrayList$Itr") (wd hw 110 rfl) (wd hw 111 rfl) (wd hw 112 rfl) (wd hw 113 rfl) (wd hw 114 rfl) (wd hw 115 rfl) (wd hw 116 rfl) (wd hw 117 rfl) (wd hw 118 rfl) (wd hw 97 rfl) (by decide) (a := it_1) G1_1 (argsL := []) (rest := []) rfl rfl (ps := []) (rt := (some .boolean)) (by decide) rfl (W := 0) (Nat.le_of_eq rfl) (by decide) (by decide) (by decide) (by decide) (by rw [hml]; rfl) (hb hby d12_8) (rfl : 8 + 5 = 13) fun v2 T2 hh2 L2 X2 eh2 Q2 => ?_
  obtain ⟨rfl, Pc2⟩ := Q2
  have P2 := P1.call Pc2 all0
  show OGo p e below K T2 (mkF m 13 #[.val (.ref a), .val (.ref it_1), .unset] [(.int (1 : Int32))])
  refine g_ifN X2 hx (hb hby d12_13) (XT.i0_eq_f (by decide)) (rfl : 13 + 3 = 16) ?_
  refine g_aloadN X2 hx (hb hby d12_16) (rfl : 16 + 1 = 17) rfl rfl ?_
  have ne5 : a ≠ it_1 := Nat.ne_of_lt (Nat.lt_of_lt_of_le I0.lt G1_0)
  have ne6 : ar ≠ it_1 := Nat.ne_of_lt (Nat.lt_of_lt_of_le I4.lt G1_0)
  have F7 := (exaP G1_1 Pc2)
  have F8 := (fldP G1_2 Pc2 nin0)
  have F9 := (fldP G1_3 Pc2 nin0)
  have F10 := (fldP G1_4 Pc2 nin0)
  have F11 := (fldP G1_5 Pc2 nin0)
  have F12 := (fldP I7 P2 nin0)
  have F13 := (fldP F3 Pc2 nin0)
  have F14 := (fldP I1 P2 nin0)
  have F15 := (aryP I3 P2 nin0)
  refine g_face X2 hx hZ hown eh2 (rm_next_2_0 hw it_1 a ar kr (2 : Int32) (-1 : Int32) x0 x1 F7 F8 F9 F10 F11 F12 F13 F14 F15 ne5 ne6) (C := "java/util/ArrayList$Itr") (wd hw 122 rfl) (wd hw 123 rfl) (wd hw 124 rfl) (wd hw 125 rfl) (wd hw 126 rfl) (wd hw 127 rfl) (wd hw 128 rfl) (wd hw 117 rfl) (wd hw 129 rfl) (wd hw 97 rfl) (by decide) (a := it_1) F7 (argsL := []) (rest := []) rfl rfl (ps := []) (rt := (some (.object "java/lang/Object"))) (by decide) rfl (W := 0) (Nat.le_of_eq rfl) (by decide) (by decide) (by decide) (by decide) (by rw [hml]; rfl) (hb hby d12_17) (rfl : 17 + 5 = 22) fun v4 T4 hh4 L4 X4 eh4 Q4 => ?_
  obtain ⟨rfl, Pc4, G4_0, G4_1, G4_2, G4_3⟩ := Q4
  have P4 := P2.call Pc4 (allS (Or.inr (Nat.le_trans P0.size G1_0)) all0)
  show OGo p e below K T4 (mkF m 22 #[.val (.ref a), .val (.ref it_1), .unset] [(.ref x0)])
  have F17 := (exaP I5 P4)
  refine g_cast X4 hx hZ hown (wd hw 136 rfl) eh4 (Ins.self F17) (hb hby d12_22) (rfl : 22 + 3 = 25) fun T16 X16 eh16 => ?_
  have F19 := (fldP I8 P4 nin0)
  refine g_virtual X16 hx hZ hown eh16 (rm_intv hw x0 v0 F19) (C := "java/lang/Integer") (wd hw 138 rfl) (wd hw 139 rfl) (notFace_of_selects (args := #[]) (mvT hZ (wd hw 141 rfl))) (wd hw 141 rfl) (wd hw 140 rfl) (wd hw 142 rfl) (wd hw 29 rfl) (by decide) (a := x0) F17 (argsL := []) (rest := []) rfl rfl (ps := []) (rt := (some .int)) (by decide) rfl (W := 0) (Nat.le_of_eq rfl) (by decide) (by decide) (by decide) (by decide) (by rw [hml]; rfl) (hb hby d12_25) (rfl : 25 + 3 = 28) fun v18 T18 hh18 L18 X18 eh18 Q18 => ?_
  obtain ⟨rfl, Pc18⟩ := Q18
  have P18 := P4.call Pc18 all0
  show OGo p e below K T18 (mkF m 28 #[.val (.ref a), .val (.ref it_1), .unset] [(.int v0)])
  refine g_istoreN X18 hx (hb hby d12_28) (rfl : 28 + 1 = 29) (Ls' := #[.val (.ref a), .val (.ref it_1), .val (.int v0)]) rfl ?_
  refine g_iloadN X18 hx (hb hby d12_29) (rfl : 29 + 1 = 30) rfl ?_
  refine g_ifY X18 hx (hb hby d12_30) (XT.i0_ge_t hv0) (by decide) (pc' := 47) (by decide) ?_
  refine g_goto X18 hx (hb hby d12_47) (by decide) (pc' := 7) (by decide) ?_
  refine g_aloadN X18 hx (hb hby d12_7) (rfl : 7 + 1 = 8) rfl rfl ?_
  have F21 := (fldP G4_0 Pc18 nin0)
  have F22 := (fldP G4_1 Pc18 nin0)
  have F23 := (fldP (fldP F13 Pc4 (ninS ne5 nin0)) Pc18 nin0)
  have F24 := (exaP (exaP F7 Pc4) Pc18)
  refine g_face X18 hx hZ hown eh18 (rm_hasnext hw it_1 a (1 : Int32) (2 : Int32) (1 : Int32) F21 F22 F23 (by decide)) (C := "java/util/ArrayList$Itr") (wd hw 110 rfl) (wd hw 111 rfl) (wd hw 112 rfl) (wd hw 113 rfl) (wd hw 114 rfl) (wd hw 115 rfl) (wd hw 116 rfl) (wd hw 117 rfl) (wd hw 118 rfl) (wd hw 97 rfl) (by decide) (a := it_1) F24 (argsL := []) (rest := []) rfl rfl (ps := []) (rt := (some .boolean)) (by decide) rfl (W := 0) (Nat.le_of_eq rfl) (by decide) (by decide) (by decide) (by decide) (by rw [hml]; rfl) (hb hby d12_8) (rfl : 8 + 5 = 13) fun v20 T20 hh20 L20 X20 eh20 Q20 => ?_
  obtain ⟨rfl, Pc20⟩ := Q20
  have P20 := P18.call Pc20 all0
  show OGo p e below K T20 (mkF m 13 #[.val (.ref a), .val (.ref it_1), .val (.int v0)] [(.int (1 : Int32))])
  refine g_ifN X20 hx (hb hby d12_13) (XT.i0_eq_f (by decide)) (rfl : 13 + 3 = 16) ?_
  refine g_aloadN X20 hx (hb hby d12_16) (rfl : 16 + 1 = 17) rfl rfl ?_
  have F26 := (exaP F24 Pc20)
  have F27 := (fldP F21 Pc20 nin0)
  have F28 := (fldP F22 Pc20 nin0)
  have F29 := (fldP (fldP G4_2 Pc18 nin0) Pc20 nin0)
  have F30 := (fldP (fldP G4_3 Pc18 nin0) Pc20 nin0)
  have F31 := (fldP (fldP (fldP F12 Pc4 (ninS ne5 nin0)) Pc18 nin0) Pc20 nin0)
  have F32 := (fldP F23 Pc20 nin0)
  have F33 := (fldP (fldP (fldP F14 Pc4 (ninS ne5 nin0)) Pc18 nin0) Pc20 nin0)
  have F34 := (aryP (aryP (aryP F15 Pc4 (ninS ne6 nin0)) Pc18 nin0) Pc20 nin0)
  refine g_face X20 hx hZ hown eh20 (rm_next_2_1 hw it_1 a ar kr (2 : Int32) (0 : Int32) x0 x1 F26 F27 F28 F29 F30 F31 F32 F33 F34 ne5 ne6) (C := "java/util/ArrayList$Itr") (wd hw 122 rfl) (wd hw 123 rfl) (wd hw 124 rfl) (wd hw 125 rfl) (wd hw 126 rfl) (wd hw 127 rfl) (wd hw 128 rfl) (wd hw 117 rfl) (wd hw 129 rfl) (wd hw 97 rfl) (by decide) (a := it_1) F26 (argsL := []) (rest := []) rfl rfl (ps := []) (rt := (some (.object "java/lang/Object"))) (by decide) rfl (W := 0) (Nat.le_of_eq rfl) (by decide) (by decide) (by decide) (by decide) (by rw [hml]; rfl) (hb hby d12_17) (rfl : 17 + 5 = 22) fun v25 T25 hh25 L25 X25 eh25 Q25 => ?_
  obtain ⟨rfl, Pc25, G25_0, G25_1, G25_2, G25_3⟩ := Q25
  have P25 := P20.call Pc25 (allS (Or.inr (Nat.le_trans P0.size G1_0)) all0)
  show OGo p e below K T25 (mkF m 22 #[.val (.ref a), .val (.ref it_1), .val (.int v0)] [(.ref x1)])
  have F36 := (exaP I6 P25)
  refine g_cast X25 hx hZ hown (wd hw 136 rfl) eh25 (Ins.self F36) (hb hby d12_22) (rfl : 22 + 3 = 25) fun T35 X35 eh35 => ?_
  have F38 := (fldP I9 P25 nin0)
  refine g_virtual X35 hx hZ hown eh35 (rm_intv hw x1 v1 F38) (C := "java/lang/Integer") (wd hw 138 rfl) (wd hw 139 rfl) (notFace_of_selects (args := #[]) (mvT hZ (wd hw 141 rfl))) (wd hw 141 rfl) (wd hw 140 rfl) (wd hw 142 rfl) (wd hw 29 rfl) (by decide) (a := x1) F36 (argsL := []) (rest := []) rfl rfl (ps := []) (rt := (some .int)) (by decide) rfl (W := 0) (Nat.le_of_eq rfl) (by decide) (by decide) (by decide) (by decide) (by rw [hml]; rfl) (hb hby d12_25) (rfl : 25 + 3 = 28) fun v37 T37 hh37 L37 X37 eh37 Q37 => ?_
  obtain ⟨rfl, Pc37⟩ := Q37
  have P37 := P25.call Pc37 all0
  show OGo p e below K T37 (mkF m 28 #[.val (.ref a), .val (.ref it_1), .val (.int v0)] [(.int v1)])
  refine g_istoreN X37 hx (hb hby d12_28) (rfl : 28 + 1 = 29) (Ls' := #[.val (.ref a), .val (.ref it_1), .val (.int v1)]) rfl ?_
  refine g_iloadN X37 hx (hb hby d12_29) (rfl : 29 + 1 = 30) rfl ?_
  refine g_ifY X37 hx (hb hby d12_30) (XT.i0_ge_t hv1) (by decide) (pc' := 47) (by decide) ?_
  refine g_goto X37 hx (hb hby d12_47) (by decide) (pc' := 7) (by decide) ?_
  refine g_aloadN X37 hx (hb hby d12_7) (rfl : 7 + 1 = 8) rfl rfl ?_
  have F40 := (fldP G25_0 Pc37 nin0)
  have F41 := (fldP G25_1 Pc37 nin0)
  have F42 := (fldP (fldP F32 Pc25 (ninS ne5 nin0)) Pc37 nin0)
  have F43 := (exaP (exaP F26 Pc25) Pc37)
  refine g_face X37 hx hZ hown eh37 (rm_hasnext hw it_1 a (2 : Int32) (2 : Int32) (0 : Int32) F40 F41 F42 (by decide)) (C := "java/util/ArrayList$Itr") (wd hw 110 rfl) (wd hw 111 rfl) (wd hw 112 rfl) (wd hw 113 rfl) (wd hw 114 rfl) (wd hw 115 rfl) (wd hw 116 rfl) (wd hw 117 rfl) (wd hw 118 rfl) (wd hw 97 rfl) (by decide) (a := it_1) F43 (argsL := []) (rest := []) rfl rfl (ps := []) (rt := (some .boolean)) (by decide) rfl (W := 0) (Nat.le_of_eq rfl) (by decide) (by decide) (by decide) (by decide) (by rw [hml]; rfl) (hb hby d12_8) (rfl : 8 + 5 = 13) fun v39 T39 hh39 L39 X39 eh39 Q39 => ?_
  obtain ⟨rfl, Pc39⟩ := Q39
  have P39 := P37.call Pc39 all0
  show OGo p e below K T39 (mkF m 13 #[.val (.ref a), .val (.ref it_1), .val (.int v1)] [(.int (0 : Int32))])
  refine g_ifY X39 hx (hb hby d12_13) (XT.i0_eq_t (by decide)) (by decide) (pc' := 50) (by decide) ?_
  refine g_aloadN X39 hx (hb hby d12_50) (rfl : 50 + 1 = 51) rfl rfl ?_
  have F45 := (exaP I0 P39)
  have F46 := (fldP (fldP (fldP F33 Pc25 (ninS ne5 nin0)) Pc37 nin0) Pc39 nin0)
  have F47 := (fldP F42 Pc39 nin0)
  have F48 := (aryP (aryP (aryP F34 Pc25 (ninS ne6 nin0)) Pc37 nin0) Pc39 nin0)
  have F49 := (exaP I4 P39)
  have F50 := (exaP (exaP (exaP (exaP (exaP F17 Pc18) Pc20) Pc25) Pc37) Pc39)
  have F51 := (exaP (exaP F36 Pc37) Pc39)
  refine g_static X39 hx hZ hown eh39 (rm_copyof_2 hw a ar kr x0 x1 mr F45 F46 F47 F48 F49 F50 F51 hm) (wd hw 145 rfl) (wd hw 146 rfl) (wd hw 148 rfl) (wd hw 147 rfl) (by decide) (argsL := [(.ref a)]) (rest := []) rfl rfl (ps := [(.object "java/util/Collection")]) (rt := (some (.object "java/util/List"))) (by decide) rfl (W := 0) (Nat.le_of_eq rfl) (by decide) (by decide) (by decide) (by decide) (by rw [hml]; rfl) (hb hby d12_51) (rfl : 51 + 3 = 54) fun v44 T44 hh44 L44 X44 eh44 Q44 => ?_
  obtain ⟨o_44, rfl, Pc44, G44_0, G44_1, G44_2, G44_3⟩ := Q44
  have P44 := P39.call Pc44 all0
  show OGo p e below K T44 (mkF m 54 #[.val (.ref a), .val (.ref it_1), .val (.int v1)] [(.ref o_44)])
  exact g_ret X44 hx hret hlk rfl (Or.inr (Or.inr (Or.inr (Or.inr ⟨rfl, rfl, rfl⟩)))) (hb hby d12_54) (by decide) (by decide) eh44 hK ⟨o_44, rfl, P44, (Nat.le_trans P39.size G44_0), G44_1, G44_2, G44_3⟩
theorem pn_rm_bi_2 : plainFor (⟨"com/example/evenhand/evenhand/Bounds", "<init>", "(Ljava/util/List;Ljava/util/List;)V"⟩ : MethodName) = true := by first | exact plainFor_of_name (by first | (simp [plainName, overriddenIn]; done) | decide +kernel) | decide +kernel
set_option maxRecDepth 65536 in
set_option maxHeartbeats 40000000 in
theorem rm_bi_2 {l : Launch} {Z : State} {a0 : Array Value} (hw : ∀ d ∈ tables_1, d.before a0 Z = true) (t : Addr) (a : Addr) (ar : Addr) (kr : ClassId) (x0 : Addr) (x1 : Addr) (v0 : Int32) (v1 : Int32) (aq : Addr) (arq : Addr) (krq : ClassId) (x0q : Addr) (x1q : Addr) (v0q : Int32) (v1q : Int32) (mr : Addr) {h0 : Heap} (I0 : Exa Z h0 t "com/example/evenhand/evenhand/Bounds") (I1 : Fld Z h0 t "com/example/evenhand/evenhand/Bounds" "min" "Ljava/util/List;" .null) (I2 : Fld Z h0 t "com/example/evenhand/evenhand/Bounds" "max" "Ljava/util/List;" .null) (I3 : Exa Z h0 a "java/util/ArrayList") (I4 : Fld Z h0 a "java/util/ArrayList" "elementData" "[Ljava/lang/Object;" (.ref ar)) (I5 : Fld Z h0 a "java/util/ArrayList" "size" "I" (.int (2 : Int32))) (I6 : OAry Z h0 ar kr (.object "java/lang/Object") [(.ref x0), (.ref x1), .null, .null, .null, .null, .null, .null, .null, .null]) (I7 : Exa Z h0 ar "[Ljava/lang/Object;") (I8 : Exa Z h0 x0 "java/lang/Integer") (I9 : Exa Z h0 x1 "java/lang/Integer") (I10 : Fld Z h0 a "java/util/AbstractList" "modCount" "I" (.int (2 : Int32))) (I11 : Fld Z h0 x0 "java/lang/Integer" "value" "I" (.int v0)) (I12 : Fld Z h0 x1 "java/lang/Integer" "value" "I" (.int v1)) (I13 : Exa Z h0 aq "java/util/ArrayList") (I14 : Fld Z h0 aq "java/util/ArrayList" "elementData" "[Ljava/lang/Object;" (.ref arq)) (I15 : Fld Z h0 aq "java/util/ArrayList" "size" "I" (.int (2 : Int32))) (I16 : OAry Z h0 arq krq (.object "java/lang/Object") [(.ref x0q), (.ref x1q), .null, .null, .null, .null, .null, .null, .null, .null]) (I17 : Exa Z h0 arq "[Ljava/lang/Object;") (I18 : Exa Z h0 x0q "java/lang/Integer") (I19 : Exa Z h0 x1q "java/lang/Integer") (I20 : Fld Z h0 aq "java/util/AbstractList" "modCount" "I" (.int (2 : Int32))) (I21 : Fld Z h0 x0q "java/lang/Integer" "value" "I" (.int v0q)) (I22 : Fld Z h0 x1q "java/lang/Integer" "value" "I" (.int v1q)) (hm : OMir Z "[Ljava/lang/Object;" mr) (hv0 : ¬ v0 < 0) (hv1 : ¬ v1 < 0) (hv0q : ¬ v0q < 0) (hv1q : ¬ v1q < 0) (nt_a : a ≠ t) (nt_ar : ar ≠ t) (nt_aq : aq ≠ t) (nt_arq : arq ≠ t) (nt_x0 : x0 ≠ t) (nt_x1 : x1 ≠ t) (nt_x0q : x0q ≠ t) (nt_x1q : x1q ≠ t) :
    OMet l (⟨"com/example/evenhand/evenhand/Bounds", "<init>", "(Ljava/util/List;Ljava/util/List;)V"⟩ : MethodName) prog_3_method_1_code 3 (Option.none : Option Jvm.ClassFile.FieldType) ({ frames := 9, cells := 6, slots := 16, locals := 116 } : Room) #[(.ref t), (.ref a), (.ref aq)] Z h0 (fun vR hR LR => ∃ o : Addr, vR = none ∧ OPr h0 [t] hR LR ∧ Fld Z hR t "com/example/evenhand/evenhand/Bounds" "max" "Ljava/util/List;" (.ref o) ∧ h0.size ≤ o ∧ Exa Z hR o "java/util/ImmutableCollections$List12" ∧ Fld Z hR o "java/util/ImmutableCollections$List12" "e0" "Ljava/lang/Object;" (.ref x0q) ∧ Fld Z hR o "java/util/ImmutableCollections$List12" "e1" "Ljava/lang/Object;" (.ref x1q)) := by
  refine OMet.body pn_rm_bi_2 (Ls := #[.val (.ref t), .val (.ref a), .val (.ref aq)]) (fun m => by first | (simp [entryFrame, mkF, argsToLocals, Value.category]; done) | rfl) ?_
  intro p e s m below meth c T0 K hK X0 hx hby hml hown hnm hret hlk hZ eh0
  have P0 := OPr.refl h0 [t]
  refine g_aloadN X0 hx (hb hby d10_0) (rfl : 0 + 1 = 1) rfl rfl ?_
  refine g_inito X0 hx hZ hown (wd hw 75 rfl) (wd hw 20 rfl) (wd hw 21 rfl) eh0 (by rw [hml]; rfl) (hb hby d10_1) (rfl : 1 + 3 = 4) (by decide) (W := 0) (Nat.le_of_eq rfl) (by decide) fun T1 X1 eh1 => ?_
  refine g_aloadN X1 hx (hb hby d10_4) (rfl : 4 + 1 = 5) rfl rfl ?_
  refine g_face X1 hx hZ hown eh1 (rm_size hw a (2 : Int32) I5) (C := "java/util/ArrayList") (wd hw 76 rfl) (wd hw 77 rfl) (wd hw 78 rfl) (wd hw 79 rfl) (wd hw 80 rfl) (wd hw 81 rfl) (wd hw 82 rfl) (wd hw 41 rfl) (wd hw 83 rfl) (wd hw 3 rfl) (by decide) (a := a) I3 (argsL := []) (rest := []) rfl rfl (ps := []) (rt := (some .int)) (by decide) rfl (W := 0) (Nat.le_of_eq rfl) (by decide) (by decide) (by decide) (by decide) (by rw [hml]; rfl) (hb hby d10_5) (rfl : 5 + 5 = 10) fun v2 T2 hh2 L2 X2 eh2 Q2 => ?_
  obtain ⟨rfl, Pc2⟩ := Q2
  have P2 := P0.call Pc2 all0
  show OGo p e below K T2 (mkF m 10 #[.val (.ref t), .val (.ref a), .val (.ref aq)] [(.int (2 : Int32))])
  refine g_aloadN X2 hx (hb hby d10_10) (rfl : 10 + 1 = 11) rfl rfl ?_
  have F4 := (fldP I15 Pc2 nin0)
  have F5 := (exaP I13 Pc2)
  refine g_face X2 hx hZ hown eh2 (rm_size hw aq (2 : Int32) F4) (C := "java/util/ArrayList") (wd hw 76 rfl) (wd hw 77 rfl) (wd hw 78 rfl) (wd hw 79 rfl) (wd hw 80 rfl) (wd hw 81 rfl) (wd hw 82 rfl) (wd hw 41 rfl) (wd hw 83 rfl) (wd hw 3 rfl) (by decide) (a := aq) F5 (argsL := []) (rest := [(.int (2 : Int32))]) rfl rfl (ps := []) (rt := (some .int)) (by decide) rfl (W := 1) (Nat.le_of_eq rfl) (by decide) (by decide) (by decide) (by decide) (by rw [hml]; rfl) (hb hby d10_11) (rfl : 11 + 5 = 16) fun v3 T3 hh3 L3 X3 eh3 Q3 => ?_
  obtain ⟨rfl, Pc3⟩ := Q3
  have P3 := P2.call Pc3 all0
  show OGo p e below K T3 (mkF m 16 #[.val (.ref t), .val (.ref a), .val (.ref aq)] [(.int (2 : Int32)), (.int (2 : Int32))])
  refine g_icmpY X3 hx (hb hby d10_16) (XT.ii_eq_t rfl) (by decide) (pc' := 44) (by decide) ?_
  refine g_aloadN X3 hx (hb hby d10_44) (rfl : 44 + 1 = 45) rfl rfl ?_
  refine g_aloadN X3 hx (hb hby d10_45) (rfl : 45 + 1 = 46) rfl rfl ?_
  have F7 := (exaP I3 P3)
  have F8 := (fldP I4 P3 (ninS nt_a nin0))
  have F9 := (fldP I5 P3 (ninS nt_a nin0))
  have F10 := (aryP I6 P3 (ninS nt_ar nin0))
  have F11 := (exaP I7 P3)
  have F12 := (exaP I8 P3)
  have F13 := (exaP I9 P3)
  have F14 := (fldP I10 P3 (ninS nt_a nin0))
  have F15 := (fldP I11 P3 (ninS nt_x0 nin0))
  have F16 := (fldP I12 P3 (ninS nt_x1 nin0))
  refine g_static X3 hx hZ hown eh3 (rm_chkn_2 hw a ar kr x0 x1 mr v0 v1 F7 F8 F9 F10 F11 F12 F13 F14 F15 F16 hm hv0 hv1) (wd hw 84 rfl) (wd hw 85 rfl) (wd hw 86 rfl) (wd hw 71 rfl) (by decide) (argsL := [(.ref a)]) (rest := [(.ref t)]) rfl rfl (ps := [(.object "java/util/List")]) (rt := (some (.object "java/util/List"))) (by decide) rfl (W := 1) (Nat.le_of_eq rfl) (by decide) (by decide) (by decide) (by decide) (by rw [hml]; rfl) (hb hby d10_46) (rfl : 46 + 3 = 49) fun v6 T6 hh6 L6 X6 eh6 Q6 => ?_
  obtain ⟨o_6, rfl, Pc6, G6_0, G6_1, G6_2, G6_3⟩ := Q6
  have P6 := P3.call Pc6 all0
  show OGo p e below K T6 (mkF m 49 #[.val (.ref t), .val (.ref a), .val (.ref aq)] [(.ref o_6), (.ref t)])
  have F17 := (fldP (fldP (fldP I1 Pc2 nin0) Pc3 nin0) Pc6 nin0)
  have F18 := (exaP I0 P6)
  refine g_putf X6 hx hZ hown (host := "") (Or.inl (wd hw 231 rfl)) Via.refl eh6 F17 F18 (Or.inr ⟨(wd hw 232 rfl), rfl, hnm⟩) (wd hw 70 rfl) (ty := (.object "java/util/List")) (by decide) rfl rfl P6 (Or.inl (List.mem_of_getElem? (i := 0) rfl)) (hb hby d10_49) (rfl : 49 + 3 = 52) fun T19 hh19 X19 eh19 W19 P19 F19 => ?_
  refine g_aloadN X19 hx (hb hby d10_52) (rfl : 52 + 1 = 53) rfl rfl ?_
  refine g_aloadN X19 hx (hb hby d10_53) (rfl : 53 + 1 = 54) rfl rfl ?_
  have F21 := ((exaP (exaP F5 Pc3) Pc6).wr W19)
  have F22 := (fldP I14 P19 (ninS nt_aq nin0))
  have F23 := ((fldP (fldP F4 Pc3 nin0) Pc6 nin0).other W19 (Or.inl nt_aq))
  have F24 := (aryP I16 P19 (ninS nt_arq nin0))
  have F25 := (exaP I17 P19)
  have F26 := (exaP I18 P19)
  have F27 := (exaP I19 P19)
  have F28 := (fldP I20 P19 (ninS nt_aq nin0))
  have F29 := (fldP I21 P19 (ninS nt_x0q nin0))
  have F30 := (fldP I22 P19 (ninS nt_x1q nin0))
  refine g_static X19 hx hZ hown eh19 (rm_chkn_2 hw aq arq krq x0q x1q mr v0q v1q F21 F22 F23 F24 F25 F26 F27 F28 F29 F30 hm hv0q hv1q) (wd hw 84 rfl) (wd hw 85 rfl) (wd hw 86 rfl) (wd hw 71 rfl) (by decide) (argsL := [(.ref aq)]) (rest := [(.ref t)]) rfl rfl (ps := [(.object "java/util/List")]) (rt := (some (.object "java/util/List"))) (by decide) rfl (W := 1) (Nat.le_of_eq rfl) (by decide) (by decide) (by decide) (by decide) (by rw [hml]; rfl) (hb hby d10_54) (rfl : 54 + 3 = 57) fun v20 T20 hh20 L20 X20 eh20 Q20 => ?_
  obtain ⟨o_20, rfl, Pc20, G20_0, G20_1, G20_2, G20_3⟩ := Q20
  have P20 := P19.call Pc20 all0
  show OGo p e below K T20 (mkF m 57 #[.val (.ref t), .val (.ref a), .val (.ref aq)] [(.ref o_20), (.ref t)])
  have F31 := (fldP ((fldP (fldP (fldP I2 Pc2 nin0) Pc3 nin0) Pc6 nin0).other W19 (Or.inr (slot_ne (Or.inr (wd hw 234 rfl)) (Or.inr (wd hw 232 rfl)) (by decide) (t := (.object "java/util/List")) (by decide) (t' := (.object "java/util/List")) (by decide)))) Pc20 nin0)
  have F32 := (exaP (F18.wr W19) Pc20)
  refine g_putf X20 hx hZ hown (host := "") (Or.inl (wd hw 233 rfl)) Via.refl eh20 F31 F32 (Or.inr ⟨(wd hw 234 rfl), rfl, hnm⟩) (wd hw 70 rfl) (ty := (.object "java/util/List")) (by decide) rfl rfl P20 (Or.inl (List.mem_of_getElem? (i := 0) rfl)) (hb hby d10_57) (rfl : 57 + 3 = 60) fun T33 hh33 X33 eh33 W33 P33 F33 => ?_
  have F34 := (G20_1.wr W33)
  have F35 := (F18.wr W19)
  have ne36 : t ≠ o_20 := Nat.ne_of_lt (Nat.lt_of_lt_of_le F35.lt G20_0)
  have F37 := (G20_2.other W33 (Or.inl (Ne.symm ne36)))
  have F38 := (G20_3.other W33 (Or.inl (Ne.symm ne36)))
  exact g_ret0 X33 hx hret hlk (hb hby d10_60) (by decide) (by decide) eh33 hK ⟨o_20, rfl, P33, F33, (Nat.le_trans P19.size G20_0), F34, F37, F38⟩
theorem pn_rm_l12get_2_0 : plainFor (⟨"java/util/ImmutableCollections$List12", "get", "(I)Ljava/lang/Object;"⟩ : MethodName) = true := by first | exact plainFor_of_name (by first | (simp [plainName, overriddenIn]; done) | decide +kernel) | decide +kernel
set_option maxRecDepth 65536 in
set_option maxHeartbeats 40000000 in
theorem rm_l12get_2_0 {l : Launch} {Z : State} {a0 : Array Value} (hw : ∀ d ∈ tables_1, d.before a0 Z = true) (o : Addr) (b : Addr) {h0 : Heap} (I0 : Fld Z h0 o "java/util/ImmutableCollections$List12" "e0" "Ljava/lang/Object;" (.ref b))  :
    OMet l (⟨"java/util/ImmutableCollections$List12", "get", "(I)Ljava/lang/Object;"⟩ : MethodName) jdk_44_method_5_code 2 (Option.some (Jvm.ClassFile.FieldType.object "java/lang/Object")) ({ frames := 0, cells := 0, slots := 0, locals := 0 } : Room) #[(.ref o), (.int (0 : Int32))] Z h0 (fun vR hR LR => vR = some (.ref b) ∧ OPr h0 [] hR LR) := by
  refine OMet.body pn_rm_l12get_2_0 (Ls := #[.val (.ref o), .val (.int (0 : Int32))]) (fun m => by first | (simp [entryFrame, mkF, argsToLocals, Value.category]; done) | rfl) ?_
  intro p e s m below meth c T0 K hK X0 hx hby hml hown hnm hret hlk hZ eh0
  have P0 := OPr.refl h0 []
  refine g_iloadN X0 hx (hb hby d32_0) (rfl : 0 + 1 = 1) rfl ?_
  refine g_ifN X0 hx (hb hby d32_1) (XT.i0_ne_f (by decide)) (rfl : 1 + 3 = 4) ?_
  refine g_aloadN X0 hx (hb hby d32_4) (rfl : 4 + 1 = 5) rfl rfl ?_
  refine g_getf X0 hx hZ hown (host := "") (Or.inl (wd hw 226 rfl)) Via.refl eh0 I0 (hb hby d32_5) (rfl : 5 + 3 = 8) fun T1 X1 eh1 => ?_
  exact g_ret X1 hx hret hlk rfl (Or.inr (Or.inr (Or.inr (Or.inr ⟨rfl, rfl, rfl⟩)))) (hb hby d32_8) (by decide) (by decide) eh1 hK ⟨rfl, P0⟩
theorem pn_rm_bmax_2_0 : plainFor (⟨"com/example/evenhand/evenhand/Bounds", "max", "(I)I"⟩ : MethodName) = true := by first | exact plainFor_of_name (by first | (simp [plainName, overriddenIn]; done) | decide +kernel) | decide +kernel
set_option maxRecDepth 65536 in
set_option maxHeartbeats 40000000 in
theorem rm_bmax_2_0 {l : Launch} {Z : State} {a0 : Array Value} (hw : ∀ d ∈ tables_1, d.before a0 Z = true) (t : Addr) (o : Addr) (b : Addr) (v : Int32) {h0 : Heap} (I0 : Fld Z h0 t "com/example/evenhand/evenhand/Bounds" "max" "Ljava/util/List;" (.ref o)) (I1 : Exa Z h0 o "java/util/ImmutableCollections$List12") (I2 : Fld Z h0 o "java/util/ImmutableCollections$List12" "e0" "Ljava/lang/Object;" (.ref b)) (I3 : Exa Z h0 b "java/lang/Integer") (I4 : Fld Z h0 b "java/lang/Integer" "value" "I" (.int v))  :
    OMet l (⟨"com/example/evenhand/evenhand/Bounds", "max", "(I)I"⟩ : MethodName) prog_3_method_5_code 2 (Option.some Jvm.ClassFile.FieldType.int) ({ frames := 1, cells := 0, slots := 0, locals := 13 } : Room) #[(.ref t), (.int (0 : Int32))] Z h0 (fun vR hR LR => vR = some (.int v) ∧ OPr h0 [] hR LR) := by
  refine OMet.body pn_rm_bmax_2_0 (Ls := #[.val (.ref t), .val (.int (0 : Int32))]) (fun m => by first | (simp [entryFrame, mkF, argsToLocals, Value.category]; done) | rfl) ?_
  intro p e s m below meth c T0 K hK X0 hx hby hml hown hnm hret hlk hZ eh0
  have P0 := OPr.refl h0 []
  refine g_aloadN X0 hx (hb hby d31_0) (rfl : 0 + 1 = 1) rfl rfl ?_
  refine g_getf X0 hx hZ hown (host := "") (Or.inl (wd hw 233 rfl)) Via.refl eh0 I0 (hb hby d31_1) (rfl : 1 + 3 = 4) fun T1 X1 eh1 => ?_
  refine g_iloadN X1 hx (hb hby d31_4) (rfl : 4 + 1 = 5) rfl ?_
  refine g_face X1 hx hZ hown eh1 (rm_l12get_2_0 hw o b I2) (C := "java/util/ImmutableCollections$List12") (wd hw 240 rfl) (wd hw 241 rfl) (wd hw 242 rfl) (wd hw 243 rfl) (wd hw 244 rfl) (wd hw 245 rfl) (wd hw 246 rfl) (wd hw 247 rfl) (wd hw 248 rfl) (wd hw 203 rfl) (by decide) (a := o) I1 (argsL := [(.int (0 : Int32))]) (rest := []) rfl rfl (ps := [.int]) (rt := (some (.object "java/lang/Object"))) (by decide) rfl (W := 0) (Nat.le_of_eq rfl) (by decide) (by decide) (by decide) (by decide) (by rw [hml]; rfl) (hb hby d31_5) (rfl : 5 + 5 = 10) fun v2 T2 hh2 L2 X2 eh2 Q2 => ?_
  obtain ⟨rfl, Pc2⟩ := Q2
  have P2 := P0.call Pc2 all0
  show OGo p e below K T2 (mkF m 10 #[.val (.ref t), .val (.int (0 : Int32))] [(.ref b)])
  have F4 := (exaP I3 Pc2)
  refine g_cast X2 hx hZ hown (wd hw 136 rfl) eh2 (Ins.self F4) (hb hby d31_10) (rfl : 10 + 3 = 13) fun T3 X3 eh3 => ?_
  have F6 := (fldP I4 Pc2 nin0)
  refine g_virtual X3 hx hZ hown eh3 (rm_intv hw b v F6) (C := "java/lang/Integer") (wd hw 138 rfl) (wd hw 139 rfl) (notFace_of_selects (args := #[]) (mvT hZ (wd hw 141 rfl))) (wd hw 141 rfl) (wd hw 140 rfl) (wd hw 142 rfl) (wd hw 29 rfl) (by decide) (a := b) F4 (argsL := []) (rest := []) rfl rfl (ps := []) (rt := (some .int)) (by decide) rfl (W := 0) (Nat.le_of_eq rfl) (by decide) (by decide) (by decide) (by decide) (by rw [hml]; rfl) (hb hby d31_13) (rfl : 13 + 3 = 16) fun v5 T5 hh5 L5 X5 eh5 Q5 => ?_
  obtain ⟨rfl, Pc5⟩ := Q5
  have P5 := P2.call Pc5 all0
  show OGo p e below K T5 (mkF m 16 #[.val (.ref t), .val (.int (0 : Int32))] [(.int v)])
  exact g_ret X5 hx hret hlk rfl (Or.inl ⟨rfl, Or.inl rfl, _, rfl⟩) (hb hby d31_16) (by decide) (by decide) eh5 hK ⟨rfl, P5⟩
theorem d32_9 : decode jdk_44_method_5_code 9 = .ok (.iload_n 1, 1) := by decide +kernel
theorem d32_10 : decode jdk_44_method_5_code 10 = .ok (.iconst 1, 1) := by decide +kernel
theorem d32_11 : decode jdk_44_method_5_code 11 = .ok (.if_icmp .ne 18, 3) := by decide +kernel
theorem d32_14 : decode jdk_44_method_5_code 14 = .ok (.aload_n 0, 1) := by decide +kernel
theorem d32_15 : decode jdk_44_method_5_code 15 = .ok (.getfield 24, 3) := by decide +kernel
theorem d32_18 : decode jdk_44_method_5_code 18 = .ok (.getstatic 19, 3) := by decide +kernel
theorem d32_21 : decode jdk_44_method_5_code 21 = .ok (.if_acmp .eq 8, 3) := by decide +kernel
theorem d32_24 : decode jdk_44_method_5_code 24 = .ok (.aload_n 0, 1) := by decide +kernel
theorem d32_25 : decode jdk_44_method_5_code 25 = .ok (.getfield 24, 3) := by decide +kernel
theorem d32_28 : decode jdk_44_method_5_code 28 = .ok (.areturn, 1) := by decide +kernel
theorem pn_rm_l12get_2_1 : plainFor (⟨"java/util/ImmutableCollections$List12", "get", "(I)Ljava/lang/Object;"⟩ : MethodName) = true := by first | exact plainFor_of_name (by first | (simp [plainName, overriddenIn]; done) | decide +kernel) | decide +kernel
set_option maxRecDepth 65536 in
set_option maxHeartbeats 40000000 in
theorem rm_l12get_2_1 {l : Launch} {Z : State} {a0 : Array Value} (hw : ∀ d ∈ tables_1, d.before a0 Z = true) (o : Addr) (b : Addr) (em : Addr) {h0 : Heap} (I0 : Fld Z h0 o "java/util/ImmutableCollections$List12" "e1" "Ljava/lang/Object;" (.ref b)) (I1 : Sta Z h0 "java/util/ImmutableCollections" "EMPTY" "Ljava/lang/Object;" (.ref em)) (nb : b ≠ em) :
    OMet l (⟨"java/util/ImmutableCollections$List12", "get", "(I)Ljava/lang/Object;"⟩ : MethodName) jdk_44_method_5_code 2 (Option.some (Jvm.ClassFile.FieldType.object "java/lang/Object")) ({ frames := 0, cells := 0, slots := 0, locals := 0 } : Room) #[(.ref o), (.int (1 : Int32))] Z h0 (fun vR hR LR => vR = some (.ref b) ∧ OPr h0 [] hR LR) := by
  refine OMet.body pn_rm_l12get_2_1 (Ls := #[.val (.ref o), .val (.int (1 : Int32))]) (fun m => by first | (simp [entryFrame, mkF, argsToLocals, Value.category]; done) | rfl) ?_
  intro p e s m below meth c T0 K hK X0 hx hby hml hown hnm hret hlk hZ eh0
  have P0 := OPr.refl h0 []
  refine g_iloadN X0 hx (hb hby d32_0) (rfl : 0 + 1 = 1) rfl ?_
  refine g_ifY X0 hx (hb hby d32_1) (XT.i0_ne_t (by decide)) (by decide) (pc' := 9) (by decide) ?_
  refine g_iloadN X0 hx (hb hby d32_9) (rfl : 9 + 1 = 10) rfl ?_
  refine g_iconst X0 hx (1 : Int32) (hb hby d32_10) (rfl : 10 + 1 = 11) (by decide) ?_
  refine g_icmpN X0 hx (hb hby d32_11) (XT.ii_ne_f (by decide)) (rfl : 11 + 3 = 14) ?_
  refine g_aloadN X0 hx (hb hby d32_14) (rfl : 14 + 1 = 15) rfl rfl ?_
  refine g_getf X0 hx hZ hown (host := "") (Or.inl (wd hw 229 rfl)) Via.refl eh0 I0 (hb hby d32_15) (rfl : 15 + 3 = 18) fun T1 X1 eh1 => ?_
  refine g_gets X1 hx hZ hown (Or.inr (wd hw 228 rfl)) Via.refl eh1 I1 (hb hby d32_18) (rfl : 18 + 3 = 21) fun T2 X2 eh2 => ?_
  refine g_acmpN X2 hx (hb hby d32_21) rfl rfl (XT.aa_eq_f (fun q => nb (by injection q))) (rfl : 21 + 3 = 24) ?_
  refine g_aloadN X2 hx (hb hby d32_24) (rfl : 24 + 1 = 25) rfl rfl ?_
  refine g_getf X2 hx hZ hown (host := "") (Or.inl (wd hw 229 rfl)) Via.refl eh2 I0 (hb hby d32_25) (rfl : 25 + 3 = 28) fun T3 X3 eh3 => ?_
  exact g_ret X3 hx hret hlk rfl (Or.inr (Or.inr (Or.inr (Or.inr ⟨rfl, rfl, rfl⟩)))) (hb hby d32_28) (by decide) (by decide) eh3 hK ⟨rfl, P0⟩
theorem pn_rm_bmax_2_1 : plainFor (⟨"com/example/evenhand/evenhand/Bounds", "max", "(I)I"⟩ : MethodName) = true := by first | exact plainFor_of_name (by first | (simp [plainName, overriddenIn]; done) | decide +kernel) | decide +kernel
set_option maxRecDepth 65536 in
set_option maxHeartbeats 40000000 in
theorem rm_bmax_2_1 {l : Launch} {Z : State} {a0 : Array Value} (hw : ∀ d ∈ tables_1, d.before a0 Z = true) (t : Addr) (o : Addr) (b : Addr) (em : Addr) (v : Int32) {h0 : Heap} (I0 : Fld Z h0 t "com/example/evenhand/evenhand/Bounds" "max" "Ljava/util/List;" (.ref o)) (I1 : Exa Z h0 o "java/util/ImmutableCollections$List12") (I2 : Fld Z h0 o "java/util/ImmutableCollections$List12" "e1" "Ljava/lang/Object;" (.ref b)) (I3 : Sta Z h0 "java/util/ImmutableCollections" "EMPTY" "Ljava/lang/Object;" (.ref em)) (I4 : Exa Z h0 b "java/lang/Integer") (I5 : Fld Z h0 b "java/lang/Integer" "value" "I" (.int v)) (nb : b ≠ em) :
    OMet l (⟨"com/example/evenhand/evenhand/Bounds", "max", "(I)I"⟩ : MethodName) prog_3_method_5_code 2 (Option.some Jvm.ClassFile.FieldType.int) ({ frames := 1, cells := 0, slots := 0, locals := 13 } : Room) #[(.ref t), (.int (1 : Int32))] Z h0 (fun vR hR LR => vR = some (.int v) ∧ OPr h0 [] hR LR) := by
  refine OMet.body pn_rm_bmax_2_1 (Ls := #[.val (.ref t), .val (.int (1 : Int32))]) (fun m => by first | (simp [entryFrame, mkF, argsToLocals, Value.category]; done) | rfl) ?_
  intro p e s m below meth c T0 K hK X0 hx hby hml hown hnm hret hlk hZ eh0
  have P0 := OPr.refl h0 []
  refine g_aloadN X0 hx (hb hby d31_0) (rfl : 0 + 1 = 1) rfl rfl ?_
  refine g_getf X0 hx hZ hown (host := "") (Or.inl (wd hw 233 rfl)) Via.refl eh0 I0 (hb hby d31_1) (rfl : 1 + 3 = 4) fun T1 X1 eh1 => ?_
  refine g_iloadN X1 hx (hb hby d31_4) (rfl : 4 + 1 = 5) rfl ?_
  refine g_face X1 hx hZ hown eh1 (rm_l12get_2_1 hw o b em I2 I3 nb) (C := "java/util/ImmutableCollections$List12") (wd hw 240 rfl) (wd hw 241 rfl) (wd hw 242 rfl) (wd hw 243 rfl) (wd hw 244 rfl) (wd hw 245 rfl) (wd hw 246 rfl) (wd hw 247 rfl) (wd hw 248 rfl) (wd hw 203 rfl) (by decide) (a := o) I1 (argsL := [(.int (1 : Int32))]) (rest := []) rfl rfl (ps := [.int]) (rt := (some (.object "java/lang/Object"))) (by decide) rfl (W := 0) (Nat.le_of_eq rfl) (by decide) (by decide) (by decide) (by decide) (by rw [hml]; rfl) (hb hby d31_5) (rfl : 5 + 5 = 10) fun v2 T2 hh2 L2 X2 eh2 Q2 => ?_
  obtain ⟨rfl, Pc2⟩ := Q2
  have P2 := P0.call Pc2 all0
  show OGo p e below K T2 (mkF m 10 #[.val (.ref t), .val (.int (1 : Int32))] [(.ref b)])
  have F4 := (exaP I4 Pc2)
  refine g_cast X2 hx hZ hown (wd hw 136 rfl) eh2 (Ins.self F4) (hb hby d31_10) (rfl : 10 + 3 = 13) fun T3 X3 eh3 => ?_
  have F6 := (fldP I5 Pc2 nin0)
  refine g_virtual X3 hx hZ hown eh3 (rm_intv hw b v F6) (C := "java/lang/Integer") (wd hw 138 rfl) (wd hw 139 rfl) (notFace_of_selects (args := #[]) (mvT hZ (wd hw 141 rfl))) (wd hw 141 rfl) (wd hw 140 rfl) (wd hw 142 rfl) (wd hw 29 rfl) (by decide) (a := b) F4 (argsL := []) (rest := []) rfl rfl (ps := []) (rt := (some .int)) (by decide) rfl (W := 0) (Nat.le_of_eq rfl) (by decide) (by decide) (by decide) (by decide) (by rw [hml]; rfl) (hb hby d31_13) (rfl : 13 + 3 = 16) fun v5 T5 hh5 L5 X5 eh5 Q5 => ?_
  obtain ⟨rfl, Pc5⟩ := Q5
  have P5 := P2.call Pc5 all0
  show OGo p e below K T5 (mkF m 16 #[.val (.ref t), .val (.int (1 : Int32))] [(.int v)])
  exact g_ret X5 hx hret hlk rfl (Or.inl ⟨rfl, Or.inl rfl, _, rfl⟩) (hb hby d31_16) (by decide) (by decide) eh5 hK ⟨rfl, P5⟩
theorem pn_rm_chkn_3 : plainFor (⟨"com/example/evenhand/evenhand/Bounds", "checkNonNegative", "(Ljava/util/List;)Ljava/util/List;"⟩ : MethodName) = true := by first | exact plainFor_of_name (by first | (simp [plainName, overriddenIn]; done) | decide +kernel) | decide +kernel
set_option maxRecDepth 65536 in
set_option maxHeartbeats 40000000 in
theorem rm_chkn_3 {l : Launch} {Z : State} {a0 : Array Value} (hw : ∀ d ∈ tables_1, d.before a0 Z = true) (a : Addr) (ar : Addr) (kr : ClassId) (x0 : Addr) (x1 : Addr) (x2 : Addr) (mr : Addr) (v0 : Int32) (v1 : Int32) (v2 : Int32) {h0 : Heap} (I0 : Exa Z h0 a "java/util/ArrayList") (I1 : Fld Z h0 a "java/util/ArrayList" "elementData" "[Ljava/lang/Object;" (.ref ar)) (I2 : Fld Z h0 a "java/util/ArrayList" "size" "I" (.int (3 : Int32))) (I3 : OAry Z h0 ar kr (.object "java/lang/Object") [(.ref x0), (.ref x1), (.ref x2), .null, .null, .null, .null, .null, .null, .null]) (I4 : Exa Z h0 ar "[Ljava/lang/Object;") (I5 : Exa Z h0 x0 "java/lang/Integer") (I6 : Exa Z h0 x1 "java/lang/Integer") (I7 : Exa Z h0 x2 "java/lang/Integer") (I8 : Fld Z h0 a "java/util/AbstractList" "modCount" "I" (.int (3 : Int32))) (I9 : Fld Z h0 x0 "java/lang/Integer" "value" "I" (.int v0)) (I10 : Fld Z h0 x1 "java/lang/Integer" "value" "I" (.int v1)) (I11 : Fld Z h0 x2 "java/lang/Integer" "value" "I" (.int v2)) (hm : OMir Z "[Ljava/lang/Object;" mr) (hv0 : ¬ v0 < 0) (hv1 : ¬ v1 < 0) (hv2 : ¬ v2 < 0) :
    OMet l (⟨"com/example/evenhand/evenhand/Bounds", "checkNonNegative", "(Ljava/util/List;)Ljava/util/List;"⟩ : MethodName) prog_3_method_9_code 3 (Option.some (Jvm.ClassFile.FieldType.object "java/util/List")) ({ frames := 9, cells := 4, slots := 12, locals := 115 } : Room) #[(.ref a)] Z h0 (fun vR hR LR => ∃ o : Addr, ∃ er : Addr, ∃ ke : ClassId, vR = some (.ref o) ∧ OPr h0 [] hR LR ∧ h0.size ≤ o ∧ Exa Z hR o "java/util/ImmutableCollections$ListN" ∧ Fld Z hR o "java/util/ImmutableCollections$ListN" "elements" "[Ljava/lang/Object;" (.ref er) ∧ h0.size ≤ er ∧ OAry Z hR er ke (.object "java/lang/Object") [(.ref x0), (.ref x1), (.ref x2)]) := by
  refine OMet.body pn_rm_chkn_3 (Ls := #[.val (.ref a), .unset, .unset]) (fun m => by first | (simp [entryFrame, mkF, argsToLocals, Value.category]; done) | rfl) ?_
  intro p e s m below meth c T0 K hK X0 hx hby hml hown hnm hret hlk hZ eh0
  have P0 := OPr.refl h0 []
  refine g_aloadN X0 hx (hb hby d12_0) (rfl : 0 + 1 = 1) rfl rfl ?_
  refine g_face X0 hx hZ hown eh0 (rm_iter hw a (3 : Int32) I0 I8) (C := "java/util/ArrayList") (wd hw 87 rfl) (wd hw 88 rfl) (wd hw 89 rfl) (wd hw 90 rfl) (wd hw 91 rfl) (wd hw 92 rfl) (wd hw 93 rfl) (wd hw 41 rfl) (wd hw 94 rfl) (wd hw 3 rfl) (by decide) (a := a) I0 (argsL := []) (rest := []) rfl rfl (ps := []) (rt := (some (.object "java/util/Iterator"))) (by decide) rfl (W := 0) (Nat.le_of_eq rfl) (by decide) (by decide) (by decide) (by decide) (by rw [hml]; rfl) (hb hby d12_1) (rfl : 1 + 5 = 6) fun v1 T1 hh1 L1 X1 eh1 Q1 => ?_
  obtain ⟨it_1, rfl, Pc1, G1_0, G1_1, G1_2, G1_3, G1_4, G1_5⟩ := Q1
  have P1 := P0.call Pc1 all0
  show OGo p e below K T1 (mkF m 6 #[.val (.ref a), .unset, .unset] [(.ref it_1)])
  refine g_astoreN X1 hx (hb hby d12_6) (rfl : 6 + 1 = 7) rfl (Ls' := #[.val (.ref a), .val (.ref it_1), .unset]) rfl ?_
  refine g_aloadN X1 hx (hb hby d12_7) (rfl : 7 + 1 = 8) rfl rfl ?_
  have F3 := (fldP I2 Pc1 nin0)
  refine g_face X1 hx hZ hown eh1 (rm_hasnext hw it_1 a (0 : Int32) (3 : Int32) (1 : Int32) G1_2 G1_3 F3 (by decide)) (C := "java/util/ArrayList$Itr") (wd hw 110 rfl) (wd hw 111 rfl) (wd hw 112 rfl) (wd hw 113 rfl) (wd hw 114 rfl) (wd hw 115 rfl) (wd hw 116 rfl) (wd hw 117 rfl) (wd hw 118 rfl) (wd hw 97 rfl) (by decide) (a := it_1) G1_1 (argsL := []) (rest := []) rfl rfl (ps := []) (rt := (some .boolean)) (by decide) rfl (W := 0) (Nat.le_of_eq rfl) (by decide) (by decide) (by decide) (by decide) (by rw [hml]; rfl) (hb hby d12_8) (rfl : 8 + 5 = 13) fun v2 T2 hh2 L2 X2 eh2 Q2 => ?_
  obtain ⟨rfl, Pc2⟩ := Q2
  have P2 := P1.call Pc2 all0
  show OGo p e below K T2 (mkF m 13 #[.val (.ref a), .val (.ref it_1), .unset] [(.int (1 : Int32))])
  refine g_ifN X2 hx (hb hby d12_13) (XT.i0_eq_f (by decide)) (rfl : 13 + 3 = 16) ?_
  refine g_aloadN X2 hx (hb hby d12_16) (rfl : 16 + 1 = 17) rfl rfl ?_
  have ne5 : a ≠ it_1 := Nat.ne_of_lt (Nat.lt_of_lt_of_le I0.lt G1_0)
  have ne6 : ar ≠ it_1 := Nat.ne_of_lt (Nat.lt_of_lt_of_le I4.lt G1_0)
  have F7 := (exaP G1_1 Pc2)
  have F8 := (fldP G1_2 Pc2 nin0)
  have F9 := (fldP G1_3 Pc2 nin0)
  have F10 := (fldP G1_4 Pc2 nin0)
  have F11 := (fldP G1_5 Pc2 nin0)
  have F12 := (fldP I8 P2 nin0)
  have F13 := (fldP F3 Pc2 nin0)
  have F14 := (fldP I1 P2 nin0)
  have F15 := (aryP I3 P2 nin0)
  refine g_face X2 hx hZ hown eh2 (rm_next_3_0 hw it_1 a ar kr (3 : Int32) (-1 : Int32) x0 x1 x2 F7 F8 F9 F10 F11 F12 F13 F14 F15 ne5 ne6) (C := "java/util/ArrayList$Itr") (wd hw 122 rfl) (wd hw 123 rfl) (wd hw 124 rfl) (wd hw 125 rfl) (wd hw 126 rfl) (wd hw 127 rfl) (wd hw 128 rfl) (wd hw 117 rfl) (wd hw 129 rfl) (wd hw 97 rfl) (by decide) (a := it_1) F7 (argsL := []) (rest := []) rfl rfl (ps := []) (rt := (some (.object "java/lang/Object"))) (by decide) rfl (W := 0) (Nat.le_of_eq rfl) (by decide) (by decide) (by decide) (by decide) (by rw [hml]; rfl) (hb hby d12_17) (rfl : 17 + 5 = 22) fun v4 T4 hh4 L4 X4 eh4 Q4 => ?_
  obtain ⟨rfl, Pc4, G4_0, G4_1, G4_2, G4_3⟩ := Q4
  have P4 := P2.call Pc4 (allS (Or.inr (Nat.le_trans P0.size G1_0)) all0)
  show OGo p e below K T4 (mkF m 22 #[.val (.ref a), .val (.ref it_1), .unset] [(.ref x0)])
  have F17 := (exaP I5 P4)
  refine g_cast X4 hx hZ hown (wd hw 136 rfl) eh4 (Ins.self F17) (hb hby d12_22) (rfl : 22 + 3 = 25) fun T16 X16 eh16 => ?_
  have F19 := (fldP I9 P4 nin0)
  refine g_virtual X16 hx hZ hown eh16 (rm_intv hw x0 v0 F19) (C := "java/lang/Integer") (wd hw 138 rfl) (wd hw 139 rfl) (notFace_of_selects (args := #[]) (mvT hZ (wd hw 141 rfl))) (wd hw 141 rfl) (wd hw 140 rfl) (wd hw 142 rfl) (wd hw 29 rfl) (by decide) (a := x0) F17 (argsL := []) (rest := []) rfl rfl (ps := []) (rt := (some .int)) (by decide) rfl (W := 0) (Nat.le_of_eq rfl) (by decide) (by decide) (by decide) (by decide) (by rw [hml]; rfl) (hb hby d12_25) (rfl : 25 + 3 = 28) fun v18 T18 hh18 L18 X18 eh18 Q18 => ?_
  obtain ⟨rfl, Pc18⟩ := Q18
  have P18 := P4.call Pc18 all0
  show OGo p e below K T18 (mkF m 28 #[.val (.ref a), .val (.ref it_1), .unset] [(.int v0)])
  refine g_istoreN X18 hx (hb hby d12_28) (rfl : 28 + 1 = 29) (Ls' := #[.val (.ref a), .val (.ref it_1), .val (.int v0)]) rfl ?_
  refine g_iloadN X18 hx (hb hby d12_29) (rfl : 29 + 1 = 30) rfl ?_
  refine g_ifY X18 hx (hb hby d12_30) (XT.i0_ge_t hv0) (by decide) (pc' := 47) (by decide) ?_
  refine g_goto X18 hx (hb hby d12_47) (by decide) (pc' := 7) (by decide) ?_
  refine g_aloadN X18 hx (hb hby d12_7) (rfl : 7 + 1 = 8) rfl rfl ?_
  have F21 := (fldP G4_0 Pc18 nin0)
  have F22 := (fldP G4_1 Pc18 nin0)
  have F23 := (fldP (fldP F13 Pc4 (ninS ne5 nin0)) Pc18 nin0)
  have F24 := (exaP (exaP F7 Pc4) Pc18)
  refine g_face X18 hx hZ hown eh18 (rm_hasnext hw it_1 a (1 : Int32) (3 : Int32) (1 : Int32) F21 F22 F23 (by decide)) (C := "java/util/ArrayList$Itr") (wd hw 110 rfl) (wd hw 111 rfl) (wd hw 112 rfl) (wd hw 113 rfl) (wd hw 114 rfl) (wd hw 115 rfl) (wd hw 116 rfl) (wd hw 117 rfl) (wd hw 118 rfl) (wd hw 97 rfl) (by decide) (a := it_1) F24 (argsL := []) (rest := []) rfl rfl (ps := []) (rt := (some .boolean)) (by decide) rfl (W := 0) (Nat.le_of_eq rfl) (by decide) (by decide) (by decide) (by decide) (by rw [hml]; rfl) (hb hby d12_8) (rfl : 8 + 5 = 13) fun v20 T20 hh20 L20 X20 eh20 Q20 => ?_
  obtain ⟨rfl, Pc20⟩ := Q20
  have P20 := P18.call Pc20 all0
  show OGo p e below K T20 (mkF m 13 #[.val (.ref a), .val (.ref it_1), .val (.int v0)] [(.int (1 : Int32))])
  refine g_ifN X20 hx (hb hby d12_13) (XT.i0_eq_f (by decide)) (rfl : 13 + 3 = 16) ?_
  refine g_aloadN X20 hx (hb hby d12_16) (rfl : 16 + 1 = 17) rfl rfl ?_
  have F26 := (exaP F24 Pc20)
  have F27 := (fldP F21 Pc20 nin0)
  have F28 := (fldP F22 Pc20 nin0)
  have F29 := (fldP (fldP G4_2 Pc18 nin0) Pc20 nin0)
  have F30 := (fldP (fldP G4_3 Pc18 nin0) Pc20 nin0)
  have F31 := (fldP (fldP (fldP F12 Pc4 (ninS ne5 nin0)) Pc18 nin0) Pc20 nin0)
  have F32 := (fldP F23 Pc20 nin0)
  have F33 := (fldP (fldP (fldP F14 Pc4 (ninS ne5 nin0)) Pc18 nin0) Pc20 nin0)
  have F34 := (aryP (aryP (aryP F15 Pc4 (ninS ne6 nin0)) Pc18 nin0) Pc20 nin0)
  refine g_face X20 hx hZ hown eh20 (rm_next_3_1 hw it_1 a ar kr (3 : Int32) (0 : Int32) x0 x1 x2 F26 F27 F28 F29 F30 F31 F32 F33 F34 ne5 ne6) (C := "java/util/ArrayList$Itr") (wd hw 122 rfl) (wd hw 123 rfl) (wd hw 124 rfl) (wd hw 125 rfl) (wd hw 126 rfl) (wd hw 127 rfl) (wd hw 128 rfl) (wd hw 117 rfl) (wd hw 129 rfl) (wd hw 97 rfl) (by decide) (a := it_1) F26 (argsL := []) (rest := []) rfl rfl (ps := []) (rt := (some (.object "java/lang/Object"))) (by decide) rfl (W := 0) (Nat.le_of_eq rfl) (by decide) (by decide) (by decide) (by decide) (by rw [hml]; rfl) (hb hby d12_17) (rfl : 17 + 5 = 22) fun v25 T25 hh25 L25 X25 eh25 Q25 => ?_
  obtain ⟨rfl, Pc25, G25_0, G25_1, G25_2, G25_3⟩ := Q25
  have P25 := P20.call Pc25 (allS (Or.inr (Nat.le_trans P0.size G1_0)) all0)
  show OGo p e below K T25 (mkF m 22 #[.val (.ref a), .val (.ref it_1), .val (.int v0)] [(.ref x1)])
  have F36 := (exaP I6 P25)
  refine g_cast X25 hx hZ hown (wd hw 136 rfl) eh25 (Ins.self F36) (hb hby d12_22) (rfl : 22 + 3 = 25) fun T35 X35 eh35 => ?_
  have F38 := (fldP I10 P25 nin0)
  refine g_virtual X35 hx hZ hown eh35 (rm_intv hw x1 v1 F38) (C := "java/lang/Integer") (wd hw 138 rfl) (wd hw 139 rfl) (notFace_of_selects (args := #[]) (mvT hZ (wd hw 141 rfl))) (wd hw 141 rfl) (wd hw 140 rfl) (wd hw 142 rfl) (wd hw 29 rfl) (by decide) (a := x1) F36 (argsL := []) (rest := []) rfl rfl (ps := []) (rt := (some .int)) (by decide) rfl (W := 0) (Nat.le_of_eq rfl) (by decide) (by decide) (by decide) (by decide) (by rw [hml]; rfl) (hb hby d12_25) (rfl : 25 + 3 = 28) fun v37 T37 hh37 L37 X37 eh37 Q37 => ?_
  obtain ⟨rfl, Pc37⟩ := Q37
  have P37 := P25.call Pc37 all0
  show OGo p e below K T37 (mkF m 28 #[.val (.ref a), .val (.ref it_1), .val (.int v0)] [(.int v1)])
  refine g_istoreN X37 hx (hb hby d12_28) (rfl : 28 + 1 = 29) (Ls' := #[.val (.ref a), .val (.ref it_1), .val (.int v1)]) rfl ?_
  refine g_iloadN X37 hx (hb hby d12_29) (rfl : 29 + 1 = 30) rfl ?_
  refine g_ifY X37 hx (hb hby d12_30) (XT.i0_ge_t hv1) (by decide) (pc' := 47) (by decide) ?_
  refine g_goto X37 hx (hb hby d12_47) (by decide) (pc' := 7) (by decide) ?_
  refine g_aloadN X37 hx (hb hby d12_7) (rfl : 7 + 1 = 8) rfl rfl ?_
  have F40 := (fldP G25_0 Pc37 nin0)
  have F41 := (fldP G25_1 Pc37 nin0)
  have F42 := (fldP (fldP F32 Pc25 (ninS ne5 nin0)) Pc37 nin0)
  have F43 := (exaP (exaP F26 Pc25) Pc37)
  refine g_face X37 hx hZ hown eh37 (rm_hasnext hw it_1 a (2 : Int32) (3 : Int32) (1 : Int32) F40 F41 F42 (by decide)) (C := "java/util/ArrayList$Itr") (wd hw 110 rfl) (wd hw 111 rfl) (wd hw 112 rfl) (wd hw 113 rfl) (wd hw 114 rfl) (wd hw 115 rfl) (wd hw 116 rfl) (wd hw 117 rfl) (wd hw 118 rfl) (wd hw 97 rfl) (by decide) (a := it_1) F43 (argsL := []) (rest := []) rfl rfl (ps := []) (rt := (some .boolean)) (by decide) rfl (W := 0) (Nat.le_of_eq rfl) (by decide) (by decide) (by decide) (by decide) (by rw [hml]; rfl) (hb hby d12_8) (rfl : 8 + 5 = 13) fun v39 T39 hh39 L39 X39 eh39 Q39 => ?_
  obtain ⟨rfl, Pc39⟩ := Q39
  have P39 := P37.call Pc39 all0
  show OGo p e below K T39 (mkF m 13 #[.val (.ref a), .val (.ref it_1), .val (.int v1)] [(.int (1 : Int32))])
  refine g_ifN X39 hx (hb hby d12_13) (XT.i0_eq_f (by decide)) (rfl : 13 + 3 = 16) ?_
  refine g_aloadN X39 hx (hb hby d12_16) (rfl : 16 + 1 = 17) rfl rfl ?_
  have F45 := (exaP F43 Pc39)
  have F46 := (fldP F40 Pc39 nin0)
  have F47 := (fldP F41 Pc39 nin0)
  have F48 := (fldP (fldP G25_2 Pc37 nin0) Pc39 nin0)
  have F49 := (fldP (fldP G25_3 Pc37 nin0) Pc39 nin0)
  have F50 := (fldP (fldP (fldP F31 Pc25 (ninS ne5 nin0)) Pc37 nin0) Pc39 nin0)
  have F51 := (fldP F42 Pc39 nin0)
  have F52 := (fldP (fldP (fldP F33 Pc25 (ninS ne5 nin0)) Pc37 nin0) Pc39 nin0)
  have F53 := (aryP (aryP (aryP F34 Pc25 (ninS ne6 nin0)) Pc37 nin0) Pc39 nin0)
  refine g_face X39 hx hZ hown eh39 (rm_next_3_2 hw it_1 a ar kr (3 : Int32) (1 : Int32) x0 x1 x2 F45 F46 F47 F48 F49 F50 F51 F52 F53 ne5 ne6) (C := "java/util/ArrayList$Itr") (wd hw 122 rfl) (wd hw 123 rfl) (wd hw 124 rfl) (wd hw 125 rfl) (wd hw 126 rfl) (wd hw 127 rfl) (wd hw 128 rfl) (wd hw 117 rfl) (wd hw 129 rfl) (wd hw 97 rfl) (by decide) (a := it_1) F45 (argsL := []) (rest := []) rfl rfl (ps := []) (rt := (some (.object "java/lang/Object"))) (by decide) rfl (W := 0) (Nat.le_of_eq rfl) (by decide) (by decide) (by decide) (by decide) (by rw [hml]; rfl) (hb hby d12_17) (rfl : 17 + 5 = 22) fun v44 T44 hh44 L44 X44 eh44 Q44 => ?_
  obtain ⟨rfl, Pc44, G44_0, G44_1, G44_2, G44_3⟩ := Q44
  have P44 := P39.call Pc44 (allS (Or.inr (Nat.le_trans P0.size G1_0)) all0)
  show OGo p e below K T44 (mkF m 22 #[.val (.ref a), .val (.ref it_1), .val (.int v1)] [(.ref x2)])
  have F55 := (exaP I7 P44)
  refine g_cast X44 hx hZ hown (wd hw 136 rfl) eh44 (Ins.self F55) (hb hby d12_22) (rfl : 22 + 3 = 25) fun T54 X54 eh54 => ?_
  have F57 := (fldP I11 P44 nin0)
  refine g_virtual X54 hx hZ hown eh54 (rm_intv hw x2 v2 F57) (C := "java/lang/Integer") (wd hw 138 rfl) (wd hw 139 rfl) (notFace_of_selects (args := #[]) (mvT hZ (wd hw 141 rfl))) (wd hw 141 rfl) (wd hw 140 rfl) (wd hw 142 rfl) (wd hw 29 rfl) (by decide) (a := x2) F55 (argsL := []) (rest := []) rfl rfl (ps := []) (rt := (some .int)) (by decide) rfl (W := 0) (Nat.le_of_eq rfl) (by decide) (by decide) (by decide) (by decide) (by rw [hml]; rfl) (hb hby d12_25) (rfl : 25 + 3 = 28) fun v56 T56 hh56 L56 X56 eh56 Q56 => ?_
  obtain ⟨rfl, Pc56⟩ := Q56
  have P56 := P44.call Pc56 all0
  show OGo p e below K T56 (mkF m 28 #[.val (.ref a), .val (.ref it_1), .val (.int v1)] [(.int v2)])
  refine g_istoreN X56 hx (hb hby d12_28) (rfl : 28 + 1 = 29) (Ls' := #[.val (.ref a), .val (.ref it_1), .val (.int v2)]) rfl ?_
  refine g_iloadN X56 hx (hb hby d12_29) (rfl : 29 + 1 = 30) rfl ?_
  refine g_ifY X56 hx (hb hby d12_30) (XT.i0_ge_t hv2) (by decide) (pc' := 47) (by decide) ?_
  refine g_goto X56 hx (hb hby d12_47) (by decide) (pc' := 7) (by decide) ?_
  refine g_aloadN X56 hx (hb hby d12_7) (rfl : 7 + 1 = 8) rfl rfl ?_
  have F59 := (fldP G44_0 Pc56 nin0)
  have F60 := (fldP G44_1 Pc56 nin0)
  have F61 := (fldP (fldP F51 Pc44 (ninS ne5 nin0)) Pc56 nin0)
  have F62 := (exaP (exaP F45 Pc44) Pc56)
  refine g_face X56 hx hZ hown eh56 (rm_hasnext hw it_1 a (3 : Int32) (3 : Int32) (0 : Int32) F59 F60 F61 (by decide)) (C := "java/util/ArrayList$Itr") (wd hw 110 rfl) (wd hw 111 rfl) (wd hw 112 rfl) (wd hw 113 rfl) (wd hw 114 rfl) (wd hw 115 rfl) (wd hw 116 rfl) (wd hw 117 rfl) (wd hw 118 rfl) (wd hw 97 rfl) (by decide) (a := it_1) F62 (argsL := []) (rest := []) rfl rfl (ps := []) (rt := (some .boolean)) (by decide) rfl (W := 0) (Nat.le_of_eq rfl) (by decide) (by decide) (by decide) (by decide) (by rw [hml]; rfl) (hb hby d12_8) (rfl : 8 + 5 = 13) fun v58 T58 hh58 L58 X58 eh58 Q58 => ?_
  obtain ⟨rfl, Pc58⟩ := Q58
  have P58 := P56.call Pc58 all0
  show OGo p e below K T58 (mkF m 13 #[.val (.ref a), .val (.ref it_1), .val (.int v2)] [(.int (0 : Int32))])
  refine g_ifY X58 hx (hb hby d12_13) (XT.i0_eq_t (by decide)) (by decide) (pc' := 50) (by decide) ?_
  refine g_aloadN X58 hx (hb hby d12_50) (rfl : 50 + 1 = 51) rfl rfl ?_
  have F64 := (exaP I0 P58)
  have F65 := (fldP (fldP (fldP F52 Pc44 (ninS ne5 nin0)) Pc56 nin0) Pc58 nin0)
  have F66 := (fldP F61 Pc58 nin0)
  have F67 := (aryP (aryP (aryP F53 Pc44 (ninS ne6 nin0)) Pc56 nin0) Pc58 nin0)
  have F68 := (exaP I4 P58)
  have F69 := (exaP (exaP (exaP (exaP (exaP (exaP (exaP (exaP F17 Pc18) Pc20) Pc25) Pc37) Pc39) Pc44) Pc56) Pc58)
  have F70 := (exaP (exaP (exaP (exaP (exaP F36 Pc37) Pc39) Pc44) Pc56) Pc58)
  have F71 := (exaP (exaP F55 Pc56) Pc58)
  refine g_static X58 hx hZ hown eh58 (rm_copyof_3 hw a ar kr x0 x1 x2 mr F64 F65 F66 F67 F68 F69 F70 F71 hm) (wd hw 145 rfl) (wd hw 146 rfl) (wd hw 148 rfl) (wd hw 147 rfl) (by decide) (argsL := [(.ref a)]) (rest := []) rfl rfl (ps := [(.object "java/util/Collection")]) (rt := (some (.object "java/util/List"))) (by decide) rfl (W := 0) (Nat.le_of_eq rfl) (by decide) (by decide) (by decide) (by decide) (by rw [hml]; rfl) (hb hby d12_51) (rfl : 51 + 3 = 54) fun v63 T63 hh63 L63 X63 eh63 Q63 => ?_
  obtain ⟨o_63, er_63, ke_63, rfl, Pc63, G63_0, G63_1, G63_2, G63_3, G63_4⟩ := Q63
  have P63 := P58.call Pc63 all0
  show OGo p e below K T63 (mkF m 54 #[.val (.ref a), .val (.ref it_1), .val (.int v2)] [(.ref o_63)])
  exact g_ret X63 hx hret hlk rfl (Or.inr (Or.inr (Or.inr (Or.inr ⟨rfl, rfl, rfl⟩)))) (hb hby d12_54) (by decide) (by decide) eh63 hK ⟨o_63, er_63, ke_63, rfl, P63, (Nat.le_trans P58.size G63_0), G63_1, G63_2, (Nat.le_trans P58.size G63_3), G63_4⟩
theorem pn_rm_bi_3 : plainFor (⟨"com/example/evenhand/evenhand/Bounds", "<init>", "(Ljava/util/List;Ljava/util/List;)V"⟩ : MethodName) = true := by first | exact plainFor_of_name (by first | (simp [plainName, overriddenIn]; done) | decide +kernel) | decide +kernel
set_option maxRecDepth 65536 in
set_option maxHeartbeats 40000000 in
theorem rm_bi_3 {l : Launch} {Z : State} {a0 : Array Value} (hw : ∀ d ∈ tables_1, d.before a0 Z = true) (t : Addr) (a : Addr) (ar : Addr) (kr : ClassId) (x0 : Addr) (x1 : Addr) (x2 : Addr) (v0 : Int32) (v1 : Int32) (v2 : Int32) (aq : Addr) (arq : Addr) (krq : ClassId) (x0q : Addr) (x1q : Addr) (x2q : Addr) (v0q : Int32) (v1q : Int32) (v2q : Int32) (mr : Addr) {h0 : Heap} (I0 : Exa Z h0 t "com/example/evenhand/evenhand/Bounds") (I1 : Fld Z h0 t "com/example/evenhand/evenhand/Bounds" "min" "Ljava/util/List;" .null) (I2 : Fld Z h0 t "com/example/evenhand/evenhand/Bounds" "max" "Ljava/util/List;" .null) (I3 : Exa Z h0 a "java/util/ArrayList") (I4 : Fld Z h0 a "java/util/ArrayList" "elementData" "[Ljava/lang/Object;" (.ref ar)) (I5 : Fld Z h0 a "java/util/ArrayList" "size" "I" (.int (3 : Int32))) (I6 : OAry Z h0 ar kr (.object "java/lang/Object") [(.ref x0), (.ref x1), (.ref x2), .null, .null, .null, .null, .null, .null, .null]) (I7 : Exa Z h0 ar "[Ljava/lang/Object;") (I8 : Exa Z h0 x0 "java/lang/Integer") (I9 : Exa Z h0 x1 "java/lang/Integer") (I10 : Exa Z h0 x2 "java/lang/Integer") (I11 : Fld Z h0 a "java/util/AbstractList" "modCount" "I" (.int (3 : Int32))) (I12 : Fld Z h0 x0 "java/lang/Integer" "value" "I" (.int v0)) (I13 : Fld Z h0 x1 "java/lang/Integer" "value" "I" (.int v1)) (I14 : Fld Z h0 x2 "java/lang/Integer" "value" "I" (.int v2)) (I15 : Exa Z h0 aq "java/util/ArrayList") (I16 : Fld Z h0 aq "java/util/ArrayList" "elementData" "[Ljava/lang/Object;" (.ref arq)) (I17 : Fld Z h0 aq "java/util/ArrayList" "size" "I" (.int (3 : Int32))) (I18 : OAry Z h0 arq krq (.object "java/lang/Object") [(.ref x0q), (.ref x1q), (.ref x2q), .null, .null, .null, .null, .null, .null, .null]) (I19 : Exa Z h0 arq "[Ljava/lang/Object;") (I20 : Exa Z h0 x0q "java/lang/Integer") (I21 : Exa Z h0 x1q "java/lang/Integer") (I22 : Exa Z h0 x2q "java/lang/Integer") (I23 : Fld Z h0 aq "java/util/AbstractList" "modCount" "I" (.int (3 : Int32))) (I24 : Fld Z h0 x0q "java/lang/Integer" "value" "I" (.int v0q)) (I25 : Fld Z h0 x1q "java/lang/Integer" "value" "I" (.int v1q)) (I26 : Fld Z h0 x2q "java/lang/Integer" "value" "I" (.int v2q)) (hm : OMir Z "[Ljava/lang/Object;" mr) (hv0 : ¬ v0 < 0) (hv1 : ¬ v1 < 0) (hv2 : ¬ v2 < 0) (hv0q : ¬ v0q < 0) (hv1q : ¬ v1q < 0) (hv2q : ¬ v2q < 0) (nt_a : a ≠ t) (nt_ar : ar ≠ t) (nt_aq : aq ≠ t) (nt_arq : arq ≠ t) (nt_x0 : x0 ≠ t) (nt_x1 : x1 ≠ t) (nt_x2 : x2 ≠ t) (nt_x0q : x0q ≠ t) (nt_x1q : x1q ≠ t) (nt_x2q : x2q ≠ t) :
    OMet l (⟨"com/example/evenhand/evenhand/Bounds", "<init>", "(Ljava/util/List;Ljava/util/List;)V"⟩ : MethodName) prog_3_method_1_code 3 (Option.none : Option Jvm.ClassFile.FieldType) ({ frames := 10, cells := 8, slots := 24, locals := 130 } : Room) #[(.ref t), (.ref a), (.ref aq)] Z h0 (fun vR hR LR => ∃ o : Addr, ∃ er : Addr, ∃ ke : ClassId, vR = none ∧ OPr h0 [t] hR LR ∧ Fld Z hR t "com/example/evenhand/evenhand/Bounds" "max" "Ljava/util/List;" (.ref o) ∧ h0.size ≤ o ∧ Exa Z hR o "java/util/ImmutableCollections$ListN" ∧ Fld Z hR o "java/util/ImmutableCollections$ListN" "elements" "[Ljava/lang/Object;" (.ref er) ∧ h0.size ≤ er ∧ OAry Z hR er ke (.object "java/lang/Object") [(.ref x0q), (.ref x1q), (.ref x2q)]) := by
  refine OMet.body pn_rm_bi_3 (Ls := #[.val (.ref t), .val (.ref a), .val (.ref aq)]) (fun m => by first | (simp [entryFrame, mkF, argsToLocals, Value.category]; done) | rfl) ?_
  intro p e s m below meth c T0 K hK X0 hx hby hml hown hnm hret hlk hZ eh0
  have P0 := OPr.refl h0 [t]
  refine g_aloadN X0 hx (hb hby d10_0) (rfl : 0 + 1 = 1) rfl rfl ?_
  refine g_inito X0 hx hZ hown (wd hw 75 rfl) (wd hw 20 rfl) (wd hw 21 rfl) eh0 (by rw [hml]; rfl) (hb hby d10_1) (rfl : 1 + 3 = 4) (by decide) (W := 0) (Nat.le_of_eq rfl) (by decide) fun T1 X1 eh1 => ?_
  refine g_aloadN X1 hx (hb hby d10_4) (rfl : 4 + 1 = 5) rfl rfl ?_
  refine g_face X1 hx hZ hown eh1 (rm_size hw a (3 : Int32) I5) (C := "java/util/ArrayList") (wd hw 76 rfl) (wd hw 77 rfl) (wd hw 78 rfl) (wd hw 79 rfl) (wd hw 80 rfl) (wd hw 81 rfl) (wd hw 82 rfl) (wd hw 41 rfl) (wd hw 83 rfl) (wd hw 3 rfl) (by decide) (a := a) I3 (argsL := []) (rest := []) rfl rfl (ps := []) (rt := (some .int)) (by decide) rfl (W := 0) (Nat.le_of_eq rfl) (by decide) (by decide) (by decide) (by decide) (by rw [hml]; rfl) (hb hby d10_5) (rfl : 5 + 5 = 10) fun v2 T2 hh2 L2 X2 eh2 Q2 => ?_
  obtain ⟨rfl, Pc2⟩ := Q2
  have P2 := P0.call Pc2 all0
  show OGo p e below K T2 (mkF m 10 #[.val (.ref t), .val (.ref a), .val (.ref aq)] [(.int (3 : Int32))])
  refine g_aloadN X2 hx (hb hby d10_10) (rfl : 10 + 1 = 11) rfl rfl ?_
  have F4 := (fldP I17 Pc2 nin0)
  have F5 := (exaP I15 Pc2)
  refine g_face X2 hx hZ hown eh2 (rm_size hw aq (3 : Int32) F4) (C := "java/util/ArrayList") (wd hw 76 rfl) (wd hw 77 rfl) (wd hw 78 rfl) (wd hw 79 rfl) (wd hw 80 rfl) (wd hw 81 rfl) (wd hw 82 rfl) (wd hw 41 rfl) (wd hw 83 rfl) (wd hw 3 rfl) (by decide) (a := aq) F5 (argsL := []) (rest := [(.int (3 : Int32))]) rfl rfl (ps := []) (rt := (some .int)) (by decide) rfl (W := 1) (Nat.le_of_eq rfl) (by decide) (by decide) (by decide) (by decide) (by rw [hml]; rfl) (hb hby d10_11) (rfl : 11 + 5 = 16) fun v3 T3 hh3 L3 X3 eh3 Q3 => ?_
  obtain ⟨rfl, Pc3⟩ := Q3
  have P3 := P2.call Pc3 all0
  show OGo p e below K T3 (mkF m 16 #[.val (.ref t), .val (.ref a), .val (.ref aq)] [(.int (3 : Int32)), (.int (3 : Int32))])
  refine g_icmpY X3 hx (hb hby d10_16) (XT.ii_eq_t rfl) (by decide) (pc' := 44) (by decide) ?_
  refine g_aloadN X3 hx (hb hby d10_44) (rfl : 44 + 1 = 45) rfl rfl ?_
  refine g_aloadN X3 hx (hb hby d10_45) (rfl : 45 + 1 = 46) rfl rfl ?_
  have F7 := (exaP I3 P3)
  have F8 := (fldP I4 P3 (ninS nt_a nin0))
  have F9 := (fldP I5 P3 (ninS nt_a nin0))
  have F10 := (aryP I6 P3 (ninS nt_ar nin0))
  have F11 := (exaP I7 P3)
  have F12 := (exaP I8 P3)
  have F13 := (exaP I9 P3)
  have F14 := (exaP I10 P3)
  have F15 := (fldP I11 P3 (ninS nt_a nin0))
  have F16 := (fldP I12 P3 (ninS nt_x0 nin0))
  have F17 := (fldP I13 P3 (ninS nt_x1 nin0))
  have F18 := (fldP I14 P3 (ninS nt_x2 nin0))
  refine g_static X3 hx hZ hown eh3 (rm_chkn_3 hw a ar kr x0 x1 x2 mr v0 v1 v2 F7 F8 F9 F10 F11 F12 F13 F14 F15 F16 F17 F18 hm hv0 hv1 hv2) (wd hw 84 rfl) (wd hw 85 rfl) (wd hw 86 rfl) (wd hw 71 rfl) (by decide) (argsL := [(.ref a)]) (rest := [(.ref t)]) rfl rfl (ps := [(.object "java/util/List")]) (rt := (some (.object "java/util/List"))) (by decide) rfl (W := 1) (Nat.le_of_eq rfl) (by decide) (by decide) (by decide) (by decide) (by rw [hml]; rfl) (hb hby d10_46) (rfl : 46 + 3 = 49) fun v6 T6 hh6 L6 X6 eh6 Q6 => ?_
  obtain ⟨o_6, er_6, ke_6, rfl, Pc6, G6_0, G6_1, G6_2, G6_3, G6_4⟩ := Q6
  have P6 := P3.call Pc6 all0
  show OGo p e below K T6 (mkF m 49 #[.val (.ref t), .val (.ref a), .val (.ref aq)] [(.ref o_6), (.ref t)])
  have F19 := (fldP (fldP (fldP I1 Pc2 nin0) Pc3 nin0) Pc6 nin0)
  have F20 := (exaP I0 P6)
  refine g_putf X6 hx hZ hown (host := "") (Or.inl (wd hw 231 rfl)) Via.refl eh6 F19 F20 (Or.inr ⟨(wd hw 232 rfl), rfl, hnm⟩) (wd hw 70 rfl) (ty := (.object "java/util/List")) (by decide) rfl rfl P6 (Or.inl (List.mem_of_getElem? (i := 0) rfl)) (hb hby d10_49) (rfl : 49 + 3 = 52) fun T21 hh21 X21 eh21 W21 P21 F21 => ?_
  refine g_aloadN X21 hx (hb hby d10_52) (rfl : 52 + 1 = 53) rfl rfl ?_
  refine g_aloadN X21 hx (hb hby d10_53) (rfl : 53 + 1 = 54) rfl rfl ?_
  have F23 := ((exaP (exaP F5 Pc3) Pc6).wr W21)
  have F24 := (fldP I16 P21 (ninS nt_aq nin0))
  have F25 := ((fldP (fldP F4 Pc3 nin0) Pc6 nin0).other W21 (Or.inl nt_aq))
  have F26 := (aryP I18 P21 (ninS nt_arq nin0))
  have F27 := (exaP I19 P21)
  have F28 := (exaP I20 P21)
  have F29 := (exaP I21 P21)
  have F30 := (exaP I22 P21)
  have F31 := (fldP I23 P21 (ninS nt_aq nin0))
  have F32 := (fldP I24 P21 (ninS nt_x0q nin0))
  have F33 := (fldP I25 P21 (ninS nt_x1q nin0))
  have F34 := (fldP I26 P21 (ninS nt_x2q nin0))
  refine g_static X21 hx hZ hown eh21 (rm_chkn_3 hw aq arq krq x0q x1q x2q mr v0q v1q v2q F23 F24 F25 F26 F27 F28 F29 F30 F31 F32 F33 F34 hm hv0q hv1q hv2q) (wd hw 84 rfl) (wd hw 85 rfl) (wd hw 86 rfl) (wd hw 71 rfl) (by decide) (argsL := [(.ref aq)]) (rest := [(.ref t)]) rfl rfl (ps := [(.object "java/util/List")]) (rt := (some (.object "java/util/List"))) (by decide) rfl (W := 1) (Nat.le_of_eq rfl) (by decide) (by decide) (by decide) (by decide) (by rw [hml]; rfl) (hb hby d10_54) (rfl : 54 + 3 = 57) fun v22 T22 hh22 L22 X22 eh22 Q22 => ?_
  obtain ⟨o_22, er_22, ke_22, rfl, Pc22, G22_0, G22_1, G22_2, G22_3, G22_4⟩ := Q22
  have P22 := P21.call Pc22 all0
  show OGo p e below K T22 (mkF m 57 #[.val (.ref t), .val (.ref a), .val (.ref aq)] [(.ref o_22), (.ref t)])
  have F35 := (fldP ((fldP (fldP (fldP I2 Pc2 nin0) Pc3 nin0) Pc6 nin0).other W21 (Or.inr (slot_ne (Or.inr (wd hw 234 rfl)) (Or.inr (wd hw 232 rfl)) (by decide) (t := (.object "java/util/List")) (by decide) (t' := (.object "java/util/List")) (by decide)))) Pc22 nin0)
  have F36 := (exaP (F20.wr W21) Pc22)
  refine g_putf X22 hx hZ hown (host := "") (Or.inl (wd hw 233 rfl)) Via.refl eh22 F35 F36 (Or.inr ⟨(wd hw 234 rfl), rfl, hnm⟩) (wd hw 70 rfl) (ty := (.object "java/util/List")) (by decide) rfl rfl P22 (Or.inl (List.mem_of_getElem? (i := 0) rfl)) (hb hby d10_57) (rfl : 57 + 3 = 60) fun T37 hh37 X37 eh37 W37 P37 F37 => ?_
  have F38 := (G22_1.wr W37)
  have F39 := (F20.wr W21)
  have ne40 : t ≠ o_22 := Nat.ne_of_lt (Nat.lt_of_lt_of_le F39.lt G22_0)
  have F41 := (G22_2.other W37 (Or.inl (Ne.symm ne40)))
  have ne42 : t ≠ er_22 := Nat.ne_of_lt (Nat.lt_of_lt_of_le F39.lt G22_3)
  have F43 := (aryO G22_4 W37 (Ne.symm ne42))
  exact g_ret0 X37 hx hret hlk (hb hby d10_60) (by decide) (by decide) eh37 hK ⟨o_22, er_22, ke_22, rfl, P37, F37, (Nat.le_trans P21.size G22_0), F38, F41, (Nat.le_trans P21.size G22_3), F43⟩
theorem d35_0 : decode jdk_45_method_4_code 0 = .ok (.aload_n 0, 1) := by decide +kernel
theorem d35_1 : decode jdk_45_method_4_code 1 = .ok (.getfield 7, 3) := by decide +kernel
theorem d35_4 : decode jdk_45_method_4_code 4 = .ok (.iload_n 1, 1) := by decide +kernel
theorem d35_5 : decode jdk_45_method_4_code 5 = .ok (.aaload, 1) := by decide +kernel
theorem d35_6 : decode jdk_45_method_4_code 6 = .ok (.areturn, 1) := by decide +kernel
theorem pn_rm_lnget_0 : plainFor (⟨"java/util/ImmutableCollections$ListN", "get", "(I)Ljava/lang/Object;"⟩ : MethodName) = true := by first | exact plainFor_of_name (by first | (simp [plainName, overriddenIn]; done) | decide +kernel) | decide +kernel
set_option maxRecDepth 65536 in
set_option maxHeartbeats 40000000 in
theorem rm_lnget_0 {l : Launch} {Z : State} {a0 : Array Value} (hw : ∀ d ∈ tables_1, d.before a0 Z = true) (o : Addr) (er : Addr) (ke : ClassId) (x0 : Addr) (x1 : Addr) (x2 : Addr) {h0 : Heap} (I0 : Fld Z h0 o "java/util/ImmutableCollections$ListN" "elements" "[Ljava/lang/Object;" (.ref er)) (I1 : OAry Z h0 er ke (.object "java/lang/Object") [(.ref x0), (.ref x1), (.ref x2)])  :
    OMet l (⟨"java/util/ImmutableCollections$ListN", "get", "(I)Ljava/lang/Object;"⟩ : MethodName) jdk_45_method_4_code 2 (Option.some (Jvm.ClassFile.FieldType.object "java/lang/Object")) ({ frames := 0, cells := 0, slots := 0, locals := 0 } : Room) #[(.ref o), (.int (0 : Int32))] Z h0 (fun vR hR LR => vR = some (.ref x0) ∧ OPr h0 [] hR LR) := by
  refine OMet.body pn_rm_lnget_0 (Ls := #[.val (.ref o), .val (.int (0 : Int32))]) (fun m => by first | (simp [entryFrame, mkF, argsToLocals, Value.category]; done) | rfl) ?_
  intro p e s m below meth c T0 K hK X0 hx hby hml hown hnm hret hlk hZ eh0
  have P0 := OPr.refl h0 []
  refine g_aloadN X0 hx (hb hby d35_0) (rfl : 0 + 1 = 1) rfl rfl ?_
  refine g_getf X0 hx hZ hown (host := "") (Or.inl (wd hw 264 rfl)) Via.refl eh0 I0 (hb hby d35_1) (rfl : 1 + 3 = 4) fun T1 X1 eh1 => ?_
  refine g_iloadN X1 hx (hb hby d35_4) (rfl : 4 + 1 = 5) rfl ?_
  refine g_aaload X1 hx hZ eh1 I1 rfl (v := (.ref x0)) (by decide) (by rfl) (hb hby d35_5) (rfl : 5 + 1 = 6) ?_
  exact g_ret X1 hx hret hlk rfl (Or.inr (Or.inr (Or.inr (Or.inr ⟨rfl, rfl, rfl⟩)))) (hb hby d35_6) (by decide) (by decide) eh1 hK ⟨rfl, P0⟩
theorem pn_rm_bmax_3_0 : plainFor (⟨"com/example/evenhand/evenhand/Bounds", "max", "(I)I"⟩ : MethodName) = true := by first | exact plainFor_of_name (by first | (simp [plainName, overriddenIn]; done) | decide +kernel) | decide +kernel
set_option maxRecDepth 65536 in
set_option maxHeartbeats 40000000 in
theorem rm_bmax_3_0 {l : Launch} {Z : State} {a0 : Array Value} (hw : ∀ d ∈ tables_1, d.before a0 Z = true) (t : Addr) (o : Addr) (er : Addr) (ke : ClassId) (x0 : Addr) (x1 : Addr) (x2 : Addr) (v : Int32) {h0 : Heap} (I0 : Fld Z h0 t "com/example/evenhand/evenhand/Bounds" "max" "Ljava/util/List;" (.ref o)) (I1 : Exa Z h0 o "java/util/ImmutableCollections$ListN") (I2 : Fld Z h0 o "java/util/ImmutableCollections$ListN" "elements" "[Ljava/lang/Object;" (.ref er)) (I3 : OAry Z h0 er ke (.object "java/lang/Object") [(.ref x0), (.ref x1), (.ref x2)]) (I4 : Exa Z h0 x0 "java/lang/Integer") (I5 : Fld Z h0 x0 "java/lang/Integer" "value" "I" (.int v))  :
    OMet l (⟨"com/example/evenhand/evenhand/Bounds", "max", "(I)I"⟩ : MethodName) prog_3_method_5_code 2 (Option.some Jvm.ClassFile.FieldType.int) ({ frames := 1, cells := 0, slots := 0, locals := 13 } : Room) #[(.ref t), (.int (0 : Int32))] Z h0 (fun vR hR LR => vR = some (.int v) ∧ OPr h0 [] hR LR) := by
  refine OMet.body pn_rm_bmax_3_0 (Ls := #[.val (.ref t), .val (.int (0 : Int32))]) (fun m => by first | (simp [entryFrame, mkF, argsToLocals, Value.category]; done) | rfl) ?_
  intro p e s m below meth c T0 K hK X0 hx hby hml hown hnm hret hlk hZ eh0
  have P0 := OPr.refl h0 []
  refine g_aloadN X0 hx (hb hby d31_0) (rfl : 0 + 1 = 1) rfl rfl ?_
  refine g_getf X0 hx hZ hown (host := "") (Or.inl (wd hw 233 rfl)) Via.refl eh0 I0 (hb hby d31_1) (rfl : 1 + 3 = 4) fun T1 X1 eh1 => ?_
  refine g_iloadN X1 hx (hb hby d31_4) (rfl : 4 + 1 = 5) rfl ?_
  refine g_face X1 hx hZ hown eh1 (rm_lnget_0 hw o er ke x0 x1 x2 I2 I3) (C := "java/util/ImmutableCollections$ListN") (wd hw 240 rfl) (wd hw 241 rfl) (wd hw 242 rfl) (wd hw 268 rfl) (wd hw 269 rfl) (wd hw 270 rfl) (wd hw 271 rfl) (wd hw 272 rfl) (wd hw 273 rfl) (wd hw 255 rfl) (by decide) (a := o) I1 (argsL := [(.int (0 : Int32))]) (rest := []) rfl rfl (ps := [.int]) (rt := (some (.object "java/lang/Object"))) (by decide) rfl (W := 0) (Nat.le_of_eq rfl) (by decide) (by decide) (by decide) (by decide) (by rw [hml]; rfl) (hb hby d31_5) (rfl : 5 + 5 = 10) fun v2 T2 hh2 L2 X2 eh2 Q2 => ?_
  obtain ⟨rfl, Pc2⟩ := Q2
  have P2 := P0.call Pc2 all0
  show OGo p e below K T2 (mkF m 10 #[.val (.ref t), .val (.int (0 : Int32))] [(.ref x0)])
  have F4 := (exaP I4 Pc2)
  refine g_cast X2 hx hZ hown (wd hw 136 rfl) eh2 (Ins.self F4) (hb hby d31_10) (rfl : 10 + 3 = 13) fun T3 X3 eh3 => ?_
  have F6 := (fldP I5 Pc2 nin0)
  refine g_virtual X3 hx hZ hown eh3 (rm_intv hw x0 v F6) (C := "java/lang/Integer") (wd hw 138 rfl) (wd hw 139 rfl) (notFace_of_selects (args := #[]) (mvT hZ (wd hw 141 rfl))) (wd hw 141 rfl) (wd hw 140 rfl) (wd hw 142 rfl) (wd hw 29 rfl) (by decide) (a := x0) F4 (argsL := []) (rest := []) rfl rfl (ps := []) (rt := (some .int)) (by decide) rfl (W := 0) (Nat.le_of_eq rfl) (by decide) (by decide) (by decide) (by decide) (by rw [hml]; rfl) (hb hby d31_13) (rfl : 13 + 3 = 16) fun v5 T5 hh5 L5 X5 eh5 Q5 => ?_
  obtain ⟨rfl, Pc5⟩ := Q5
  have P5 := P2.call Pc5 all0
  show OGo p e below K T5 (mkF m 16 #[.val (.ref t), .val (.int (0 : Int32))] [(.int v)])
  exact g_ret X5 hx hret hlk rfl (Or.inl ⟨rfl, Or.inl rfl, _, rfl⟩) (hb hby d31_16) (by decide) (by decide) eh5 hK ⟨rfl, P5⟩
theorem pn_rm_lnget_1 : plainFor (⟨"java/util/ImmutableCollections$ListN", "get", "(I)Ljava/lang/Object;"⟩ : MethodName) = true := by first | exact plainFor_of_name (by first | (simp [plainName, overriddenIn]; done) | decide +kernel) | decide +kernel
set_option maxRecDepth 65536 in
set_option maxHeartbeats 40000000 in
theorem rm_lnget_1 {l : Launch} {Z : State} {a0 : Array Value} (hw : ∀ d ∈ tables_1, d.before a0 Z = true) (o : Addr) (er : Addr) (ke : ClassId) (x0 : Addr) (x1 : Addr) (x2 : Addr) {h0 : Heap} (I0 : Fld Z h0 o "java/util/ImmutableCollections$ListN" "elements" "[Ljava/lang/Object;" (.ref er)) (I1 : OAry Z h0 er ke (.object "java/lang/Object") [(.ref x0), (.ref x1), (.ref x2)])  :
    OMet l (⟨"java/util/ImmutableCollections$ListN", "get", "(I)Ljava/lang/Object;"⟩ : MethodName) jdk_45_method_4_code 2 (Option.some (Jvm.ClassFile.FieldType.object "java/lang/Object")) ({ frames := 0, cells := 0, slots := 0, locals := 0 } : Room) #[(.ref o), (.int (1 : Int32))] Z h0 (fun vR hR LR => vR = some (.ref x1) ∧ OPr h0 [] hR LR) := by
  refine OMet.body pn_rm_lnget_1 (Ls := #[.val (.ref o), .val (.int (1 : Int32))]) (fun m => by first | (simp [entryFrame, mkF, argsToLocals, Value.category]; done) | rfl) ?_
  intro p e s m below meth c T0 K hK X0 hx hby hml hown hnm hret hlk hZ eh0
  have P0 := OPr.refl h0 []
  refine g_aloadN X0 hx (hb hby d35_0) (rfl : 0 + 1 = 1) rfl rfl ?_
  refine g_getf X0 hx hZ hown (host := "") (Or.inl (wd hw 264 rfl)) Via.refl eh0 I0 (hb hby d35_1) (rfl : 1 + 3 = 4) fun T1 X1 eh1 => ?_
  refine g_iloadN X1 hx (hb hby d35_4) (rfl : 4 + 1 = 5) rfl ?_
  refine g_aaload X1 hx hZ eh1 I1 rfl (v := (.ref x1)) (by decide) (by rfl) (hb hby d35_5) (rfl : 5 + 1 = 6) ?_
  exact g_ret X1 hx hret hlk rfl (Or.inr (Or.inr (Or.inr (Or.inr ⟨rfl, rfl, rfl⟩)))) (hb hby d35_6) (by decide) (by decide) eh1 hK ⟨rfl, P0⟩
theorem pn_rm_bmax_3_1 : plainFor (⟨"com/example/evenhand/evenhand/Bounds", "max", "(I)I"⟩ : MethodName) = true := by first | exact plainFor_of_name (by first | (simp [plainName, overriddenIn]; done) | decide +kernel) | decide +kernel
set_option maxRecDepth 65536 in
set_option maxHeartbeats 40000000 in
theorem rm_bmax_3_1 {l : Launch} {Z : State} {a0 : Array Value} (hw : ∀ d ∈ tables_1, d.before a0 Z = true) (t : Addr) (o : Addr) (er : Addr) (ke : ClassId) (x0 : Addr) (x1 : Addr) (x2 : Addr) (v : Int32) {h0 : Heap} (I0 : Fld Z h0 t "com/example/evenhand/evenhand/Bounds" "max" "Ljava/util/List;" (.ref o)) (I1 : Exa Z h0 o "java/util/ImmutableCollections$ListN") (I2 : Fld Z h0 o "java/util/ImmutableCollections$ListN" "elements" "[Ljava/lang/Object;" (.ref er)) (I3 : OAry Z h0 er ke (.object "java/lang/Object") [(.ref x0), (.ref x1), (.ref x2)]) (I4 : Exa Z h0 x1 "java/lang/Integer") (I5 : Fld Z h0 x1 "java/lang/Integer" "value" "I" (.int v))  :
    OMet l (⟨"com/example/evenhand/evenhand/Bounds", "max", "(I)I"⟩ : MethodName) prog_3_method_5_code 2 (Option.some Jvm.ClassFile.FieldType.int) ({ frames := 1, cells := 0, slots := 0, locals := 13 } : Room) #[(.ref t), (.int (1 : Int32))] Z h0 (fun vR hR LR => vR = some (.int v) ∧ OPr h0 [] hR LR) := by
  refine OMet.body pn_rm_bmax_3_1 (Ls := #[.val (.ref t), .val (.int (1 : Int32))]) (fun m => by first | (simp [entryFrame, mkF, argsToLocals, Value.category]; done) | rfl) ?_
  intro p e s m below meth c T0 K hK X0 hx hby hml hown hnm hret hlk hZ eh0
  have P0 := OPr.refl h0 []
  refine g_aloadN X0 hx (hb hby d31_0) (rfl : 0 + 1 = 1) rfl rfl ?_
  refine g_getf X0 hx hZ hown (host := "") (Or.inl (wd hw 233 rfl)) Via.refl eh0 I0 (hb hby d31_1) (rfl : 1 + 3 = 4) fun T1 X1 eh1 => ?_
  refine g_iloadN X1 hx (hb hby d31_4) (rfl : 4 + 1 = 5) rfl ?_
  refine g_face X1 hx hZ hown eh1 (rm_lnget_1 hw o er ke x0 x1 x2 I2 I3) (C := "java/util/ImmutableCollections$ListN") (wd hw 240 rfl) (wd hw 241 rfl) (wd hw 242 rfl) (wd hw 268 rfl) (wd hw 269 rfl) (wd hw 270 rfl) (wd hw 271 rfl) (wd hw 272 rfl) (wd hw 273 rfl) (wd hw 255 rfl) (by decide) (a := o) I1 (argsL := [(.int (1 : Int32))]) (rest := []) rfl rfl (ps := [.int]) (rt := (some (.object "java/lang/Object"))) (by decide) rfl (W := 0) (Nat.le_of_eq rfl) (by decide) (by decide) (by decide) (by decide) (by rw [hml]; rfl) (hb hby d31_5) (rfl : 5 + 5 = 10) fun v2 T2 hh2 L2 X2 eh2 Q2 => ?_
  obtain ⟨rfl, Pc2⟩ := Q2
  have P2 := P0.call Pc2 all0
  show OGo p e below K T2 (mkF m 10 #[.val (.ref t), .val (.int (1 : Int32))] [(.ref x1)])
  have F4 := (exaP I4 Pc2)
  refine g_cast X2 hx hZ hown (wd hw 136 rfl) eh2 (Ins.self F4) (hb hby d31_10) (rfl : 10 + 3 = 13) fun T3 X3 eh3 => ?_
  have F6 := (fldP I5 Pc2 nin0)
  refine g_virtual X3 hx hZ hown eh3 (rm_intv hw x1 v F6) (C := "java/lang/Integer") (wd hw 138 rfl) (wd hw 139 rfl) (notFace_of_selects (args := #[]) (mvT hZ (wd hw 141 rfl))) (wd hw 141 rfl) (wd hw 140 rfl) (wd hw 142 rfl) (wd hw 29 rfl) (by decide) (a := x1) F4 (argsL := []) (rest := []) rfl rfl (ps := []) (rt := (some .int)) (by decide) rfl (W := 0) (Nat.le_of_eq rfl) (by decide) (by decide) (by decide) (by decide) (by rw [hml]; rfl) (hb hby d31_13) (rfl : 13 + 3 = 16) fun v5 T5 hh5 L5 X5 eh5 Q5 => ?_
  obtain ⟨rfl, Pc5⟩ := Q5
  have P5 := P2.call Pc5 all0
  show OGo p e below K T5 (mkF m 16 #[.val (.ref t), .val (.int (1 : Int32))] [(.int v)])
  exact g_ret X5 hx hret hlk rfl (Or.inl ⟨rfl, Or.inl rfl, _, rfl⟩) (hb hby d31_16) (by decide) (by decide) eh5 hK ⟨rfl, P5⟩
theorem pn_rm_lnget_2 : plainFor (⟨"java/util/ImmutableCollections$ListN", "get", "(I)Ljava/lang/Object;"⟩ : MethodName) = true := by first | exact plainFor_of_name (by first | (simp [plainName, overriddenIn]; done) | decide +kernel) | decide +kernel
set_option maxRecDepth 65536 in
set_option maxHeartbeats 40000000 in
theorem rm_lnget_2 {l : Launch} {Z : State} {a0 : Array Value} (hw : ∀ d ∈ tables_1, d.before a0 Z = true) (o : Addr) (er : Addr) (ke : ClassId) (x0 : Addr) (x1 : Addr) (x2 : Addr) {h0 : Heap} (I0 : Fld Z h0 o "java/util/ImmutableCollections$ListN" "elements" "[Ljava/lang/Object;" (.ref er)) (I1 : OAry Z h0 er ke (.object "java/lang/Object") [(.ref x0), (.ref x1), (.ref x2)])  :
    OMet l (⟨"java/util/ImmutableCollections$ListN", "get", "(I)Ljava/lang/Object;"⟩ : MethodName) jdk_45_method_4_code 2 (Option.some (Jvm.ClassFile.FieldType.object "java/lang/Object")) ({ frames := 0, cells := 0, slots := 0, locals := 0 } : Room) #[(.ref o), (.int (2 : Int32))] Z h0 (fun vR hR LR => vR = some (.ref x2) ∧ OPr h0 [] hR LR) := by
  refine OMet.body pn_rm_lnget_2 (Ls := #[.val (.ref o), .val (.int (2 : Int32))]) (fun m => by first | (simp [entryFrame, mkF, argsToLocals, Value.category]; done) | rfl) ?_
  intro p e s m below meth c T0 K hK X0 hx hby hml hown hnm hret hlk hZ eh0
  have P0 := OPr.refl h0 []
  refine g_aloadN X0 hx (hb hby d35_0) (rfl : 0 + 1 = 1) rfl rfl ?_
  refine g_getf X0 hx hZ hown (host := "") (Or.inl (wd hw 264 rfl)) Via.refl eh0 I0 (hb hby d35_1) (rfl : 1 + 3 = 4) fun T1 X1 eh1 => ?_
  refine g_iloadN X1 hx (hb hby d35_4) (rfl : 4 + 1 = 5) rfl ?_
  refine g_aaload X1 hx hZ eh1 I1 rfl (v := (.ref x2)) (by decide) (by rfl) (hb hby d35_5) (rfl : 5 + 1 = 6) ?_
  exact g_ret X1 hx hret hlk rfl (Or.inr (Or.inr (Or.inr (Or.inr ⟨rfl, rfl, rfl⟩)))) (hb hby d35_6) (by decide) (by decide) eh1 hK ⟨rfl, P0⟩
theorem pn_rm_bmax_3_2 : plainFor (⟨"com/example/evenhand/evenhand/Bounds", "max", "(I)I"⟩ : MethodName) = true := by first | exact plainFor_of_name (by first | (simp [plainName, overriddenIn]; done) | decide +kernel) | decide +kernel
set_option maxRecDepth 65536 in
set_option maxHeartbeats 40000000 in
theorem rm_bmax_3_2 {l : Launch} {Z : State} {a0 : Array Value} (hw : ∀ d ∈ tables_1, d.before a0 Z = true) (t : Addr) (o : Addr) (er : Addr) (ke : ClassId) (x0 : Addr) (x1 : Addr) (x2 : Addr) (v : Int32) {h0 : Heap} (I0 : Fld Z h0 t "com/example/evenhand/evenhand/Bounds" "max" "Ljava/util/List;" (.ref o)) (I1 : Exa Z h0 o "java/util/ImmutableCollections$ListN") (I2 : Fld Z h0 o "java/util/ImmutableCollections$ListN" "elements" "[Ljava/lang/Object;" (.ref er)) (I3 : OAry Z h0 er ke (.object "java/lang/Object") [(.ref x0), (.ref x1), (.ref x2)]) (I4 : Exa Z h0 x2 "java/lang/Integer") (I5 : Fld Z h0 x2 "java/lang/Integer" "value" "I" (.int v))  :
    OMet l (⟨"com/example/evenhand/evenhand/Bounds", "max", "(I)I"⟩ : MethodName) prog_3_method_5_code 2 (Option.some Jvm.ClassFile.FieldType.int) ({ frames := 1, cells := 0, slots := 0, locals := 13 } : Room) #[(.ref t), (.int (2 : Int32))] Z h0 (fun vR hR LR => vR = some (.int v) ∧ OPr h0 [] hR LR) := by
  refine OMet.body pn_rm_bmax_3_2 (Ls := #[.val (.ref t), .val (.int (2 : Int32))]) (fun m => by first | (simp [entryFrame, mkF, argsToLocals, Value.category]; done) | rfl) ?_
  intro p e s m below meth c T0 K hK X0 hx hby hml hown hnm hret hlk hZ eh0
  have P0 := OPr.refl h0 []
  refine g_aloadN X0 hx (hb hby d31_0) (rfl : 0 + 1 = 1) rfl rfl ?_
  refine g_getf X0 hx hZ hown (host := "") (Or.inl (wd hw 233 rfl)) Via.refl eh0 I0 (hb hby d31_1) (rfl : 1 + 3 = 4) fun T1 X1 eh1 => ?_
  refine g_iloadN X1 hx (hb hby d31_4) (rfl : 4 + 1 = 5) rfl ?_
  refine g_face X1 hx hZ hown eh1 (rm_lnget_2 hw o er ke x0 x1 x2 I2 I3) (C := "java/util/ImmutableCollections$ListN") (wd hw 240 rfl) (wd hw 241 rfl) (wd hw 242 rfl) (wd hw 268 rfl) (wd hw 269 rfl) (wd hw 270 rfl) (wd hw 271 rfl) (wd hw 272 rfl) (wd hw 273 rfl) (wd hw 255 rfl) (by decide) (a := o) I1 (argsL := [(.int (2 : Int32))]) (rest := []) rfl rfl (ps := [.int]) (rt := (some (.object "java/lang/Object"))) (by decide) rfl (W := 0) (Nat.le_of_eq rfl) (by decide) (by decide) (by decide) (by decide) (by rw [hml]; rfl) (hb hby d31_5) (rfl : 5 + 5 = 10) fun v2 T2 hh2 L2 X2 eh2 Q2 => ?_
  obtain ⟨rfl, Pc2⟩ := Q2
  have P2 := P0.call Pc2 all0
  show OGo p e below K T2 (mkF m 10 #[.val (.ref t), .val (.int (2 : Int32))] [(.ref x2)])
  have F4 := (exaP I4 Pc2)
  refine g_cast X2 hx hZ hown (wd hw 136 rfl) eh2 (Ins.self F4) (hb hby d31_10) (rfl : 10 + 3 = 13) fun T3 X3 eh3 => ?_
  have F6 := (fldP I5 Pc2 nin0)
  refine g_virtual X3 hx hZ hown eh3 (rm_intv hw x2 v F6) (C := "java/lang/Integer") (wd hw 138 rfl) (wd hw 139 rfl) (notFace_of_selects (args := #[]) (mvT hZ (wd hw 141 rfl))) (wd hw 141 rfl) (wd hw 140 rfl) (wd hw 142 rfl) (wd hw 29 rfl) (by decide) (a := x2) F4 (argsL := []) (rest := []) rfl rfl (ps := []) (rt := (some .int)) (by decide) rfl (W := 0) (Nat.le_of_eq rfl) (by decide) (by decide) (by decide) (by decide) (by rw [hml]; rfl) (hb hby d31_13) (rfl : 13 + 3 = 16) fun v5 T5 hh5 L5 X5 eh5 Q5 => ?_
  obtain ⟨rfl, Pc5⟩ := Q5
  have P5 := P2.call Pc5 all0
  show OGo p e below K T5 (mkF m 16 #[.val (.ref t), .val (.int (2 : Int32))] [(.int v)])
  exact g_ret X5 hx hret hlk rfl (Or.inl ⟨rfl, Or.inl rfl, _, rfl⟩) (hb hby d31_16) (by decide) (by decide) eh5 hK ⟨rfl, P5⟩
theorem pn_rm0 : plainFor x = true := by first | exact plainFor_of_name (by first | (simp [plainName, overriddenIn]; done) | decide +kernel) | decide +kernel
set_option maxRecDepth 65536 in
set_option maxHeartbeats 40000000 in
theorem rm0 {l : Launch} {Z : State} {a0 : Array Value} (hw : ∀ d ∈ tables_1, d.before a0 Z = true) (p1 : Int32) (p2 : Int32) (p3 : Int32) (p4 : Int32) (p5 : Int32) (p6 : Int32) (dc : Addr) (kd : ClassId) (ca : Addr) (kc : ClassId) (cv : List Value) (em : Addr) (mr : Addr) {h0 : Heap} (I0 : Sta Z h0 "java/util/ArrayList" "DEFAULTCAPACITY_EMPTY_ELEMENTDATA" "[Ljava/lang/Object;" (.ref dc)) (I1 : OAry Z h0 dc kd (.object "java/lang/Object") []) (I2 : Sta Z h0 "java/lang/Integer$IntegerCache" "high" "I" (.int (127 : Int32))) (I3 : Sta Z h0 "java/lang/Integer$IntegerCache" "cache" "[Ljava/lang/Integer;" (.ref ca)) (I4 : OAry Z h0 ca kc (.object "java/lang/Integer") cv) (I5 : Sta Z h0 "java/util/ImmutableCollections" "EMPTY" "Ljava/lang/Object;" (.ref em)) (I6 : Exa Z h0 em "java/lang/Object") (hm : OMir Z "[Ljava/lang/Object;" mr) (hca : (∀ j : Int32, ¬ j < 0 → j < 256 → ∃ b, cv[j.toNatClampNeg]? = some (.ref b) ∧ Exa Z h0 b "java/lang/Integer" ∧ Fld Z h0 b "java/lang/Integer" "value" "I" (.int (j - 128)))) :
    OMet l x code maxLocals ret room_1 #[(.int p1), (.int p2), (.int p3), (.int p4), (.int p5), (.int p6)] Z h0 (fun vR hR LR => vR = some (.int (1 : Int32)) ∧ OPr h0 [] hR LR) := by
  refine OMet.body pn_rm0 (Ls := #[.val (.int p1), .val (.int p2), .val (.int p3), .val (.int p4), .val (.int p5), .val (.int p6), .unset, .unset, .unset, .unset, .unset, .unset, .unset, .unset, .unset, .unset, .unset]) (fun m => by first | (simp [entryFrame, mkF, argsToLocals, Value.category, maxLocals]; done) | rfl) ?_
  intro p e s m below meth c T0 K hK X0 hx hby hml hown hnm hret hlk hZ eh0
  have P0 := OPr.refl h0 []
  refine g_iloadN X0 hx (hb hby at_0) (rfl : 0 + 1 = 1) rfl ?_
  refine g_ldcI X0 hx hZ hown (wd hw 0 rfl) (hb hby at_1) (rfl : 1 + 2 = 3) ?_
  refine g_iand X0 hx (hb hby at_3) (rfl : 3 + 1 = 4) (z := (p1 &&& (2147483647 : Int32))) rfl ?_
  refine g_istore X0 hx (hb hby at_4) (rfl : 4 + 2 = 6) (Ls' := #[.val (.int p1), .val (.int p2), .val (.int p3), .val (.int p4), .val (.int p5), .val (.int p6), .val (.int (p1 &&& (2147483647 : Int32))), .unset, .unset, .unset, .unset, .unset, .unset, .unset, .unset, .unset, .unset]) rfl ?_
  refine g_iloadN X0 hx (hb hby at_6) (rfl : 6 + 1 = 7) rfl ?_
  refine g_ldcI X0 hx hZ hown (wd hw 0 rfl) (hb hby at_7) (rfl : 7 + 2 = 9) ?_
  refine g_iand X0 hx (hb hby at_9) (rfl : 9 + 1 = 10) (z := (p2 &&& (2147483647 : Int32))) rfl ?_
  refine g_istore X0 hx (hb hby at_10) (rfl : 10 + 2 = 12) (Ls' := #[.val (.int p1), .val (.int p2), .val (.int p3), .val (.int p4), .val (.int p5), .val (.int p6), .val (.int (p1 &&& (2147483647 : Int32))), .val (.int (p2 &&& (2147483647 : Int32))), .unset, .unset, .unset, .unset, .unset, .unset, .unset, .unset, .unset]) rfl ?_
  refine g_iloadN X0 hx (hb hby at_12) (rfl : 12 + 1 = 13) rfl ?_
  refine g_ldcI X0 hx hZ hown (wd hw 0 rfl) (hb hby at_13) (rfl : 13 + 2 = 15) ?_
  refine g_iand X0 hx (hb hby at_15) (rfl : 15 + 1 = 16) (z := (p3 &&& (2147483647 : Int32))) rfl ?_
  refine g_istore X0 hx (hb hby at_16) (rfl : 16 + 2 = 18) (Ls' := #[.val (.int p1), .val (.int p2), .val (.int p3), .val (.int p4), .val (.int p5), .val (.int p6), .val (.int (p1 &&& (2147483647 : Int32))), .val (.int (p2 &&& (2147483647 : Int32))), .val (.int (p3 &&& (2147483647 : Int32))), .unset, .unset, .unset, .unset, .unset, .unset, .unset, .unset]) rfl ?_
  refine g_iloadN X0 hx (hb hby at_18) (rfl : 18 + 1 = 19) rfl ?_
  refine g_ldcI X0 hx hZ hown (wd hw 0 rfl) (hb hby at_19) (rfl : 19 + 2 = 21) ?_
  refine g_iand X0 hx (hb hby at_21) (rfl : 21 + 1 = 22) (z := (p4 &&& (2147483647 : Int32))) rfl ?_
  refine g_istore X0 hx (hb hby at_22) (rfl : 22 + 2 = 24) (Ls' := #[.val (.int p1), .val (.int p2), .val (.int p3), .val (.int p4), .val (.int p5), .val (.int p6), .val (.int (p1 &&& (2147483647 : Int32))), .val (.int (p2 &&& (2147483647 : Int32))), .val (.int (p3 &&& (2147483647 : Int32))), .val (.int (p4 &&& (2147483647 : Int32))), .unset, .unset, .unset, .unset, .unset, .unset, .unset]) rfl ?_
  refine g_iload X0 hx (hb hby at_24) (rfl : 24 + 2 = 26) rfl ?_
  refine g_ldcI X0 hx hZ hown (wd hw 0 rfl) (hb hby at_26) (rfl : 26 + 2 = 28) ?_
  refine g_iand X0 hx (hb hby at_28) (rfl : 28 + 1 = 29) (z := (p5 &&& (2147483647 : Int32))) rfl ?_
  refine g_istore X0 hx (hb hby at_29) (rfl : 29 + 2 = 31) (Ls' := #[.val (.int p1), .val (.int p2), .val (.int p3), .val (.int p4), .val (.int p5), .val (.int p6), .val (.int (p1 &&& (2147483647 : Int32))), .val (.int (p2 &&& (2147483647 : Int32))), .val (.int (p3 &&& (2147483647 : Int32))), .val (.int (p4 &&& (2147483647 : Int32))), .val (.int (p5 &&& (2147483647 : Int32))), .unset, .unset, .unset, .unset, .unset, .unset]) rfl ?_
  refine g_iloadN X0 hx (hb hby at_31) (rfl : 31 + 1 = 32) rfl ?_
  refine g_iload X0 hx (hb hby at_32) (rfl : 32 + 2 = 34) rfl ?_
  refine g_ixor X0 hx (hb hby at_34) (rfl : 34 + 1 = 35) (z := (p4 ^^^ p5)) rfl ?_
  refine g_ldcI X0 hx hZ hown (wd hw 0 rfl) (hb hby at_35) (rfl : 35 + 2 = 37) ?_
  refine g_iand X0 hx (hb hby at_37) (rfl : 37 + 1 = 38) (z := ((p4 ^^^ p5) &&& (2147483647 : Int32))) rfl ?_
  refine g_istore X0 hx (hb hby at_38) (rfl : 38 + 2 = 40) (Ls' := #[.val (.int p1), .val (.int p2), .val (.int p3), .val (.int p4), .val (.int p5), .val (.int p6), .val (.int (p1 &&& (2147483647 : Int32))), .val (.int (p2 &&& (2147483647 : Int32))), .val (.int (p3 &&& (2147483647 : Int32))), .val (.int (p4 &&& (2147483647 : Int32))), .val (.int (p5 &&& (2147483647 : Int32))), .val (.int ((p4 ^^^ p5) &&& (2147483647 : Int32))), .unset, .unset, .unset, .unset, .unset]) rfl ?_
  refine g_iconst X0 hx (1 : Int32) (hb hby at_40) (rfl : 40 + 1 = 41) (by decide) ?_
  refine g_iload X0 hx (hb hby at_41) (rfl : 41 + 2 = 43) rfl ?_
  refine g_ldcI X0 hx hZ hown (wd hw 0 rfl) (hb hby at_43) (rfl : 43 + 2 = 45) ?_
  refine g_iand X0 hx (hb hby at_45) (rfl : 45 + 1 = 46) (z := (p6 &&& (2147483647 : Int32))) rfl ?_
  refine g_iconst X0 hx (3 : Int32) (hb hby at_46) (rfl : 46 + 1 = 47) (by decide) ?_
  refine g_irem X0 hx (hb hby at_47) (rfl : 47 + 1 = 48) (by decide) ?_
  refine g_iadd X0 hx (hb hby at_48) (rfl : 48 + 1 = 49) (z := ((1 : Int32) + ((p6 &&& (2147483647 : Int32)) % (3 : Int32)))) rfl ?_
  refine g_istore X0 hx (hb hby at_49) (rfl : 49 + 2 = 51) (Ls' := #[.val (.int p1), .val (.int p2), .val (.int p3), .val (.int p4), .val (.int p5), .val (.int p6), .val (.int (p1 &&& (2147483647 : Int32))), .val (.int (p2 &&& (2147483647 : Int32))), .val (.int (p3 &&& (2147483647 : Int32))), .val (.int (p4 &&& (2147483647 : Int32))), .val (.int (p5 &&& (2147483647 : Int32))), .val (.int ((p4 ^^^ p5) &&& (2147483647 : Int32))), .val (.int ((1 : Int32) + ((p6 &&& (2147483647 : Int32)) % (3 : Int32)))), .unset, .unset, .unset, .unset]) rfl ?_
  refine g_new X0 hx hZ hown (wd hw 1 rfl) (wd hw 2 rfl) (wd hw 3 rfl) eh0 P0 (hb hby at_51) (rfl : 51 + 3 = 54) (by decide) (by decide) fun T1 hh1 a1 q1 g1 X1 eh1 E1 P1 A1 D1 => ?_
  have f2 : Fld Z hh1 a1 "java/util/AbstractList" "modCount" "I" (.int (0 : Int32)) := D1 (Or.inl (wd hw 23 rfl)) (ty := .int) (by decide)
  have f3 : Fld Z hh1 a1 "java/util/ArrayList" "elementData" "[Ljava/lang/Object;" .null := D1 (Or.inl (wd hw 26 rfl)) (ty := (.array (.object "java/lang/Object"))) (by decide)
  have f4 : Fld Z hh1 a1 "java/util/ArrayList" "size" "I" (.int (0 : Int32)) := D1 (Or.inl (wd hw 46 rfl)) (ty := .int) (by decide)
  refine g_dup X1 hx (hb hby at_54) (rfl : 54 + 1 = 55) rfl ?_
  have hn := k3 p6
  rcases hn with hn | hn | hn
  · have F6 := (I0.ext E1)
    refine g_special X1 hx hZ hown eh1 (rm_ali hw a1 dc A1 f2 f3 f4 F6) rfl (wd hw 4 rfl) (wd hw 5 rfl) (wd hw 6 rfl) (wd hw 3 rfl) (by decide) (a := a1) (argsL := []) (rest := [(.ref a1)]) rfl rfl (ps := []) (by decide) rfl (W := 1) (Nat.le_of_eq rfl) (by decide) (by decide) (by decide) (by decide) (by rw [hml]; rfl) (hb hby at_55) (rfl : 55 + 3 = 58) fun v5 T5 hh5 L5 X5 eh5 Q5 => ?_
    obtain ⟨rfl, Pc5, G5_0, G5_1, G5_2⟩ := Q5
    have P5 := P1.call Pc5 (allS (Or.inr g1) all0)
    show OGo p e below K T5 (mkF m 58 #[.val (.int p1), .val (.int p2), .val (.int p3), .val (.int p4), .val (.int p5), .val (.int p6), .val (.int (p1 &&& (2147483647 : Int32))), .val (.int (p2 &&& (2147483647 : Int32))), .val (.int (p3 &&& (2147483647 : Int32))), .val (.int (p4 &&& (2147483647 : Int32))), .val (.int (p5 &&& (2147483647 : Int32))), .val (.int ((p4 ^^^ p5) &&& (2147483647 : Int32))), .val (.int ((1 : Int32) + ((p6 &&& (2147483647 : Int32)) % (3 : Int32)))), .unset, .unset, .unset, .unset] [(.ref a1)])
    refine g_astore X5 hx (hb hby at_58) (rfl : 58 + 2 = 60) rfl (Ls' := #[.val (.int p1), .val (.int p2), .val (.int p3), .val (.int p4), .val (.int p5), .val (.int p6), .val (.int (p1 &&& (2147483647 : Int32))), .val (.int (p2 &&& (2147483647 : Int32))), .val (.int (p3 &&& (2147483647 : Int32))), .val (.int (p4 &&& (2147483647 : Int32))), .val (.int (p5 &&& (2147483647 : Int32))), .val (.int ((p4 ^^^ p5) &&& (2147483647 : Int32))), .val (.int ((1 : Int32) + ((p6 &&& (2147483647 : Int32)) % (3 : Int32)))), .val (.ref a1), .unset, .unset, .unset]) rfl ?_
    refine g_new X5 hx hZ hown (wd hw 1 rfl) (wd hw 2 rfl) (wd hw 3 rfl) eh5 P5 (hb hby at_60) (rfl : 60 + 3 = 63) (by decide) (by decide) fun T7 hh7 a7 q7 g7 X7 eh7 E7 P7 A7 D7 => ?_
    have f8 : Fld Z hh7 a7 "java/util/AbstractList" "modCount" "I" (.int (0 : Int32)) := D7 (Or.inl (wd hw 23 rfl)) (ty := .int) (by decide)
    have f9 : Fld Z hh7 a7 "java/util/ArrayList" "elementData" "[Ljava/lang/Object;" .null := D7 (Or.inl (wd hw 26 rfl)) (ty := (.array (.object "java/lang/Object"))) (by decide)
    have f10 : Fld Z hh7 a7 "java/util/ArrayList" "size" "I" (.int (0 : Int32)) := D7 (Or.inl (wd hw 46 rfl)) (ty := .int) (by decide)
    refine g_dup X7 hx (hb hby at_63) (rfl : 63 + 1 = 64) rfl ?_
    have F12 := ((staP F6 Pc5).ext E7)
    refine g_special X7 hx hZ hown eh7 (rm_ali hw a7 dc A7 f8 f9 f10 F12) rfl (wd hw 4 rfl) (wd hw 5 rfl) (wd hw 6 rfl) (wd hw 3 rfl) (by decide) (a := a7) (argsL := []) (rest := [(.ref a7)]) rfl rfl (ps := []) (by decide) rfl (W := 1) (Nat.le_of_eq rfl) (by decide) (by decide) (by decide) (by decide) (by rw [hml]; rfl) (hb hby at_64) (rfl : 64 + 3 = 67) fun v11 T11 hh11 L11 X11 eh11 Q11 => ?_
    obtain ⟨rfl, Pc11, G11_0, G11_1, G11_2⟩ := Q11
    have P11 := P7.call Pc11 (allS (Or.inr g7) all0)
    show OGo p e below K T11 (mkF m 67 #[.val (.int p1), .val (.int p2), .val (.int p3), .val (.int p4), .val (.int p5), .val (.int p6), .val (.int (p1 &&& (2147483647 : Int32))), .val (.int (p2 &&& (2147483647 : Int32))), .val (.int (p3 &&& (2147483647 : Int32))), .val (.int (p4 &&& (2147483647 : Int32))), .val (.int (p5 &&& (2147483647 : Int32))), .val (.int ((p4 ^^^ p5) &&& (2147483647 : Int32))), .val (.int ((1 : Int32) + ((p6 &&& (2147483647 : Int32)) % (3 : Int32)))), .val (.ref a1), .unset, .unset, .unset] [(.ref a7)])
    refine g_astore X11 hx (hb hby at_67) (rfl : 67 + 2 = 69) rfl (Ls' := #[.val (.int p1), .val (.int p2), .val (.int p3), .val (.int p4), .val (.int p5), .val (.int p6), .val (.int (p1 &&& (2147483647 : Int32))), .val (.int (p2 &&& (2147483647 : Int32))), .val (.int (p3 &&& (2147483647 : Int32))), .val (.int (p4 &&& (2147483647 : Int32))), .val (.int (p5 &&& (2147483647 : Int32))), .val (.int ((p4 ^^^ p5) &&& (2147483647 : Int32))), .val (.int ((1 : Int32) + ((p6 &&& (2147483647 : Int32)) % (3 : Int32)))), .val (.ref a1), .val (.ref a7), .unset, .unset]) rfl ?_
    refine g_aload X11 hx (hb hby at_69) (rfl : 69 + 2 = 71) rfl rfl ?_
    refine g_iload X11 hx (hb hby at_71) (rfl : 71 + 2 = 73) rfl ?_
    have F14 := (staP I2 P11)
    have F15 := (staP I3 P11)
    have F16 := (aryP I4 P11 nin0)
    refine g_static X11 hx hZ hown eh11 (rm_valueof hw (p4 &&& (2147483647 : Int32)) ca kc cv F14 F15 F16 (mask0 _) (cacheP hca P11)) (wd hw 27 rfl) (wd hw 28 rfl) (wd hw 30 rfl) (wd hw 29 rfl) (by decide) (argsL := [(.int (p4 &&& (2147483647 : Int32)))]) (rest := [(.ref a1)]) rfl rfl (ps := [.int]) (rt := (some (.object "java/lang/Integer"))) (by decide) rfl (W := 1) (Nat.le_of_eq rfl) (by decide) (by decide) (by decide) (by decide) (by rw [hml]; rfl) (hb hby at_73) (rfl : 73 + 3 = 76) fun v13 T13 hh13 L13 X13 eh13 Q13 => ?_
    obtain ⟨b_13, rfl, Pc13, G13_0, G13_1⟩ := Q13
    have P13 := P11.call Pc13 all0
    show OGo p e below K T13 (mkF m 76 #[.val (.int p1), .val (.int p2), .val (.int p3), .val (.int p4), .val (.int p5), .val (.int p6), .val (.int (p1 &&& (2147483647 : Int32))), .val (.int (p2 &&& (2147483647 : Int32))), .val (.int (p3 &&& (2147483647 : Int32))), .val (.int (p4 &&& (2147483647 : Int32))), .val (.int (p5 &&& (2147483647 : Int32))), .val (.int ((p4 ^^^ p5) &&& (2147483647 : Int32))), .val (.int ((1 : Int32) + ((p6 &&& (2147483647 : Int32)) % (3 : Int32)))), .val (.ref a1), .val (.ref a7), .unset, .unset] [(.ref b_13), (.ref a1)])
    have F18 := (exaP (exaP ((exaP A1 Pc5).ext E7) Pc11) Pc13)
    have F19 := (exaP A1 Pc5)
    have ne20 : a1 ≠ a7 := Nat.ne_of_lt (Nat.lt_of_lt_of_le F19.lt (Nat.le_of_eq q7.symm))
    have F21 := (fldP (fldP (G5_1.ext E7) Pc11 (ninS ne20 nin0)) Pc13 nin0)
    have F22 := (fldP (fldP (G5_2.ext E7) Pc11 (ninS ne20 nin0)) Pc13 nin0)
    have F23 := (staP (staP F12 Pc11) Pc13)
    have F24 := (aryP I1 P13 nin0)
    have F25 := (fldP (fldP (G5_0.ext E7) Pc11 (ninS ne20 nin0)) Pc13 nin0)
    refine g_face X13 hx hZ hown eh13 (rm_add_0 hw a1 dc kd b_13 F18 F21 F22 F23 F24 G13_0 F25) (C := "java/util/ArrayList") (wd hw 34 rfl) (wd hw 35 rfl) (wd hw 36 rfl) (wd hw 37 rfl) (wd hw 38 rfl) (wd hw 39 rfl) (wd hw 40 rfl) (wd hw 41 rfl) (wd hw 42 rfl) (wd hw 3 rfl) (by decide) (a := a1) F18 (argsL := [(.ref b_13)]) (rest := []) rfl rfl (ps := [(.object "java/lang/Object")]) (rt := (some .boolean)) (by decide) rfl (W := 0) (Nat.le_of_eq rfl) (by decide) (by decide) (by decide) (by decide) (by rw [hml]; rfl) (hb hby at_76) (rfl : 76 + 5 = 81) fun v17 T17 hh17 L17 X17 eh17 Q17 => ?_
    obtain ⟨ar_17, kr_17, rfl, Pc17, G17_0, G17_1, G17_2, G17_3, G17_4, G17_5, G17_6⟩ := Q17
    have P17 := P13.call Pc17 (allS (Or.inr g1) all0)
    show OGo p e below K T17 (mkF m 81 #[.val (.int p1), .val (.int p2), .val (.int p3), .val (.int p4), .val (.int p5), .val (.int p6), .val (.int (p1 &&& (2147483647 : Int32))), .val (.int (p2 &&& (2147483647 : Int32))), .val (.int (p3 &&& (2147483647 : Int32))), .val (.int (p4 &&& (2147483647 : Int32))), .val (.int (p5 &&& (2147483647 : Int32))), .val (.int ((p4 ^^^ p5) &&& (2147483647 : Int32))), .val (.int ((1 : Int32) + ((p6 &&& (2147483647 : Int32)) % (3 : Int32)))), .val (.ref a1), .val (.ref a7), .unset, .unset] [(.int (1 : Int32))])
    refine g_pop X17 hx (hb hby at_81) (rfl : 81 + 1 = 82) rfl ?_
    refine g_aload X17 hx (hb hby at_82) (rfl : 82 + 2 = 84) rfl rfl ?_
    refine g_iload X17 hx (hb hby at_84) (rfl : 84 + 2 = 86) rfl ?_
    have F27 := (staP (staP F14 Pc13) Pc17)
    have F28 := (staP (staP F15 Pc13) Pc17)
    have ne29 : ca ≠ a1 := Nat.ne_of_lt (Nat.lt_of_lt_of_le (aryLt I4) (Nat.le_of_eq q1.symm))
    have F30 := (aryP (aryP F16 Pc13 nin0) Pc17 (ninS ne29 nin0))
    refine g_static X17 hx hZ hown eh17 (rm_valueof hw (p1 &&& (2147483647 : Int32)) ca kc cv F27 F28 F30 (mask0 _) (cacheP hca P17)) (wd hw 27 rfl) (wd hw 28 rfl) (wd hw 30 rfl) (wd hw 29 rfl) (by decide) (argsL := [(.int (p1 &&& (2147483647 : Int32)))]) (rest := [(.ref a7)]) rfl rfl (ps := [.int]) (rt := (some (.object "java/lang/Integer"))) (by decide) rfl (W := 1) (Nat.le_of_eq rfl) (by decide) (by decide) (by decide) (by decide) (by rw [hml]; rfl) (hb hby at_86) (rfl : 86 + 3 = 89) fun v26 T26 hh26 L26 X26 eh26 Q26 => ?_
    obtain ⟨b_26, rfl, Pc26, G26_0, G26_1⟩ := Q26
    have P26 := P17.call Pc26 all0
    show OGo p e below K T26 (mkF m 89 #[.val (.int p1), .val (.int p2), .val (.int p3), .val (.int p4), .val (.int p5), .val (.int p6), .val (.int (p1 &&& (2147483647 : Int32))), .val (.int (p2 &&& (2147483647 : Int32))), .val (.int (p3 &&& (2147483647 : Int32))), .val (.int (p4 &&& (2147483647 : Int32))), .val (.int (p5 &&& (2147483647 : Int32))), .val (.int ((p4 ^^^ p5) &&& (2147483647 : Int32))), .val (.int ((1 : Int32) + ((p6 &&& (2147483647 : Int32)) % (3 : Int32)))), .val (.ref a1), .val (.ref a7), .unset, .unset] [(.ref b_26), (.ref a7)])
    have F32 := (exaP (exaP (exaP (exaP A7 Pc11) Pc13) Pc17) Pc26)
    have F33 := (fldP (fldP (fldP G11_1 Pc13 nin0) Pc17 (ninS (Ne.symm ne20) nin0)) Pc26 nin0)
    have F34 := (fldP (fldP (fldP G11_2 Pc13 nin0) Pc17 (ninS (Ne.symm ne20) nin0)) Pc26 nin0)
    have F35 := (staP (staP F23 Pc17) Pc26)
    have ne36 : dc ≠ a1 := Nat.ne_of_lt (Nat.lt_of_lt_of_le (aryLt I1) (Nat.le_of_eq q1.symm))
    have F37 := (aryP (aryP F24 Pc17 (ninS ne36 nin0)) Pc26 nin0)
    have F38 := (fldP (fldP (fldP G11_0 Pc13 nin0) Pc17 (ninS (Ne.symm ne20) nin0)) Pc26 nin0)
    refine g_face X26 hx hZ hown eh26 (rm_add_0 hw a7 dc kd b_26 F32 F33 F34 F35 F37 G26_0 F38) (C := "java/util/ArrayList") (wd hw 34 rfl) (wd hw 35 rfl) (wd hw 36 rfl) (wd hw 37 rfl) (wd hw 38 rfl) (wd hw 39 rfl) (wd hw 40 rfl) (wd hw 41 rfl) (wd hw 42 rfl) (wd hw 3 rfl) (by decide) (a := a7) F32 (argsL := [(.ref b_26)]) (rest := []) rfl rfl (ps := [(.object "java/lang/Object")]) (rt := (some .boolean)) (by decide) rfl (W := 0) (Nat.le_of_eq rfl) (by decide) (by decide) (by decide) (by decide) (by rw [hml]; rfl) (hb hby at_89) (rfl : 89 + 5 = 94) fun v31 T31 hh31 L31 X31 eh31 Q31 => ?_
    obtain ⟨ar_31, kr_31, rfl, Pc31, G31_0, G31_1, G31_2, G31_3, G31_4, G31_5, G31_6⟩ := Q31
    have P31 := P26.call Pc31 (allS (Or.inr g7) all0)
    show OGo p e below K T31 (mkF m 94 #[.val (.int p1), .val (.int p2), .val (.int p3), .val (.int p4), .val (.int p5), .val (.int p6), .val (.int (p1 &&& (2147483647 : Int32))), .val (.int (p2 &&& (2147483647 : Int32))), .val (.int (p3 &&& (2147483647 : Int32))), .val (.int (p4 &&& (2147483647 : Int32))), .val (.int (p5 &&& (2147483647 : Int32))), .val (.int ((p4 ^^^ p5) &&& (2147483647 : Int32))), .val (.int ((1 : Int32) + ((p6 &&& (2147483647 : Int32)) % (3 : Int32)))), .val (.ref a1), .val (.ref a7), .unset, .unset] [(.int (1 : Int32))])
    refine g_pop X31 hx (hb hby at_94) (rfl : 94 + 1 = 95) rfl ?_
    refine g_iload X31 hx (hb hby at_95) (rfl : 95 + 2 = 97) rfl ?_
    refine g_iconst X31 hx (2 : Int32) (hb hby at_97) (rfl : 97 + 1 = 98) (by decide) ?_
    refine g_icmpY X31 hx (hb hby at_98) (XT.ii_lt_t (by rw [hn]; decide)) (by decide) (pc' := 127) (by decide) ?_
    refine g_iload X31 hx (hb hby at_127) (rfl : 127 + 2 = 129) rfl ?_
    refine g_iconst X31 hx (3 : Int32) (hb hby at_129) (rfl : 129 + 1 = 130) (by decide) ?_
    refine g_icmpY X31 hx (hb hby at_130) (XT.ii_lt_t (by rw [hn]; decide)) (by decide) (pc' := 159) (by decide) ?_
    refine g_new X31 hx hZ hown (wd hw 69 rfl) (wd hw 70 rfl) (wd hw 71 rfl) eh31 P31 (hb hby at_159) (rfl : 159 + 3 = 162) (by decide) (by decide) fun T39 hh39 a39 q39 g39 X39 eh39 E39 P39 A39 D39 => ?_
    have f40 : Fld Z hh39 a39 "com/example/evenhand/evenhand/Bounds" "min" "Ljava/util/List;" .null := D39 (Or.inr (wd hw 232 rfl)) (ty := (.object "java/util/List")) (by decide)
    have f41 : Fld Z hh39 a39 "com/example/evenhand/evenhand/Bounds" "max" "Ljava/util/List;" .null := D39 (Or.inr (wd hw 234 rfl)) (ty := (.object "java/util/List")) (by decide)
    refine g_dup X39 hx (hb hby at_162) (rfl : 162 + 1 = 163) rfl ?_
    refine g_aload X39 hx (hb hby at_163) (rfl : 163 + 2 = 165) rfl rfl ?_
    refine g_aload X39 hx (hb hby at_165) (rfl : 165 + 2 = 167) rfl rfl ?_
    have F43 := (exaP (exaP (exaP F18 Pc17) Pc26) Pc31)
    have ne44 : a1 ≠ a39 := Nat.ne_of_lt (Nat.lt_of_lt_of_le F43.lt (Nat.le_of_eq q39.symm))
    have F45 := (exaP (exaP G17_1 Pc26) Pc31)
    have ne46 : ar_17 ≠ a39 := Nat.ne_of_lt (Nat.lt_of_lt_of_le F45.lt (Nat.le_of_eq q39.symm))
    have F47 := (exaP F32 Pc31)
    have ne48 : a7 ≠ a39 := Nat.ne_of_lt (Nat.lt_of_lt_of_le F47.lt (Nat.le_of_eq q39.symm))
    have ne49 : ar_31 ≠ a39 := Nat.ne_of_lt (Nat.lt_of_lt_of_le G31_1.lt (Nat.le_of_eq q39.symm))
    have F50 := (exaP (exaP (exaP G13_0 Pc17) Pc26) Pc31)
    have ne51 : b_13 ≠ a39 := Nat.ne_of_lt (Nat.lt_of_lt_of_le F50.lt (Nat.le_of_eq q39.symm))
    have F52 := (exaP G26_0 Pc31)
    have ne53 : b_26 ≠ a39 := Nat.ne_of_lt (Nat.lt_of_lt_of_le F52.lt (Nat.le_of_eq q39.symm))
    have F54 := (F43.ext E39)
    have F55 := ((fldP (fldP G17_2 Pc26 nin0) Pc31 (ninS ne20 nin0)).ext E39)
    have F56 := ((fldP (fldP G17_3 Pc26 nin0) Pc31 (ninS ne20 nin0)).ext E39)
    have F57 := (exaP (exaP A7 Pc11) Pc13)
    have ne58 : a7 ≠ ar_17 := Nat.ne_of_lt (Nat.lt_of_lt_of_le F57.lt G17_0)
    have F59 := (aryE (aryP (aryP G17_5 Pc26 nin0) Pc31 (ninS (Ne.symm ne58) nin0)) E39)
    have F60 := (F45.ext E39)
    have F61 := (F50.ext E39)
    have F62 := ((fldP (fldP G17_4 Pc26 nin0) Pc31 (ninS ne20 nin0)).ext E39)
    have ne63 : b_13 ≠ a1 := ne_exa F61 F54 (by decide)
    have F65 := (F47.ext E39)
    have ne64 : b_13 ≠ a7 := ne_exa F61 F65 (by decide)
    have F66 := ((fldP (fldP (fldP G13_1 Pc17 (ninS ne63 nin0)) Pc26 nin0) Pc31 (ninS ne64 nin0)).ext E39)
    have F67 := (G31_2.ext E39)
    have F68 := (G31_3.ext E39)
    have F69 := (aryE G31_5 E39)
    have F70 := (G31_1.ext E39)
    have F71 := (F52.ext E39)
    have F72 := (G31_4.ext E39)
    have ne73 : b_26 ≠ a7 := ne_exa F71 F65 (by decide)
    have F74 := ((fldP G26_1 Pc31 (ninS ne73 nin0)).ext E39)
    have F75 := (staP I5 P39)
    refine g_special X39 hx hZ hown eh39 (rm_bi_1 hw a39 a1 ar_17 kr_17 b_13 (p4 &&& (2147483647 : Int32)) a7 ar_31 kr_31 b_26 (p1 &&& (2147483647 : Int32)) mr em A39 f40 f41 F54 F55 F56 F59 F60 F61 F62 F66 F65 F67 F68 F69 F70 F71 F72 F74 F75 hm (mask0 _) (mask0 _) ne44 ne46 ne48 ne49 ne51 ne53) rfl (wd hw 72 rfl) (wd hw 73 rfl) (wd hw 74 rfl) (wd hw 71 rfl) (by decide) (a := a39) (argsL := [(.ref a1), (.ref a7)]) (rest := [(.ref a39)]) rfl rfl (ps := [(.object "java/util/List"), (.object "java/util/List")]) (by decide) rfl (W := 1) (Nat.le_of_eq rfl) (by decide) (by decide) (by decide) (by decide) (by rw [hml]; rfl) (hb hby at_167) (rfl : 167 + 3 = 170) fun v42 T42 hh42 L42 X42 eh42 Q42 => ?_
    obtain ⟨o_42, rfl, Pc42, G42_0, G42_1, G42_2, G42_3, G42_4⟩ := Q42
    have P42 := P39.call Pc42 (allS (Or.inr g39) all0)
    show OGo p e below K T42 (mkF m 170 #[.val (.int p1), .val (.int p2), .val (.int p3), .val (.int p4), .val (.int p5), .val (.int p6), .val (.int (p1 &&& (2147483647 : Int32))), .val (.int (p2 &&& (2147483647 : Int32))), .val (.int (p3 &&& (2147483647 : Int32))), .val (.int (p4 &&& (2147483647 : Int32))), .val (.int (p5 &&& (2147483647 : Int32))), .val (.int ((p4 ^^^ p5) &&& (2147483647 : Int32))), .val (.int ((1 : Int32) + ((p6 &&& (2147483647 : Int32)) % (3 : Int32)))), .val (.ref a1), .val (.ref a7), .unset, .unset] [(.ref a39)])
    refine g_astore X42 hx (hb hby at_170) (rfl : 170 + 2 = 172) rfl (Ls' := #[.val (.int p1), .val (.int p2), .val (.int p3), .val (.int p4), .val (.int p5), .val (.int p6), .val (.int (p1 &&& (2147483647 : Int32))), .val (.int (p2 &&& (2147483647 : Int32))), .val (.int (p3 &&& (2147483647 : Int32))), .val (.int (p4 &&& (2147483647 : Int32))), .val (.int (p5 &&& (2147483647 : Int32))), .val (.int ((p4 ^^^ p5) &&& (2147483647 : Int32))), .val (.int ((1 : Int32) + ((p6 &&& (2147483647 : Int32)) % (3 : Int32)))), .val (.ref a1), .val (.ref a7), .val (.ref a39), .unset]) rfl ?_
    refine g_aload X42 hx (hb hby at_172) (rfl : 172 + 2 = 174) rfl rfl ?_
    refine g_iconst X42 hx (0 : Int32) (hb hby at_174) (rfl : 174 + 1 = 175) (by decide) ?_
    have F77 := (exaP F71 Pc42)
    have F78 := (fldP F74 Pc42 (ninS ne53 nin0))
    have F79 := (exaP A39 Pc42)
    refine g_virtual X42 hx hZ hown eh42 (rm_bmax_1_0 hw a39 o_42 b_26 (p1 &&& (2147483647 : Int32)) G42_0 G42_2 G42_3 F77 F78) (C := "com/example/evenhand/evenhand/Bounds") (wd hw 235 rfl) (wd hw 236 rfl) (notFace_of_selects (args := #[]) (mvT hZ (wd hw 238 rfl))) (wd hw 238 rfl) (wd hw 237 rfl) (wd hw 239 rfl) (wd hw 71 rfl) (by decide) (a := a39) F79 (argsL := [(.int (0 : Int32))]) (rest := []) rfl rfl (ps := [.int]) (rt := (some .int)) (by decide) rfl (W := 0) (Nat.le_of_eq rfl) (by decide) (by decide) (by decide) (by decide) (by rw [hml]; rfl) (hb hby at_175) (rfl : 175 + 3 = 178) fun v76 T76 hh76 L76 X76 eh76 Q76 => ?_
    obtain ⟨rfl, Pc76⟩ := Q76
    have P76 := P42.call Pc76 all0
    show OGo p e below K T76 (mkF m 178 #[.val (.int p1), .val (.int p2), .val (.int p3), .val (.int p4), .val (.int p5), .val (.int p6), .val (.int (p1 &&& (2147483647 : Int32))), .val (.int (p2 &&& (2147483647 : Int32))), .val (.int (p3 &&& (2147483647 : Int32))), .val (.int (p4 &&& (2147483647 : Int32))), .val (.int (p5 &&& (2147483647 : Int32))), .val (.int ((p4 ^^^ p5) &&& (2147483647 : Int32))), .val (.int ((1 : Int32) + ((p6 &&& (2147483647 : Int32)) % (3 : Int32)))), .val (.ref a1), .val (.ref a7), .val (.ref a39), .unset] [(.int (p1 &&& (2147483647 : Int32)))])
    refine g_iload X76 hx (hb hby at_178) (rfl : 178 + 2 = 180) rfl ?_
    refine g_icmpN X76 hx (hb hby at_180) (XT.ii_ne_f rfl) (rfl : 180 + 3 = 183) ?_
    refine g_iconst X76 hx (1 : Int32) (hb hby at_183) (rfl : 183 + 1 = 184) (by decide) ?_
    refine g_goto X76 hx (hb hby at_184) (by decide) (pc' := 188) (by decide) ?_
    refine g_istore X76 hx (hb hby at_188) (rfl : 188 + 2 = 190) (Ls' := #[.val (.int p1), .val (.int p2), .val (.int p3), .val (.int p4), .val (.int p5), .val (.int p6), .val (.int (p1 &&& (2147483647 : Int32))), .val (.int (p2 &&& (2147483647 : Int32))), .val (.int (p3 &&& (2147483647 : Int32))), .val (.int (p4 &&& (2147483647 : Int32))), .val (.int (p5 &&& (2147483647 : Int32))), .val (.int ((p4 ^^^ p5) &&& (2147483647 : Int32))), .val (.int ((1 : Int32) + ((p6 &&& (2147483647 : Int32)) % (3 : Int32)))), .val (.ref a1), .val (.ref a7), .val (.ref a39), .val (.int (1 : Int32))]) rfl ?_
    refine g_iload X76 hx (hb hby at_190) (rfl : 190 + 2 = 192) rfl ?_
    refine g_iconst X76 hx (2 : Int32) (hb hby at_192) (rfl : 192 + 1 = 193) (by decide) ?_
    refine g_icmpY X76 hx (hb hby at_193) (XT.ii_lt_t (by rw [hn]; decide)) (by decide) (pc' := 219) (by decide) ?_
    refine g_iload X76 hx (hb hby at_219) (rfl : 219 + 2 = 221) rfl ?_
    refine g_iconst X76 hx (3 : Int32) (hb hby at_221) (rfl : 221 + 1 = 222) (by decide) ?_
    refine g_icmpY X76 hx (hb hby at_222) (XT.ii_lt_t (by rw [hn]; decide)) (by decide) (pc' := 248) (by decide) ?_
    refine g_iload X76 hx (hb hby at_248) (rfl : 248 + 2 = 250) rfl ?_
    exact g_ret X76 hx hret hlk rfl (Or.inl ⟨rfl, Or.inr (Or.inl rfl), _, rfl⟩) (hb hby at_250) (by decide) (by decide) eh76 hK ⟨rfl, P76⟩
  · have F81 := (I0.ext E1)
    refine g_special X1 hx hZ hown eh1 (rm_ali hw a1 dc A1 f2 f3 f4 F81) rfl (wd hw 4 rfl) (wd hw 5 rfl) (wd hw 6 rfl) (wd hw 3 rfl) (by decide) (a := a1) (argsL := []) (rest := [(.ref a1)]) rfl rfl (ps := []) (by decide) rfl (W := 1) (Nat.le_of_eq rfl) (by decide) (by decide) (by decide) (by decide) (by rw [hml]; rfl) (hb hby at_55) (rfl : 55 + 3 = 58) fun v80 T80 hh80 L80 X80 eh80 Q80 => ?_
    obtain ⟨rfl, Pc80, G80_0, G80_1, G80_2⟩ := Q80
    have P80 := P1.call Pc80 (allS (Or.inr g1) all0)
    show OGo p e below K T80 (mkF m 58 #[.val (.int p1), .val (.int p2), .val (.int p3), .val (.int p4), .val (.int p5), .val (.int p6), .val (.int (p1 &&& (2147483647 : Int32))), .val (.int (p2 &&& (2147483647 : Int32))), .val (.int (p3 &&& (2147483647 : Int32))), .val (.int (p4 &&& (2147483647 : Int32))), .val (.int (p5 &&& (2147483647 : Int32))), .val (.int ((p4 ^^^ p5) &&& (2147483647 : Int32))), .val (.int ((1 : Int32) + ((p6 &&& (2147483647 : Int32)) % (3 : Int32)))), .unset, .unset, .unset, .unset] [(.ref a1)])
    refine g_astore X80 hx (hb hby at_58) (rfl : 58 + 2 = 60) rfl (Ls' := #[.val (.int p1), .val (.int p2), .val (.int p3), .val (.int p4), .val (.int p5), .val (.int p6), .val (.int (p1 &&& (2147483647 : Int32))), .val (.int (p2 &&& (2147483647 : Int32))), .val (.int (p3 &&& (2147483647 : Int32))), .val (.int (p4 &&& (2147483647 : Int32))), .val (.int (p5 &&& (2147483647 : Int32))), .val (.int ((p4 ^^^ p5) &&& (2147483647 : Int32))), .val (.int ((1 : Int32) + ((p6 &&& (2147483647 : Int32)) % (3 : Int32)))), .val (.ref a1), .unset, .unset, .unset]) rfl ?_
    refine g_new X80 hx hZ hown (wd hw 1 rfl) (wd hw 2 rfl) (wd hw 3 rfl) eh80 P80 (hb hby at_60) (rfl : 60 + 3 = 63) (by decide) (by decide) fun T82 hh82 a82 q82 g82 X82 eh82 E82 P82 A82 D82 => ?_
    have f83 : Fld Z hh82 a82 "java/util/AbstractList" "modCount" "I" (.int (0 : Int32)) := D82 (Or.inl (wd hw 23 rfl)) (ty := .int) (by decide)
    have f84 : Fld Z hh82 a82 "java/util/ArrayList" "elementData" "[Ljava/lang/Object;" .null := D82 (Or.inl (wd hw 26 rfl)) (ty := (.array (.object "java/lang/Object"))) (by decide)
    have f85 : Fld Z hh82 a82 "java/util/ArrayList" "size" "I" (.int (0 : Int32)) := D82 (Or.inl (wd hw 46 rfl)) (ty := .int) (by decide)
    refine g_dup X82 hx (hb hby at_63) (rfl : 63 + 1 = 64) rfl ?_
    have F87 := ((staP F81 Pc80).ext E82)
    refine g_special X82 hx hZ hown eh82 (rm_ali hw a82 dc A82 f83 f84 f85 F87) rfl (wd hw 4 rfl) (wd hw 5 rfl) (wd hw 6 rfl) (wd hw 3 rfl) (by decide) (a := a82) (argsL := []) (rest := [(.ref a82)]) rfl rfl (ps := []) (by decide) rfl (W := 1) (Nat.le_of_eq rfl) (by decide) (by decide) (by decide) (by decide) (by rw [hml]; rfl) (hb hby at_64) (rfl : 64 + 3 = 67) fun v86 T86 hh86 L86 X86 eh86 Q86 => ?_
    obtain ⟨rfl, Pc86, G86_0, G86_1, G86_2⟩ := Q86
    have P86 := P82.call Pc86 (allS (Or.inr g82) all0)
    show OGo p e below K T86 (mkF m 67 #[.val (.int p1), .val (.int p2), .val (.int p3), .val (.int p4), .val (.int p5), .val (.int p6), .val (.int (p1 &&& (2147483647 : Int32))), .val (.int (p2 &&& (2147483647 : Int32))), .val (.int (p3 &&& (2147483647 : Int32))), .val (.int (p4 &&& (2147483647 : Int32))), .val (.int (p5 &&& (2147483647 : Int32))), .val (.int ((p4 ^^^ p5) &&& (2147483647 : Int32))), .val (.int ((1 : Int32) + ((p6 &&& (2147483647 : Int32)) % (3 : Int32)))), .val (.ref a1), .unset, .unset, .unset] [(.ref a82)])
    refine g_astore X86 hx (hb hby at_67) (rfl : 67 + 2 = 69) rfl (Ls' := #[.val (.int p1), .val (.int p2), .val (.int p3), .val (.int p4), .val (.int p5), .val (.int p6), .val (.int (p1 &&& (2147483647 : Int32))), .val (.int (p2 &&& (2147483647 : Int32))), .val (.int (p3 &&& (2147483647 : Int32))), .val (.int (p4 &&& (2147483647 : Int32))), .val (.int (p5 &&& (2147483647 : Int32))), .val (.int ((p4 ^^^ p5) &&& (2147483647 : Int32))), .val (.int ((1 : Int32) + ((p6 &&& (2147483647 : Int32)) % (3 : Int32)))), .val (.ref a1), .val (.ref a82), .unset, .unset]) rfl ?_
    refine g_aload X86 hx (hb hby at_69) (rfl : 69 + 2 = 71) rfl rfl ?_
    refine g_iload X86 hx (hb hby at_71) (rfl : 71 + 2 = 73) rfl ?_
    have F89 := (staP I2 P86)
    have F90 := (staP I3 P86)
    have F91 := (aryP I4 P86 nin0)
    refine g_static X86 hx hZ hown eh86 (rm_valueof hw (p4 &&& (2147483647 : Int32)) ca kc cv F89 F90 F91 (mask0 _) (cacheP hca P86)) (wd hw 27 rfl) (wd hw 28 rfl) (wd hw 30 rfl) (wd hw 29 rfl) (by decide) (argsL := [(.int (p4 &&& (2147483647 : Int32)))]) (rest := [(.ref a1)]) rfl rfl (ps := [.int]) (rt := (some (.object "java/lang/Integer"))) (by decide) rfl (W := 1) (Nat.le_of_eq rfl) (by decide) (by decide) (by decide) (by decide) (by rw [hml]; rfl) (hb hby at_73) (rfl : 73 + 3 = 76) fun v88 T88 hh88 L88 X88 eh88 Q88 => ?_
    obtain ⟨b_88, rfl, Pc88, G88_0, G88_1⟩ := Q88
    have P88 := P86.call Pc88 all0
    show OGo p e below K T88 (mkF m 76 #[.val (.int p1), .val (.int p2), .val (.int p3), .val (.int p4), .val (.int p5), .val (.int p6), .val (.int (p1 &&& (2147483647 : Int32))), .val (.int (p2 &&& (2147483647 : Int32))), .val (.int (p3 &&& (2147483647 : Int32))), .val (.int (p4 &&& (2147483647 : Int32))), .val (.int (p5 &&& (2147483647 : Int32))), .val (.int ((p4 ^^^ p5) &&& (2147483647 : Int32))), .val (.int ((1 : Int32) + ((p6 &&& (2147483647 : Int32)) % (3 : Int32)))), .val (.ref a1), .val (.ref a82), .unset, .unset] [(.ref b_88), (.ref a1)])
    have F93 := (exaP (exaP ((exaP A1 Pc80).ext E82) Pc86) Pc88)
    have F94 := (exaP A1 Pc80)
    have ne95 : a1 ≠ a82 := Nat.ne_of_lt (Nat.lt_of_lt_of_le F94.lt (Nat.le_of_eq q82.symm))
    have F96 := (fldP (fldP (G80_1.ext E82) Pc86 (ninS ne95 nin0)) Pc88 nin0)
    have F97 := (fldP (fldP (G80_2.ext E82) Pc86 (ninS ne95 nin0)) Pc88 nin0)
    have F98 := (staP (staP F87 Pc86) Pc88)
    have F99 := (aryP I1 P88 nin0)
    have F100 := (fldP (fldP (G80_0.ext E82) Pc86 (ninS ne95 nin0)) Pc88 nin0)
    refine g_face X88 hx hZ hown eh88 (rm_add_0 hw a1 dc kd b_88 F93 F96 F97 F98 F99 G88_0 F100) (C := "java/util/ArrayList") (wd hw 34 rfl) (wd hw 35 rfl) (wd hw 36 rfl) (wd hw 37 rfl) (wd hw 38 rfl) (wd hw 39 rfl) (wd hw 40 rfl) (wd hw 41 rfl) (wd hw 42 rfl) (wd hw 3 rfl) (by decide) (a := a1) F93 (argsL := [(.ref b_88)]) (rest := []) rfl rfl (ps := [(.object "java/lang/Object")]) (rt := (some .boolean)) (by decide) rfl (W := 0) (Nat.le_of_eq rfl) (by decide) (by decide) (by decide) (by decide) (by rw [hml]; rfl) (hb hby at_76) (rfl : 76 + 5 = 81) fun v92 T92 hh92 L92 X92 eh92 Q92 => ?_
    obtain ⟨ar_92, kr_92, rfl, Pc92, G92_0, G92_1, G92_2, G92_3, G92_4, G92_5, G92_6⟩ := Q92
    have P92 := P88.call Pc92 (allS (Or.inr g1) all0)
    show OGo p e below K T92 (mkF m 81 #[.val (.int p1), .val (.int p2), .val (.int p3), .val (.int p4), .val (.int p5), .val (.int p6), .val (.int (p1 &&& (2147483647 : Int32))), .val (.int (p2 &&& (2147483647 : Int32))), .val (.int (p3 &&& (2147483647 : Int32))), .val (.int (p4 &&& (2147483647 : Int32))), .val (.int (p5 &&& (2147483647 : Int32))), .val (.int ((p4 ^^^ p5) &&& (2147483647 : Int32))), .val (.int ((1 : Int32) + ((p6 &&& (2147483647 : Int32)) % (3 : Int32)))), .val (.ref a1), .val (.ref a82), .unset, .unset] [(.int (1 : Int32))])
    refine g_pop X92 hx (hb hby at_81) (rfl : 81 + 1 = 82) rfl ?_
    refine g_aload X92 hx (hb hby at_82) (rfl : 82 + 2 = 84) rfl rfl ?_
    refine g_iload X92 hx (hb hby at_84) (rfl : 84 + 2 = 86) rfl ?_
    have F102 := (staP (staP F89 Pc88) Pc92)
    have F103 := (staP (staP F90 Pc88) Pc92)
    have ne104 : ca ≠ a1 := Nat.ne_of_lt (Nat.lt_of_lt_of_le (aryLt I4) (Nat.le_of_eq q1.symm))
    have F105 := (aryP (aryP F91 Pc88 nin0) Pc92 (ninS ne104 nin0))
    refine g_static X92 hx hZ hown eh92 (rm_valueof hw (p1 &&& (2147483647 : Int32)) ca kc cv F102 F103 F105 (mask0 _) (cacheP hca P92)) (wd hw 27 rfl) (wd hw 28 rfl) (wd hw 30 rfl) (wd hw 29 rfl) (by decide) (argsL := [(.int (p1 &&& (2147483647 : Int32)))]) (rest := [(.ref a82)]) rfl rfl (ps := [.int]) (rt := (some (.object "java/lang/Integer"))) (by decide) rfl (W := 1) (Nat.le_of_eq rfl) (by decide) (by decide) (by decide) (by decide) (by rw [hml]; rfl) (hb hby at_86) (rfl : 86 + 3 = 89) fun v101 T101 hh101 L101 X101 eh101 Q101 => ?_
    obtain ⟨b_101, rfl, Pc101, G101_0, G101_1⟩ := Q101
    have P101 := P92.call Pc101 all0
    show OGo p e below K T101 (mkF m 89 #[.val (.int p1), .val (.int p2), .val (.int p3), .val (.int p4), .val (.int p5), .val (.int p6), .val (.int (p1 &&& (2147483647 : Int32))), .val (.int (p2 &&& (2147483647 : Int32))), .val (.int (p3 &&& (2147483647 : Int32))), .val (.int (p4 &&& (2147483647 : Int32))), .val (.int (p5 &&& (2147483647 : Int32))), .val (.int ((p4 ^^^ p5) &&& (2147483647 : Int32))), .val (.int ((1 : Int32) + ((p6 &&& (2147483647 : Int32)) % (3 : Int32)))), .val (.ref a1), .val (.ref a82), .unset, .unset] [(.ref b_101), (.ref a82)])
    have F107 := (exaP (exaP (exaP (exaP A82 Pc86) Pc88) Pc92) Pc101)
    have F108 := (fldP (fldP (fldP G86_1 Pc88 nin0) Pc92 (ninS (Ne.symm ne95) nin0)) Pc101 nin0)
    have F109 := (fldP (fldP (fldP G86_2 Pc88 nin0) Pc92 (ninS (Ne.symm ne95) nin0)) Pc101 nin0)
    have F110 := (staP (staP F98 Pc92) Pc101)
    have ne111 : dc ≠ a1 := Nat.ne_of_lt (Nat.lt_of_lt_of_le (aryLt I1) (Nat.le_of_eq q1.symm))
    have F112 := (aryP (aryP F99 Pc92 (ninS ne111 nin0)) Pc101 nin0)
    have F113 := (fldP (fldP (fldP G86_0 Pc88 nin0) Pc92 (ninS (Ne.symm ne95) nin0)) Pc101 nin0)
    refine g_face X101 hx hZ hown eh101 (rm_add_0 hw a82 dc kd b_101 F107 F108 F109 F110 F112 G101_0 F113) (C := "java/util/ArrayList") (wd hw 34 rfl) (wd hw 35 rfl) (wd hw 36 rfl) (wd hw 37 rfl) (wd hw 38 rfl) (wd hw 39 rfl) (wd hw 40 rfl) (wd hw 41 rfl) (wd hw 42 rfl) (wd hw 3 rfl) (by decide) (a := a82) F107 (argsL := [(.ref b_101)]) (rest := []) rfl rfl (ps := [(.object "java/lang/Object")]) (rt := (some .boolean)) (by decide) rfl (W := 0) (Nat.le_of_eq rfl) (by decide) (by decide) (by decide) (by decide) (by rw [hml]; rfl) (hb hby at_89) (rfl : 89 + 5 = 94) fun v106 T106 hh106 L106 X106 eh106 Q106 => ?_
    obtain ⟨ar_106, kr_106, rfl, Pc106, G106_0, G106_1, G106_2, G106_3, G106_4, G106_5, G106_6⟩ := Q106
    have P106 := P101.call Pc106 (allS (Or.inr g82) all0)
    show OGo p e below K T106 (mkF m 94 #[.val (.int p1), .val (.int p2), .val (.int p3), .val (.int p4), .val (.int p5), .val (.int p6), .val (.int (p1 &&& (2147483647 : Int32))), .val (.int (p2 &&& (2147483647 : Int32))), .val (.int (p3 &&& (2147483647 : Int32))), .val (.int (p4 &&& (2147483647 : Int32))), .val (.int (p5 &&& (2147483647 : Int32))), .val (.int ((p4 ^^^ p5) &&& (2147483647 : Int32))), .val (.int ((1 : Int32) + ((p6 &&& (2147483647 : Int32)) % (3 : Int32)))), .val (.ref a1), .val (.ref a82), .unset, .unset] [(.int (1 : Int32))])
    refine g_pop X106 hx (hb hby at_94) (rfl : 94 + 1 = 95) rfl ?_
    refine g_iload X106 hx (hb hby at_95) (rfl : 95 + 2 = 97) rfl ?_
    refine g_iconst X106 hx (2 : Int32) (hb hby at_97) (rfl : 97 + 1 = 98) (by decide) ?_
    refine g_icmpN X106 hx (hb hby at_98) (XT.ii_lt_f (by rw [hn]; decide)) (rfl : 98 + 3 = 101) ?_
    refine g_aload X106 hx (hb hby at_101) (rfl : 101 + 2 = 103) rfl rfl ?_
    refine g_iload X106 hx (hb hby at_103) (rfl : 103 + 2 = 105) rfl ?_
    have F115 := (staP (staP F102 Pc101) Pc106)
    have F116 := (staP (staP F103 Pc101) Pc106)
    have F117 := (aryP I4 P80 nin0)
    have ne118 : ca ≠ a82 := Nat.ne_of_lt (Nat.lt_of_lt_of_le (aryLt F117) (Nat.le_of_eq q82.symm))
    have F119 := (aryP (aryP F105 Pc101 nin0) Pc106 (ninS ne118 nin0))
    refine g_static X106 hx hZ hown eh106 (rm_valueof hw (p5 &&& (2147483647 : Int32)) ca kc cv F115 F116 F119 (mask0 _) (cacheP hca P106)) (wd hw 27 rfl) (wd hw 28 rfl) (wd hw 30 rfl) (wd hw 29 rfl) (by decide) (argsL := [(.int (p5 &&& (2147483647 : Int32)))]) (rest := [(.ref a1)]) rfl rfl (ps := [.int]) (rt := (some (.object "java/lang/Integer"))) (by decide) rfl (W := 1) (Nat.le_of_eq rfl) (by decide) (by decide) (by decide) (by decide) (by rw [hml]; rfl) (hb hby at_105) (rfl : 105 + 3 = 108) fun v114 T114 hh114 L114 X114 eh114 Q114 => ?_
    obtain ⟨b_114, rfl, Pc114, G114_0, G114_1⟩ := Q114
    have P114 := P106.call Pc114 all0
    show OGo p e below K T114 (mkF m 108 #[.val (.int p1), .val (.int p2), .val (.int p3), .val (.int p4), .val (.int p5), .val (.int p6), .val (.int (p1 &&& (2147483647 : Int32))), .val (.int (p2 &&& (2147483647 : Int32))), .val (.int (p3 &&& (2147483647 : Int32))), .val (.int (p4 &&& (2147483647 : Int32))), .val (.int (p5 &&& (2147483647 : Int32))), .val (.int ((p4 ^^^ p5) &&& (2147483647 : Int32))), .val (.int ((1 : Int32) + ((p6 &&& (2147483647 : Int32)) % (3 : Int32)))), .val (.ref a1), .val (.ref a82), .unset, .unset] [(.ref b_114), (.ref a1)])
    have F121 := (exaP (exaP (exaP (exaP F93 Pc92) Pc101) Pc106) Pc114)
    have F122 := (fldP (fldP (fldP G92_2 Pc101 nin0) Pc106 (ninS ne95 nin0)) Pc114 nin0)
    have F123 := (fldP (fldP (fldP G92_3 Pc101 nin0) Pc106 (ninS ne95 nin0)) Pc114 nin0)
    have F124 := (exaP (exaP A82 Pc86) Pc88)
    have ne125 : a82 ≠ ar_92 := Nat.ne_of_lt (Nat.lt_of_lt_of_le F124.lt G92_0)
    have F126 := (aryP (aryP (aryP G92_5 Pc101 nin0) Pc106 (ninS (Ne.symm ne125) nin0)) Pc114 nin0)
    have F127 := (fldP (fldP (fldP G92_4 Pc101 nin0) Pc106 (ninS ne95 nin0)) Pc114 nin0)
    refine g_face X114 hx hZ hown eh114 (rm_add_1 hw a1 ar_92 kr_92 b_88 b_114 F121 F122 F123 F126 G114_0 F127 G92_6) (C := "java/util/ArrayList") (wd hw 34 rfl) (wd hw 35 rfl) (wd hw 36 rfl) (wd hw 37 rfl) (wd hw 38 rfl) (wd hw 39 rfl) (wd hw 40 rfl) (wd hw 41 rfl) (wd hw 42 rfl) (wd hw 3 rfl) (by decide) (a := a1) F121 (argsL := [(.ref b_114)]) (rest := []) rfl rfl (ps := [(.object "java/lang/Object")]) (rt := (some .boolean)) (by decide) rfl (W := 0) (Nat.le_of_eq rfl) (by decide) (by decide) (by decide) (by decide) (by rw [hml]; rfl) (hb hby at_108) (rfl : 108 + 5 = 113) fun v120 T120 hh120 L120 X120 eh120 Q120 => ?_
    obtain ⟨rfl, Pc120, G120_0, G120_1, G120_2, G120_3⟩ := Q120
    have P120 := P114.call Pc120 (allS (Or.inr g1) (allS (Or.inr (Nat.le_trans P88.size G92_0)) all0))
    show OGo p e below K T120 (mkF m 113 #[.val (.int p1), .val (.int p2), .val (.int p3), .val (.int p4), .val (.int p5), .val (.int p6), .val (.int (p1 &&& (2147483647 : Int32))), .val (.int (p2 &&& (2147483647 : Int32))), .val (.int (p3 &&& (2147483647 : Int32))), .val (.int (p4 &&& (2147483647 : Int32))), .val (.int (p5 &&& (2147483647 : Int32))), .val (.int ((p4 ^^^ p5) &&& (2147483647 : Int32))), .val (.int ((1 : Int32) + ((p6 &&& (2147483647 : Int32)) % (3 : Int32)))), .val (.ref a1), .val (.ref a82), .unset, .unset] [(.int (1 : Int32))])
    refine g_pop X120 hx (hb hby at_113) (rfl : 113 + 1 = 114) rfl ?_
    refine g_aload X120 hx (hb hby at_114) (rfl : 114 + 2 = 116) rfl rfl ?_
    refine g_iload X120 hx (hb hby at_116) (rfl : 116 + 2 = 118) rfl ?_
    have F129 := (staP (staP F115 Pc114) Pc120)
    have F130 := (staP (staP F116 Pc114) Pc120)
    have F131 := (aryP F91 Pc88 nin0)
    have ne132 : ca ≠ ar_92 := Nat.ne_of_lt (Nat.lt_of_lt_of_le (aryLt F131) G92_0)
    have F133 := (aryP (aryP F119 Pc114 nin0) Pc120 (ninS ne104 (ninS ne132 nin0)))
    refine g_static X120 hx hZ hown eh120 (rm_valueof hw (p2 &&& (2147483647 : Int32)) ca kc cv F129 F130 F133 (mask0 _) (cacheP hca P120)) (wd hw 27 rfl) (wd hw 28 rfl) (wd hw 30 rfl) (wd hw 29 rfl) (by decide) (argsL := [(.int (p2 &&& (2147483647 : Int32)))]) (rest := [(.ref a82)]) rfl rfl (ps := [.int]) (rt := (some (.object "java/lang/Integer"))) (by decide) rfl (W := 1) (Nat.le_of_eq rfl) (by decide) (by decide) (by decide) (by decide) (by rw [hml]; rfl) (hb hby at_118) (rfl : 118 + 3 = 121) fun v128 T128 hh128 L128 X128 eh128 Q128 => ?_
    obtain ⟨b_128, rfl, Pc128, G128_0, G128_1⟩ := Q128
    have P128 := P120.call Pc128 all0
    show OGo p e below K T128 (mkF m 121 #[.val (.int p1), .val (.int p2), .val (.int p3), .val (.int p4), .val (.int p5), .val (.int p6), .val (.int (p1 &&& (2147483647 : Int32))), .val (.int (p2 &&& (2147483647 : Int32))), .val (.int (p3 &&& (2147483647 : Int32))), .val (.int (p4 &&& (2147483647 : Int32))), .val (.int (p5 &&& (2147483647 : Int32))), .val (.int ((p4 ^^^ p5) &&& (2147483647 : Int32))), .val (.int ((1 : Int32) + ((p6 &&& (2147483647 : Int32)) % (3 : Int32)))), .val (.ref a1), .val (.ref a82), .unset, .unset] [(.ref b_128), (.ref a82)])
    have F135 := (exaP (exaP (exaP (exaP F107 Pc106) Pc114) Pc120) Pc128)
    have F136 := (fldP (fldP (fldP G106_2 Pc114 nin0) Pc120 (ninS (Ne.symm ne95) (ninS ne125 nin0))) Pc128 nin0)
    have F137 := (fldP (fldP (fldP G106_3 Pc114 nin0) Pc120 (ninS (Ne.symm ne95) (ninS ne125 nin0))) Pc128 nin0)
    have F138 := (exaP G92_1 Pc101)
    have ne139 : ar_92 ≠ ar_106 := Nat.ne_of_lt (Nat.lt_of_lt_of_le F138.lt G106_0)
    have F140 := (exaP (exaP F93 Pc92) Pc101)
    have ne141 : a1 ≠ ar_106 := Nat.ne_of_lt (Nat.lt_of_lt_of_le F140.lt G106_0)
    have F142 := (aryP (aryP (aryP G106_5 Pc114 nin0) Pc120 (ninS (Ne.symm ne141) (ninS (Ne.symm ne139) nin0))) Pc128 nin0)
    have F143 := (fldP (fldP (fldP G106_4 Pc114 nin0) Pc120 (ninS (Ne.symm ne95) (ninS ne125 nin0))) Pc128 nin0)
    refine g_face X128 hx hZ hown eh128 (rm_add_1 hw a82 ar_106 kr_106 b_101 b_128 F135 F136 F137 F142 G128_0 F143 G106_6) (C := "java/util/ArrayList") (wd hw 34 rfl) (wd hw 35 rfl) (wd hw 36 rfl) (wd hw 37 rfl) (wd hw 38 rfl) (wd hw 39 rfl) (wd hw 40 rfl) (wd hw 41 rfl) (wd hw 42 rfl) (wd hw 3 rfl) (by decide) (a := a82) F135 (argsL := [(.ref b_128)]) (rest := []) rfl rfl (ps := [(.object "java/lang/Object")]) (rt := (some .boolean)) (by decide) rfl (W := 0) (Nat.le_of_eq rfl) (by decide) (by decide) (by decide) (by decide) (by rw [hml]; rfl) (hb hby at_121) (rfl : 121 + 5 = 126) fun v134 T134 hh134 L134 X134 eh134 Q134 => ?_
    obtain ⟨rfl, Pc134, G134_0, G134_1, G134_2, G134_3⟩ := Q134
    have P134 := P128.call Pc134 (allS (Or.inr g82) (allS (Or.inr (Nat.le_trans P101.size G106_0)) all0))
    show OGo p e below K T134 (mkF m 126 #[.val (.int p1), .val (.int p2), .val (.int p3), .val (.int p4), .val (.int p5), .val (.int p6), .val (.int (p1 &&& (2147483647 : Int32))), .val (.int (p2 &&& (2147483647 : Int32))), .val (.int (p3 &&& (2147483647 : Int32))), .val (.int (p4 &&& (2147483647 : Int32))), .val (.int (p5 &&& (2147483647 : Int32))), .val (.int ((p4 ^^^ p5) &&& (2147483647 : Int32))), .val (.int ((1 : Int32) + ((p6 &&& (2147483647 : Int32)) % (3 : Int32)))), .val (.ref a1), .val (.ref a82), .unset, .unset] [(.int (1 : Int32))])
    refine g_pop X134 hx (hb hby at_126) (rfl : 126 + 1 = 127) rfl ?_
    refine g_iload X134 hx (hb hby at_127) (rfl : 127 + 2 = 129) rfl ?_
    refine g_iconst X134 hx (3 : Int32) (hb hby at_129) (rfl : 129 + 1 = 130) (by decide) ?_
    refine g_icmpY X134 hx (hb hby at_130) (XT.ii_lt_t (by rw [hn]; decide)) (by decide) (pc' := 159) (by decide) ?_
    refine g_new X134 hx hZ hown (wd hw 69 rfl) (wd hw 70 rfl) (wd hw 71 rfl) eh134 P134 (hb hby at_159) (rfl : 159 + 3 = 162) (by decide) (by decide) fun T144 hh144 a144 q144 g144 X144 eh144 E144 P144 A144 D144 => ?_
    have f145 : Fld Z hh144 a144 "com/example/evenhand/evenhand/Bounds" "min" "Ljava/util/List;" .null := D144 (Or.inr (wd hw 232 rfl)) (ty := (.object "java/util/List")) (by decide)
    have f146 : Fld Z hh144 a144 "com/example/evenhand/evenhand/Bounds" "max" "Ljava/util/List;" .null := D144 (Or.inr (wd hw 234 rfl)) (ty := (.object "java/util/List")) (by decide)
    refine g_dup X144 hx (hb hby at_162) (rfl : 162 + 1 = 163) rfl ?_
    refine g_aload X144 hx (hb hby at_163) (rfl : 163 + 2 = 165) rfl rfl ?_
    refine g_aload X144 hx (hb hby at_165) (rfl : 165 + 2 = 167) rfl rfl ?_
    have F148 := (exaP (exaP (exaP F121 Pc120) Pc128) Pc134)
    have ne149 : a1 ≠ a144 := Nat.ne_of_lt (Nat.lt_of_lt_of_le F148.lt (Nat.le_of_eq q144.symm))
    have F150 := (exaP (exaP (exaP (exaP (exaP F138 Pc106) Pc114) Pc120) Pc128) Pc134)
    have ne151 : ar_92 ≠ a144 := Nat.ne_of_lt (Nat.lt_of_lt_of_le F150.lt (Nat.le_of_eq q144.symm))
    have F152 := (exaP F135 Pc134)
    have ne153 : a82 ≠ a144 := Nat.ne_of_lt (Nat.lt_of_lt_of_le F152.lt (Nat.le_of_eq q144.symm))
    have F154 := (exaP (exaP (exaP (exaP G106_1 Pc114) Pc120) Pc128) Pc134)
    have ne155 : ar_106 ≠ a144 := Nat.ne_of_lt (Nat.lt_of_lt_of_le F154.lt (Nat.le_of_eq q144.symm))
    have F156 := (exaP (exaP (exaP (exaP (exaP (exaP (exaP G88_0 Pc92) Pc101) Pc106) Pc114) Pc120) Pc128) Pc134)
    have ne157 : b_88 ≠ a144 := Nat.ne_of_lt (Nat.lt_of_lt_of_le F156.lt (Nat.le_of_eq q144.symm))
    have F158 := (exaP (exaP (exaP G114_0 Pc120) Pc128) Pc134)
    have ne159 : b_114 ≠ a144 := Nat.ne_of_lt (Nat.lt_of_lt_of_le F158.lt (Nat.le_of_eq q144.symm))
    have F160 := (exaP (exaP (exaP (exaP (exaP G101_0 Pc106) Pc114) Pc120) Pc128) Pc134)
    have ne161 : b_101 ≠ a144 := Nat.ne_of_lt (Nat.lt_of_lt_of_le F160.lt (Nat.le_of_eq q144.symm))
    have F162 := (exaP G128_0 Pc134)
    have ne163 : b_128 ≠ a144 := Nat.ne_of_lt (Nat.lt_of_lt_of_le F162.lt (Nat.le_of_eq q144.symm))
    have F164 := (F148.ext E144)
    have F165 := ((fldP (fldP G120_0 Pc128 nin0) Pc134 (ninS ne95 (ninS ne141 nin0))).ext E144)
    have F166 := ((fldP (fldP G120_1 Pc128 nin0) Pc134 (ninS ne95 (ninS ne141 nin0))).ext E144)
    have F167 := (aryE (aryP (aryP G120_3 Pc128 nin0) Pc134 (ninS (Ne.symm ne125) (ninS ne139 nin0))) E144)
    have F168 := (F150.ext E144)
    have F169 := (F156.ext E144)
    have F170 := (F158.ext E144)
    have F171 := ((fldP (fldP G120_2 Pc128 nin0) Pc134 (ninS ne95 (ninS ne141 nin0))).ext E144)
    have ne172 : b_88 ≠ a1 := ne_exa F169 F164 (by decide)
    have F174 := (F152.ext E144)
    have ne173 : b_88 ≠ a82 := ne_exa F169 F174 (by decide)
    have ne175 : b_88 ≠ ar_92 := Nat.ne_of_lt (Nat.lt_of_lt_of_le G88_0.lt G92_0)
    have F176 := (exaP (exaP G88_0 Pc92) Pc101)
    have ne177 : b_88 ≠ ar_106 := Nat.ne_of_lt (Nat.lt_of_lt_of_le F176.lt G106_0)
    have F178 := ((fldP (fldP (fldP (fldP (fldP (fldP (fldP G88_1 Pc92 (ninS ne172 nin0)) Pc101 nin0) Pc106 (ninS ne173 nin0)) Pc114 nin0) Pc120 (ninS ne172 (ninS ne175 nin0))) Pc128 nin0) Pc134 (ninS ne173 (ninS ne177 nin0))).ext E144)
    have ne179 : b_114 ≠ ar_92 := ne_exa F170 F168 (by decide)
    have ne180 : b_114 ≠ a1 := ne_exa F170 F164 (by decide)
    have F182 := (F154.ext E144)
    have ne181 : b_114 ≠ ar_106 := ne_exa F170 F182 (by decide)
    have ne183 : b_114 ≠ a82 := ne_exa F170 F174 (by decide)
    have F184 := ((fldP (fldP (fldP G114_1 Pc120 (ninS ne180 (ninS ne179 nin0))) Pc128 nin0) Pc134 (ninS ne183 (ninS ne181 nin0))).ext E144)
    have F185 := (G134_0.ext E144)
    have F186 := (G134_1.ext E144)
    have F187 := (aryE G134_3 E144)
    have F188 := (F160.ext E144)
    have F189 := (F162.ext E144)
    have F190 := (G134_2.ext E144)
    have ne191 : b_101 ≠ a82 := ne_exa F188 F174 (by decide)
    have ne192 : b_101 ≠ ar_92 := ne_exa F188 F168 (by decide)
    have ne193 : b_101 ≠ a1 := ne_exa F188 F164 (by decide)
    have ne194 : b_101 ≠ ar_106 := Nat.ne_of_lt (Nat.lt_of_lt_of_le G101_0.lt G106_0)
    have F195 := ((fldP (fldP (fldP (fldP (fldP G101_1 Pc106 (ninS ne191 nin0)) Pc114 nin0) Pc120 (ninS ne193 (ninS ne192 nin0))) Pc128 nin0) Pc134 (ninS ne191 (ninS ne194 nin0))).ext E144)
    have ne196 : b_128 ≠ ar_106 := ne_exa F189 F182 (by decide)
    have ne197 : b_128 ≠ a82 := ne_exa F189 F174 (by decide)
    have F198 := ((fldP G128_1 Pc134 (ninS ne197 (ninS ne196 nin0))).ext E144)
    refine g_special X144 hx hZ hown eh144 (rm_bi_2 hw a144 a1 ar_92 kr_92 b_88 b_114 (p4 &&& (2147483647 : Int32)) (p5 &&& (2147483647 : Int32)) a82 ar_106 kr_106 b_101 b_128 (p1 &&& (2147483647 : Int32)) (p2 &&& (2147483647 : Int32)) mr A144 f145 f146 F164 F165 F166 F167 F168 F169 F170 F171 F178 F184 F174 F185 F186 F187 F182 F188 F189 F190 F195 F198 hm (mask0 _) (mask0 _) (mask0 _) (mask0 _) ne149 ne151 ne153 ne155 ne157 ne159 ne161 ne163) rfl (wd hw 72 rfl) (wd hw 73 rfl) (wd hw 74 rfl) (wd hw 71 rfl) (by decide) (a := a144) (argsL := [(.ref a1), (.ref a82)]) (rest := [(.ref a144)]) rfl rfl (ps := [(.object "java/util/List"), (.object "java/util/List")]) (by decide) rfl (W := 1) (Nat.le_of_eq rfl) (by decide) (by decide) (by decide) (by decide) (by rw [hml]; rfl) (hb hby at_167) (rfl : 167 + 3 = 170) fun v147 T147 hh147 L147 X147 eh147 Q147 => ?_
    obtain ⟨o_147, rfl, Pc147, G147_0, G147_1, G147_2, G147_3, G147_4⟩ := Q147
    have P147 := P144.call Pc147 (allS (Or.inr g144) all0)
    show OGo p e below K T147 (mkF m 170 #[.val (.int p1), .val (.int p2), .val (.int p3), .val (.int p4), .val (.int p5), .val (.int p6), .val (.int (p1 &&& (2147483647 : Int32))), .val (.int (p2 &&& (2147483647 : Int32))), .val (.int (p3 &&& (2147483647 : Int32))), .val (.int (p4 &&& (2147483647 : Int32))), .val (.int (p5 &&& (2147483647 : Int32))), .val (.int ((p4 ^^^ p5) &&& (2147483647 : Int32))), .val (.int ((1 : Int32) + ((p6 &&& (2147483647 : Int32)) % (3 : Int32)))), .val (.ref a1), .val (.ref a82), .unset, .unset] [(.ref a144)])
    refine g_astore X147 hx (hb hby at_170) (rfl : 170 + 2 = 172) rfl (Ls' := #[.val (.int p1), .val (.int p2), .val (.int p3), .val (.int p4), .val (.int p5), .val (.int p6), .val (.int (p1 &&& (2147483647 : Int32))), .val (.int (p2 &&& (2147483647 : Int32))), .val (.int (p3 &&& (2147483647 : Int32))), .val (.int (p4 &&& (2147483647 : Int32))), .val (.int (p5 &&& (2147483647 : Int32))), .val (.int ((p4 ^^^ p5) &&& (2147483647 : Int32))), .val (.int ((1 : Int32) + ((p6 &&& (2147483647 : Int32)) % (3 : Int32)))), .val (.ref a1), .val (.ref a82), .val (.ref a144), .unset]) rfl ?_
    refine g_aload X147 hx (hb hby at_172) (rfl : 172 + 2 = 174) rfl rfl ?_
    refine g_iconst X147 hx (0 : Int32) (hb hby at_174) (rfl : 174 + 1 = 175) (by decide) ?_
    have F200 := (exaP F188 Pc147)
    have F201 := (fldP F195 Pc147 (ninS ne161 nin0))
    have F202 := (exaP A144 Pc147)
    refine g_virtual X147 hx hZ hown eh147 (rm_bmax_2_0 hw a144 o_147 b_101 (p1 &&& (2147483647 : Int32)) G147_0 G147_2 G147_3 F200 F201) (C := "com/example/evenhand/evenhand/Bounds") (wd hw 235 rfl) (wd hw 236 rfl) (notFace_of_selects (args := #[]) (mvT hZ (wd hw 238 rfl))) (wd hw 238 rfl) (wd hw 237 rfl) (wd hw 239 rfl) (wd hw 71 rfl) (by decide) (a := a144) F202 (argsL := [(.int (0 : Int32))]) (rest := []) rfl rfl (ps := [.int]) (rt := (some .int)) (by decide) rfl (W := 0) (Nat.le_of_eq rfl) (by decide) (by decide) (by decide) (by decide) (by rw [hml]; rfl) (hb hby at_175) (rfl : 175 + 3 = 178) fun v199 T199 hh199 L199 X199 eh199 Q199 => ?_
    obtain ⟨rfl, Pc199⟩ := Q199
    have P199 := P147.call Pc199 all0
    show OGo p e below K T199 (mkF m 178 #[.val (.int p1), .val (.int p2), .val (.int p3), .val (.int p4), .val (.int p5), .val (.int p6), .val (.int (p1 &&& (2147483647 : Int32))), .val (.int (p2 &&& (2147483647 : Int32))), .val (.int (p3 &&& (2147483647 : Int32))), .val (.int (p4 &&& (2147483647 : Int32))), .val (.int (p5 &&& (2147483647 : Int32))), .val (.int ((p4 ^^^ p5) &&& (2147483647 : Int32))), .val (.int ((1 : Int32) + ((p6 &&& (2147483647 : Int32)) % (3 : Int32)))), .val (.ref a1), .val (.ref a82), .val (.ref a144), .unset] [(.int (p1 &&& (2147483647 : Int32)))])
    refine g_iload X199 hx (hb hby at_178) (rfl : 178 + 2 = 180) rfl ?_
    refine g_icmpN X199 hx (hb hby at_180) (XT.ii_ne_f rfl) (rfl : 180 + 3 = 183) ?_
    refine g_iconst X199 hx (1 : Int32) (hb hby at_183) (rfl : 183 + 1 = 184) (by decide) ?_
    refine g_goto X199 hx (hb hby at_184) (by decide) (pc' := 188) (by decide) ?_
    refine g_istore X199 hx (hb hby at_188) (rfl : 188 + 2 = 190) (Ls' := #[.val (.int p1), .val (.int p2), .val (.int p3), .val (.int p4), .val (.int p5), .val (.int p6), .val (.int (p1 &&& (2147483647 : Int32))), .val (.int (p2 &&& (2147483647 : Int32))), .val (.int (p3 &&& (2147483647 : Int32))), .val (.int (p4 &&& (2147483647 : Int32))), .val (.int (p5 &&& (2147483647 : Int32))), .val (.int ((p4 ^^^ p5) &&& (2147483647 : Int32))), .val (.int ((1 : Int32) + ((p6 &&& (2147483647 : Int32)) % (3 : Int32)))), .val (.ref a1), .val (.ref a82), .val (.ref a144), .val (.int (1 : Int32))]) rfl ?_
    refine g_iload X199 hx (hb hby at_190) (rfl : 190 + 2 = 192) rfl ?_
    refine g_iconst X199 hx (2 : Int32) (hb hby at_192) (rfl : 192 + 1 = 193) (by decide) ?_
    refine g_icmpN X199 hx (hb hby at_193) (XT.ii_lt_f (by rw [hn]; decide)) (rfl : 193 + 3 = 196) ?_
    refine g_iload X199 hx (hb hby at_196) (rfl : 196 + 2 = 198) rfl ?_
    refine g_ifN X199 hx (hb hby at_198) (XT.i0_eq_f (by decide)) (rfl : 198 + 3 = 201) ?_
    refine g_aload X199 hx (hb hby at_201) (rfl : 201 + 2 = 203) rfl rfl ?_
    refine g_iconst X199 hx (1 : Int32) (hb hby at_203) (rfl : 203 + 1 = 204) (by decide) ?_
    have F205 := (exaP (exaP F189 Pc147) Pc199)
    have F206 := (exaP I6 P199)
    have ne204 : b_128 ≠ em := ne_exa F205 F206 (by decide)
    have F207 := (fldP G147_0 Pc199 nin0)
    have F208 := (exaP G147_2 Pc199)
    have F209 := (fldP G147_4 Pc199 nin0)
    have F210 := (staP I5 P199)
    have F211 := (fldP (fldP F198 Pc147 (ninS ne163 nin0)) Pc199 nin0)
    have F212 := (exaP F202 Pc199)
    refine g_virtual X199 hx hZ hown eh199 (rm_bmax_2_1 hw a144 o_147 b_128 em (p2 &&& (2147483647 : Int32)) F207 F208 F209 F210 F205 F211 ne204) (C := "com/example/evenhand/evenhand/Bounds") (wd hw 235 rfl) (wd hw 236 rfl) (notFace_of_selects (args := #[]) (mvT hZ (wd hw 238 rfl))) (wd hw 238 rfl) (wd hw 237 rfl) (wd hw 239 rfl) (wd hw 71 rfl) (by decide) (a := a144) F212 (argsL := [(.int (1 : Int32))]) (rest := []) rfl rfl (ps := [.int]) (rt := (some .int)) (by decide) rfl (W := 0) (Nat.le_of_eq rfl) (by decide) (by decide) (by decide) (by decide) (by rw [hml]; rfl) (hb hby at_204) (rfl : 204 + 3 = 207) fun v203 T203 hh203 L203 X203 eh203 Q203 => ?_
    obtain ⟨rfl, Pc203⟩ := Q203
    have P203 := P199.call Pc203 all0
    show OGo p e below K T203 (mkF m 207 #[.val (.int p1), .val (.int p2), .val (.int p3), .val (.int p4), .val (.int p5), .val (.int p6), .val (.int (p1 &&& (2147483647 : Int32))), .val (.int (p2 &&& (2147483647 : Int32))), .val (.int (p3 &&& (2147483647 : Int32))), .val (.int (p4 &&& (2147483647 : Int32))), .val (.int (p5 &&& (2147483647 : Int32))), .val (.int ((p4 ^^^ p5) &&& (2147483647 : Int32))), .val (.int ((1 : Int32) + ((p6 &&& (2147483647 : Int32)) % (3 : Int32)))), .val (.ref a1), .val (.ref a82), .val (.ref a144), .val (.int (1 : Int32))] [(.int (p2 &&& (2147483647 : Int32)))])
    refine g_iload X203 hx (hb hby at_207) (rfl : 207 + 2 = 209) rfl ?_
    refine g_icmpN X203 hx (hb hby at_209) (XT.ii_ne_f rfl) (rfl : 209 + 3 = 212) ?_
    refine g_iconst X203 hx (1 : Int32) (hb hby at_212) (rfl : 212 + 1 = 213) (by decide) ?_
    refine g_goto X203 hx (hb hby at_213) (by decide) (pc' := 217) (by decide) ?_
    refine g_istore X203 hx (hb hby at_217) (rfl : 217 + 2 = 219) (Ls' := #[.val (.int p1), .val (.int p2), .val (.int p3), .val (.int p4), .val (.int p5), .val (.int p6), .val (.int (p1 &&& (2147483647 : Int32))), .val (.int (p2 &&& (2147483647 : Int32))), .val (.int (p3 &&& (2147483647 : Int32))), .val (.int (p4 &&& (2147483647 : Int32))), .val (.int (p5 &&& (2147483647 : Int32))), .val (.int ((p4 ^^^ p5) &&& (2147483647 : Int32))), .val (.int ((1 : Int32) + ((p6 &&& (2147483647 : Int32)) % (3 : Int32)))), .val (.ref a1), .val (.ref a82), .val (.ref a144), .val (.int (1 : Int32))]) rfl ?_
    refine g_iload X203 hx (hb hby at_219) (rfl : 219 + 2 = 221) rfl ?_
    refine g_iconst X203 hx (3 : Int32) (hb hby at_221) (rfl : 221 + 1 = 222) (by decide) ?_
    refine g_icmpY X203 hx (hb hby at_222) (XT.ii_lt_t (by rw [hn]; decide)) (by decide) (pc' := 248) (by decide) ?_
    refine g_iload X203 hx (hb hby at_248) (rfl : 248 + 2 = 250) rfl ?_
    exact g_ret X203 hx hret hlk rfl (Or.inl ⟨rfl, Or.inr (Or.inl rfl), _, rfl⟩) (hb hby at_250) (by decide) (by decide) eh203 hK ⟨rfl, P203⟩
  · have F214 := (I0.ext E1)
    refine g_special X1 hx hZ hown eh1 (rm_ali hw a1 dc A1 f2 f3 f4 F214) rfl (wd hw 4 rfl) (wd hw 5 rfl) (wd hw 6 rfl) (wd hw 3 rfl) (by decide) (a := a1) (argsL := []) (rest := [(.ref a1)]) rfl rfl (ps := []) (by decide) rfl (W := 1) (Nat.le_of_eq rfl) (by decide) (by decide) (by decide) (by decide) (by rw [hml]; rfl) (hb hby at_55) (rfl : 55 + 3 = 58) fun v213 T213 hh213 L213 X213 eh213 Q213 => ?_
    obtain ⟨rfl, Pc213, G213_0, G213_1, G213_2⟩ := Q213
    have P213 := P1.call Pc213 (allS (Or.inr g1) all0)
    show OGo p e below K T213 (mkF m 58 #[.val (.int p1), .val (.int p2), .val (.int p3), .val (.int p4), .val (.int p5), .val (.int p6), .val (.int (p1 &&& (2147483647 : Int32))), .val (.int (p2 &&& (2147483647 : Int32))), .val (.int (p3 &&& (2147483647 : Int32))), .val (.int (p4 &&& (2147483647 : Int32))), .val (.int (p5 &&& (2147483647 : Int32))), .val (.int ((p4 ^^^ p5) &&& (2147483647 : Int32))), .val (.int ((1 : Int32) + ((p6 &&& (2147483647 : Int32)) % (3 : Int32)))), .unset, .unset, .unset, .unset] [(.ref a1)])
    refine g_astore X213 hx (hb hby at_58) (rfl : 58 + 2 = 60) rfl (Ls' := #[.val (.int p1), .val (.int p2), .val (.int p3), .val (.int p4), .val (.int p5), .val (.int p6), .val (.int (p1 &&& (2147483647 : Int32))), .val (.int (p2 &&& (2147483647 : Int32))), .val (.int (p3 &&& (2147483647 : Int32))), .val (.int (p4 &&& (2147483647 : Int32))), .val (.int (p5 &&& (2147483647 : Int32))), .val (.int ((p4 ^^^ p5) &&& (2147483647 : Int32))), .val (.int ((1 : Int32) + ((p6 &&& (2147483647 : Int32)) % (3 : Int32)))), .val (.ref a1), .unset, .unset, .unset]) rfl ?_
    refine g_new X213 hx hZ hown (wd hw 1 rfl) (wd hw 2 rfl) (wd hw 3 rfl) eh213 P213 (hb hby at_60) (rfl : 60 + 3 = 63) (by decide) (by decide) fun T215 hh215 a215 q215 g215 X215 eh215 E215 P215 A215 D215 => ?_
    have f216 : Fld Z hh215 a215 "java/util/AbstractList" "modCount" "I" (.int (0 : Int32)) := D215 (Or.inl (wd hw 23 rfl)) (ty := .int) (by decide)
    have f217 : Fld Z hh215 a215 "java/util/ArrayList" "elementData" "[Ljava/lang/Object;" .null := D215 (Or.inl (wd hw 26 rfl)) (ty := (.array (.object "java/lang/Object"))) (by decide)
    have f218 : Fld Z hh215 a215 "java/util/ArrayList" "size" "I" (.int (0 : Int32)) := D215 (Or.inl (wd hw 46 rfl)) (ty := .int) (by decide)
    refine g_dup X215 hx (hb hby at_63) (rfl : 63 + 1 = 64) rfl ?_
    have F220 := ((staP F214 Pc213).ext E215)
    refine g_special X215 hx hZ hown eh215 (rm_ali hw a215 dc A215 f216 f217 f218 F220) rfl (wd hw 4 rfl) (wd hw 5 rfl) (wd hw 6 rfl) (wd hw 3 rfl) (by decide) (a := a215) (argsL := []) (rest := [(.ref a215)]) rfl rfl (ps := []) (by decide) rfl (W := 1) (Nat.le_of_eq rfl) (by decide) (by decide) (by decide) (by decide) (by rw [hml]; rfl) (hb hby at_64) (rfl : 64 + 3 = 67) fun v219 T219 hh219 L219 X219 eh219 Q219 => ?_
    obtain ⟨rfl, Pc219, G219_0, G219_1, G219_2⟩ := Q219
    have P219 := P215.call Pc219 (allS (Or.inr g215) all0)
    show OGo p e below K T219 (mkF m 67 #[.val (.int p1), .val (.int p2), .val (.int p3), .val (.int p4), .val (.int p5), .val (.int p6), .val (.int (p1 &&& (2147483647 : Int32))), .val (.int (p2 &&& (2147483647 : Int32))), .val (.int (p3 &&& (2147483647 : Int32))), .val (.int (p4 &&& (2147483647 : Int32))), .val (.int (p5 &&& (2147483647 : Int32))), .val (.int ((p4 ^^^ p5) &&& (2147483647 : Int32))), .val (.int ((1 : Int32) + ((p6 &&& (2147483647 : Int32)) % (3 : Int32)))), .val (.ref a1), .unset, .unset, .unset] [(.ref a215)])
    refine g_astore X219 hx (hb hby at_67) (rfl : 67 + 2 = 69) rfl (Ls' := #[.val (.int p1), .val (.int p2), .val (.int p3), .val (.int p4), .val (.int p5), .val (.int p6), .val (.int (p1 &&& (2147483647 : Int32))), .val (.int (p2 &&& (2147483647 : Int32))), .val (.int (p3 &&& (2147483647 : Int32))), .val (.int (p4 &&& (2147483647 : Int32))), .val (.int (p5 &&& (2147483647 : Int32))), .val (.int ((p4 ^^^ p5) &&& (2147483647 : Int32))), .val (.int ((1 : Int32) + ((p6 &&& (2147483647 : Int32)) % (3 : Int32)))), .val (.ref a1), .val (.ref a215), .unset, .unset]) rfl ?_
    refine g_aload X219 hx (hb hby at_69) (rfl : 69 + 2 = 71) rfl rfl ?_
    refine g_iload X219 hx (hb hby at_71) (rfl : 71 + 2 = 73) rfl ?_
    have F222 := (staP I2 P219)
    have F223 := (staP I3 P219)
    have F224 := (aryP I4 P219 nin0)
    refine g_static X219 hx hZ hown eh219 (rm_valueof hw (p4 &&& (2147483647 : Int32)) ca kc cv F222 F223 F224 (mask0 _) (cacheP hca P219)) (wd hw 27 rfl) (wd hw 28 rfl) (wd hw 30 rfl) (wd hw 29 rfl) (by decide) (argsL := [(.int (p4 &&& (2147483647 : Int32)))]) (rest := [(.ref a1)]) rfl rfl (ps := [.int]) (rt := (some (.object "java/lang/Integer"))) (by decide) rfl (W := 1) (Nat.le_of_eq rfl) (by decide) (by decide) (by decide) (by decide) (by rw [hml]; rfl) (hb hby at_73) (rfl : 73 + 3 = 76) fun v221 T221 hh221 L221 X221 eh221 Q221 => ?_
    obtain ⟨b_221, rfl, Pc221, G221_0, G221_1⟩ := Q221
    have P221 := P219.call Pc221 all0
    show OGo p e below K T221 (mkF m 76 #[.val (.int p1), .val (.int p2), .val (.int p3), .val (.int p4), .val (.int p5), .val (.int p6), .val (.int (p1 &&& (2147483647 : Int32))), .val (.int (p2 &&& (2147483647 : Int32))), .val (.int (p3 &&& (2147483647 : Int32))), .val (.int (p4 &&& (2147483647 : Int32))), .val (.int (p5 &&& (2147483647 : Int32))), .val (.int ((p4 ^^^ p5) &&& (2147483647 : Int32))), .val (.int ((1 : Int32) + ((p6 &&& (2147483647 : Int32)) % (3 : Int32)))), .val (.ref a1), .val (.ref a215), .unset, .unset] [(.ref b_221), (.ref a1)])
    have F226 := (exaP (exaP ((exaP A1 Pc213).ext E215) Pc219) Pc221)
    have F227 := (exaP A1 Pc213)
    have ne228 : a1 ≠ a215 := Nat.ne_of_lt (Nat.lt_of_lt_of_le F227.lt (Nat.le_of_eq q215.symm))
    have F229 := (fldP (fldP (G213_1.ext E215) Pc219 (ninS ne228 nin0)) Pc221 nin0)
    have F230 := (fldP (fldP (G213_2.ext E215) Pc219 (ninS ne228 nin0)) Pc221 nin0)
    have F231 := (staP (staP F220 Pc219) Pc221)
    have F232 := (aryP I1 P221 nin0)
    have F233 := (fldP (fldP (G213_0.ext E215) Pc219 (ninS ne228 nin0)) Pc221 nin0)
    refine g_face X221 hx hZ hown eh221 (rm_add_0 hw a1 dc kd b_221 F226 F229 F230 F231 F232 G221_0 F233) (C := "java/util/ArrayList") (wd hw 34 rfl) (wd hw 35 rfl) (wd hw 36 rfl) (wd hw 37 rfl) (wd hw 38 rfl) (wd hw 39 rfl) (wd hw 40 rfl) (wd hw 41 rfl) (wd hw 42 rfl) (wd hw 3 rfl) (by decide) (a := a1) F226 (argsL := [(.ref b_221)]) (rest := []) rfl rfl (ps := [(.object "java/lang/Object")]) (rt := (some .boolean)) (by decide) rfl (W := 0) (Nat.le_of_eq rfl) (by decide) (by decide) (by decide) (by decide) (by rw [hml]; rfl) (hb hby at_76) (rfl : 76 + 5 = 81) fun v225 T225 hh225 L225 X225 eh225 Q225 => ?_
    obtain ⟨ar_225, kr_225, rfl, Pc225, G225_0, G225_1, G225_2, G225_3, G225_4, G225_5, G225_6⟩ := Q225
    have P225 := P221.call Pc225 (allS (Or.inr g1) all0)
    show OGo p e below K T225 (mkF m 81 #[.val (.int p1), .val (.int p2), .val (.int p3), .val (.int p4), .val (.int p5), .val (.int p6), .val (.int (p1 &&& (2147483647 : Int32))), .val (.int (p2 &&& (2147483647 : Int32))), .val (.int (p3 &&& (2147483647 : Int32))), .val (.int (p4 &&& (2147483647 : Int32))), .val (.int (p5 &&& (2147483647 : Int32))), .val (.int ((p4 ^^^ p5) &&& (2147483647 : Int32))), .val (.int ((1 : Int32) + ((p6 &&& (2147483647 : Int32)) % (3 : Int32)))), .val (.ref a1), .val (.ref a215), .unset, .unset] [(.int (1 : Int32))])
    refine g_pop X225 hx (hb hby at_81) (rfl : 81 + 1 = 82) rfl ?_
    refine g_aload X225 hx (hb hby at_82) (rfl : 82 + 2 = 84) rfl rfl ?_
    refine g_iload X225 hx (hb hby at_84) (rfl : 84 + 2 = 86) rfl ?_
    have F235 := (staP (staP F222 Pc221) Pc225)
    have F236 := (staP (staP F223 Pc221) Pc225)
    have ne237 : ca ≠ a1 := Nat.ne_of_lt (Nat.lt_of_lt_of_le (aryLt I4) (Nat.le_of_eq q1.symm))
    have F238 := (aryP (aryP F224 Pc221 nin0) Pc225 (ninS ne237 nin0))
    refine g_static X225 hx hZ hown eh225 (rm_valueof hw (p1 &&& (2147483647 : Int32)) ca kc cv F235 F236 F238 (mask0 _) (cacheP hca P225)) (wd hw 27 rfl) (wd hw 28 rfl) (wd hw 30 rfl) (wd hw 29 rfl) (by decide) (argsL := [(.int (p1 &&& (2147483647 : Int32)))]) (rest := [(.ref a215)]) rfl rfl (ps := [.int]) (rt := (some (.object "java/lang/Integer"))) (by decide) rfl (W := 1) (Nat.le_of_eq rfl) (by decide) (by decide) (by decide) (by decide) (by rw [hml]; rfl) (hb hby at_86) (rfl : 86 + 3 = 89) fun v234 T234 hh234 L234 X234 eh234 Q234 => ?_
    obtain ⟨b_234, rfl, Pc234, G234_0, G234_1⟩ := Q234
    have P234 := P225.call Pc234 all0
    show OGo p e below K T234 (mkF m 89 #[.val (.int p1), .val (.int p2), .val (.int p3), .val (.int p4), .val (.int p5), .val (.int p6), .val (.int (p1 &&& (2147483647 : Int32))), .val (.int (p2 &&& (2147483647 : Int32))), .val (.int (p3 &&& (2147483647 : Int32))), .val (.int (p4 &&& (2147483647 : Int32))), .val (.int (p5 &&& (2147483647 : Int32))), .val (.int ((p4 ^^^ p5) &&& (2147483647 : Int32))), .val (.int ((1 : Int32) + ((p6 &&& (2147483647 : Int32)) % (3 : Int32)))), .val (.ref a1), .val (.ref a215), .unset, .unset] [(.ref b_234), (.ref a215)])
    have F240 := (exaP (exaP (exaP (exaP A215 Pc219) Pc221) Pc225) Pc234)
    have F241 := (fldP (fldP (fldP G219_1 Pc221 nin0) Pc225 (ninS (Ne.symm ne228) nin0)) Pc234 nin0)
    have F242 := (fldP (fldP (fldP G219_2 Pc221 nin0) Pc225 (ninS (Ne.symm ne228) nin0)) Pc234 nin0)
    have F243 := (staP (staP F231 Pc225) Pc234)
    have ne244 : dc ≠ a1 := Nat.ne_of_lt (Nat.lt_of_lt_of_le (aryLt I1) (Nat.le_of_eq q1.symm))
    have F245 := (aryP (aryP F232 Pc225 (ninS ne244 nin0)) Pc234 nin0)
    have F246 := (fldP (fldP (fldP G219_0 Pc221 nin0) Pc225 (ninS (Ne.symm ne228) nin0)) Pc234 nin0)
    refine g_face X234 hx hZ hown eh234 (rm_add_0 hw a215 dc kd b_234 F240 F241 F242 F243 F245 G234_0 F246) (C := "java/util/ArrayList") (wd hw 34 rfl) (wd hw 35 rfl) (wd hw 36 rfl) (wd hw 37 rfl) (wd hw 38 rfl) (wd hw 39 rfl) (wd hw 40 rfl) (wd hw 41 rfl) (wd hw 42 rfl) (wd hw 3 rfl) (by decide) (a := a215) F240 (argsL := [(.ref b_234)]) (rest := []) rfl rfl (ps := [(.object "java/lang/Object")]) (rt := (some .boolean)) (by decide) rfl (W := 0) (Nat.le_of_eq rfl) (by decide) (by decide) (by decide) (by decide) (by rw [hml]; rfl) (hb hby at_89) (rfl : 89 + 5 = 94) fun v239 T239 hh239 L239 X239 eh239 Q239 => ?_
    obtain ⟨ar_239, kr_239, rfl, Pc239, G239_0, G239_1, G239_2, G239_3, G239_4, G239_5, G239_6⟩ := Q239
    have P239 := P234.call Pc239 (allS (Or.inr g215) all0)
    show OGo p e below K T239 (mkF m 94 #[.val (.int p1), .val (.int p2), .val (.int p3), .val (.int p4), .val (.int p5), .val (.int p6), .val (.int (p1 &&& (2147483647 : Int32))), .val (.int (p2 &&& (2147483647 : Int32))), .val (.int (p3 &&& (2147483647 : Int32))), .val (.int (p4 &&& (2147483647 : Int32))), .val (.int (p5 &&& (2147483647 : Int32))), .val (.int ((p4 ^^^ p5) &&& (2147483647 : Int32))), .val (.int ((1 : Int32) + ((p6 &&& (2147483647 : Int32)) % (3 : Int32)))), .val (.ref a1), .val (.ref a215), .unset, .unset] [(.int (1 : Int32))])
    refine g_pop X239 hx (hb hby at_94) (rfl : 94 + 1 = 95) rfl ?_
    refine g_iload X239 hx (hb hby at_95) (rfl : 95 + 2 = 97) rfl ?_
    refine g_iconst X239 hx (2 : Int32) (hb hby at_97) (rfl : 97 + 1 = 98) (by decide) ?_
    refine g_icmpN X239 hx (hb hby at_98) (XT.ii_lt_f (by rw [hn]; decide)) (rfl : 98 + 3 = 101) ?_
    refine g_aload X239 hx (hb hby at_101) (rfl : 101 + 2 = 103) rfl rfl ?_
    refine g_iload X239 hx (hb hby at_103) (rfl : 103 + 2 = 105) rfl ?_
    have F248 := (staP (staP F235 Pc234) Pc239)
    have F249 := (staP (staP F236 Pc234) Pc239)
    have F250 := (aryP I4 P213 nin0)
    have ne251 : ca ≠ a215 := Nat.ne_of_lt (Nat.lt_of_lt_of_le (aryLt F250) (Nat.le_of_eq q215.symm))
    have F252 := (aryP (aryP F238 Pc234 nin0) Pc239 (ninS ne251 nin0))
    refine g_static X239 hx hZ hown eh239 (rm_valueof hw (p5 &&& (2147483647 : Int32)) ca kc cv F248 F249 F252 (mask0 _) (cacheP hca P239)) (wd hw 27 rfl) (wd hw 28 rfl) (wd hw 30 rfl) (wd hw 29 rfl) (by decide) (argsL := [(.int (p5 &&& (2147483647 : Int32)))]) (rest := [(.ref a1)]) rfl rfl (ps := [.int]) (rt := (some (.object "java/lang/Integer"))) (by decide) rfl (W := 1) (Nat.le_of_eq rfl) (by decide) (by decide) (by decide) (by decide) (by rw [hml]; rfl) (hb hby at_105) (rfl : 105 + 3 = 108) fun v247 T247 hh247 L247 X247 eh247 Q247 => ?_
    obtain ⟨b_247, rfl, Pc247, G247_0, G247_1⟩ := Q247
    have P247 := P239.call Pc247 all0
    show OGo p e below K T247 (mkF m 108 #[.val (.int p1), .val (.int p2), .val (.int p3), .val (.int p4), .val (.int p5), .val (.int p6), .val (.int (p1 &&& (2147483647 : Int32))), .val (.int (p2 &&& (2147483647 : Int32))), .val (.int (p3 &&& (2147483647 : Int32))), .val (.int (p4 &&& (2147483647 : Int32))), .val (.int (p5 &&& (2147483647 : Int32))), .val (.int ((p4 ^^^ p5) &&& (2147483647 : Int32))), .val (.int ((1 : Int32) + ((p6 &&& (2147483647 : Int32)) % (3 : Int32)))), .val (.ref a1), .val (.ref a215), .unset, .unset] [(.ref b_247), (.ref a1)])
    have F254 := (exaP (exaP (exaP (exaP F226 Pc225) Pc234) Pc239) Pc247)
    have F255 := (fldP (fldP (fldP G225_2 Pc234 nin0) Pc239 (ninS ne228 nin0)) Pc247 nin0)
    have F256 := (fldP (fldP (fldP G225_3 Pc234 nin0) Pc239 (ninS ne228 nin0)) Pc247 nin0)
    have F257 := (exaP (exaP A215 Pc219) Pc221)
    have ne258 : a215 ≠ ar_225 := Nat.ne_of_lt (Nat.lt_of_lt_of_le F257.lt G225_0)
    have F259 := (aryP (aryP (aryP G225_5 Pc234 nin0) Pc239 (ninS (Ne.symm ne258) nin0)) Pc247 nin0)
    have F260 := (fldP (fldP (fldP G225_4 Pc234 nin0) Pc239 (ninS ne228 nin0)) Pc247 nin0)
    refine g_face X247 hx hZ hown eh247 (rm_add_1 hw a1 ar_225 kr_225 b_221 b_247 F254 F255 F256 F259 G247_0 F260 G225_6) (C := "java/util/ArrayList") (wd hw 34 rfl) (wd hw 35 rfl) (wd hw 36 rfl) (wd hw 37 rfl) (wd hw 38 rfl) (wd hw 39 rfl) (wd hw 40 rfl) (wd hw 41 rfl) (wd hw 42 rfl) (wd hw 3 rfl) (by decide) (a := a1) F254 (argsL := [(.ref b_247)]) (rest := []) rfl rfl (ps := [(.object "java/lang/Object")]) (rt := (some .boolean)) (by decide) rfl (W := 0) (Nat.le_of_eq rfl) (by decide) (by decide) (by decide) (by decide) (by rw [hml]; rfl) (hb hby at_108) (rfl : 108 + 5 = 113) fun v253 T253 hh253 L253 X253 eh253 Q253 => ?_
    obtain ⟨rfl, Pc253, G253_0, G253_1, G253_2, G253_3⟩ := Q253
    have P253 := P247.call Pc253 (allS (Or.inr g1) (allS (Or.inr (Nat.le_trans P221.size G225_0)) all0))
    show OGo p e below K T253 (mkF m 113 #[.val (.int p1), .val (.int p2), .val (.int p3), .val (.int p4), .val (.int p5), .val (.int p6), .val (.int (p1 &&& (2147483647 : Int32))), .val (.int (p2 &&& (2147483647 : Int32))), .val (.int (p3 &&& (2147483647 : Int32))), .val (.int (p4 &&& (2147483647 : Int32))), .val (.int (p5 &&& (2147483647 : Int32))), .val (.int ((p4 ^^^ p5) &&& (2147483647 : Int32))), .val (.int ((1 : Int32) + ((p6 &&& (2147483647 : Int32)) % (3 : Int32)))), .val (.ref a1), .val (.ref a215), .unset, .unset] [(.int (1 : Int32))])
    refine g_pop X253 hx (hb hby at_113) (rfl : 113 + 1 = 114) rfl ?_
    refine g_aload X253 hx (hb hby at_114) (rfl : 114 + 2 = 116) rfl rfl ?_
    refine g_iload X253 hx (hb hby at_116) (rfl : 116 + 2 = 118) rfl ?_
    have F262 := (staP (staP F248 Pc247) Pc253)
    have F263 := (staP (staP F249 Pc247) Pc253)
    have F264 := (aryP F224 Pc221 nin0)
    have ne265 : ca ≠ ar_225 := Nat.ne_of_lt (Nat.lt_of_lt_of_le (aryLt F264) G225_0)
    have F266 := (aryP (aryP F252 Pc247 nin0) Pc253 (ninS ne237 (ninS ne265 nin0)))
    refine g_static X253 hx hZ hown eh253 (rm_valueof hw (p2 &&& (2147483647 : Int32)) ca kc cv F262 F263 F266 (mask0 _) (cacheP hca P253)) (wd hw 27 rfl) (wd hw 28 rfl) (wd hw 30 rfl) (wd hw 29 rfl) (by decide) (argsL := [(.int (p2 &&& (2147483647 : Int32)))]) (rest := [(.ref a215)]) rfl rfl (ps := [.int]) (rt := (some (.object "java/lang/Integer"))) (by decide) rfl (W := 1) (Nat.le_of_eq rfl) (by decide) (by decide) (by decide) (by decide) (by rw [hml]; rfl) (hb hby at_118) (rfl : 118 + 3 = 121) fun v261 T261 hh261 L261 X261 eh261 Q261 => ?_
    obtain ⟨b_261, rfl, Pc261, G261_0, G261_1⟩ := Q261
    have P261 := P253.call Pc261 all0
    show OGo p e below K T261 (mkF m 121 #[.val (.int p1), .val (.int p2), .val (.int p3), .val (.int p4), .val (.int p5), .val (.int p6), .val (.int (p1 &&& (2147483647 : Int32))), .val (.int (p2 &&& (2147483647 : Int32))), .val (.int (p3 &&& (2147483647 : Int32))), .val (.int (p4 &&& (2147483647 : Int32))), .val (.int (p5 &&& (2147483647 : Int32))), .val (.int ((p4 ^^^ p5) &&& (2147483647 : Int32))), .val (.int ((1 : Int32) + ((p6 &&& (2147483647 : Int32)) % (3 : Int32)))), .val (.ref a1), .val (.ref a215), .unset, .unset] [(.ref b_261), (.ref a215)])
    have F268 := (exaP (exaP (exaP (exaP F240 Pc239) Pc247) Pc253) Pc261)
    have F269 := (fldP (fldP (fldP G239_2 Pc247 nin0) Pc253 (ninS (Ne.symm ne228) (ninS ne258 nin0))) Pc261 nin0)
    have F270 := (fldP (fldP (fldP G239_3 Pc247 nin0) Pc253 (ninS (Ne.symm ne228) (ninS ne258 nin0))) Pc261 nin0)
    have F271 := (exaP G225_1 Pc234)
    have ne272 : ar_225 ≠ ar_239 := Nat.ne_of_lt (Nat.lt_of_lt_of_le F271.lt G239_0)
    have F273 := (exaP (exaP F226 Pc225) Pc234)
    have ne274 : a1 ≠ ar_239 := Nat.ne_of_lt (Nat.lt_of_lt_of_le F273.lt G239_0)
    have F275 := (aryP (aryP (aryP G239_5 Pc247 nin0) Pc253 (ninS (Ne.symm ne274) (ninS (Ne.symm ne272) nin0))) Pc261 nin0)
    have F276 := (fldP (fldP (fldP G239_4 Pc247 nin0) Pc253 (ninS (Ne.symm ne228) (ninS ne258 nin0))) Pc261 nin0)
    refine g_face X261 hx hZ hown eh261 (rm_add_1 hw a215 ar_239 kr_239 b_234 b_261 F268 F269 F270 F275 G261_0 F276 G239_6) (C := "java/util/ArrayList") (wd hw 34 rfl) (wd hw 35 rfl) (wd hw 36 rfl) (wd hw 37 rfl) (wd hw 38 rfl) (wd hw 39 rfl) (wd hw 40 rfl) (wd hw 41 rfl) (wd hw 42 rfl) (wd hw 3 rfl) (by decide) (a := a215) F268 (argsL := [(.ref b_261)]) (rest := []) rfl rfl (ps := [(.object "java/lang/Object")]) (rt := (some .boolean)) (by decide) rfl (W := 0) (Nat.le_of_eq rfl) (by decide) (by decide) (by decide) (by decide) (by rw [hml]; rfl) (hb hby at_121) (rfl : 121 + 5 = 126) fun v267 T267 hh267 L267 X267 eh267 Q267 => ?_
    obtain ⟨rfl, Pc267, G267_0, G267_1, G267_2, G267_3⟩ := Q267
    have P267 := P261.call Pc267 (allS (Or.inr g215) (allS (Or.inr (Nat.le_trans P234.size G239_0)) all0))
    show OGo p e below K T267 (mkF m 126 #[.val (.int p1), .val (.int p2), .val (.int p3), .val (.int p4), .val (.int p5), .val (.int p6), .val (.int (p1 &&& (2147483647 : Int32))), .val (.int (p2 &&& (2147483647 : Int32))), .val (.int (p3 &&& (2147483647 : Int32))), .val (.int (p4 &&& (2147483647 : Int32))), .val (.int (p5 &&& (2147483647 : Int32))), .val (.int ((p4 ^^^ p5) &&& (2147483647 : Int32))), .val (.int ((1 : Int32) + ((p6 &&& (2147483647 : Int32)) % (3 : Int32)))), .val (.ref a1), .val (.ref a215), .unset, .unset] [(.int (1 : Int32))])
    refine g_pop X267 hx (hb hby at_126) (rfl : 126 + 1 = 127) rfl ?_
    refine g_iload X267 hx (hb hby at_127) (rfl : 127 + 2 = 129) rfl ?_
    refine g_iconst X267 hx (3 : Int32) (hb hby at_129) (rfl : 129 + 1 = 130) (by decide) ?_
    refine g_icmpN X267 hx (hb hby at_130) (XT.ii_lt_f (by rw [hn]; decide)) (rfl : 130 + 3 = 133) ?_
    refine g_aload X267 hx (hb hby at_133) (rfl : 133 + 2 = 135) rfl rfl ?_
    refine g_iload X267 hx (hb hby at_135) (rfl : 135 + 2 = 137) rfl ?_
    have F278 := (staP (staP F262 Pc261) Pc267)
    have F279 := (staP (staP F263 Pc261) Pc267)
    have F280 := (aryP F238 Pc234 nin0)
    have ne281 : ca ≠ ar_239 := Nat.ne_of_lt (Nat.lt_of_lt_of_le (aryLt F280) G239_0)
    have F282 := (aryP (aryP F266 Pc261 nin0) Pc267 (ninS ne251 (ninS ne281 nin0)))
    refine g_static X267 hx hZ hown eh267 (rm_valueof hw ((p4 ^^^ p5) &&& (2147483647 : Int32)) ca kc cv F278 F279 F282 (mask0 _) (cacheP hca P267)) (wd hw 27 rfl) (wd hw 28 rfl) (wd hw 30 rfl) (wd hw 29 rfl) (by decide) (argsL := [(.int ((p4 ^^^ p5) &&& (2147483647 : Int32)))]) (rest := [(.ref a1)]) rfl rfl (ps := [.int]) (rt := (some (.object "java/lang/Integer"))) (by decide) rfl (W := 1) (Nat.le_of_eq rfl) (by decide) (by decide) (by decide) (by decide) (by rw [hml]; rfl) (hb hby at_137) (rfl : 137 + 3 = 140) fun v277 T277 hh277 L277 X277 eh277 Q277 => ?_
    obtain ⟨b_277, rfl, Pc277, G277_0, G277_1⟩ := Q277
    have P277 := P267.call Pc277 all0
    show OGo p e below K T277 (mkF m 140 #[.val (.int p1), .val (.int p2), .val (.int p3), .val (.int p4), .val (.int p5), .val (.int p6), .val (.int (p1 &&& (2147483647 : Int32))), .val (.int (p2 &&& (2147483647 : Int32))), .val (.int (p3 &&& (2147483647 : Int32))), .val (.int (p4 &&& (2147483647 : Int32))), .val (.int (p5 &&& (2147483647 : Int32))), .val (.int ((p4 ^^^ p5) &&& (2147483647 : Int32))), .val (.int ((1 : Int32) + ((p6 &&& (2147483647 : Int32)) % (3 : Int32)))), .val (.ref a1), .val (.ref a215), .unset, .unset] [(.ref b_277), (.ref a1)])
    have F284 := (exaP (exaP (exaP (exaP F254 Pc253) Pc261) Pc267) Pc277)
    have F285 := (fldP (fldP (fldP G253_0 Pc261 nin0) Pc267 (ninS ne228 (ninS ne274 nin0))) Pc277 nin0)
    have F286 := (fldP (fldP (fldP G253_1 Pc261 nin0) Pc267 (ninS ne228 (ninS ne274 nin0))) Pc277 nin0)
    have F287 := (aryP (aryP (aryP G253_3 Pc261 nin0) Pc267 (ninS (Ne.symm ne258) (ninS ne272 nin0))) Pc277 nin0)
    have F288 := (fldP (fldP (fldP G253_2 Pc261 nin0) Pc267 (ninS ne228 (ninS ne274 nin0))) Pc277 nin0)
    refine g_face X277 hx hZ hown eh277 (rm_add_2 hw a1 ar_225 kr_225 b_221 b_247 b_277 F284 F285 F286 F287 G277_0 F288 G225_6) (C := "java/util/ArrayList") (wd hw 34 rfl) (wd hw 35 rfl) (wd hw 36 rfl) (wd hw 37 rfl) (wd hw 38 rfl) (wd hw 39 rfl) (wd hw 40 rfl) (wd hw 41 rfl) (wd hw 42 rfl) (wd hw 3 rfl) (by decide) (a := a1) F284 (argsL := [(.ref b_277)]) (rest := []) rfl rfl (ps := [(.object "java/lang/Object")]) (rt := (some .boolean)) (by decide) rfl (W := 0) (Nat.le_of_eq rfl) (by decide) (by decide) (by decide) (by decide) (by rw [hml]; rfl) (hb hby at_140) (rfl : 140 + 5 = 145) fun v283 T283 hh283 L283 X283 eh283 Q283 => ?_
    obtain ⟨rfl, Pc283, G283_0, G283_1, G283_2, G283_3⟩ := Q283
    have P283 := P277.call Pc283 (allS (Or.inr g1) (allS (Or.inr (Nat.le_trans P221.size G225_0)) all0))
    show OGo p e below K T283 (mkF m 145 #[.val (.int p1), .val (.int p2), .val (.int p3), .val (.int p4), .val (.int p5), .val (.int p6), .val (.int (p1 &&& (2147483647 : Int32))), .val (.int (p2 &&& (2147483647 : Int32))), .val (.int (p3 &&& (2147483647 : Int32))), .val (.int (p4 &&& (2147483647 : Int32))), .val (.int (p5 &&& (2147483647 : Int32))), .val (.int ((p4 ^^^ p5) &&& (2147483647 : Int32))), .val (.int ((1 : Int32) + ((p6 &&& (2147483647 : Int32)) % (3 : Int32)))), .val (.ref a1), .val (.ref a215), .unset, .unset] [(.int (1 : Int32))])
    refine g_pop X283 hx (hb hby at_145) (rfl : 145 + 1 = 146) rfl ?_
    refine g_aload X283 hx (hb hby at_146) (rfl : 146 + 2 = 148) rfl rfl ?_
    refine g_iload X283 hx (hb hby at_148) (rfl : 148 + 2 = 150) rfl ?_
    have F290 := (staP (staP F278 Pc277) Pc283)
    have F291 := (staP (staP F279 Pc277) Pc283)
    have F292 := (aryP (aryP F282 Pc277 nin0) Pc283 (ninS ne237 (ninS ne265 nin0)))
    refine g_static X283 hx hZ hown eh283 (rm_valueof hw (p3 &&& (2147483647 : Int32)) ca kc cv F290 F291 F292 (mask0 _) (cacheP hca P283)) (wd hw 27 rfl) (wd hw 28 rfl) (wd hw 30 rfl) (wd hw 29 rfl) (by decide) (argsL := [(.int (p3 &&& (2147483647 : Int32)))]) (rest := [(.ref a215)]) rfl rfl (ps := [.int]) (rt := (some (.object "java/lang/Integer"))) (by decide) rfl (W := 1) (Nat.le_of_eq rfl) (by decide) (by decide) (by decide) (by decide) (by rw [hml]; rfl) (hb hby at_150) (rfl : 150 + 3 = 153) fun v289 T289 hh289 L289 X289 eh289 Q289 => ?_
    obtain ⟨b_289, rfl, Pc289, G289_0, G289_1⟩ := Q289
    have P289 := P283.call Pc289 all0
    show OGo p e below K T289 (mkF m 153 #[.val (.int p1), .val (.int p2), .val (.int p3), .val (.int p4), .val (.int p5), .val (.int p6), .val (.int (p1 &&& (2147483647 : Int32))), .val (.int (p2 &&& (2147483647 : Int32))), .val (.int (p3 &&& (2147483647 : Int32))), .val (.int (p4 &&& (2147483647 : Int32))), .val (.int (p5 &&& (2147483647 : Int32))), .val (.int ((p4 ^^^ p5) &&& (2147483647 : Int32))), .val (.int ((1 : Int32) + ((p6 &&& (2147483647 : Int32)) % (3 : Int32)))), .val (.ref a1), .val (.ref a215), .unset, .unset] [(.ref b_289), (.ref a215)])
    have F294 := (exaP (exaP (exaP (exaP F268 Pc267) Pc277) Pc283) Pc289)
    have F295 := (fldP (fldP (fldP G267_0 Pc277 nin0) Pc283 (ninS (Ne.symm ne228) (ninS ne258 nin0))) Pc289 nin0)
    have F296 := (fldP (fldP (fldP G267_1 Pc277 nin0) Pc283 (ninS (Ne.symm ne228) (ninS ne258 nin0))) Pc289 nin0)
    have F297 := (aryP (aryP (aryP G267_3 Pc277 nin0) Pc283 (ninS (Ne.symm ne274) (ninS (Ne.symm ne272) nin0))) Pc289 nin0)
    have F298 := (fldP (fldP (fldP G267_2 Pc277 nin0) Pc283 (ninS (Ne.symm ne228) (ninS ne258 nin0))) Pc289 nin0)
    refine g_face X289 hx hZ hown eh289 (rm_add_2 hw a215 ar_239 kr_239 b_234 b_261 b_289 F294 F295 F296 F297 G289_0 F298 G239_6) (C := "java/util/ArrayList") (wd hw 34 rfl) (wd hw 35 rfl) (wd hw 36 rfl) (wd hw 37 rfl) (wd hw 38 rfl) (wd hw 39 rfl) (wd hw 40 rfl) (wd hw 41 rfl) (wd hw 42 rfl) (wd hw 3 rfl) (by decide) (a := a215) F294 (argsL := [(.ref b_289)]) (rest := []) rfl rfl (ps := [(.object "java/lang/Object")]) (rt := (some .boolean)) (by decide) rfl (W := 0) (Nat.le_of_eq rfl) (by decide) (by decide) (by decide) (by decide) (by rw [hml]; rfl) (hb hby at_153) (rfl : 153 + 5 = 158) fun v293 T293 hh293 L293 X293 eh293 Q293 => ?_
    obtain ⟨rfl, Pc293, G293_0, G293_1, G293_2, G293_3⟩ := Q293
    have P293 := P289.call Pc293 (allS (Or.inr g215) (allS (Or.inr (Nat.le_trans P234.size G239_0)) all0))
    show OGo p e below K T293 (mkF m 158 #[.val (.int p1), .val (.int p2), .val (.int p3), .val (.int p4), .val (.int p5), .val (.int p6), .val (.int (p1 &&& (2147483647 : Int32))), .val (.int (p2 &&& (2147483647 : Int32))), .val (.int (p3 &&& (2147483647 : Int32))), .val (.int (p4 &&& (2147483647 : Int32))), .val (.int (p5 &&& (2147483647 : Int32))), .val (.int ((p4 ^^^ p5) &&& (2147483647 : Int32))), .val (.int ((1 : Int32) + ((p6 &&& (2147483647 : Int32)) % (3 : Int32)))), .val (.ref a1), .val (.ref a215), .unset, .unset] [(.int (1 : Int32))])
    refine g_pop X293 hx (hb hby at_158) (rfl : 158 + 1 = 159) rfl ?_
    refine g_new X293 hx hZ hown (wd hw 69 rfl) (wd hw 70 rfl) (wd hw 71 rfl) eh293 P293 (hb hby at_159) (rfl : 159 + 3 = 162) (by decide) (by decide) fun T299 hh299 a299 q299 g299 X299 eh299 E299 P299 A299 D299 => ?_
    have f300 : Fld Z hh299 a299 "com/example/evenhand/evenhand/Bounds" "min" "Ljava/util/List;" .null := D299 (Or.inr (wd hw 232 rfl)) (ty := (.object "java/util/List")) (by decide)
    have f301 : Fld Z hh299 a299 "com/example/evenhand/evenhand/Bounds" "max" "Ljava/util/List;" .null := D299 (Or.inr (wd hw 234 rfl)) (ty := (.object "java/util/List")) (by decide)
    refine g_dup X299 hx (hb hby at_162) (rfl : 162 + 1 = 163) rfl ?_
    refine g_aload X299 hx (hb hby at_163) (rfl : 163 + 2 = 165) rfl rfl ?_
    refine g_aload X299 hx (hb hby at_165) (rfl : 165 + 2 = 167) rfl rfl ?_
    have F303 := (exaP (exaP (exaP F284 Pc283) Pc289) Pc293)
    have ne304 : a1 ≠ a299 := Nat.ne_of_lt (Nat.lt_of_lt_of_le F303.lt (Nat.le_of_eq q299.symm))
    have F305 := (exaP (exaP (exaP (exaP (exaP (exaP (exaP (exaP (exaP F271 Pc239) Pc247) Pc253) Pc261) Pc267) Pc277) Pc283) Pc289) Pc293)
    have ne306 : ar_225 ≠ a299 := Nat.ne_of_lt (Nat.lt_of_lt_of_le F305.lt (Nat.le_of_eq q299.symm))
    have F307 := (exaP F294 Pc293)
    have ne308 : a215 ≠ a299 := Nat.ne_of_lt (Nat.lt_of_lt_of_le F307.lt (Nat.le_of_eq q299.symm))
    have F309 := (exaP (exaP (exaP (exaP (exaP (exaP (exaP (exaP G239_1 Pc247) Pc253) Pc261) Pc267) Pc277) Pc283) Pc289) Pc293)
    have ne310 : ar_239 ≠ a299 := Nat.ne_of_lt (Nat.lt_of_lt_of_le F309.lt (Nat.le_of_eq q299.symm))
    have F311 := (exaP (exaP (exaP (exaP (exaP (exaP (exaP (exaP (exaP (exaP (exaP G221_0 Pc225) Pc234) Pc239) Pc247) Pc253) Pc261) Pc267) Pc277) Pc283) Pc289) Pc293)
    have ne312 : b_221 ≠ a299 := Nat.ne_of_lt (Nat.lt_of_lt_of_le F311.lt (Nat.le_of_eq q299.symm))
    have F313 := (exaP (exaP (exaP (exaP (exaP (exaP (exaP G247_0 Pc253) Pc261) Pc267) Pc277) Pc283) Pc289) Pc293)
    have ne314 : b_247 ≠ a299 := Nat.ne_of_lt (Nat.lt_of_lt_of_le F313.lt (Nat.le_of_eq q299.symm))
    have F315 := (exaP (exaP (exaP G277_0 Pc283) Pc289) Pc293)
    have ne316 : b_277 ≠ a299 := Nat.ne_of_lt (Nat.lt_of_lt_of_le F315.lt (Nat.le_of_eq q299.symm))
    have F317 := (exaP (exaP (exaP (exaP (exaP (exaP (exaP (exaP (exaP G234_0 Pc239) Pc247) Pc253) Pc261) Pc267) Pc277) Pc283) Pc289) Pc293)
    have ne318 : b_234 ≠ a299 := Nat.ne_of_lt (Nat.lt_of_lt_of_le F317.lt (Nat.le_of_eq q299.symm))
    have F319 := (exaP (exaP (exaP (exaP (exaP G261_0 Pc267) Pc277) Pc283) Pc289) Pc293)
    have ne320 : b_261 ≠ a299 := Nat.ne_of_lt (Nat.lt_of_lt_of_le F319.lt (Nat.le_of_eq q299.symm))
    have F321 := (exaP G289_0 Pc293)
    have ne322 : b_289 ≠ a299 := Nat.ne_of_lt (Nat.lt_of_lt_of_le F321.lt (Nat.le_of_eq q299.symm))
    have F323 := (F303.ext E299)
    have F324 := ((fldP (fldP G283_0 Pc289 nin0) Pc293 (ninS ne228 (ninS ne274 nin0))).ext E299)
    have F325 := ((fldP (fldP G283_1 Pc289 nin0) Pc293 (ninS ne228 (ninS ne274 nin0))).ext E299)
    have F326 := (aryE (aryP (aryP G283_3 Pc289 nin0) Pc293 (ninS (Ne.symm ne258) (ninS ne272 nin0))) E299)
    have F327 := (F305.ext E299)
    have F328 := (F311.ext E299)
    have F329 := (F313.ext E299)
    have F330 := (F315.ext E299)
    have F331 := ((fldP (fldP G283_2 Pc289 nin0) Pc293 (ninS ne228 (ninS ne274 nin0))).ext E299)
    have ne332 : b_221 ≠ a1 := ne_exa F328 F323 (by decide)
    have F334 := (F307.ext E299)
    have ne333 : b_221 ≠ a215 := ne_exa F328 F334 (by decide)
    have ne335 : b_221 ≠ ar_225 := Nat.ne_of_lt (Nat.lt_of_lt_of_le G221_0.lt G225_0)
    have F336 := (exaP (exaP G221_0 Pc225) Pc234)
    have ne337 : b_221 ≠ ar_239 := Nat.ne_of_lt (Nat.lt_of_lt_of_le F336.lt G239_0)
    have F338 := ((fldP (fldP (fldP (fldP (fldP (fldP (fldP (fldP (fldP (fldP (fldP G221_1 Pc225 (ninS ne332 nin0)) Pc234 nin0) Pc239 (ninS ne333 nin0)) Pc247 nin0) Pc253 (ninS ne332 (ninS ne335 nin0))) Pc261 nin0) Pc267 (ninS ne333 (ninS ne337 nin0))) Pc277 nin0) Pc283 (ninS ne332 (ninS ne335 nin0))) Pc289 nin0) Pc293 (ninS ne333 (ninS ne337 nin0))).ext E299)
    have ne339 : b_247 ≠ ar_225 := ne_exa F329 F327 (by decide)
    have ne340 : b_247 ≠ a1 := ne_exa F329 F323 (by decide)
    have F342 := (F309.ext E299)
    have ne341 : b_247 ≠ ar_239 := ne_exa F329 F342 (by decide)
    have ne343 : b_247 ≠ a215 := ne_exa F329 F334 (by decide)
    have F344 := ((fldP (fldP (fldP (fldP (fldP (fldP (fldP G247_1 Pc253 (ninS ne340 (ninS ne339 nin0))) Pc261 nin0) Pc267 (ninS ne343 (ninS ne341 nin0))) Pc277 nin0) Pc283 (ninS ne340 (ninS ne339 nin0))) Pc289 nin0) Pc293 (ninS ne343 (ninS ne341 nin0))).ext E299)
    have ne345 : b_277 ≠ ar_225 := ne_exa F330 F327 (by decide)
    have ne346 : b_277 ≠ a1 := ne_exa F330 F323 (by decide)
    have ne347 : b_277 ≠ ar_239 := ne_exa F330 F342 (by decide)
    have ne348 : b_277 ≠ a215 := ne_exa F330 F334 (by decide)
    have F349 := ((fldP (fldP (fldP G277_1 Pc283 (ninS ne346 (ninS ne345 nin0))) Pc289 nin0) Pc293 (ninS ne348 (ninS ne347 nin0))).ext E299)
    have F350 := (G293_0.ext E299)
    have F351 := (G293_1.ext E299)
    have F352 := (aryE G293_3 E299)
    have F353 := (F317.ext E299)
    have F354 := (F319.ext E299)
    have F355 := (F321.ext E299)
    have F356 := (G293_2.ext E299)
    have ne357 : b_234 ≠ a215 := ne_exa F353 F334 (by decide)
    have ne358 : b_234 ≠ ar_225 := ne_exa F353 F327 (by decide)
    have ne359 : b_234 ≠ a1 := ne_exa F353 F323 (by decide)
    have ne360 : b_234 ≠ ar_239 := Nat.ne_of_lt (Nat.lt_of_lt_of_le G234_0.lt G239_0)
    have F361 := ((fldP (fldP (fldP (fldP (fldP (fldP (fldP (fldP (fldP G234_1 Pc239 (ninS ne357 nin0)) Pc247 nin0) Pc253 (ninS ne359 (ninS ne358 nin0))) Pc261 nin0) Pc267 (ninS ne357 (ninS ne360 nin0))) Pc277 nin0) Pc283 (ninS ne359 (ninS ne358 nin0))) Pc289 nin0) Pc293 (ninS ne357 (ninS ne360 nin0))).ext E299)
    have ne362 : b_261 ≠ ar_239 := ne_exa F354 F342 (by decide)
    have ne363 : b_261 ≠ a215 := ne_exa F354 F334 (by decide)
    have ne364 : b_261 ≠ ar_225 := ne_exa F354 F327 (by decide)
    have ne365 : b_261 ≠ a1 := ne_exa F354 F323 (by decide)
    have F366 := ((fldP (fldP (fldP (fldP (fldP G261_1 Pc267 (ninS ne363 (ninS ne362 nin0))) Pc277 nin0) Pc283 (ninS ne365 (ninS ne364 nin0))) Pc289 nin0) Pc293 (ninS ne363 (ninS ne362 nin0))).ext E299)
    have ne367 : b_289 ≠ ar_239 := ne_exa F355 F342 (by decide)
    have ne368 : b_289 ≠ a215 := ne_exa F355 F334 (by decide)
    have F369 := ((fldP G289_1 Pc293 (ninS ne368 (ninS ne367 nin0))).ext E299)
    refine g_special X299 hx hZ hown eh299 (rm_bi_3 hw a299 a1 ar_225 kr_225 b_221 b_247 b_277 (p4 &&& (2147483647 : Int32)) (p5 &&& (2147483647 : Int32)) ((p4 ^^^ p5) &&& (2147483647 : Int32)) a215 ar_239 kr_239 b_234 b_261 b_289 (p1 &&& (2147483647 : Int32)) (p2 &&& (2147483647 : Int32)) (p3 &&& (2147483647 : Int32)) mr A299 f300 f301 F323 F324 F325 F326 F327 F328 F329 F330 F331 F338 F344 F349 F334 F350 F351 F352 F342 F353 F354 F355 F356 F361 F366 F369 hm (mask0 _) (mask0 _) (mask0 _) (mask0 _) (mask0 _) (mask0 _) ne304 ne306 ne308 ne310 ne312 ne314 ne316 ne318 ne320 ne322) rfl (wd hw 72 rfl) (wd hw 73 rfl) (wd hw 74 rfl) (wd hw 71 rfl) (by decide) (a := a299) (argsL := [(.ref a1), (.ref a215)]) (rest := [(.ref a299)]) rfl rfl (ps := [(.object "java/util/List"), (.object "java/util/List")]) (by decide) rfl (W := 1) (Nat.le_of_eq rfl) (by decide) (by decide) (by decide) (by decide) (by rw [hml]; rfl) (hb hby at_167) (rfl : 167 + 3 = 170) fun v302 T302 hh302 L302 X302 eh302 Q302 => ?_
    obtain ⟨o_302, er_302, ke_302, rfl, Pc302, G302_0, G302_1, G302_2, G302_3, G302_4, G302_5⟩ := Q302
    have P302 := P299.call Pc302 (allS (Or.inr g299) all0)
    show OGo p e below K T302 (mkF m 170 #[.val (.int p1), .val (.int p2), .val (.int p3), .val (.int p4), .val (.int p5), .val (.int p6), .val (.int (p1 &&& (2147483647 : Int32))), .val (.int (p2 &&& (2147483647 : Int32))), .val (.int (p3 &&& (2147483647 : Int32))), .val (.int (p4 &&& (2147483647 : Int32))), .val (.int (p5 &&& (2147483647 : Int32))), .val (.int ((p4 ^^^ p5) &&& (2147483647 : Int32))), .val (.int ((1 : Int32) + ((p6 &&& (2147483647 : Int32)) % (3 : Int32)))), .val (.ref a1), .val (.ref a215), .unset, .unset] [(.ref a299)])
    refine g_astore X302 hx (hb hby at_170) (rfl : 170 + 2 = 172) rfl (Ls' := #[.val (.int p1), .val (.int p2), .val (.int p3), .val (.int p4), .val (.int p5), .val (.int p6), .val (.int (p1 &&& (2147483647 : Int32))), .val (.int (p2 &&& (2147483647 : Int32))), .val (.int (p3 &&& (2147483647 : Int32))), .val (.int (p4 &&& (2147483647 : Int32))), .val (.int (p5 &&& (2147483647 : Int32))), .val (.int ((p4 ^^^ p5) &&& (2147483647 : Int32))), .val (.int ((1 : Int32) + ((p6 &&& (2147483647 : Int32)) % (3 : Int32)))), .val (.ref a1), .val (.ref a215), .val (.ref a299), .unset]) rfl ?_
    refine g_aload X302 hx (hb hby at_172) (rfl : 172 + 2 = 174) rfl rfl ?_
    refine g_iconst X302 hx (0 : Int32) (hb hby at_174) (rfl : 174 + 1 = 175) (by decide) ?_
    have F371 := (exaP F353 Pc302)
    have F372 := (fldP F361 Pc302 (ninS ne318 nin0))
    have F373 := (exaP A299 Pc302)
    refine g_virtual X302 hx hZ hown eh302 (rm_bmax_3_0 hw a299 o_302 er_302 ke_302 b_234 b_261 b_289 (p1 &&& (2147483647 : Int32)) G302_0 G302_2 G302_3 G302_5 F371 F372) (C := "com/example/evenhand/evenhand/Bounds") (wd hw 235 rfl) (wd hw 236 rfl) (notFace_of_selects (args := #[]) (mvT hZ (wd hw 238 rfl))) (wd hw 238 rfl) (wd hw 237 rfl) (wd hw 239 rfl) (wd hw 71 rfl) (by decide) (a := a299) F373 (argsL := [(.int (0 : Int32))]) (rest := []) rfl rfl (ps := [.int]) (rt := (some .int)) (by decide) rfl (W := 0) (Nat.le_of_eq rfl) (by decide) (by decide) (by decide) (by decide) (by rw [hml]; rfl) (hb hby at_175) (rfl : 175 + 3 = 178) fun v370 T370 hh370 L370 X370 eh370 Q370 => ?_
    obtain ⟨rfl, Pc370⟩ := Q370
    have P370 := P302.call Pc370 all0
    show OGo p e below K T370 (mkF m 178 #[.val (.int p1), .val (.int p2), .val (.int p3), .val (.int p4), .val (.int p5), .val (.int p6), .val (.int (p1 &&& (2147483647 : Int32))), .val (.int (p2 &&& (2147483647 : Int32))), .val (.int (p3 &&& (2147483647 : Int32))), .val (.int (p4 &&& (2147483647 : Int32))), .val (.int (p5 &&& (2147483647 : Int32))), .val (.int ((p4 ^^^ p5) &&& (2147483647 : Int32))), .val (.int ((1 : Int32) + ((p6 &&& (2147483647 : Int32)) % (3 : Int32)))), .val (.ref a1), .val (.ref a215), .val (.ref a299), .unset] [(.int (p1 &&& (2147483647 : Int32)))])
    refine g_iload X370 hx (hb hby at_178) (rfl : 178 + 2 = 180) rfl ?_
    refine g_icmpN X370 hx (hb hby at_180) (XT.ii_ne_f rfl) (rfl : 180 + 3 = 183) ?_
    refine g_iconst X370 hx (1 : Int32) (hb hby at_183) (rfl : 183 + 1 = 184) (by decide) ?_
    refine g_goto X370 hx (hb hby at_184) (by decide) (pc' := 188) (by decide) ?_
    refine g_istore X370 hx (hb hby at_188) (rfl : 188 + 2 = 190) (Ls' := #[.val (.int p1), .val (.int p2), .val (.int p3), .val (.int p4), .val (.int p5), .val (.int p6), .val (.int (p1 &&& (2147483647 : Int32))), .val (.int (p2 &&& (2147483647 : Int32))), .val (.int (p3 &&& (2147483647 : Int32))), .val (.int (p4 &&& (2147483647 : Int32))), .val (.int (p5 &&& (2147483647 : Int32))), .val (.int ((p4 ^^^ p5) &&& (2147483647 : Int32))), .val (.int ((1 : Int32) + ((p6 &&& (2147483647 : Int32)) % (3 : Int32)))), .val (.ref a1), .val (.ref a215), .val (.ref a299), .val (.int (1 : Int32))]) rfl ?_
    refine g_iload X370 hx (hb hby at_190) (rfl : 190 + 2 = 192) rfl ?_
    refine g_iconst X370 hx (2 : Int32) (hb hby at_192) (rfl : 192 + 1 = 193) (by decide) ?_
    refine g_icmpN X370 hx (hb hby at_193) (XT.ii_lt_f (by rw [hn]; decide)) (rfl : 193 + 3 = 196) ?_
    refine g_iload X370 hx (hb hby at_196) (rfl : 196 + 2 = 198) rfl ?_
    refine g_ifN X370 hx (hb hby at_198) (XT.i0_eq_f (by decide)) (rfl : 198 + 3 = 201) ?_
    refine g_aload X370 hx (hb hby at_201) (rfl : 201 + 2 = 203) rfl rfl ?_
    refine g_iconst X370 hx (1 : Int32) (hb hby at_203) (rfl : 203 + 1 = 204) (by decide) ?_
    have F375 := (fldP G302_0 Pc370 nin0)
    have F376 := (exaP G302_2 Pc370)
    have F377 := (fldP G302_3 Pc370 nin0)
    have F378 := (aryP G302_5 Pc370 nin0)
    have F379 := (exaP (exaP F354 Pc302) Pc370)
    have F380 := (fldP (fldP F366 Pc302 (ninS ne320 nin0)) Pc370 nin0)
    have F381 := (exaP F373 Pc370)
    refine g_virtual X370 hx hZ hown eh370 (rm_bmax_3_1 hw a299 o_302 er_302 ke_302 b_234 b_261 b_289 (p2 &&& (2147483647 : Int32)) F375 F376 F377 F378 F379 F380) (C := "com/example/evenhand/evenhand/Bounds") (wd hw 235 rfl) (wd hw 236 rfl) (notFace_of_selects (args := #[]) (mvT hZ (wd hw 238 rfl))) (wd hw 238 rfl) (wd hw 237 rfl) (wd hw 239 rfl) (wd hw 71 rfl) (by decide) (a := a299) F381 (argsL := [(.int (1 : Int32))]) (rest := []) rfl rfl (ps := [.int]) (rt := (some .int)) (by decide) rfl (W := 0) (Nat.le_of_eq rfl) (by decide) (by decide) (by decide) (by decide) (by rw [hml]; rfl) (hb hby at_204) (rfl : 204 + 3 = 207) fun v374 T374 hh374 L374 X374 eh374 Q374 => ?_
    obtain ⟨rfl, Pc374⟩ := Q374
    have P374 := P370.call Pc374 all0
    show OGo p e below K T374 (mkF m 207 #[.val (.int p1), .val (.int p2), .val (.int p3), .val (.int p4), .val (.int p5), .val (.int p6), .val (.int (p1 &&& (2147483647 : Int32))), .val (.int (p2 &&& (2147483647 : Int32))), .val (.int (p3 &&& (2147483647 : Int32))), .val (.int (p4 &&& (2147483647 : Int32))), .val (.int (p5 &&& (2147483647 : Int32))), .val (.int ((p4 ^^^ p5) &&& (2147483647 : Int32))), .val (.int ((1 : Int32) + ((p6 &&& (2147483647 : Int32)) % (3 : Int32)))), .val (.ref a1), .val (.ref a215), .val (.ref a299), .val (.int (1 : Int32))] [(.int (p2 &&& (2147483647 : Int32)))])
    refine g_iload X374 hx (hb hby at_207) (rfl : 207 + 2 = 209) rfl ?_
    refine g_icmpN X374 hx (hb hby at_209) (XT.ii_ne_f rfl) (rfl : 209 + 3 = 212) ?_
    refine g_iconst X374 hx (1 : Int32) (hb hby at_212) (rfl : 212 + 1 = 213) (by decide) ?_
    refine g_goto X374 hx (hb hby at_213) (by decide) (pc' := 217) (by decide) ?_
    refine g_istore X374 hx (hb hby at_217) (rfl : 217 + 2 = 219) (Ls' := #[.val (.int p1), .val (.int p2), .val (.int p3), .val (.int p4), .val (.int p5), .val (.int p6), .val (.int (p1 &&& (2147483647 : Int32))), .val (.int (p2 &&& (2147483647 : Int32))), .val (.int (p3 &&& (2147483647 : Int32))), .val (.int (p4 &&& (2147483647 : Int32))), .val (.int (p5 &&& (2147483647 : Int32))), .val (.int ((p4 ^^^ p5) &&& (2147483647 : Int32))), .val (.int ((1 : Int32) + ((p6 &&& (2147483647 : Int32)) % (3 : Int32)))), .val (.ref a1), .val (.ref a215), .val (.ref a299), .val (.int (1 : Int32))]) rfl ?_
    refine g_iload X374 hx (hb hby at_219) (rfl : 219 + 2 = 221) rfl ?_
    refine g_iconst X374 hx (3 : Int32) (hb hby at_221) (rfl : 221 + 1 = 222) (by decide) ?_
    refine g_icmpN X374 hx (hb hby at_222) (XT.ii_lt_f (by rw [hn]; decide)) (rfl : 222 + 3 = 225) ?_
    refine g_iload X374 hx (hb hby at_225) (rfl : 225 + 2 = 227) rfl ?_
    refine g_ifN X374 hx (hb hby at_227) (XT.i0_eq_f (by decide)) (rfl : 227 + 3 = 230) ?_
    refine g_aload X374 hx (hb hby at_230) (rfl : 230 + 2 = 232) rfl rfl ?_
    refine g_iconst X374 hx (2 : Int32) (hb hby at_232) (rfl : 232 + 1 = 233) (by decide) ?_
    have F383 := (fldP F375 Pc374 nin0)
    have F384 := (exaP F376 Pc374)
    have F385 := (fldP F377 Pc374 nin0)
    have F386 := (aryP F378 Pc374 nin0)
    have F387 := (exaP (exaP (exaP F355 Pc302) Pc370) Pc374)
    have F388 := (fldP (fldP (fldP F369 Pc302 (ninS ne322 nin0)) Pc370 nin0) Pc374 nin0)
    have F389 := (exaP F381 Pc374)
    refine g_virtual X374 hx hZ hown eh374 (rm_bmax_3_2 hw a299 o_302 er_302 ke_302 b_234 b_261 b_289 (p3 &&& (2147483647 : Int32)) F383 F384 F385 F386 F387 F388) (C := "com/example/evenhand/evenhand/Bounds") (wd hw 235 rfl) (wd hw 236 rfl) (notFace_of_selects (args := #[]) (mvT hZ (wd hw 238 rfl))) (wd hw 238 rfl) (wd hw 237 rfl) (wd hw 239 rfl) (wd hw 71 rfl) (by decide) (a := a299) F389 (argsL := [(.int (2 : Int32))]) (rest := []) rfl rfl (ps := [.int]) (rt := (some .int)) (by decide) rfl (W := 0) (Nat.le_of_eq rfl) (by decide) (by decide) (by decide) (by decide) (by rw [hml]; rfl) (hb hby at_233) (rfl : 233 + 3 = 236) fun v382 T382 hh382 L382 X382 eh382 Q382 => ?_
    obtain ⟨rfl, Pc382⟩ := Q382
    have P382 := P374.call Pc382 all0
    show OGo p e below K T382 (mkF m 236 #[.val (.int p1), .val (.int p2), .val (.int p3), .val (.int p4), .val (.int p5), .val (.int p6), .val (.int (p1 &&& (2147483647 : Int32))), .val (.int (p2 &&& (2147483647 : Int32))), .val (.int (p3 &&& (2147483647 : Int32))), .val (.int (p4 &&& (2147483647 : Int32))), .val (.int (p5 &&& (2147483647 : Int32))), .val (.int ((p4 ^^^ p5) &&& (2147483647 : Int32))), .val (.int ((1 : Int32) + ((p6 &&& (2147483647 : Int32)) % (3 : Int32)))), .val (.ref a1), .val (.ref a215), .val (.ref a299), .val (.int (1 : Int32))] [(.int (p3 &&& (2147483647 : Int32)))])
    refine g_iload X382 hx (hb hby at_236) (rfl : 236 + 2 = 238) rfl ?_
    refine g_icmpN X382 hx (hb hby at_238) (XT.ii_ne_f rfl) (rfl : 238 + 3 = 241) ?_
    refine g_iconst X382 hx (1 : Int32) (hb hby at_241) (rfl : 241 + 1 = 242) (by decide) ?_
    refine g_goto X382 hx (hb hby at_242) (by decide) (pc' := 246) (by decide) ?_
    refine g_istore X382 hx (hb hby at_246) (rfl : 246 + 2 = 248) (Ls' := #[.val (.int p1), .val (.int p2), .val (.int p3), .val (.int p4), .val (.int p5), .val (.int p6), .val (.int (p1 &&& (2147483647 : Int32))), .val (.int (p2 &&& (2147483647 : Int32))), .val (.int (p3 &&& (2147483647 : Int32))), .val (.int (p4 &&& (2147483647 : Int32))), .val (.int (p5 &&& (2147483647 : Int32))), .val (.int ((p4 ^^^ p5) &&& (2147483647 : Int32))), .val (.int ((1 : Int32) + ((p6 &&& (2147483647 : Int32)) % (3 : Int32)))), .val (.ref a1), .val (.ref a215), .val (.ref a299), .val (.int (1 : Int32))]) rfl ?_
    refine g_iload X382 hx (hb hby at_248) (rfl : 248 + 2 = 250) rfl ?_
    exact g_ret X382 hx hret hlk rfl (Or.inl ⟨rfl, Or.inr (Or.inl rfl), _, rfl⟩) (hb hby at_250) (by decide) (by decide) eh382 hK ⟨rfl, P382⟩
set_option maxRecDepth 65536 in
set_option maxHeartbeats 40000000 in
theorem comes_1 {Post : Tables → Env → Array Value → State → Outcome → State → Prop} (hpost : ∀ tb e args s v u, (limb_1_1.after args s (.returned v) u = true ∧ limb_1_2.after args s (.returned v) u = true ∧ True) → Jvm.Pilot.@@N@@.Jvm.D.Framed s (.returned v) u (Jvm.fieldLocs frame_1_writes args s ++ Jvm.arrayLocs frame_1_arrays args s ++ Jvm.staticLocs frame_1_statics s) 48 192 → Post tb e args s (.returned v) u) :
    ArmFor flags0 classFile x code maxLocals ret World_1 tables_1 room_1 Calls_1 rest_1 Pre_1 Post := by
  intro l hfl _ _ p e ha hc hk s m args below hf hA hF happ hP
  obtain ⟨hcalls, hrest, hpre⟩ := hP
  obtain ⟨-, -, -, hnamed, -, -, -, hat⟩ := (Spec.applies_iff hf).mp happ
  obtain ⟨hg, hn⟩ := and_e (Cond.before_iff.mp (show (Jvm.Cond.and given_1 narrow_1).before args s = true from hpre))
  obtain ⟨h1, hgg⟩ := and_e hg
  obtain ⟨w0, w1, w2, w3, w4, w5, rfl⟩ : ∃ w0 w1 w2 w3 w4 w5 : Value, args = #[w0, w1, w2, w3, w4, w5] := by
    have hs : args.size = 6 := by simpa [Cond.value, given_1] using h1
    obtain ⟨L⟩ := args
    match L, hs with
    | [w0, w1, w2, w3, w4, w5], _ => exact ⟨w0, w1, w2, w3, w4, w5, rfl⟩
  have hw := fun d (hd : d ∈ tables_1) => atoms_spec (ws := Jvm.Cond.code x code maxLocals ret :: tables_1) hat d (List.mem_cons_of_mem _ hd)
  have hfit : Fit s := fun {y c} hc i hi => by
    obtain ⟨ha, rfl⟩ := Array.getElem?_eq_some_iff.mp hc
    have q := List.all_eq_true.mp ((Array.all_eq_true_iff_forall_mem.mp hF) _ (Array.getElem_mem ha)) i (List.mem_range.mpr hi)
    simpa [Array.getElem?_eq_getElem hi] using q
  obtain ⟨ga0, gb0⟩ := and_e hgg
  obtain ⟨i0, ea0⟩ := is_v ga0
  obtain rfl : w0 = (.int i0) := Option.some.inj ea0
  obtain ⟨ga1, gb1⟩ := and_e gb0
  obtain ⟨i1, ea1⟩ := is_v ga1
  obtain rfl : w1 = (.int i1) := Option.some.inj ea1
  obtain ⟨ga2, gb2⟩ := and_e gb1
  obtain ⟨i2, ea2⟩ := is_v ga2
  obtain rfl : w2 = (.int i2) := Option.some.inj ea2
  obtain ⟨ga3, gb3⟩ := and_e gb2
  obtain ⟨i3, ea3⟩ := is_v ga3
  obtain rfl : w3 = (.int i3) := Option.some.inj ea3
  obtain ⟨ga4, gb4⟩ := and_e gb3
  obtain ⟨i4, ea4⟩ := is_v ga4
  obtain rfl : w4 = (.int i4) := Option.some.inj ea4
  obtain ⟨i5, ea5⟩ := is_v gb4
  obtain rfl : w5 = (.int i5) := Option.some.inj ea5
  obtain ⟨hsets, hown0⟩ := atoms_of _ (rest_1_c_eq ▸ (show rest_1_c.before _ s = true from hrest))
  obtain ⟨bd, vd, Sd, Ed⟩ := exSta (Cond.before_iff.mp (hsets _ (List.mem_of_getElem? (i := 7) rfl))) (Or.inr ⟨(wd hw 3 rfl), (hsets _ (List.mem_of_getElem? (i := 2) rfl))⟩)
  obtain ⟨cd, Ad⟩ := Arr.start vd (Cond.before_iff.mp (hsets _ (List.mem_of_getElem? (i := 6) rfl)))
  obtain ⟨ld1, ld2⟩ := lenSt vd Ad (Cond.before_iff.mp (hsets _ (List.mem_of_getElem? (i := 8) rfl)))
  have AYd := aryStart hfit Ad ld2 (vs := []) (by simpa using ld1) (by intro i hi; simp at hi)
  have Sh := Sta.start (eqv_i (Term.int_eval 127) (Cond.before_iff.mp (hsets _ (List.mem_of_getElem? (i := 12) rfl)))) (Or.inl (hsets _ (List.mem_of_getElem? (i := 10) rfl)))
  obtain ⟨bc, vc, Sc, Ec⟩ := exSta (Cond.before_iff.mp (hsets _ (List.mem_of_getElem? (i := 14) rfl))) (Or.inr ⟨(wd hw 32 rfl), (hsets _ (List.mem_of_getElem? (i := 11) rfl))⟩)
  obtain ⟨cc, Ac⟩ := Arr.start vc (Cond.before_iff.mp (hsets _ (List.mem_of_getElem? (i := 13) rfl)))
  obtain ⟨lc1, lc2⟩ := lenSt vc Ac (Cond.before_iff.mp (hsets _ (List.mem_of_getElem? (i := 15) rfl)))
  have AYc := aryStart hfit Ac lc2 (vs := cc.slots.toList) (by simp) (by intro i hi; simp)
  obtain ⟨be, ve, Se, Ee⟩ := exSta (Cond.before_iff.mp (hsets _ (List.mem_of_getElem? (i := 19) rfl))) (Or.inl (hsets _ (List.mem_of_getElem? (i := 18) rfl)))
  have hcache := cacheSt vc Ac lc1 lc2 (Cond.before_iff.mp (hsets _ (List.mem_of_getElem? (i := 16) rfl)))
  obtain ⟨mc, mk, mr, mm1, mm2, mm3⟩ := hcalls.1
  obtain ⟨n, o, r1, r2, r3, _, L, rfl, ⟨rfl, Pf⟩, hq⟩ := (rm0 hw i0 i1 i2 i3 i4 i5 bd cd.cls bc cc.cls cc.slots.toList be mr Sd AYd Sh Sc AYc Se Ee ⟨mc, mk, mm1, mm2, mm3.1⟩ hcache) tables_1 p e ha hc hk s m _ below hf ((Spec.applies_iff_loose hf).mp happ).1 ⟨rfl, State.Warmed39.refl s, rfl⟩ trivial
  refine ⟨n, _, r1, r2, r3, hpost _ _ _ _ _ _ ⟨Cond.after_iff.mpr rfl, Cond.after_iff.mpr (eq_i res_at (Term.int_eval (1)) rfl), trivial⟩ ⟨hq.1, hq.2.1, (hq.2.2.sift fun y hy => Or.inr (Pf.fr y hy)).mono (by decide) (by decide)⟩⟩
theorem main_1_1 : Claimed_1_1 := comes_1 fun _ _ _ _ _ _ h hF => ⟨h.1, hF⟩
theorem main_1_2 : Claimed_1_2 := comes_1 fun _ _ _ _ _ _ h hF => ⟨h.2.1, hF⟩
end Jvm.Pilot.@@N@@
namespace Jvm.Pilot.@@N@@
open Jvm Jvm.ClassFile Sem Op Lib Jvm.Free Jvm.Stand Jvm.Pilot.@@N@@.Jvm.D
/-! MADE BY PROGRAM (witnessworld.py) out of the Statement's table words and the real class files: 37 classes; the members and pool entries that the words name. The judged class is class 1, her method 1. -/
namespace start1
open Jvm.ClassFile
def u (s : String) : CpInfo := .utf8 (stringToUtf16 s)
/-- a pool by its gaps: so many unusable entries, then the entry; so many at the end -/
def gap : Nat → List CpInfo → List CpInfo
  | 0, r => r
  | n + 1, r => .unusable :: gap n r
def poolList (es : List (Nat × CpInfo)) (last : Nat) : List CpInfo := es.foldr (fun e r => gap e.1 (e.2 :: r)) (gap last [])
def pool (es : List (Nat × CpInfo)) (last : Nat) : Array CpInfo := ⟨poolList es last⟩
def fileOf (pool : Array CpInfo) (this : Nat) (attrs : Array Attribute := #[]) (ms : Array MethodInfo := #[]) (fl : Nat := 33) (sup : Nat := 0) (ifs : Array Nat := #[]) (fds : Array FieldInfo := #[]) : ClassFile where
  minorVersion := 0
  majorVersion := 65
  constantPool := pool
  accessFlags := fl
  thisClass := this
  superClass := sup
  interfaces := ifs
  fields := fds
  methods := ms
  attributes := attrs
def plain (name : String) (sup : Option ClassId) : Class where
  name := name
  kind := .ordinary
  loader := none
  accessFlags := 33
  super := sup
  interfaces := #[]
  cf := none
  fields := #[]
  methods := #[]
  instanceTypes := #[]
  staticTypes := #[]
  resolved := #[]
  callSites := []
  init := .initialized
  statics := none
  mirror := none

def pool0 : Array CpInfo := pool [(5, u "<init>"), (0, u "()V"), (1, .class_ 10), (1, u "java/lang/Object"), (0, u "getClass"), (0, u "()Ljava/lang/Class;")] 111

def k0c0 : Code := { maxStack := 0, maxLocals := 1, code := object_method_1_code, exceptionTable := #[], attributes := #[] }
def k0m0 : Method := { name := "<init>", desc := "()V", sig := { parameters := [], returnType := none }, accessFlags := 1, code := some k0c0 }
def k0m1 : Method := { name := "getClass", desc := "()Ljava/lang/Class;", sig := { parameters := [], returnType := some (.object "java/lang/Class") }, accessFlags := 273, code := none }
/-- java/lang/Object -/
def k0 : Class := { plain "java/lang/Object" none with
  accessFlags := 33
  interfaces := #[]
  cf := some (fileOf pool0 8 #[] #[{ accessFlags := 1, nameIndex := 5, descriptorIndex := 6, attributes := #[] }, { accessFlags := 273, nameIndex := 11, descriptorIndex := 12, attributes := #[] }] 33 0 #[] #[])
  fields := #[]
  methods := #[k0m0, k0m1]
  instanceTypes := #[]
  staticTypes := #[]
  resolved := Array.replicate 124 none
  statics := none }

def pool1 : Array CpInfo := pool [(2, .class_ 4), (0, .nameAndType 5 6), (0, u "java/lang/Object"), (0, u "<init>"), (0, u "()V"), (0, .integer 2147483647), (0, .class_ 9), (0, u "java/util/ArrayList"), (0, .methodref 8 3), (0, .methodref 12 13), (0, .class_ 14), (0, .nameAndType 15 16), (0, u "java/lang/Integer"), (0, u "valueOf"), (0, u "(I)Ljava/lang/Integer;"), (0, .interfaceMethodref 18 19), (0, .class_ 20), (0, .nameAndType 21 22), (0, u "java/util/List"), (0, u "add"), (0, u "(Ljava/lang/Object;)Z"), (0, .class_ 24), (0, u "com/example/evenhand/evenhand/Bounds"), (0, .methodref 23 26), (0, .nameAndType 5 27), (0, u "(Ljava/util/List;Ljava/util/List;)V"), (0, .methodref 23 29), (0, .nameAndType 30 31), (0, u "max"), (0, u "(I)I"), (0, .class_ 33), (0, u "com/example/evenhand/evenhand/BoundsMaxPinLaw"), (2, u "law"), (0, u "(IIIIII)Z")] 3

def k1m0 : Method := { name := "<init>", desc := "()V", sig := { parameters := [], returnType := none }, accessFlags := 1, code := none }
def k1c1 : Code := { maxStack := 4, maxLocals := 17, code := code, exceptionTable := #[], attributes := #[] }
def k1m1 : Method := { name := "law", desc := "(IIIIII)Z", sig := { parameters := [.int, .int, .int, .int, .int, .int], returnType := some .boolean }, accessFlags := 9, code := some k1c1 }
/-- com/example/evenhand/evenhand/BoundsMaxPinLaw -/
def k1 : Class := { plain "com/example/evenhand/evenhand/BoundsMaxPinLaw" (some 0) with
  accessFlags := 49
  interfaces := #[]
  cf := some (fileOf pool1 32 #[] #[{ accessFlags := 1, nameIndex := 5, descriptorIndex := 6, attributes := #[] }, { accessFlags := 9, nameIndex := 36, descriptorIndex := 37, attributes := #[] }] 49 2 #[] #[])
  fields := #[]
  methods := #[k1m0, k1m1]
  instanceTypes := #[]
  staticTypes := #[]
  resolved := Array.replicate 41 none
  statics := none }

def pool2 : Array CpInfo := pool [(8, .class_ 10), (1, u "java/lang/Iterable"), (24, .class_ 36), (0, u "java/lang/Object")] 25

/-- java/lang/Iterable -/
def k2 : Class := { plain "java/lang/Iterable" (some 0) with
  accessFlags := 1537
  interfaces := #[]
  cf := some (fileOf pool2 8 #[] #[] 1537 35 #[] #[])
  fields := #[]
  methods := #[]
  instanceTypes := #[]
  staticTypes := #[]
  resolved := Array.replicate 62 none
  statics := none }

def pool3 : Array CpInfo := pool [(10, .class_ 12), (1, u "java/util/Collection"), (0, u "toArray"), (16, u "()Z"), (29, .class_ 61), (0, u "java/lang/Object"), (0, .class_ 63), (0, u "java/lang/Iterable"), (2, u "isEmpty"), (3, u "()[Ljava/lang/Object;")] 44

def k3m0 : Method := { name := "isEmpty", desc := "()Z", sig := { parameters := [], returnType := some .boolean }, accessFlags := 1025, code := none }
def k3m1 : Method := { name := "toArray", desc := "()[Ljava/lang/Object;", sig := { parameters := [], returnType := some (.array (.object "java/lang/Object")) }, accessFlags := 1025, code := none }
/-- java/util/Collection -/
def k3 : Class := { plain "java/util/Collection" (some 0) with
  accessFlags := 1537
  interfaces := #[2]
  cf := some (fileOf pool3 10 #[] #[{ accessFlags := 1025, nameIndex := 66, descriptorIndex := 30, attributes := #[] }, { accessFlags := 1025, nameIndex := 13, descriptorIndex := 70, attributes := #[] }] 1537 60 #[62] #[])
  fields := #[]
  methods := #[k3m0, k3m1]
  instanceTypes := #[]
  staticTypes := #[]
  resolved := Array.replicate 115 none
  statics := none }

def pool4 : Array CpInfo := pool [(1, .methodref 2 3), (0, .class_ 4), (0, .nameAndType 5 6), (0, u "java/lang/Object"), (0, u "<init>"), (0, u "()V"), (1, .class_ 10), (1, u "java/util/AbstractCollection"), (66, .class_ 78), (0, u "java/util/Collection")] 81

def k4c0 : Code := { maxStack := 1, maxLocals := 1, code := jdk_22_method_1_code, exceptionTable := #[], attributes := #[] }
def k4m0 : Method := { name := "<init>", desc := "()V", sig := { parameters := [], returnType := none }, accessFlags := 4, code := some k4c0 }
/-- java/util/AbstractCollection -/
def k4 : Class := { plain "java/util/AbstractCollection" (some 0) with
  accessFlags := 1057
  interfaces := #[3]
  cf := some (fileOf pool4 8 #[] #[{ accessFlags := 4, nameIndex := 5, descriptorIndex := 6, attributes := #[] }] 1057 2 #[77] #[])
  fields := #[]
  methods := #[k4m0]
  instanceTypes := #[]
  staticTypes := #[]
  resolved := Array.replicate 160 none
  statics := none }

def pool5 : Array CpInfo := pool [(8, .class_ 10), (1, u "java/util/SequencedCollection"), (15, .class_ 27), (0, u "java/lang/Object"), (0, .class_ 29), (0, u "java/util/Collection")] 27

/-- java/util/SequencedCollection -/
def k5 : Class := { plain "java/util/SequencedCollection" (some 0) with
  accessFlags := 1537
  interfaces := #[3]
  cf := some (fileOf pool5 8 #[] #[] 1537 26 #[28] #[])
  fields := #[]
  methods := #[]
  instanceTypes := #[]
  staticTypes := #[]
  resolved := Array.replicate 57 none
  statics := none }

def pool6 : Array CpInfo := pool [(8, .class_ 10), (1, u "java/util/List"), (20, u "(Ljava/lang/Object;)V"), (16, u "<init>"), (11, u "add"), (3, u "(Ljava/lang/Object;)Z"), (10, u "get"), (0, u "(I)Ljava/lang/Object;"), (2, u "size"), (0, u "()I"), (7, u "of"), (2, .class_ 93), (1, u "java/util/ImmutableCollections"), (2, .class_ 97), (0, u "java/util/ImmutableCollections$List12"), (0, .methodref 96 99), (0, .nameAndType 48 31), (0, .methodref 96 101), (0, .nameAndType 48 102), (0, u "(Ljava/lang/Object;Ljava/lang/Object;)V"), (0, .class_ 104), (0, u "java/lang/Object"), (3, u "([Ljava/lang/Object;)Ljava/util/List;"), (0, .methodref 91 110), (0, .nameAndType 111 108), (0, u "listFromArray"), (0, .methodref 91 113), (0, .nameAndType 114 115), (0, u "listCopy"), (0, u "(Ljava/util/Collection;)Ljava/util/List;"), (4, .class_ 121), (0, u "java/util/SequencedCollection"), (1, u "iterator"), (0, u "()Ljava/util/Iterator;"), (109, u "copyOf")] 16

def k6m0 : Method := { name := "size", desc := "()I", sig := { parameters := [], returnType := some .int }, accessFlags := 1025, code := none }
def k6m1 : Method := { name := "iterator", desc := "()Ljava/util/Iterator;", sig := { parameters := [], returnType := some (.object "java/util/Iterator") }, accessFlags := 1025, code := none }
def k6m2 : Method := { name := "add", desc := "(Ljava/lang/Object;)Z", sig := { parameters := [(.object "java/lang/Object")], returnType := some .boolean }, accessFlags := 1025, code := none }
def k6m3 : Method := { name := "get", desc := "(I)Ljava/lang/Object;", sig := { parameters := [.int], returnType := some (.object "java/lang/Object") }, accessFlags := 1025, code := none }
def k6c4 : Code := { maxStack := 5, maxLocals := 2, code := jdk_40_method_47_code, exceptionTable := #[], attributes := #[] }
def k6m4 : Method := { name := "of", desc := "([Ljava/lang/Object;)Ljava/util/List;", sig := { parameters := [(.array (.object "java/lang/Object"))], returnType := some (.object "java/util/List") }, accessFlags := 137, code := some k6c4 }
def k6c5 : Code := { maxStack := 1, maxLocals := 1, code := jdk_40_method_48_code, exceptionTable := #[], attributes := #[] }
def k6m5 : Method := { name := "copyOf", desc := "(Ljava/util/Collection;)Ljava/util/List;", sig := { parameters := [(.object "java/util/Collection")], returnType := some (.object "java/util/List") }, accessFlags := 9, code := some k6c5 }
/-- java/util/List -/
def k6 : Class := { plain "java/util/List" (some 0) with
  accessFlags := 1537
  interfaces := #[5]
  cf := some (fileOf pool6 8 #[] #[{ accessFlags := 1025, nameIndex := 79, descriptorIndex := 80, attributes := #[] }, { accessFlags := 1025, nameIndex := 123, descriptorIndex := 124, attributes := #[] }, { accessFlags := 1025, nameIndex := 60, descriptorIndex := 64, attributes := #[] }, { accessFlags := 1025, nameIndex := 75, descriptorIndex := 76, attributes := #[] }, { accessFlags := 137, nameIndex := 88, descriptorIndex := 108, attributes := #[] }, { accessFlags := 9, nameIndex := 234, descriptorIndex := 115, attributes := #[] }] 1537 103 #[120] #[])
  fields := #[]
  methods := #[k6m0, k6m1, k6m2, k6m3, k6m4, k6m5]
  instanceTypes := #[]
  staticTypes := #[]
  resolved := Array.replicate 251 none
  statics := none }

def pool7 : Array CpInfo := pool [(1, .methodref 2 3), (0, .class_ 4), (0, .nameAndType 5 6), (0, u "java/util/AbstractCollection"), (0, u "<init>"), (0, u "()V"), (0, .fieldref 8 9), (0, .class_ 10), (0, .nameAndType 11 12), (0, u "java/util/AbstractList"), (0, u "modCount"), (0, u "I"), (64, .class_ 78), (0, u "java/util/AbstractList$Itr"), (3, .class_ 83), (0, u "java/util/AbstractList$ListItr"), (9, .class_ 94), (0, u "java/util/AbstractList$RandomAccessSubList"), (3, .class_ 99), (0, u "java/util/AbstractList$SubList"), (33, .class_ 134), (0, u "java/util/List"), (73, .class_ 209), (0, u "java/util/AbstractList$SubList$1"), (0, .class_ 211), (0, u "java/util/AbstractList$RandomAccessSpliterator")] 6

def k7c0 : Code := { maxStack := 2, maxLocals := 1, code := jdk_39_method_1_code, exceptionTable := #[], attributes := #[] }
def k7m0 : Method := { name := "<init>", desc := "()V", sig := { parameters := [], returnType := none }, accessFlags := 4, code := some k7c0 }
/-- java/util/AbstractList -/
def k7 : Class := { plain "java/util/AbstractList" (some 4) with
  accessFlags := 1057
  interfaces := #[6]
  cf := some (fileOf pool7 8 #[.nestMembers #[93, 98, 208, 210, 82, 77]] #[{ accessFlags := 4, nameIndex := 5, descriptorIndex := 6, attributes := #[] }] 1057 2 #[133] #[{ accessFlags := 132, nameIndex := 11, descriptorIndex := 12, attributes := #[] }])
  fields := #[{ name := "modCount", type := .int, accessFlags := 132, slot := 0, constantValue := 0 }]
  methods := #[k7m0]
  instanceTypes := #[.int]
  staticTypes := #[]
  resolved := Array.replicate 218 none
  statics := none }

def pool8 : Array CpInfo := pool [(1, .class_ 2), (0, u "java/util/RandomAccess"), (0, .class_ 4), (0, u "java/lang/Object")] 2

/-- java/util/RandomAccess -/
def k8 : Class := { plain "java/util/RandomAccess" (some 0) with
  accessFlags := 1537
  interfaces := #[]
  cf := some (fileOf pool8 1 #[] #[] 1537 3 #[] #[])
  fields := #[]
  methods := #[]
  instanceTypes := #[]
  staticTypes := #[]
  resolved := Array.replicate 7 none
  statics := none }

def pool9 : Array CpInfo := pool [(1, .class_ 2), (0, u "java/lang/Cloneable"), (0, .class_ 4), (0, u "java/lang/Object")] 2

/-- java/lang/Cloneable -/
def k9 : Class := { plain "java/lang/Cloneable" (some 0) with
  accessFlags := 1537
  interfaces := #[]
  cf := some (fileOf pool9 1 #[] #[] 1537 3 #[] #[])
  fields := #[]
  methods := #[]
  instanceTypes := #[]
  staticTypes := #[]
  resolved := Array.replicate 7 none
  statics := none }

def pool10 : Array CpInfo := pool [(1, .class_ 2), (0, u "java/io/Serializable"), (0, .class_ 4), (0, u "java/lang/Object")] 2

/-- java/io/Serializable -/
def k10 : Class := { plain "java/io/Serializable" (some 0) with
  accessFlags := 1537
  interfaces := #[]
  cf := some (fileOf pool10 1 #[] #[] 1537 3 #[] #[])
  fields := #[]
  methods := #[]
  instanceTypes := #[]
  staticTypes := #[]
  resolved := Array.replicate 7 none
  statics := none }

def pool11 : Array CpInfo := pool [(1, .methodref 2 3), (0, .class_ 4), (0, .nameAndType 5 6), (0, u "java/util/AbstractList"), (0, u "<init>"), (0, u "()V"), (0, .class_ 8), (0, u "java/lang/Object"), (0, .fieldref 10 11), (0, .class_ 12), (0, .nameAndType 13 14), (0, u "java/util/ArrayList"), (0, u "elementData"), (0, u "[Ljava/lang/Object;"), (2, u "EMPTY_ELEMENTDATA"), (21, .fieldref 10 40), (0, .nameAndType 41 14), (0, u "DEFAULTCAPACITY_EMPTY_ELEMENTDATA"), (4, u "toArray"), (0, u "()[Ljava/lang/Object;"), (0, .fieldref 10 49), (0, .nameAndType 50 51), (0, u "size"), (0, u "I"), (6, .class_ 60), (1, u "java/util/Arrays"), (0, u "copyOf"), (1, .fieldref 10 64), (0, .nameAndType 65 51), (0, u "modCount"), (0, .methodref 58 67), (0, .nameAndType 61 68), (0, u "([Ljava/lang/Object;I)[Ljava/lang/Object;"), (0, .methodref 10 70), (0, .nameAndType 71 72), (0, u "grow"), (0, u "(I)[Ljava/lang/Object;"), (6, .methodref 80 81), (0, .class_ 82), (0, .nameAndType 83 84), (0, u "java/lang/Math"), (0, u "max"), (0, u "(II)I"), (11, u "(Ljava/lang/Object;)Z"), (32, .methodref 10 130), (0, .nameAndType 71 47), (0, .methodref 10 132), (0, .nameAndType 133 134), (0, u "add"), (0, u "(Ljava/lang/Object;[Ljava/lang/Object;I)V"), (13, .class_ 149), (0, u "java/util/List"), (16, u "iterator"), (0, u "()Ljava/util/Iterator;"), (5, u "()Z"), (12, u "()I"), (75, .class_ 263), (0, u "java/util/ArrayList$ListItr"), (3, .class_ 268), (0, u "java/util/ArrayList$Itr"), (0, .methodref 267 270), (0, .nameAndType 5 271), (0, u "(Ljava/util/ArrayList;)V"), (4, .class_ 277), (0, u "java/util/ArrayList$SubList"), (12, .class_ 291), (0, u "java/util/ArrayList$ArrayListSpliterator"), (37, .class_ 330), (0, u "java/util/RandomAccess"), (0, .class_ 332), (0, u "java/lang/Cloneable"), (0, .class_ 334), (0, u "java/io/Serializable"), (0, u "serialVersionUID"), (0, u "J"), (3, u "DEFAULT_CAPACITY"), (22, u "isEmpty"), (136, .class_ 501), (0, u "java/util/ArrayList$SubList$2"), (0, .class_ 503), (0, u "java/util/ArrayList$SubList$1")] 5

def k11c0 : Code := { maxStack := 2, maxLocals := 1, code := jdk_38_method_2_code, exceptionTable := #[], attributes := #[] }
def k11m0 : Method := { name := "<init>", desc := "()V", sig := { parameters := [], returnType := none }, accessFlags := 1, code := some k11c0 }
def k11c1 : Code := { maxStack := 4, maxLocals := 4, code := jdk_38_method_6_code, exceptionTable := #[], attributes := #[] }
def k11m1 : Method := { name := "grow", desc := "(I)[Ljava/lang/Object;", sig := { parameters := [.int], returnType := some (.array (.object "java/lang/Object")) }, accessFlags := 2, code := some k11c1 }
def k11c2 : Code := { maxStack := 3, maxLocals := 1, code := jdk_38_method_7_code, exceptionTable := #[], attributes := #[] }
def k11m2 : Method := { name := "grow", desc := "()[Ljava/lang/Object;", sig := { parameters := [], returnType := some (.array (.object "java/lang/Object")) }, accessFlags := 2, code := some k11c2 }
def k11c3 : Code := { maxStack := 1, maxLocals := 1, code := jdk_38_method_8_code, exceptionTable := #[], attributes := #[] }
def k11m3 : Method := { name := "size", desc := "()I", sig := { parameters := [], returnType := some .int }, accessFlags := 1, code := some k11c3 }
def k11c4 : Code := { maxStack := 1, maxLocals := 1, code := jdk_38_method_9_code, exceptionTable := #[], attributes := #[] }
def k11m4 : Method := { name := "isEmpty", desc := "()Z", sig := { parameters := [], returnType := some .boolean }, accessFlags := 1, code := some k11c4 }
def k11c5 : Code := { maxStack := 2, maxLocals := 1, code := jdk_38_method_16_code, exceptionTable := #[], attributes := #[] }
def k11m5 : Method := { name := "toArray", desc := "()[Ljava/lang/Object;", sig := { parameters := [], returnType := some (.array (.object "java/lang/Object")) }, accessFlags := 1, code := some k11c5 }
def k11c6 : Code := { maxStack := 3, maxLocals := 4, code := jdk_38_method_24_code, exceptionTable := #[], attributes := #[] }
def k11m6 : Method := { name := "add", desc := "(Ljava/lang/Object;[Ljava/lang/Object;I)V", sig := { parameters := [(.object "java/lang/Object"), (.array (.object "java/lang/Object")), .int], returnType := none }, accessFlags := 2, code := some k11c6 }
def k11c7 : Code := { maxStack := 4, maxLocals := 2, code := jdk_38_method_25_code, exceptionTable := #[], attributes := #[] }
def k11m7 : Method := { name := "add", desc := "(Ljava/lang/Object;)Z", sig := { parameters := [(.object "java/lang/Object")], returnType := some .boolean }, accessFlags := 1, code := some k11c7 }
def k11c8 : Code := { maxStack := 3, maxLocals := 1, code := jdk_38_method_55_code, exceptionTable := #[], attributes := #[] }
def k11m8 : Method := { name := "iterator", desc := "()Ljava/util/Iterator;", sig := { parameters := [], returnType := some (.object "java/util/Iterator") }, accessFlags := 1, code := some k11c8 }
/-- java/util/ArrayList -/
def k11 : Class := { plain "java/util/ArrayList" (some 7) with
  accessFlags := 33
  interfaces := #[6, 8, 9, 10]
  cf := some (fileOf pool11 10 #[.nestMembers #[290, 276, 500, 502, 262, 267]] #[{ accessFlags := 1, nameIndex := 5, descriptorIndex := 6, attributes := #[] }, { accessFlags := 2, nameIndex := 71, descriptorIndex := 72, attributes := #[] }, { accessFlags := 2, nameIndex := 71, descriptorIndex := 47, attributes := #[] }, { accessFlags := 1, nameIndex := 50, descriptorIndex := 186, attributes := #[] }, { accessFlags := 1, nameIndex := 363, descriptorIndex := 173, attributes := #[] }, { accessFlags := 1, nameIndex := 46, descriptorIndex := 47, attributes := #[] }, { accessFlags := 2, nameIndex := 133, descriptorIndex := 134, attributes := #[] }, { accessFlags := 1, nameIndex := 133, descriptorIndex := 96, attributes := #[] }, { accessFlags := 1, nameIndex := 166, descriptorIndex := 167, attributes := #[] }] 33 2 #[148, 329, 331, 333] #[{ accessFlags := 26, nameIndex := 335, descriptorIndex := 336, attributes := #[] }, { accessFlags := 26, nameIndex := 340, descriptorIndex := 51, attributes := #[] }, { accessFlags := 26, nameIndex := 17, descriptorIndex := 14, attributes := #[] }, { accessFlags := 26, nameIndex := 41, descriptorIndex := 14, attributes := #[] }, { accessFlags := 128, nameIndex := 13, descriptorIndex := 14, attributes := #[] }, { accessFlags := 2, nameIndex := 50, descriptorIndex := 51, attributes := #[] }])
  fields := #[{ name := "serialVersionUID", type := .long, accessFlags := 26, slot := 0, constantValue := 0 }, { name := "DEFAULT_CAPACITY", type := .int, accessFlags := 26, slot := 1, constantValue := 0 }, { name := "EMPTY_ELEMENTDATA", type := (.array (.object "java/lang/Object")), accessFlags := 26, slot := 2, constantValue := 0 }, { name := "DEFAULTCAPACITY_EMPTY_ELEMENTDATA", type := (.array (.object "java/lang/Object")), accessFlags := 26, slot := 3, constantValue := 0 }, { name := "elementData", type := (.array (.object "java/lang/Object")), accessFlags := 128, slot := 1, constantValue := 0 }, { name := "size", type := .int, accessFlags := 2, slot := 2, constantValue := 0 }]
  methods := #[k11m0, k11m1, k11m2, k11m3, k11m4, k11m5, k11m6, k11m7, k11m8]
  instanceTypes := #[.int, (.array (.object "java/lang/Object")), .int]
  staticTypes := #[.long, .int, (.array (.object "java/lang/Object")), (.array (.object "java/lang/Object"))]
  resolved := Array.replicate 509 none
  statics := some 0 }

def pool12 : Array CpInfo := pool [(1, .methodref 2 3), (0, .class_ 4), (0, .nameAndType 5 6), (0, u "java/lang/Object"), (0, u "<init>"), (0, u "()V"), (1, .class_ 10), (1, u "java/lang/Number"), (2, .class_ 14), (0, u "java/io/Serializable"), (0, u "serialVersionUID"), (0, u "J")] 20

def k12c0 : Code := { maxStack := 1, maxLocals := 1, code := jdk_18_method_1_code, exceptionTable := #[], attributes := #[] }
def k12m0 : Method := { name := "<init>", desc := "()V", sig := { parameters := [], returnType := none }, accessFlags := 1, code := some k12c0 }
/-- java/lang/Number -/
def k12 : Class := { plain "java/lang/Number" (some 0) with
  accessFlags := 1057
  interfaces := #[10]
  cf := some (fileOf pool12 8 #[] #[{ accessFlags := 1, nameIndex := 5, descriptorIndex := 6, attributes := #[] }] 1057 2 #[13] #[{ accessFlags := 26, nameIndex := 15, descriptorIndex := 16, attributes := #[] }])
  fields := #[{ name := "serialVersionUID", type := .long, accessFlags := 26, slot := 0, constantValue := 0 }]
  methods := #[k12m0]
  instanceTypes := #[]
  staticTypes := #[.long]
  resolved := Array.replicate 37 none
  statics := none }

def pool13 : Array CpInfo := pool [(1, .class_ 2), (0, u "java/lang/Comparable"), (0, .class_ 4), (0, u "java/lang/Object")] 7

/-- java/lang/Comparable -/
def k13 : Class := { plain "java/lang/Comparable" (some 0) with
  accessFlags := 1537
  interfaces := #[]
  cf := some (fileOf pool13 1 #[] #[] 1537 3 #[] #[])
  fields := #[]
  methods := #[]
  instanceTypes := #[]
  staticTypes := #[]
  resolved := Array.replicate 12 none
  statics := none }

def pool14 : Array CpInfo := pool [(1, .class_ 2), (0, u "java/lang/constant/Constable"), (0, .class_ 4), (0, u "java/lang/Object")] 6

/-- java/lang/constant/Constable -/
def k14 : Class := { plain "java/lang/constant/Constable" (some 0) with
  accessFlags := 1537
  interfaces := #[]
  cf := some (fileOf pool14 1 #[] #[] 1537 3 #[] #[])
  fields := #[]
  methods := #[]
  instanceTypes := #[]
  staticTypes := #[]
  resolved := Array.replicate 11 none
  statics := none }

def pool15 : Array CpInfo := pool [(1, .class_ 2), (0, u "java/lang/constant/ConstantDesc"), (0, .class_ 4), (0, u "java/lang/Object")] 32

/-- java/lang/constant/ConstantDesc -/
def k15 : Class := { plain "java/lang/constant/ConstantDesc" (some 0) with
  accessFlags := 1537
  interfaces := #[]
  cf := some (fileOf pool15 1 #[] #[] 1537 3 #[] #[])
  fields := #[]
  methods := #[]
  instanceTypes := #[]
  staticTypes := #[]
  resolved := Array.replicate 37 none
  statics := none }

def pool16 : Array CpInfo := pool [(1, .class_ 2), (0, u "java/lang/Integer"), (16, u "digits"), (0, u "[C"), (46, u "<init>"), (17, u "DigitOnes"), (0, u "[B"), (2, u "DigitTens"), (10, .nameAndType 67 101), (0, u "()V"), (19, u "()I"), (65, u "valueOf"), (0, u "(I)Ljava/lang/Integer;"), (0, .class_ 190), (0, u "java/lang/Integer$IntegerCache"), (0, .fieldref 189 192), (0, .nameAndType 193 194), (0, u "high"), (0, u "I"), (0, .fieldref 189 196), (0, .nameAndType 197 198), (0, u "cache"), (0, u "[Ljava/lang/Integer;"), (0, .methodref 1 200), (0, .nameAndType 67 201), (0, u "(I)V"), (0, .methodref 203 100), (0, .class_ 204), (0, u "java/lang/Number"), (0, .fieldref 1 206), (0, .nameAndType 207 194), (0, u "value"), (5, u "intValue"), (88, u "TYPE"), (0, u "Ljava/lang/Class;"), (0, .class_ 305), (0, u "java/lang/Comparable"), (0, .class_ 307), (0, u "java/lang/constant/Constable"), (0, .class_ 309), (0, u "java/lang/constant/ConstantDesc"), (0, u "MIN_VALUE"), (1, u "MAX_VALUE"), (3, u "SIZE"), (1, u "BYTES"), (1, u "serialVersionUID"), (0, u "J")] 131

def k16c0 : Code := { maxStack := 3, maxLocals := 1, code := jdk_33_method_22_code, exceptionTable := #[], attributes := #[] }
def k16m0 : Method := { name := "valueOf", desc := "(I)Ljava/lang/Integer;", sig := { parameters := [.int], returnType := some (.object "java/lang/Integer") }, accessFlags := 9, code := some k16c0 }
def k16c1 : Code := { maxStack := 2, maxLocals := 2, code := jdk_33_method_23_code, exceptionTable := #[], attributes := #[] }
def k16m1 : Method := { name := "<init>", desc := "(I)V", sig := { parameters := [.int], returnType := none }, accessFlags := 1, code := some k16c1 }
def k16c2 : Code := { maxStack := 1, maxLocals := 1, code := jdk_33_method_27_code, exceptionTable := #[], attributes := #[] }
def k16m2 : Method := { name := "intValue", desc := "()I", sig := { parameters := [], returnType := some .int }, accessFlags := 1, code := some k16c2 }
/-- java/lang/Integer -/
def k16 : Class := { plain "java/lang/Integer" (some 12) with
  accessFlags := 49
  interfaces := #[13, 14, 15]
  cf := some (fileOf pool16 1 #[.nestMembers #[189]] #[{ accessFlags := 9, nameIndex := 187, descriptorIndex := 188, attributes := #[] }, { accessFlags := 1, nameIndex := 67, descriptorIndex := 201, attributes := #[] }, { accessFlags := 1, nameIndex := 213, descriptorIndex := 121, attributes := #[] }] 49 203 #[304, 306, 308] #[{ accessFlags := 25, nameIndex := 310, descriptorIndex := 194, attributes := #[] }, { accessFlags := 25, nameIndex := 312, descriptorIndex := 194, attributes := #[] }, { accessFlags := 25, nameIndex := 302, descriptorIndex := 303, attributes := #[] }, { accessFlags := 24, nameIndex := 19, descriptorIndex := 20, attributes := #[] }, { accessFlags := 24, nameIndex := 89, descriptorIndex := 86, attributes := #[] }, { accessFlags := 24, nameIndex := 85, descriptorIndex := 86, attributes := #[] }, { accessFlags := 18, nameIndex := 207, descriptorIndex := 194, attributes := #[] }, { accessFlags := 25, nameIndex := 316, descriptorIndex := 194, attributes := #[] }, { accessFlags := 25, nameIndex := 318, descriptorIndex := 194, attributes := #[] }, { accessFlags := 26, nameIndex := 320, descriptorIndex := 321, attributes := #[] }])
  fields := #[{ name := "MIN_VALUE", type := .int, accessFlags := 25, slot := 0, constantValue := 0 }, { name := "MAX_VALUE", type := .int, accessFlags := 25, slot := 1, constantValue := 0 }, { name := "TYPE", type := (.object "java/lang/Class"), accessFlags := 25, slot := 2, constantValue := 0 }, { name := "digits", type := (.array .char), accessFlags := 24, slot := 3, constantValue := 0 }, { name := "DigitTens", type := (.array .byte), accessFlags := 24, slot := 4, constantValue := 0 }, { name := "DigitOnes", type := (.array .byte), accessFlags := 24, slot := 5, constantValue := 0 }, { name := "value", type := .int, accessFlags := 18, slot := 0, constantValue := 0 }, { name := "SIZE", type := .int, accessFlags := 25, slot := 6, constantValue := 0 }, { name := "BYTES", type := .int, accessFlags := 25, slot := 7, constantValue := 0 }, { name := "serialVersionUID", type := .long, accessFlags := 26, slot := 8, constantValue := 0 }]
  methods := #[k16m0, k16m1, k16m2]
  instanceTypes := #[.int]
  staticTypes := #[.int, .int, (.object "java/lang/Class"), (.array .char), (.array .byte), (.array .byte), .int, .int, .long]
  resolved := Array.replicate 453 none
  statics := none }

def pool17 : Array CpInfo := pool [(2, .class_ 4), (1, u "java/lang/Object"), (0, u "<init>"), (0, u "()V"), (0, .class_ 8), (0, u "java/lang/Integer"), (7, .class_ 18), (1, u "java/lang/Integer$IntegerCache"), (0, u "$assertionsDisabled"), (0, u "Z"), (26, u "high"), (0, u "I"), (8, u "archivedCache"), (0, u "[Ljava/lang/Integer;"), (12, u "cache"), (0, u "low")] 27

def k17m0 : Method := { name := "<init>", desc := "()V", sig := { parameters := [], returnType := none }, accessFlags := 2, code := none }
/-- java/lang/Integer$IntegerCache -/
def k17 : Class := { plain "java/lang/Integer$IntegerCache" (some 0) with
  accessFlags := 48
  interfaces := #[]
  cf := some (fileOf pool17 16 #[.nestHost 7] #[{ accessFlags := 2, nameIndex := 5, descriptorIndex := 6, attributes := #[] }] 48 2 #[] #[{ accessFlags := 24, nameIndex := 72, descriptorIndex := 48, attributes := #[] }, { accessFlags := 24, nameIndex := 47, descriptorIndex := 48, attributes := #[] }, { accessFlags := 24, nameIndex := 71, descriptorIndex := 58, attributes := #[] }, { accessFlags := 8, nameIndex := 57, descriptorIndex := 58, attributes := #[] }, { accessFlags := 4120, nameIndex := 19, descriptorIndex := 20, attributes := #[] }])
  fields := #[{ name := "low", type := .int, accessFlags := 24, slot := 0, constantValue := 0 }, { name := "high", type := .int, accessFlags := 24, slot := 1, constantValue := 0 }, { name := "cache", type := (.array (.object "java/lang/Integer")), accessFlags := 24, slot := 2, constantValue := 0 }, { name := "archivedCache", type := (.array (.object "java/lang/Integer")), accessFlags := 8, slot := 3, constantValue := 0 }, { name := "$assertionsDisabled", type := .boolean, accessFlags := 4120, slot := 4, constantValue := 0 }]
  methods := #[k17m0]
  instanceTypes := #[]
  staticTypes := #[.int, .int, (.array (.object "java/lang/Integer")), (.array (.object "java/lang/Integer")), .boolean]
  resolved := Array.replicate 100 none
  statics := some 1 }

def pool18 : Array CpInfo := pool [(1, .class_ 2), (0, u "java/lang/Math"), (1, .class_ 6), (1, u "java/lang/Object"), (0, u "<init>"), (0, u "()V"), (89, .class_ 100), (1, u "java/lang/Math$RandomNumberGeneratorHolder"), (71, u "negativeZeroFloatBits"), (0, u "J"), (2, u "negativeZeroDoubleBits"), (21, u "max"), (2, u "min"), (43, u "$assertionsDisabled"), (0, u "Z"), (88, u "(II)I"), (2, u "twoToTheDoubleScaleDown"), (0, u "D"), (4, u "twoToTheDoubleScaleUp"), (9, u "E"), (3, u "PI"), (2, u "TAU"), (2, u "DEGREES_TO_RADIANS"), (0, u "RADIANS_TO_DEGREES")] 94

def k18m0 : Method := { name := "<init>", desc := "()V", sig := { parameters := [], returnType := none }, accessFlags := 2, code := none }
def k18c1 : Code := { maxStack := 2, maxLocals := 2, code := jdk_29_method_65_code, exceptionTable := #[], attributes := #[] }
def k18m1 : Method := { name := "max", desc := "(II)I", sig := { parameters := [.int, .int], returnType := some .int }, accessFlags := 9, code := some k18c1 }
def k18c2 : Code := { maxStack := 2, maxLocals := 2, code := jdk_29_method_69_code, exceptionTable := #[], attributes := #[] }
def k18m2 : Method := { name := "min", desc := "(II)I", sig := { parameters := [.int, .int], returnType := some .int }, accessFlags := 9, code := some k18c2 }
/-- java/lang/Math -/
def k18 : Class := { plain "java/lang/Math" (some 0) with
  accessFlags := 49
  interfaces := #[]
  cf := some (fileOf pool18 1 #[.nestMembers #[98]] #[{ accessFlags := 2, nameIndex := 7, descriptorIndex := 8, attributes := #[] }, { accessFlags := 9, nameIndex := 198, descriptorIndex := 335, attributes := #[] }, { accessFlags := 9, nameIndex := 201, descriptorIndex := 335, attributes := #[] }] 49 4 #[] #[{ accessFlags := 25, nameIndex := 354, descriptorIndex := 339, attributes := #[] }, { accessFlags := 25, nameIndex := 358, descriptorIndex := 339, attributes := #[] }, { accessFlags := 25, nameIndex := 361, descriptorIndex := 339, attributes := #[] }, { accessFlags := 26, nameIndex := 364, descriptorIndex := 339, attributes := #[] }, { accessFlags := 26, nameIndex := 365, descriptorIndex := 339, attributes := #[] }, { accessFlags := 26, nameIndex := 172, descriptorIndex := 173, attributes := #[] }, { accessFlags := 26, nameIndex := 176, descriptorIndex := 173, attributes := #[] }, { accessFlags := 8, nameIndex := 344, descriptorIndex := 339, attributes := #[] }, { accessFlags := 8, nameIndex := 338, descriptorIndex := 339, attributes := #[] }, { accessFlags := 4120, nameIndex := 245, descriptorIndex := 246, attributes := #[] }])
  fields := #[{ name := "E", type := .double, accessFlags := 25, slot := 0, constantValue := 0 }, { name := "PI", type := .double, accessFlags := 25, slot := 1, constantValue := 0 }, { name := "TAU", type := .double, accessFlags := 25, slot := 2, constantValue := 0 }, { name := "DEGREES_TO_RADIANS", type := .double, accessFlags := 26, slot := 3, constantValue := 0 }, { name := "RADIANS_TO_DEGREES", type := .double, accessFlags := 26, slot := 4, constantValue := 0 }, { name := "negativeZeroFloatBits", type := .long, accessFlags := 26, slot := 5, constantValue := 0 }, { name := "negativeZeroDoubleBits", type := .long, accessFlags := 26, slot := 6, constantValue := 0 }, { name := "twoToTheDoubleScaleUp", type := .double, accessFlags := 8, slot := 7, constantValue := 0 }, { name := "twoToTheDoubleScaleDown", type := .double, accessFlags := 8, slot := 8, constantValue := 0 }, { name := "$assertionsDisabled", type := .boolean, accessFlags := 4120, slot := 9, constantValue := 0 }]
  methods := #[k18m0, k18m1, k18m2]
  instanceTypes := #[]
  staticTypes := #[.double, .double, .double, .double, .double, .long, .long, .double, .double, .boolean]
  resolved := Array.replicate 460 none
  statics := none }

def pool19 : Array CpInfo := pool [(1, .class_ 2), (0, u "java/lang/Integer"), (0, .methodref 4 5), (0, .class_ 6), (0, .nameAndType 7 8), (0, u "java/lang/Object"), (0, u "<init>"), (0, u "()V"), (0, .interfaceMethodref 10 11), (0, .class_ 12), (0, .nameAndType 13 14), (0, u "java/util/List"), (0, u "size"), (0, u "()I"), (9, .methodref 25 26), (0, .class_ 27), (0, .nameAndType 28 29), (0, u "com/example/evenhand/evenhand/Bounds"), (0, u "checkNonNegative"), (0, u "(Ljava/util/List;)Ljava/util/List;"), (0, .fieldref 25 31), (0, .nameAndType 32 33), (0, u "min"), (0, u "Ljava/util/List;"), (0, .fieldref 25 35), (0, .nameAndType 36 33), (0, u "max"), (12, u "(Ljava/util/List;Ljava/util/List;)V"), (0, .interfaceMethodref 10 51), (0, .nameAndType 52 53), (0, u "get"), (0, u "(I)Ljava/lang/Object;"), (0, .methodref 1 55), (0, .nameAndType 56 14), (0, u "intValue"), (12, u "(I)I"), (11, .interfaceMethodref 10 82), (0, .nameAndType 83 84), (0, u "iterator"), (0, u "()Ljava/util/Iterator;"), (0, .interfaceMethodref 86 87), (0, .class_ 88), (0, .nameAndType 89 90), (0, u "java/util/Iterator"), (0, u "hasNext"), (0, u "()Z"), (0, .interfaceMethodref 86 92), (0, .nameAndType 93 94), (0, u "next"), (0, u "()Ljava/lang/Object;"), (3, .interfaceMethodref 10 99), (0, .nameAndType 100 101), (0, u "copyOf"), (0, u "(Ljava/util/Collection;)Ljava/util/List;"), (0, u "UNBOUNDED"), (0, u "I")] 40

def k19c0 : Code := { maxStack := 4, maxLocals := 3, code := prog_3_method_1_code, exceptionTable := #[], attributes := #[] }
def k19m0 : Method := { name := "<init>", desc := "(Ljava/util/List;Ljava/util/List;)V", sig := { parameters := [(.object "java/util/List"), (.object "java/util/List")], returnType := none }, accessFlags := 1, code := some k19c0 }
def k19c1 : Code := { maxStack := 2, maxLocals := 2, code := prog_3_method_5_code, exceptionTable := #[], attributes := #[] }
def k19m1 : Method := { name := "max", desc := "(I)I", sig := { parameters := [.int], returnType := some .int }, accessFlags := 1, code := some k19c1 }
def k19c2 : Code := { maxStack := 3, maxLocals := 3, code := prog_3_method_9_code, exceptionTable := #[], attributes := #[] }
def k19m2 : Method := { name := "checkNonNegative", desc := "(Ljava/util/List;)Ljava/util/List;", sig := { parameters := [(.object "java/util/List")], returnType := some (.object "java/util/List") }, accessFlags := 10, code := some k19c2 }
/-- com/example/evenhand/evenhand/Bounds -/
def k19 : Class := { plain "com/example/evenhand/evenhand/Bounds" (some 0) with
  accessFlags := 49
  interfaces := #[]
  cf := some (fileOf pool19 25 #[] #[{ accessFlags := 1, nameIndex := 7, descriptorIndex := 49, attributes := #[] }, { accessFlags := 1, nameIndex := 36, descriptorIndex := 69, attributes := #[] }, { accessFlags := 10, nameIndex := 28, descriptorIndex := 29, attributes := #[] }] 49 4 #[] #[{ accessFlags := 25, nameIndex := 102, descriptorIndex := 103, attributes := #[] }, { accessFlags := 18, nameIndex := 32, descriptorIndex := 33, attributes := #[] }, { accessFlags := 18, nameIndex := 36, descriptorIndex := 33, attributes := #[] }])
  fields := #[{ name := "UNBOUNDED", type := .int, accessFlags := 25, slot := 0, constantValue := 0 }, { name := "min", type := (.object "java/util/List"), accessFlags := 18, slot := 0, constantValue := 0 }, { name := "max", type := (.object "java/util/List"), accessFlags := 18, slot := 1, constantValue := 0 }]
  methods := #[k19m0, k19m1, k19m2]
  instanceTypes := #[(.object "java/util/List"), (.object "java/util/List")]
  staticTypes := #[.int]
  resolved := Array.replicate 144 none
  statics := none }

def pool20 : Array CpInfo := pool [(16, .class_ 18), (1, u "java/util/Iterator"), (0, u "hasNext"), (0, u "()Z"), (2, u "next"), (0, u "()Ljava/lang/Object;"), (6, .class_ 32), (0, u "java/lang/Object")] 20

def k20m0 : Method := { name := "hasNext", desc := "()Z", sig := { parameters := [], returnType := some .boolean }, accessFlags := 1025, code := none }
def k20m1 : Method := { name := "next", desc := "()Ljava/lang/Object;", sig := { parameters := [], returnType := some (.object "java/lang/Object") }, accessFlags := 1025, code := none }
/-- java/util/Iterator -/
def k20 : Class := { plain "java/util/Iterator" (some 0) with
  accessFlags := 1537
  interfaces := #[]
  cf := some (fileOf pool20 16 #[] #[{ accessFlags := 1025, nameIndex := 19, descriptorIndex := 20, attributes := #[] }, { accessFlags := 1025, nameIndex := 23, descriptorIndex := 24, attributes := #[] }] 1537 31 #[] #[])
  fields := #[]
  methods := #[k20m0, k20m1]
  instanceTypes := #[]
  staticTypes := #[]
  resolved := Array.replicate 53 none
  statics := none }

def pool21 : Array CpInfo := pool [(1, .fieldref 2 3), (0, .class_ 4), (0, .nameAndType 5 6), (0, u "java/util/ArrayList$Itr"), (0, u "this$0"), (0, u "Ljava/util/ArrayList;"), (0, .methodref 8 9), (0, .class_ 10), (0, .nameAndType 11 12), (0, u "java/lang/Object"), (0, u "<init>"), (0, u "()V"), (0, .fieldref 2 14), (0, .nameAndType 15 16), (0, u "lastRet"), (0, u "I"), (0, .fieldref 18 19), (0, .class_ 20), (0, .nameAndType 21 16), (0, u "java/util/ArrayList"), (0, u "modCount"), (0, .fieldref 2 23), (0, .nameAndType 24 16), (0, u "expectedModCount"), (0, .fieldref 2 26), (0, .nameAndType 27 16), (0, u "cursor"), (0, .fieldref 18 29), (0, .nameAndType 30 16), (0, u "size"), (0, .methodref 2 32), (0, .nameAndType 33 12), (0, u "checkForComodification"), (3, .fieldref 18 38), (0, .nameAndType 39 40), (0, u "elementData"), (0, u "[Ljava/lang/Object;"), (28, .class_ 70), (0, u "java/util/Iterator"), (0, u "(Ljava/util/ArrayList;)V"), (8, u "hasNext"), (0, u "()Z"), (1, u "next"), (0, u "()Ljava/lang/Object;")] 19

def k21c0 : Code := { maxStack := 2, maxLocals := 2, code := jdk_49_method_1_code, exceptionTable := #[], attributes := #[] }
def k21m0 : Method := { name := "<init>", desc := "(Ljava/util/ArrayList;)V", sig := { parameters := [(.object "java/util/ArrayList")], returnType := none }, accessFlags := 0, code := some k21c0 }
def k21c1 : Code := { maxStack := 2, maxLocals := 1, code := jdk_49_method_2_code, exceptionTable := #[], attributes := #[] }
def k21m1 : Method := { name := "hasNext", desc := "()Z", sig := { parameters := [], returnType := some .boolean }, accessFlags := 1, code := some k21c1 }
def k21c2 : Code := { maxStack := 4, maxLocals := 3, code := jdk_49_method_3_code, exceptionTable := #[], attributes := #[] }
def k21m2 : Method := { name := "next", desc := "()Ljava/lang/Object;", sig := { parameters := [], returnType := some (.object "java/lang/Object") }, accessFlags := 1, code := some k21c2 }
def k21c3 : Code := { maxStack := 2, maxLocals := 1, code := jdk_49_method_6_code, exceptionTable := #[], attributes := #[] }
def k21m3 : Method := { name := "checkForComodification", desc := "()V", sig := { parameters := [], returnType := none }, accessFlags := 16, code := some k21c3 }
/-- java/util/ArrayList$Itr -/
def k21 : Class := { plain "java/util/ArrayList$Itr" (some 0) with
  accessFlags := 32
  interfaces := #[20]
  cf := some (fileOf pool21 2 #[.nestHost 18] #[{ accessFlags := 0, nameIndex := 11, descriptorIndex := 71, attributes := #[] }, { accessFlags := 1, nameIndex := 80, descriptorIndex := 81, attributes := #[] }, { accessFlags := 1, nameIndex := 83, descriptorIndex := 84, attributes := #[] }, { accessFlags := 16, nameIndex := 33, descriptorIndex := 12, attributes := #[] }] 32 8 #[69] #[{ accessFlags := 0, nameIndex := 27, descriptorIndex := 16, attributes := #[] }, { accessFlags := 0, nameIndex := 15, descriptorIndex := 16, attributes := #[] }, { accessFlags := 0, nameIndex := 24, descriptorIndex := 16, attributes := #[] }, { accessFlags := 4112, nameIndex := 5, descriptorIndex := 6, attributes := #[] }])
  fields := #[{ name := "cursor", type := .int, accessFlags := 0, slot := 0, constantValue := 0 }, { name := "lastRet", type := .int, accessFlags := 0, slot := 1, constantValue := 0 }, { name := "expectedModCount", type := .int, accessFlags := 0, slot := 2, constantValue := 0 }, { name := "this$0", type := (.object "java/util/ArrayList"), accessFlags := 4112, slot := 3, constantValue := 0 }]
  methods := #[k21m0, k21m1, k21m2, k21m3]
  instanceTypes := #[.int, .int, .int, (.object "java/util/ArrayList")]
  staticTypes := #[]
  resolved := Array.replicate 104 none
  statics := none }

def pool22 : Array CpInfo := pool [(2, .class_ 4), (1, u "java/lang/Object"), (0, u "<init>"), (0, u "()V"), (3, .class_ 11), (0, u "java/util/ImmutableCollections$List12"), (0, .class_ 13), (0, u "java/util/ImmutableCollections$ListN"), (3, u "Z"), (0, .class_ 19), (0, u "java/util/List"), (0, .interfaceMethodref 21 22), (0, .class_ 23), (0, .nameAndType 24 25), (0, u "java/util/Collection"), (0, u "isEmpty"), (0, u "()Z"), (2, u "of"), (1, .interfaceMethodref 21 31), (0, .nameAndType 32 33), (0, u "toArray"), (0, u "()[Ljava/lang/Object;"), (0, .interfaceMethodref 18 35), (0, .nameAndType 28 36), (0, u "([Ljava/lang/Object;)Ljava/util/List;"), (0, .methodref 38 39), (0, .class_ 40), (0, .nameAndType 41 42), (0, u "java/util/Objects"), (0, u "requireNonNull"), (0, u "(Ljava/lang/Object;)Ljava/lang/Object;"), (0, .methodref 12 44), (0, .nameAndType 5 45), (0, u "([Ljava/lang/Object;Z)V"), (1, .class_ 49), (1, u "java/util/ImmutableCollections"), (0, u "$assertionsDisabled"), (5, u "[Ljava/lang/Object;"), (5, u "EMPTY_LIST"), (0, u "Ljava/util/ImmutableCollections$ListN;"), (8, u "EMPTY_LIST_NULLS"), (22, u "SALT32L"), (0, u "J"), (2, u "REVERSE"), (6, u "archivedObjects"), (2, u "EMPTY"), (0, u "Ljava/lang/Object;"), (0, .class_ 112), (0, u "java/util/ImmutableCollections$SetN"), (5, u "EMPTY_SET"), (0, u "Ljava/util/ImmutableCollections$SetN;"), (0, .class_ 121), (0, u "java/util/ImmutableCollections$MapN"), (3, u "EMPTY_MAP"), (0, u "Ljava/util/ImmutableCollections$MapN;"), (4, u "EXPAND_FACTOR"), (0, u "I"), (9, u "listCopy"), (0, u "(Ljava/util/Collection;)Ljava/util/List;"), (7, u "listFromArray"), (17, .class_ 170), (0, u "java/util/ImmutableCollections$MapN$MapNIterator"), (0, .class_ 172), (0, u "java/util/ImmutableCollections$MapN$1"), (0, .class_ 174), (0, u "java/util/ImmutableCollections$Map1"), (0, .class_ 176), (0, u "java/util/ImmutableCollections$AbstractImmutableMap"), (0, .class_ 178), (0, u "java/util/ImmutableCollections$SetN$SetNIterator"), (0, .class_ 180), (0, u "java/util/ImmutableCollections$Set12"), (0, .class_ 182), (0, u "java/util/ImmutableCollections$Set12$1"), (0, .class_ 184), (0, u "java/util/ImmutableCollections$AbstractImmutableSet"), (0, .class_ 186), (0, u "java/util/ImmutableCollections$SubList"), (0, .class_ 188), (0, u "java/util/ImmutableCollections$ListItr"), (0, .class_ 190), (0, u "java/util/ImmutableCollections$AbstractImmutableList"), (0, .class_ 192), (0, u "java/util/ImmutableCollections$AbstractImmutableCollection"), (0, .class_ 194), (0, u "java/util/ImmutableCollections$Access"), (0, .class_ 196), (0, u "java/util/ImmutableCollections$Access$1")] 16

def k22m0 : Method := { name := "<init>", desc := "()V", sig := { parameters := [], returnType := none }, accessFlags := 2, code := none }
def k22c1 : Code := { maxStack := 1, maxLocals := 2, code := jdk_56_method_3_code, exceptionTable := #[], attributes := #[] }
def k22m1 : Method := { name := "listCopy", desc := "(Ljava/util/Collection;)Ljava/util/List;", sig := { parameters := [(.object "java/util/Collection")], returnType := some (.object "java/util/List") }, accessFlags := 8, code := some k22c1 }
def k22c2 : Code := { maxStack := 4, maxLocals := 3, code := jdk_56_method_4_code, exceptionTable := #[], attributes := #[] }
def k22m2 : Method := { name := "listFromArray", desc := "([Ljava/lang/Object;)Ljava/util/List;", sig := { parameters := [(.array (.object "java/lang/Object"))], returnType := some (.object "java/util/List") }, accessFlags := 136, code := some k22c2 }
/-- java/util/ImmutableCollections -/
def k22 : Class := { plain "java/util/ImmutableCollections" (some 0) with
  accessFlags := 32
  interfaces := #[]
  cf := some (fileOf pool22 47 #[.nestMembers #[120, 169, 171, 173, 175, 111, 177, 179, 181, 183, 12, 10, 185, 187, 189, 191, 193, 195]] #[{ accessFlags := 2, nameIndex := 5, descriptorIndex := 6, attributes := #[] }, { accessFlags := 8, nameIndex := 142, descriptorIndex := 143, attributes := #[] }, { accessFlags := 136, nameIndex := 151, descriptorIndex := 36, attributes := #[] }] 32 2 #[] #[{ accessFlags := 26, nameIndex := 95, descriptorIndex := 96, attributes := #[] }, { accessFlags := 26, nameIndex := 99, descriptorIndex := 17, attributes := #[] }, { accessFlags := 10, nameIndex := 106, descriptorIndex := 56, attributes := #[] }, { accessFlags := 26, nameIndex := 109, descriptorIndex := 110, attributes := #[] }, { accessFlags := 24, nameIndex := 62, descriptorIndex := 63, attributes := #[] }, { accessFlags := 24, nameIndex := 72, descriptorIndex := 63, attributes := #[] }, { accessFlags := 24, nameIndex := 118, descriptorIndex := 119, attributes := #[] }, { accessFlags := 24, nameIndex := 125, descriptorIndex := 126, attributes := #[] }, { accessFlags := 24, nameIndex := 131, descriptorIndex := 132, attributes := #[] }, { accessFlags := 4120, nameIndex := 50, descriptorIndex := 17, attributes := #[] }])
  fields := #[{ name := "SALT32L", type := .long, accessFlags := 26, slot := 0, constantValue := 0 }, { name := "REVERSE", type := .boolean, accessFlags := 26, slot := 1, constantValue := 0 }, { name := "archivedObjects", type := (.array (.object "java/lang/Object")), accessFlags := 10, slot := 2, constantValue := 0 }, { name := "EMPTY", type := (.object "java/lang/Object"), accessFlags := 26, slot := 3, constantValue := 0 }, { name := "EMPTY_LIST", type := (.object "java/util/ImmutableCollections$ListN"), accessFlags := 24, slot := 4, constantValue := 0 }, { name := "EMPTY_LIST_NULLS", type := (.object "java/util/ImmutableCollections$ListN"), accessFlags := 24, slot := 5, constantValue := 0 }, { name := "EMPTY_SET", type := (.object "java/util/ImmutableCollections$SetN"), accessFlags := 24, slot := 6, constantValue := 0 }, { name := "EMPTY_MAP", type := (.object "java/util/ImmutableCollections$MapN"), accessFlags := 24, slot := 7, constantValue := 0 }, { name := "EXPAND_FACTOR", type := .int, accessFlags := 24, slot := 8, constantValue := 0 }, { name := "$assertionsDisabled", type := .boolean, accessFlags := 4120, slot := 9, constantValue := 0 }]
  methods := #[k22m0, k22m1, k22m2]
  instanceTypes := #[]
  staticTypes := #[.long, .boolean, (.array (.object "java/lang/Object")), (.object "java/lang/Object"), (.object "java/util/ImmutableCollections$ListN"), (.object "java/util/ImmutableCollections$ListN"), (.object "java/util/ImmutableCollections$SetN"), (.object "java/util/ImmutableCollections$MapN"), .int, .boolean]
  resolved := Array.replicate 213 none
  statics := some 2 }

def pool23 : Array CpInfo := pool [(1, .methodref 2 3), (0, .class_ 4), (0, .nameAndType 5 6), (0, u "java/util/AbstractCollection"), (0, u "<init>"), (0, u "()V"), (1, .class_ 10), (1, u "java/util/ImmutableCollections"), (2, .class_ 14), (0, u "java/util/ImmutableCollections$AbstractImmutableCollection")] 41

def k23c0 : Code := { maxStack := 1, maxLocals := 1, code := jdk_47_method_1_code, exceptionTable := #[], attributes := #[] }
def k23m0 : Method := { name := "<init>", desc := "()V", sig := { parameters := [], returnType := none }, accessFlags := 0, code := some k23c0 }
/-- java/util/ImmutableCollections$AbstractImmutableCollection -/
def k23 : Class := { plain "java/util/ImmutableCollections$AbstractImmutableCollection" (some 4) with
  accessFlags := 1056
  interfaces := #[]
  cf := some (fileOf pool23 13 #[.nestHost 8] #[{ accessFlags := 0, nameIndex := 5, descriptorIndex := 6, attributes := #[] }] 1056 2 #[] #[])
  fields := #[]
  methods := #[k23m0]
  instanceTypes := #[]
  staticTypes := #[]
  resolved := Array.replicate 56 none
  statics := none }

def pool24 : Array CpInfo := pool [(1, .methodref 2 3), (0, .class_ 4), (0, .nameAndType 5 6), (0, u "java/util/ImmutableCollections$AbstractImmutableCollection"), (0, u "<init>"), (0, u "()V"), (1, .class_ 10), (1, u "java/util/ImmutableCollections"), (3, .class_ 16), (1, u "java/util/ImmutableCollections$AbstractImmutableList"), (60, .class_ 78), (0, u "java/util/List"), (45, .class_ 125), (0, u "java/util/RandomAccess")] 70

def k24c0 : Code := { maxStack := 1, maxLocals := 1, code := jdk_46_method_1_code, exceptionTable := #[], attributes := #[] }
def k24m0 : Method := { name := "<init>", desc := "()V", sig := { parameters := [], returnType := none }, accessFlags := 0, code := some k24c0 }
/-- java/util/ImmutableCollections$AbstractImmutableList -/
def k24 : Class := { plain "java/util/ImmutableCollections$AbstractImmutableList" (some 23) with
  accessFlags := 1056
  interfaces := #[6, 8]
  cf := some (fileOf pool24 14 #[.nestHost 8] #[{ accessFlags := 0, nameIndex := 5, descriptorIndex := 6, attributes := #[] }] 1056 2 #[77, 124] #[])
  fields := #[]
  methods := #[k24m0]
  instanceTypes := #[]
  staticTypes := #[]
  resolved := Array.replicate 196 none
  statics := none }

def pool25 : Array CpInfo := pool [(1, .methodref 2 3), (0, .class_ 4), (0, .nameAndType 5 6), (0, u "java/util/ImmutableCollections$AbstractImmutableList"), (0, u "<init>"), (0, u "()V"), (0, .methodref 8 9), (0, .class_ 10), (0, .nameAndType 11 12), (0, u "java/util/Objects"), (0, u "requireNonNull"), (0, u "(Ljava/lang/Object;)Ljava/lang/Object;"), (0, .fieldref 14 15), (0, .class_ 16), (0, .nameAndType 17 18), (0, u "java/util/ImmutableCollections$List12"), (0, u "e0"), (0, u "Ljava/lang/Object;"), (0, .fieldref 20 21), (0, .class_ 22), (0, .nameAndType 23 18), (0, u "java/util/ImmutableCollections"), (0, u "EMPTY"), (0, .fieldref 14 25), (0, .nameAndType 26 18), (0, u "e1"), (43, .class_ 71), (0, u "java/io/Serializable"), (4, u "(Ljava/lang/Object;)V"), (8, u "(Ljava/lang/Object;Ljava/lang/Object;)V"), (4, u "get"), (0, u "(I)Ljava/lang/Object;")] 33

def k25c0 : Code := { maxStack := 2, maxLocals := 2, code := jdk_44_method_1_code, exceptionTable := #[], attributes := #[] }
def k25m0 : Method := { name := "<init>", desc := "(Ljava/lang/Object;)V", sig := { parameters := [(.object "java/lang/Object")], returnType := none }, accessFlags := 0, code := some k25c0 }
def k25c1 : Code := { maxStack := 2, maxLocals := 3, code := jdk_44_method_2_code, exceptionTable := #[], attributes := #[] }
def k25m1 : Method := { name := "<init>", desc := "(Ljava/lang/Object;Ljava/lang/Object;)V", sig := { parameters := [(.object "java/lang/Object"), (.object "java/lang/Object")], returnType := none }, accessFlags := 0, code := some k25c1 }
def k25c2 : Code := { maxStack := 2, maxLocals := 2, code := jdk_44_method_5_code, exceptionTable := #[], attributes := #[] }
def k25m2 : Method := { name := "get", desc := "(I)Ljava/lang/Object;", sig := { parameters := [.int], returnType := some (.object "java/lang/Object") }, accessFlags := 1, code := some k25c2 }
/-- java/util/ImmutableCollections$List12 -/
def k25 : Class := { plain "java/util/ImmutableCollections$List12" (some 24) with
  accessFlags := 48
  interfaces := #[10]
  cf := some (fileOf pool25 14 #[.nestHost 20] #[{ accessFlags := 0, nameIndex := 5, descriptorIndex := 76, attributes := #[] }, { accessFlags := 0, nameIndex := 5, descriptorIndex := 85, attributes := #[] }, { accessFlags := 1, nameIndex := 90, descriptorIndex := 91, attributes := #[] }] 48 2 #[70] #[{ accessFlags := 18, nameIndex := 17, descriptorIndex := 18, attributes := #[] }, { accessFlags := 18, nameIndex := 26, descriptorIndex := 18, attributes := #[] }])
  fields := #[{ name := "e0", type := (.object "java/lang/Object"), accessFlags := 18, slot := 0, constantValue := 0 }, { name := "e1", type := (.object "java/lang/Object"), accessFlags := 18, slot := 1, constantValue := 0 }]
  methods := #[k25m0, k25m1, k25m2]
  instanceTypes := #[(.object "java/lang/Object"), (.object "java/lang/Object")]
  staticTypes := #[]
  resolved := Array.replicate 125 none
  statics := none }

def pool26 : Array CpInfo := pool [(1, .methodref 2 3), (0, .class_ 4), (0, .nameAndType 5 6), (0, u "java/util/ImmutableCollections$AbstractImmutableList"), (0, u "<init>"), (0, u "()V"), (0, .fieldref 8 9), (0, .class_ 10), (0, .nameAndType 11 12), (0, u "java/util/ImmutableCollections$ListN"), (0, u "elements"), (0, u "[Ljava/lang/Object;"), (0, .fieldref 8 14), (0, .nameAndType 15 16), (0, u "allowNulls"), (0, u "Z"), (42, .class_ 60), (0, u "java/io/Serializable"), (4, u "([Ljava/lang/Object;Z)V"), (13, u "get"), (0, u "(I)Ljava/lang/Object;"), (33, .class_ 115), (0, u "java/util/ImmutableCollections")] 3

def k26c0 : Code := { maxStack := 2, maxLocals := 3, code := jdk_45_method_1_code, exceptionTable := #[], attributes := #[] }
def k26m0 : Method := { name := "<init>", desc := "([Ljava/lang/Object;Z)V", sig := { parameters := [(.array (.object "java/lang/Object")), .boolean], returnType := none }, accessFlags := 2, code := some k26c0 }
def k26c1 : Code := { maxStack := 2, maxLocals := 2, code := jdk_45_method_4_code, exceptionTable := #[], attributes := #[] }
def k26m1 : Method := { name := "get", desc := "(I)Ljava/lang/Object;", sig := { parameters := [.int], returnType := some (.object "java/lang/Object") }, accessFlags := 1, code := some k26c1 }
/-- java/util/ImmutableCollections$ListN -/
def k26 : Class := { plain "java/util/ImmutableCollections$ListN" (some 24) with
  accessFlags := 48
  interfaces := #[10]
  cf := some (fileOf pool26 8 #[.nestHost 114] #[{ accessFlags := 2, nameIndex := 5, descriptorIndex := 65, attributes := #[] }, { accessFlags := 1, nameIndex := 79, descriptorIndex := 80, attributes := #[] }] 48 2 #[59] #[{ accessFlags := 18, nameIndex := 11, descriptorIndex := 12, attributes := #[] }, { accessFlags := 18, nameIndex := 15, descriptorIndex := 16, attributes := #[] }])
  fields := #[{ name := "elements", type := (.array (.object "java/lang/Object")), accessFlags := 18, slot := 0, constantValue := 0 }, { name := "allowNulls", type := .boolean, accessFlags := 18, slot := 1, constantValue := 0 }]
  methods := #[k26m0, k26m1]
  instanceTypes := #[(.array (.object "java/lang/Object")), .boolean]
  staticTypes := #[]
  resolved := Array.replicate 119 none
  statics := none }

def pool27 : Array CpInfo := pool [(2, .class_ 4), (1, u "java/lang/Object"), (0, u "<init>"), (0, u "()V"), (7, .class_ 16), (1, u "java/util/Arrays"), (57, .class_ 76), (1, u "java/util/Arrays$NaturalOrder"), (9, .methodref 2 87), (0, .nameAndType 88 89), (0, u "getClass"), (0, u "()Ljava/lang/Class;"), (20, .class_ 111), (0, u "[Ljava/lang/Object;"), (1, .class_ 115), (1, u "java/util/Arrays$LegacyMergeSort"), (1, u "Z"), (32, .methodref 151 152), (0, .class_ 153), (0, .nameAndType 154 155), (0, u "java/lang/System"), (0, u "arraycopy"), (0, u "(Ljava/lang/Object;ILjava/lang/Object;II)V"), (144, .methodref 14 301), (0, .nameAndType 302 303), (0, u "copyOf"), (0, u "([Ljava/lang/Object;ILjava/lang/Class;)[Ljava/lang/Object;"), (0, .methodref 305 306), (0, .class_ 307), (0, .nameAndType 308 309), (0, u "java/lang/Math"), (0, u "min"), (0, u "(II)I"), (65, .class_ 376), (0, u "java/util/Arrays$ArrayList"), (68, u "$assertionsDisabled"), (269, u "MIN_ARRAY_SORT_GRAN"), (0, u "I"), (2, u "INSERTIONSORT_THRESHOLD"), (140, u "([Ljava/lang/Object;I)[Ljava/lang/Object;"), (114, .class_ 976), (0, u "java/util/Arrays$ArrayItr")] 52

def k27m0 : Method := { name := "<init>", desc := "()V", sig := { parameters := [], returnType := none }, accessFlags := 2, code := none }
def k27c1 : Code := { maxStack := 3, maxLocals := 2, code := jdk_65_method_119_code, exceptionTable := #[], attributes := #[] }
def k27m1 : Method := { name := "copyOf", desc := "([Ljava/lang/Object;I)[Ljava/lang/Object;", sig := { parameters := [(.array (.object "java/lang/Object")), .int], returnType := some (.array (.object "java/lang/Object")) }, accessFlags := 9, code := some k27c1 }
def k27c2 : Code := { maxStack := 6, maxLocals := 4, code := jdk_65_method_120_code, exceptionTable := #[], attributes := #[] }
def k27m2 : Method := { name := "copyOf", desc := "([Ljava/lang/Object;ILjava/lang/Class;)[Ljava/lang/Object;", sig := { parameters := [(.array (.object "java/lang/Object")), .int, (.object "java/lang/Class")], returnType := some (.array (.object "java/lang/Object")) }, accessFlags := 9, code := some k27c2 }
/-- java/util/Arrays -/
def k27 : Class := { plain "java/util/Arrays" (some 0) with
  accessFlags := 49
  interfaces := #[]
  cf := some (fileOf pool27 14 #[.nestMembers #[975, 375, 113, 74]] #[{ accessFlags := 2, nameIndex := 5, descriptorIndex := 6, attributes := #[] }, { accessFlags := 9, nameIndex := 302, descriptorIndex := 860, attributes := #[] }, { accessFlags := 9, nameIndex := 302, descriptorIndex := 303, attributes := #[] }] 49 2 #[] #[{ accessFlags := 26, nameIndex := 715, descriptorIndex := 716, attributes := #[] }, { accessFlags := 26, nameIndex := 719, descriptorIndex := 716, attributes := #[] }, { accessFlags := 4120, nameIndex := 445, descriptorIndex := 117, attributes := #[] }])
  fields := #[{ name := "MIN_ARRAY_SORT_GRAN", type := .int, accessFlags := 26, slot := 0, constantValue := 0 }, { name := "INSERTIONSORT_THRESHOLD", type := .int, accessFlags := 26, slot := 1, constantValue := 0 }, { name := "$assertionsDisabled", type := .boolean, accessFlags := 4120, slot := 2, constantValue := 0 }]
  methods := #[k27m0, k27m1, k27m2]
  instanceTypes := #[]
  staticTypes := #[.int, .int, .boolean]
  resolved := Array.replicate 1029 none
  statics := none }

def pool28 : Array CpInfo := pool [(2, .class_ 4), (1, u "java/lang/Object"), (0, u "<init>"), (0, u "()V"), (1, .class_ 10), (1, u "java/lang/System"), (0, u "allowSecurityManager"), (0, u "I"), (16, u "cons"), (0, u "Ljava/io/Console;"), (77, .class_ 110), (1, u "java/lang/System$CallersHolder"), (43, u "initialErrStream"), (0, u "Ljava/io/PrintStream;"), (19, u "security"), (0, u "Ljava/lang/SecurityManager;"), (31, .class_ 209), (0, u "java/lang/System$1"), (7, u "props"), (0, u "Ljava/util/Properties;"), (2, u "lineSeparator"), (0, u "Ljava/lang/String;"), (96, .class_ 321), (1, u "java/lang/System$LoggerFinder"), (5, .class_ 328), (0, u "java/lang/System$Logger"), (67, u "err"), (2, u "out"), (91, u "notSupportedJnuEncoding"), (15, u "in"), (17, u "initialIn"), (0, u "Ljava/io/InputStream;"), (35, u "bootLayer"), (0, u "Ljava/lang/ModuleLayer;"), (99, .class_ 664), (0, u "java/lang/System$2"), (9, u "NEVER"), (2, u "MAYBE"), (49, u "arraycopy"), (0, u "(Ljava/lang/Object;ILjava/lang/Object;II)V"), (72, .class_ 802), (0, u "java/lang/System$Logger$Level")] 31

def k28m0 : Method := { name := "<init>", desc := "()V", sig := { parameters := [], returnType := none }, accessFlags := 2, code := none }
def k28m1 : Method := { name := "arraycopy", desc := "(Ljava/lang/Object;ILjava/lang/Object;II)V", sig := { parameters := [(.object "java/lang/Object"), .int, (.object "java/lang/Object"), .int, .int], returnType := none }, accessFlags := 265, code := none }
/-- java/lang/System -/
def k28 : Class := { plain "java/lang/System" (some 0) with
  accessFlags := 49
  interfaces := #[]
  cf := some (fileOf pool28 8 #[.nestMembers #[319, 327, 801, 108, 663, 208]] #[{ accessFlags := 2, nameIndex := 5, descriptorIndex := 6, attributes := #[] }, { accessFlags := 265, nameIndex := 727, descriptorIndex := 728, attributes := #[] }] 49 2 #[] #[{ accessFlags := 25, nameIndex := 507, descriptorIndex := 526, attributes := #[] }, { accessFlags := 25, nameIndex := 399, descriptorIndex := 155, attributes := #[] }, { accessFlags := 25, nameIndex := 396, descriptorIndex := 155, attributes := #[] }, { accessFlags := 10, nameIndex := 525, descriptorIndex := 526, attributes := #[] }, { accessFlags := 26, nameIndex := 674, descriptorIndex := 12, attributes := #[] }, { accessFlags := 26, nameIndex := 677, descriptorIndex := 12, attributes := #[] }, { accessFlags := 10, nameIndex := 11, descriptorIndex := 12, attributes := #[] }, { accessFlags := 74, nameIndex := 175, descriptorIndex := 176, attributes := #[] }, { accessFlags := 10, nameIndex := 491, descriptorIndex := 222, attributes := #[] }, { accessFlags := 74, nameIndex := 29, descriptorIndex := 30, attributes := #[] }, { accessFlags := 74, nameIndex := 154, descriptorIndex := 155, attributes := #[] }, { accessFlags := 10, nameIndex := 217, descriptorIndex := 218, attributes := #[] }, { accessFlags := 10, nameIndex := 221, descriptorIndex := 222, attributes := #[] }, { accessFlags := 8, nameIndex := 562, descriptorIndex := 563, attributes := #[] }])
  fields := #[{ name := "in", type := (.object "java/io/InputStream"), accessFlags := 25, slot := 0, constantValue := 0 }, { name := "out", type := (.object "java/io/PrintStream"), accessFlags := 25, slot := 1, constantValue := 0 }, { name := "err", type := (.object "java/io/PrintStream"), accessFlags := 25, slot := 2, constantValue := 0 }, { name := "initialIn", type := (.object "java/io/InputStream"), accessFlags := 10, slot := 3, constantValue := 0 }, { name := "NEVER", type := .int, accessFlags := 26, slot := 4, constantValue := 0 }, { name := "MAYBE", type := .int, accessFlags := 26, slot := 5, constantValue := 0 }, { name := "allowSecurityManager", type := .int, accessFlags := 10, slot := 6, constantValue := 0 }, { name := "security", type := (.object "java/lang/SecurityManager"), accessFlags := 74, slot := 7, constantValue := 0 }, { name := "notSupportedJnuEncoding", type := (.object "java/lang/String"), accessFlags := 10, slot := 8, constantValue := 0 }, { name := "cons", type := (.object "java/io/Console"), accessFlags := 74, slot := 9, constantValue := 0 }, { name := "initialErrStream", type := (.object "java/io/PrintStream"), accessFlags := 74, slot := 10, constantValue := 0 }, { name := "props", type := (.object "java/util/Properties"), accessFlags := 10, slot := 11, constantValue := 0 }, { name := "lineSeparator", type := (.object "java/lang/String"), accessFlags := 10, slot := 12, constantValue := 0 }, { name := "bootLayer", type := (.object "java/lang/ModuleLayer"), accessFlags := 8, slot := 13, constantValue := 0 }]
  methods := #[k28m0, k28m1]
  instanceTypes := #[]
  staticTypes := #[(.object "java/io/InputStream"), (.object "java/io/PrintStream"), (.object "java/io/PrintStream"), (.object "java/io/InputStream"), .int, .int, .int, (.object "java/lang/SecurityManager"), (.object "java/lang/String"), (.object "java/io/Console"), (.object "java/io/PrintStream"), (.object "java/util/Properties"), (.object "java/lang/String"), (.object "java/lang/ModuleLayer")]
  resolved := Array.replicate 834 none
  statics := none }

def pool29 : Array CpInfo := pool [(2, .class_ 4), (1, u "java/lang/Object"), (0, u "<init>"), (0, u "()V"), (35, .class_ 44), (1, u "java/util/Objects"), (0, u "requireNonNull"), (0, u "(Ljava/lang/Object;)Ljava/lang/Object;")] 137

def k29m0 : Method := { name := "<init>", desc := "()V", sig := { parameters := [], returnType := none }, accessFlags := 2, code := none }
def k29c1 : Code := { maxStack := 2, maxLocals := 1, code := jdk_31_method_10_code, exceptionTable := #[], attributes := #[] }
def k29m1 : Method := { name := "requireNonNull", desc := "(Ljava/lang/Object;)Ljava/lang/Object;", sig := { parameters := [(.object "java/lang/Object")], returnType := some (.object "java/lang/Object") }, accessFlags := 9, code := some k29c1 }
/-- java/util/Objects -/
def k29 : Class := { plain "java/util/Objects" (some 0) with
  accessFlags := 49
  interfaces := #[]
  cf := some (fileOf pool29 42 #[] #[{ accessFlags := 2, nameIndex := 5, descriptorIndex := 6, attributes := #[] }, { accessFlags := 9, nameIndex := 45, descriptorIndex := 46, attributes := #[] }] 49 2 #[] #[])
  fields := #[]
  methods := #[k29m0, k29m1]
  instanceTypes := #[]
  staticTypes := #[]
  resolved := Array.replicate 184 none
  statics := none }

def pool30 : Array CpInfo := pool [(1, u "java/lang/Class"), (0, .class_ 1), (0, u "java/lang/Object"), (0, .class_ 3)] 3

/-- java/lang/Class -/
def k30 : Class := { plain "java/lang/Class" (some 0) with
  accessFlags := 49
  interfaces := #[]
  cf := some (fileOf pool30 2 #[] #[] 49 4 #[] #[])
  fields := #[]
  methods := #[]
  instanceTypes := #[]
  staticTypes := #[]
  resolved := Array.replicate 8 none
  statics := none }

/-- the primitive byte -/
def k31 : Class := { plain "byte" none with kind := .primitive 'B', accessFlags := 0x411 }
/-- [B -/
def k32 : Class := { plain "[B" (some 0) with kind := .array 31 .byte, interfaces := #[9, 10], accessFlags := 1041 }

/-- the primitive int -/
def k33 : Class := { plain "int" none with kind := .primitive 'I', accessFlags := 0x411 }
/-- [I -/
def k34 : Class := { plain "[I" (some 0) with kind := .array 33 .int, interfaces := #[9, 10], accessFlags := 1041 }

/-- [Ljava/lang/Integer; -/
def k35 : Class := { plain "[Ljava/lang/Integer;" (some 0) with kind := .array 16 (.object "java/lang/Integer"), interfaces := #[9, 10], accessFlags := 1041 }

/-- [Ljava/lang/Object; -/
def k36 : Class := { plain "[Ljava/lang/Object;" (some 0) with kind := .array 0 (.object "java/lang/Object"), interfaces := #[9, 10], accessFlags := 1041, mirror := some 3 }

def heap : Heap := #[{ cls := 11, slots := #[.long 0, .int 0, .ref 261, .ref 262], vm := .statics 11 },
  { cls := 17, slots := #[.int 0, .int 127, .ref 4, .null, .int 0], vm := .statics 17 },
  { cls := 22, slots := #[.long 0, .int 0, .null, .ref 263, .ref 264, .null, .null, .null, .int 0, .int 1], vm := .statics 22 },
  { cls := 30, slots := #[], vm := .mirror 36 },
  { cls := 35, slots := #[.ref 5, .ref 6, .ref 7, .ref 8, .ref 9, .ref 10, .ref 11, .ref 12, .ref 13, .ref 14, .ref 15, .ref 16, .ref 17, .ref 18, .ref 19, .ref 20, .ref 21, .ref 22, .ref 23, .ref 24, .ref 25, .ref 26, .ref 27, .ref 28, .ref 29, .ref 30, .ref 31, .ref 32, .ref 33, .ref 34, .ref 35, .ref 36, .ref 37, .ref 38, .ref 39, .ref 40, .ref 41, .ref 42, .ref 43, .ref 44, .ref 45, .ref 46, .ref 47, .ref 48, .ref 49, .ref 50, .ref 51, .ref 52, .ref 53, .ref 54, .ref 55, .ref 56, .ref 57, .ref 58, .ref 59, .ref 60, .ref 61, .ref 62, .ref 63, .ref 64, .ref 65, .ref 66, .ref 67, .ref 68, .ref 69, .ref 70, .ref 71, .ref 72, .ref 73, .ref 74, .ref 75, .ref 76, .ref 77, .ref 78, .ref 79, .ref 80, .ref 81, .ref 82, .ref 83, .ref 84, .ref 85, .ref 86, .ref 87, .ref 88, .ref 89, .ref 90, .ref 91, .ref 92, .ref 93, .ref 94, .ref 95, .ref 96, .ref 97, .ref 98, .ref 99, .ref 100, .ref 101, .ref 102, .ref 103, .ref 104, .ref 105, .ref 106, .ref 107, .ref 108, .ref 109, .ref 110, .ref 111, .ref 112, .ref 113, .ref 114, .ref 115, .ref 116, .ref 117, .ref 118, .ref 119, .ref 120, .ref 121, .ref 122, .ref 123, .ref 124, .ref 125, .ref 126, .ref 127, .ref 128, .ref 129, .ref 130, .ref 131, .ref 132, .ref 133, .ref 134, .ref 135, .ref 136, .ref 137, .ref 138, .ref 139, .ref 140, .ref 141, .ref 142, .ref 143, .ref 144, .ref 145, .ref 146, .ref 147, .ref 148, .ref 149, .ref 150, .ref 151, .ref 152, .ref 153, .ref 154, .ref 155, .ref 156, .ref 157, .ref 158, .ref 159, .ref 160, .ref 161, .ref 162, .ref 163, .ref 164, .ref 165, .ref 166, .ref 167, .ref 168, .ref 169, .ref 170, .ref 171, .ref 172, .ref 173, .ref 174, .ref 175, .ref 176, .ref 177, .ref 178, .ref 179, .ref 180, .ref 181, .ref 182, .ref 183, .ref 184, .ref 185, .ref 186, .ref 187, .ref 188, .ref 189, .ref 190, .ref 191, .ref 192, .ref 193, .ref 194, .ref 195, .ref 196, .ref 197, .ref 198, .ref 199, .ref 200, .ref 201, .ref 202, .ref 203, .ref 204, .ref 205, .ref 206, .ref 207, .ref 208, .ref 209, .ref 210, .ref 211, .ref 212, .ref 213, .ref 214, .ref 215, .ref 216, .ref 217, .ref 218, .ref 219, .ref 220, .ref 221, .ref 222, .ref 223, .ref 224, .ref 225, .ref 226, .ref 227, .ref 228, .ref 229, .ref 230, .ref 231, .ref 232, .ref 233, .ref 234, .ref 235, .ref 236, .ref 237, .ref 238, .ref 239, .ref 240, .ref 241, .ref 242, .ref 243, .ref 244, .ref 245, .ref 246, .ref 247, .ref 248, .ref 249, .ref 250, .ref 251, .ref 252, .ref 253, .ref 254, .ref 255, .ref 256, .ref 257, .ref 258, .ref 259, .ref 260], vm := .none },
  { cls := 16, slots := #[.int (-128)], vm := .none },
  { cls := 16, slots := #[.int (-127)], vm := .none },
  { cls := 16, slots := #[.int (-126)], vm := .none },
  { cls := 16, slots := #[.int (-125)], vm := .none },
  { cls := 16, slots := #[.int (-124)], vm := .none },
  { cls := 16, slots := #[.int (-123)], vm := .none },
  { cls := 16, slots := #[.int (-122)], vm := .none },
  { cls := 16, slots := #[.int (-121)], vm := .none },
  { cls := 16, slots := #[.int (-120)], vm := .none },
  { cls := 16, slots := #[.int (-119)], vm := .none },
  { cls := 16, slots := #[.int (-118)], vm := .none },
  { cls := 16, slots := #[.int (-117)], vm := .none },
  { cls := 16, slots := #[.int (-116)], vm := .none },
  { cls := 16, slots := #[.int (-115)], vm := .none },
  { cls := 16, slots := #[.int (-114)], vm := .none },
  { cls := 16, slots := #[.int (-113)], vm := .none },
  { cls := 16, slots := #[.int (-112)], vm := .none },
  { cls := 16, slots := #[.int (-111)], vm := .none },
  { cls := 16, slots := #[.int (-110)], vm := .none },
  { cls := 16, slots := #[.int (-109)], vm := .none },
  { cls := 16, slots := #[.int (-108)], vm := .none },
  { cls := 16, slots := #[.int (-107)], vm := .none },
  { cls := 16, slots := #[.int (-106)], vm := .none },
  { cls := 16, slots := #[.int (-105)], vm := .none },
  { cls := 16, slots := #[.int (-104)], vm := .none },
  { cls := 16, slots := #[.int (-103)], vm := .none },
  { cls := 16, slots := #[.int (-102)], vm := .none },
  { cls := 16, slots := #[.int (-101)], vm := .none },
  { cls := 16, slots := #[.int (-100)], vm := .none },
  { cls := 16, slots := #[.int (-99)], vm := .none },
  { cls := 16, slots := #[.int (-98)], vm := .none },
  { cls := 16, slots := #[.int (-97)], vm := .none },
  { cls := 16, slots := #[.int (-96)], vm := .none },
  { cls := 16, slots := #[.int (-95)], vm := .none },
  { cls := 16, slots := #[.int (-94)], vm := .none },
  { cls := 16, slots := #[.int (-93)], vm := .none },
  { cls := 16, slots := #[.int (-92)], vm := .none },
  { cls := 16, slots := #[.int (-91)], vm := .none },
  { cls := 16, slots := #[.int (-90)], vm := .none },
  { cls := 16, slots := #[.int (-89)], vm := .none },
  { cls := 16, slots := #[.int (-88)], vm := .none },
  { cls := 16, slots := #[.int (-87)], vm := .none },
  { cls := 16, slots := #[.int (-86)], vm := .none },
  { cls := 16, slots := #[.int (-85)], vm := .none },
  { cls := 16, slots := #[.int (-84)], vm := .none },
  { cls := 16, slots := #[.int (-83)], vm := .none },
  { cls := 16, slots := #[.int (-82)], vm := .none },
  { cls := 16, slots := #[.int (-81)], vm := .none },
  { cls := 16, slots := #[.int (-80)], vm := .none },
  { cls := 16, slots := #[.int (-79)], vm := .none },
  { cls := 16, slots := #[.int (-78)], vm := .none },
  { cls := 16, slots := #[.int (-77)], vm := .none },
  { cls := 16, slots := #[.int (-76)], vm := .none },
  { cls := 16, slots := #[.int (-75)], vm := .none },
  { cls := 16, slots := #[.int (-74)], vm := .none },
  { cls := 16, slots := #[.int (-73)], vm := .none },
  { cls := 16, slots := #[.int (-72)], vm := .none },
  { cls := 16, slots := #[.int (-71)], vm := .none },
  { cls := 16, slots := #[.int (-70)], vm := .none },
  { cls := 16, slots := #[.int (-69)], vm := .none },
  { cls := 16, slots := #[.int (-68)], vm := .none },
  { cls := 16, slots := #[.int (-67)], vm := .none },
  { cls := 16, slots := #[.int (-66)], vm := .none },
  { cls := 16, slots := #[.int (-65)], vm := .none },
  { cls := 16, slots := #[.int (-64)], vm := .none },
  { cls := 16, slots := #[.int (-63)], vm := .none },
  { cls := 16, slots := #[.int (-62)], vm := .none },
  { cls := 16, slots := #[.int (-61)], vm := .none },
  { cls := 16, slots := #[.int (-60)], vm := .none },
  { cls := 16, slots := #[.int (-59)], vm := .none },
  { cls := 16, slots := #[.int (-58)], vm := .none },
  { cls := 16, slots := #[.int (-57)], vm := .none },
  { cls := 16, slots := #[.int (-56)], vm := .none },
  { cls := 16, slots := #[.int (-55)], vm := .none },
  { cls := 16, slots := #[.int (-54)], vm := .none },
  { cls := 16, slots := #[.int (-53)], vm := .none },
  { cls := 16, slots := #[.int (-52)], vm := .none },
  { cls := 16, slots := #[.int (-51)], vm := .none },
  { cls := 16, slots := #[.int (-50)], vm := .none },
  { cls := 16, slots := #[.int (-49)], vm := .none },
  { cls := 16, slots := #[.int (-48)], vm := .none },
  { cls := 16, slots := #[.int (-47)], vm := .none },
  { cls := 16, slots := #[.int (-46)], vm := .none },
  { cls := 16, slots := #[.int (-45)], vm := .none },
  { cls := 16, slots := #[.int (-44)], vm := .none },
  { cls := 16, slots := #[.int (-43)], vm := .none },
  { cls := 16, slots := #[.int (-42)], vm := .none },
  { cls := 16, slots := #[.int (-41)], vm := .none },
  { cls := 16, slots := #[.int (-40)], vm := .none },
  { cls := 16, slots := #[.int (-39)], vm := .none },
  { cls := 16, slots := #[.int (-38)], vm := .none },
  { cls := 16, slots := #[.int (-37)], vm := .none },
  { cls := 16, slots := #[.int (-36)], vm := .none },
  { cls := 16, slots := #[.int (-35)], vm := .none },
  { cls := 16, slots := #[.int (-34)], vm := .none },
  { cls := 16, slots := #[.int (-33)], vm := .none },
  { cls := 16, slots := #[.int (-32)], vm := .none },
  { cls := 16, slots := #[.int (-31)], vm := .none },
  { cls := 16, slots := #[.int (-30)], vm := .none },
  { cls := 16, slots := #[.int (-29)], vm := .none },
  { cls := 16, slots := #[.int (-28)], vm := .none },
  { cls := 16, slots := #[.int (-27)], vm := .none },
  { cls := 16, slots := #[.int (-26)], vm := .none },
  { cls := 16, slots := #[.int (-25)], vm := .none },
  { cls := 16, slots := #[.int (-24)], vm := .none },
  { cls := 16, slots := #[.int (-23)], vm := .none },
  { cls := 16, slots := #[.int (-22)], vm := .none },
  { cls := 16, slots := #[.int (-21)], vm := .none },
  { cls := 16, slots := #[.int (-20)], vm := .none },
  { cls := 16, slots := #[.int (-19)], vm := .none },
  { cls := 16, slots := #[.int (-18)], vm := .none },
  { cls := 16, slots := #[.int (-17)], vm := .none },
  { cls := 16, slots := #[.int (-16)], vm := .none },
  { cls := 16, slots := #[.int (-15)], vm := .none },
  { cls := 16, slots := #[.int (-14)], vm := .none },
  { cls := 16, slots := #[.int (-13)], vm := .none },
  { cls := 16, slots := #[.int (-12)], vm := .none },
  { cls := 16, slots := #[.int (-11)], vm := .none },
  { cls := 16, slots := #[.int (-10)], vm := .none },
  { cls := 16, slots := #[.int (-9)], vm := .none },
  { cls := 16, slots := #[.int (-8)], vm := .none },
  { cls := 16, slots := #[.int (-7)], vm := .none },
  { cls := 16, slots := #[.int (-6)], vm := .none },
  { cls := 16, slots := #[.int (-5)], vm := .none },
  { cls := 16, slots := #[.int (-4)], vm := .none },
  { cls := 16, slots := #[.int (-3)], vm := .none },
  { cls := 16, slots := #[.int (-2)], vm := .none },
  { cls := 16, slots := #[.int (-1)], vm := .none },
  { cls := 16, slots := #[.int 0], vm := .none },
  { cls := 16, slots := #[.int 1], vm := .none },
  { cls := 16, slots := #[.int 2], vm := .none },
  { cls := 16, slots := #[.int 3], vm := .none },
  { cls := 16, slots := #[.int 4], vm := .none },
  { cls := 16, slots := #[.int 5], vm := .none },
  { cls := 16, slots := #[.int 6], vm := .none },
  { cls := 16, slots := #[.int 7], vm := .none },
  { cls := 16, slots := #[.int 8], vm := .none },
  { cls := 16, slots := #[.int 9], vm := .none },
  { cls := 16, slots := #[.int 10], vm := .none },
  { cls := 16, slots := #[.int 11], vm := .none },
  { cls := 16, slots := #[.int 12], vm := .none },
  { cls := 16, slots := #[.int 13], vm := .none },
  { cls := 16, slots := #[.int 14], vm := .none },
  { cls := 16, slots := #[.int 15], vm := .none },
  { cls := 16, slots := #[.int 16], vm := .none },
  { cls := 16, slots := #[.int 17], vm := .none },
  { cls := 16, slots := #[.int 18], vm := .none },
  { cls := 16, slots := #[.int 19], vm := .none },
  { cls := 16, slots := #[.int 20], vm := .none },
  { cls := 16, slots := #[.int 21], vm := .none },
  { cls := 16, slots := #[.int 22], vm := .none },
  { cls := 16, slots := #[.int 23], vm := .none },
  { cls := 16, slots := #[.int 24], vm := .none },
  { cls := 16, slots := #[.int 25], vm := .none },
  { cls := 16, slots := #[.int 26], vm := .none },
  { cls := 16, slots := #[.int 27], vm := .none },
  { cls := 16, slots := #[.int 28], vm := .none },
  { cls := 16, slots := #[.int 29], vm := .none },
  { cls := 16, slots := #[.int 30], vm := .none },
  { cls := 16, slots := #[.int 31], vm := .none },
  { cls := 16, slots := #[.int 32], vm := .none },
  { cls := 16, slots := #[.int 33], vm := .none },
  { cls := 16, slots := #[.int 34], vm := .none },
  { cls := 16, slots := #[.int 35], vm := .none },
  { cls := 16, slots := #[.int 36], vm := .none },
  { cls := 16, slots := #[.int 37], vm := .none },
  { cls := 16, slots := #[.int 38], vm := .none },
  { cls := 16, slots := #[.int 39], vm := .none },
  { cls := 16, slots := #[.int 40], vm := .none },
  { cls := 16, slots := #[.int 41], vm := .none },
  { cls := 16, slots := #[.int 42], vm := .none },
  { cls := 16, slots := #[.int 43], vm := .none },
  { cls := 16, slots := #[.int 44], vm := .none },
  { cls := 16, slots := #[.int 45], vm := .none },
  { cls := 16, slots := #[.int 46], vm := .none },
  { cls := 16, slots := #[.int 47], vm := .none },
  { cls := 16, slots := #[.int 48], vm := .none },
  { cls := 16, slots := #[.int 49], vm := .none },
  { cls := 16, slots := #[.int 50], vm := .none },
  { cls := 16, slots := #[.int 51], vm := .none },
  { cls := 16, slots := #[.int 52], vm := .none },
  { cls := 16, slots := #[.int 53], vm := .none },
  { cls := 16, slots := #[.int 54], vm := .none },
  { cls := 16, slots := #[.int 55], vm := .none },
  { cls := 16, slots := #[.int 56], vm := .none },
  { cls := 16, slots := #[.int 57], vm := .none },
  { cls := 16, slots := #[.int 58], vm := .none },
  { cls := 16, slots := #[.int 59], vm := .none },
  { cls := 16, slots := #[.int 60], vm := .none },
  { cls := 16, slots := #[.int 61], vm := .none },
  { cls := 16, slots := #[.int 62], vm := .none },
  { cls := 16, slots := #[.int 63], vm := .none },
  { cls := 16, slots := #[.int 64], vm := .none },
  { cls := 16, slots := #[.int 65], vm := .none },
  { cls := 16, slots := #[.int 66], vm := .none },
  { cls := 16, slots := #[.int 67], vm := .none },
  { cls := 16, slots := #[.int 68], vm := .none },
  { cls := 16, slots := #[.int 69], vm := .none },
  { cls := 16, slots := #[.int 70], vm := .none },
  { cls := 16, slots := #[.int 71], vm := .none },
  { cls := 16, slots := #[.int 72], vm := .none },
  { cls := 16, slots := #[.int 73], vm := .none },
  { cls := 16, slots := #[.int 74], vm := .none },
  { cls := 16, slots := #[.int 75], vm := .none },
  { cls := 16, slots := #[.int 76], vm := .none },
  { cls := 16, slots := #[.int 77], vm := .none },
  { cls := 16, slots := #[.int 78], vm := .none },
  { cls := 16, slots := #[.int 79], vm := .none },
  { cls := 16, slots := #[.int 80], vm := .none },
  { cls := 16, slots := #[.int 81], vm := .none },
  { cls := 16, slots := #[.int 82], vm := .none },
  { cls := 16, slots := #[.int 83], vm := .none },
  { cls := 16, slots := #[.int 84], vm := .none },
  { cls := 16, slots := #[.int 85], vm := .none },
  { cls := 16, slots := #[.int 86], vm := .none },
  { cls := 16, slots := #[.int 87], vm := .none },
  { cls := 16, slots := #[.int 88], vm := .none },
  { cls := 16, slots := #[.int 89], vm := .none },
  { cls := 16, slots := #[.int 90], vm := .none },
  { cls := 16, slots := #[.int 91], vm := .none },
  { cls := 16, slots := #[.int 92], vm := .none },
  { cls := 16, slots := #[.int 93], vm := .none },
  { cls := 16, slots := #[.int 94], vm := .none },
  { cls := 16, slots := #[.int 95], vm := .none },
  { cls := 16, slots := #[.int 96], vm := .none },
  { cls := 16, slots := #[.int 97], vm := .none },
  { cls := 16, slots := #[.int 98], vm := .none },
  { cls := 16, slots := #[.int 99], vm := .none },
  { cls := 16, slots := #[.int 100], vm := .none },
  { cls := 16, slots := #[.int 101], vm := .none },
  { cls := 16, slots := #[.int 102], vm := .none },
  { cls := 16, slots := #[.int 103], vm := .none },
  { cls := 16, slots := #[.int 104], vm := .none },
  { cls := 16, slots := #[.int 105], vm := .none },
  { cls := 16, slots := #[.int 106], vm := .none },
  { cls := 16, slots := #[.int 107], vm := .none },
  { cls := 16, slots := #[.int 108], vm := .none },
  { cls := 16, slots := #[.int 109], vm := .none },
  { cls := 16, slots := #[.int 110], vm := .none },
  { cls := 16, slots := #[.int 111], vm := .none },
  { cls := 16, slots := #[.int 112], vm := .none },
  { cls := 16, slots := #[.int 113], vm := .none },
  { cls := 16, slots := #[.int 114], vm := .none },
  { cls := 16, slots := #[.int 115], vm := .none },
  { cls := 16, slots := #[.int 116], vm := .none },
  { cls := 16, slots := #[.int 117], vm := .none },
  { cls := 16, slots := #[.int 118], vm := .none },
  { cls := 16, slots := #[.int 119], vm := .none },
  { cls := 16, slots := #[.int 120], vm := .none },
  { cls := 16, slots := #[.int 121], vm := .none },
  { cls := 16, slots := #[.int 122], vm := .none },
  { cls := 16, slots := #[.int 123], vm := .none },
  { cls := 16, slots := #[.int 124], vm := .none },
  { cls := 16, slots := #[.int 125], vm := .none },
  { cls := 16, slots := #[.int 126], vm := .none },
  { cls := 16, slots := #[.int 127], vm := .none },
  { cls := 36, slots := #[], vm := .none },
  { cls := 36, slots := #[], vm := .none },
  { cls := 0, slots := #[], vm := .none },
  { cls := 26, slots := #[.null, .int 0], vm := .none }]
def classes : Array Class := #[k0, k1, k2, k3, k4, k5, k6, k7, k8, k9, k10, k11, k12, k13, k14, k15, k16, k17, k18, k19, k20, k21, k22, k23, k24, k25, k26, k27, k28, k29, k30, k31, k32, k33, k34, k35, k36]
def interned : List (Array UInt16 × Addr) := []
def slotsUsed : Nat := 533
def theMethod : MethodId := ⟨1, 1⟩
def args0 : Array Value := #[.int 5, .int 3, .int 4, .int 1, .int 1, .int 1]
def aboutOver (below : List Frame) : State where
  vm := { classes := classes, interned := interned.toArray }
  heap := heap
  slotsUsed := slotsUsed
  threads := #[{ frames := .invoking theMethod args0 :: below }]
def below0 : List Frame := [.native { method := ⟨0, 0⟩, args := #[] }]
def about1 : State := aboutOver below0
def p0 : Program := .bare "" "" ""
def e0 : Env := launch0.env 0 0 0
theorem w_frames : about1.frames = Frame.invoking theMethod args0 :: below0 := rfl
set_option maxRecDepth 65536 in
theorem w_args : argsFit about1.vm theMethod args0 = true := by decide +kernel
set_option maxRecDepth 65536 in
theorem w_heap : heapFits about1 = true := by decide +kernel
set_option maxRecDepth 65536 in
theorem w_runnable : about1.curStatus? = some .runnable := by decide +kernel
set_option maxRecDepth 65536 in
theorem w_alone : about1.alone = true := by decide +kernel
set_option maxRecDepth 65536 in
theorem w_named : about1.methodNamed? x = some theMethod := by decide +kernel
set_option maxRecDepth 65536 in
theorem w_hears : about1.hears theMethod below0 = true := by decide +kernel
set_option maxRecDepth 65536 in
theorem w_ripe : about1.ripe theMethod args0 below0 = true := by decide +kernel
theorem w_running : about1.status = .running := rfl
set_option maxRecDepth 65536 in
theorem w_room : about1.hasRoom e0.platform room_1 = true :=
  launch0.hasRoom_least _ room_1 (by decide +kernel) (by decide +kernel) (by decide +kernel) (by decide +kernel) (by decide +kernel) (by decide +kernel)
theorem allAtoms_all (ts : List Jvm.Cond) (a : Array Jvm.Value) (st : Jvm.State) : (allAtoms ts).before a st = ts.all (fun c => c.before a st) := by
  induction ts with
  | nil => rfl
  | cons c t ih =>
    show (Jvm.Cond.and c (allAtoms t)).before a st = _
    rw [Jvm.Cond.before_and, ih, List.all_cons]
def words1 : List Jvm.Cond := Jvm.Cond.code x code maxLocals ret :: tables_1
/-- a 'code' word, met by the world's own term for the bytes: nothing is compared byte by byte -/
theorem code_word {y : MethodName} {bytes : ByteArray} {mx : Nat} {rt : Option FieldType} {a : Array Value} {s : State} {m : MethodId} {meth : Method} {c : Code} (h1 : s.methodNamed? y = some m) (h2 : s.vm.method? m = some meth) (h3 : meth.code = some c) (h4 : c.code = bytes)
    (h5 : (c.maxLocals == mx && c.exceptionTable.isEmpty && decide (c.maxStack ≤ mostOperands) && decide (meth.sig.returnType = rt) && !meth.locks && decide (parseMethodDescriptor y.desc = some meth.sig)) = true) : (Jvm.Cond.code y bytes mx rt).before a s = true := by
  simp only [Bool.and_eq_true, beq_iff_eq, Bool.not_eq_true', decide_eq_true_eq] at h5
  obtain ⟨⟨⟨⟨⟨g1, g2⟩, g3⟩, g4⟩, g5⟩, g6⟩ := h5
  simp [Cond.before, Cond.holds, Cond.value, h1, h2, h3, h4, g1, g2, g3, g4, g5, g6]
def isCode : Jvm.Cond → Bool
  | .code _ _ _ _ => true
  | _ => false
theorem all_split {L : List Jvm.Cond} {P : Jvm.Cond → Bool} (h1 : L.all (fun c => isCode c || P c) = true) (h2 : ∀ c ∈ L.filter isCode, P c = true) : L.all P = true := by
  refine List.all_eq_true.mpr fun c hc => ?_
  have h := List.all_eq_true.mp h1 c hc
  rcases Bool.eq_false_or_eq_true (isCode c) with hi | hi
  · exact h2 c (List.mem_filter.mpr ⟨hc, hi⟩)
  · simpa [hi] using h
set_option maxRecDepth 65536 in
theorem w_c0 : (Jvm.Cond.code x code maxLocals ret).before args0 about1 = true := code_word (m := ⟨1, 1⟩) (meth := k1m1) (c := k1c1) (by decide +kernel) rfl rfl rfl (by decide +kernel)
set_option maxRecDepth 65536 in
theorem w_c1 : (Jvm.Cond.code ({ cls := "java/util/ArrayList", name := "<init>", desc := "()V" } : Jvm.MethodName) jdk_38_method_2_code (1 : Nat) (Option.none : Option Jvm.ClassFile.FieldType)).before args0 about1 = true := code_word (m := ⟨11, 0⟩) (meth := k11m0) (c := k11c0) (by decide +kernel) rfl rfl rfl (by decide +kernel)
set_option maxRecDepth 65536 in
theorem w_c2 : (Jvm.Cond.code ({ cls := "java/util/AbstractList", name := "<init>", desc := "()V" } : Jvm.MethodName) jdk_39_method_1_code (1 : Nat) (Option.none : Option Jvm.ClassFile.FieldType)).before args0 about1 = true := code_word (m := ⟨7, 0⟩) (meth := k7m0) (c := k7c0) (by decide +kernel) rfl rfl rfl (by decide +kernel)
set_option maxRecDepth 65536 in
theorem w_c3 : (Jvm.Cond.code ({ cls := "java/util/AbstractCollection", name := "<init>", desc := "()V" } : Jvm.MethodName) jdk_22_method_1_code (1 : Nat) (Option.none : Option Jvm.ClassFile.FieldType)).before args0 about1 = true := code_word (m := ⟨4, 0⟩) (meth := k4m0) (c := k4c0) (by decide +kernel) rfl rfl rfl (by decide +kernel)
set_option maxRecDepth 65536 in
theorem w_c4 : (Jvm.Cond.code ({ cls := "java/lang/Object", name := "<init>", desc := "()V" } : Jvm.MethodName) object_method_1_code (1 : Nat) (Option.none : Option Jvm.ClassFile.FieldType)).before args0 about1 = true := code_word (m := ⟨0, 0⟩) (meth := k0m0) (c := k0c0) (by decide +kernel) rfl rfl rfl (by decide +kernel)
set_option maxRecDepth 65536 in
theorem w_c5 : (Jvm.Cond.code ({ cls := "java/lang/Integer", name := "valueOf", desc := "(I)Ljava/lang/Integer;" } : Jvm.MethodName) jdk_33_method_22_code (1 : Nat) (Option.some (Jvm.ClassFile.FieldType.object "java/lang/Integer"))).before args0 about1 = true := code_word (m := ⟨16, 0⟩) (meth := k16m0) (c := k16c0) (by decide +kernel) rfl rfl rfl (by decide +kernel)
set_option maxRecDepth 65536 in
theorem w_c6 : (Jvm.Cond.code ({ cls := "java/util/ArrayList", name := "add", desc := "(Ljava/lang/Object;)Z" } : Jvm.MethodName) jdk_38_method_25_code (2 : Nat) (Option.some Jvm.ClassFile.FieldType.boolean)).before args0 about1 = true := code_word (m := ⟨11, 7⟩) (meth := k11m7) (c := k11c7) (by decide +kernel) rfl rfl rfl (by decide +kernel)
set_option maxRecDepth 65536 in
theorem w_c7 : (Jvm.Cond.code ({ cls := "java/util/ArrayList", name := "add", desc := "(Ljava/lang/Object;[Ljava/lang/Object;I)V" } : Jvm.MethodName) jdk_38_method_24_code (4 : Nat) (Option.none : Option Jvm.ClassFile.FieldType)).before args0 about1 = true := code_word (m := ⟨11, 6⟩) (meth := k11m6) (c := k11c6) (by decide +kernel) rfl rfl rfl (by decide +kernel)
set_option maxRecDepth 65536 in
theorem w_c8 : (Jvm.Cond.code ({ cls := "java/util/ArrayList", name := "grow", desc := "()[Ljava/lang/Object;" } : Jvm.MethodName) jdk_38_method_7_code (1 : Nat) (Option.some (Jvm.ClassFile.FieldType.array (Jvm.ClassFile.FieldType.object "java/lang/Object")))).before args0 about1 = true := code_word (m := ⟨11, 2⟩) (meth := k11m2) (c := k11c2) (by decide +kernel) rfl rfl rfl (by decide +kernel)
set_option maxRecDepth 65536 in
theorem w_c9 : (Jvm.Cond.code ({ cls := "java/util/ArrayList", name := "grow", desc := "(I)[Ljava/lang/Object;" } : Jvm.MethodName) jdk_38_method_6_code (4 : Nat) (Option.some (Jvm.ClassFile.FieldType.array (Jvm.ClassFile.FieldType.object "java/lang/Object")))).before args0 about1 = true := code_word (m := ⟨11, 1⟩) (meth := k11m1) (c := k11c1) (by decide +kernel) rfl rfl rfl (by decide +kernel)
set_option maxRecDepth 65536 in
theorem w_c10 : (Jvm.Cond.code ({ cls := "java/lang/Math", name := "max", desc := "(II)I" } : Jvm.MethodName) jdk_29_method_65_code (2 : Nat) (Option.some Jvm.ClassFile.FieldType.int)).before args0 about1 = true := code_word (m := ⟨18, 1⟩) (meth := k18m1) (c := k18c1) (by decide +kernel) rfl rfl rfl (by decide +kernel)
set_option maxRecDepth 65536 in
theorem w_c11 : (Jvm.Cond.code ({ cls := "com/example/evenhand/evenhand/Bounds", name := "<init>", desc := "(Ljava/util/List;Ljava/util/List;)V" } : Jvm.MethodName) prog_3_method_1_code (3 : Nat) (Option.none : Option Jvm.ClassFile.FieldType)).before args0 about1 = true := code_word (m := ⟨19, 0⟩) (meth := k19m0) (c := k19c0) (by decide +kernel) rfl rfl rfl (by decide +kernel)
set_option maxRecDepth 65536 in
theorem w_c12 : (Jvm.Cond.code ({ cls := "java/util/ArrayList", name := "size", desc := "()I" } : Jvm.MethodName) jdk_38_method_8_code (1 : Nat) (Option.some Jvm.ClassFile.FieldType.int)).before args0 about1 = true := code_word (m := ⟨11, 3⟩) (meth := k11m3) (c := k11c3) (by decide +kernel) rfl rfl rfl (by decide +kernel)
set_option maxRecDepth 65536 in
theorem w_c13 : (Jvm.Cond.code ({ cls := "com/example/evenhand/evenhand/Bounds", name := "checkNonNegative", desc := "(Ljava/util/List;)Ljava/util/List;" } : Jvm.MethodName) prog_3_method_9_code (3 : Nat) (Option.some (Jvm.ClassFile.FieldType.object "java/util/List"))).before args0 about1 = true := code_word (m := ⟨19, 2⟩) (meth := k19m2) (c := k19c2) (by decide +kernel) rfl rfl rfl (by decide +kernel)
set_option maxRecDepth 65536 in
theorem w_c14 : (Jvm.Cond.code ({ cls := "java/util/ArrayList", name := "iterator", desc := "()Ljava/util/Iterator;" } : Jvm.MethodName) jdk_38_method_55_code (1 : Nat) (Option.some (Jvm.ClassFile.FieldType.object "java/util/Iterator"))).before args0 about1 = true := code_word (m := ⟨11, 8⟩) (meth := k11m8) (c := k11c8) (by decide +kernel) rfl rfl rfl (by decide +kernel)
set_option maxRecDepth 65536 in
theorem w_c15 : (Jvm.Cond.code ({ cls := "java/util/ArrayList$Itr", name := "<init>", desc := "(Ljava/util/ArrayList;)V" } : Jvm.MethodName) jdk_49_method_1_code (2 : Nat) (Option.none : Option Jvm.ClassFile.FieldType)).before args0 about1 = true := code_word (m := ⟨21, 0⟩) (meth := k21m0) (c := k21c0) (by decide +kernel) rfl rfl rfl (by decide +kernel)
set_option maxRecDepth 65536 in
theorem w_c16 : (Jvm.Cond.code ({ cls := "java/util/ArrayList$Itr", name := "hasNext", desc := "()Z" } : Jvm.MethodName) jdk_49_method_2_code (1 : Nat) (Option.some Jvm.ClassFile.FieldType.boolean)).before args0 about1 = true := code_word (m := ⟨21, 1⟩) (meth := k21m1) (c := k21c1) (by decide +kernel) rfl rfl rfl (by decide +kernel)
set_option maxRecDepth 65536 in
theorem w_c17 : (Jvm.Cond.code ({ cls := "java/util/ArrayList$Itr", name := "next", desc := "()Ljava/lang/Object;" } : Jvm.MethodName) jdk_49_method_3_code (3 : Nat) (Option.some (Jvm.ClassFile.FieldType.object "java/lang/Object"))).before args0 about1 = true := code_word (m := ⟨21, 2⟩) (meth := k21m2) (c := k21c2) (by decide +kernel) rfl rfl rfl (by decide +kernel)
set_option maxRecDepth 65536 in
theorem w_c18 : (Jvm.Cond.code ({ cls := "java/util/ArrayList$Itr", name := "checkForComodification", desc := "()V" } : Jvm.MethodName) jdk_49_method_6_code (1 : Nat) (Option.none : Option Jvm.ClassFile.FieldType)).before args0 about1 = true := code_word (m := ⟨21, 3⟩) (meth := k21m3) (c := k21c3) (by decide +kernel) rfl rfl rfl (by decide +kernel)
set_option maxRecDepth 65536 in
theorem w_c19 : (Jvm.Cond.code ({ cls := "java/lang/Integer", name := "intValue", desc := "()I" } : Jvm.MethodName) jdk_33_method_27_code (1 : Nat) (Option.some Jvm.ClassFile.FieldType.int)).before args0 about1 = true := code_word (m := ⟨16, 2⟩) (meth := k16m2) (c := k16c2) (by decide +kernel) rfl rfl rfl (by decide +kernel)
set_option maxRecDepth 65536 in
theorem w_c20 : (Jvm.Cond.code ({ cls := "java/util/List", name := "copyOf", desc := "(Ljava/util/Collection;)Ljava/util/List;" } : Jvm.MethodName) jdk_40_method_48_code (1 : Nat) (Option.some (Jvm.ClassFile.FieldType.object "java/util/List"))).before args0 about1 = true := code_word (m := ⟨6, 5⟩) (meth := k6m5) (c := k6c5) (by decide +kernel) rfl rfl rfl (by decide +kernel)
set_option maxRecDepth 65536 in
theorem w_c21 : (Jvm.Cond.code ({ cls := "java/util/ImmutableCollections", name := "listCopy", desc := "(Ljava/util/Collection;)Ljava/util/List;" } : Jvm.MethodName) jdk_56_method_3_code (2 : Nat) (Option.some (Jvm.ClassFile.FieldType.object "java/util/List"))).before args0 about1 = true := code_word (m := ⟨22, 1⟩) (meth := k22m1) (c := k22c1) (by decide +kernel) rfl rfl rfl (by decide +kernel)
set_option maxRecDepth 65536 in
theorem w_c22 : (Jvm.Cond.code ({ cls := "java/util/ArrayList", name := "isEmpty", desc := "()Z" } : Jvm.MethodName) jdk_38_method_9_code (1 : Nat) (Option.some Jvm.ClassFile.FieldType.boolean)).before args0 about1 = true := code_word (m := ⟨11, 4⟩) (meth := k11m4) (c := k11c4) (by decide +kernel) rfl rfl rfl (by decide +kernel)
set_option maxRecDepth 65536 in
theorem w_c23 : (Jvm.Cond.code ({ cls := "java/util/ArrayList", name := "toArray", desc := "()[Ljava/lang/Object;" } : Jvm.MethodName) jdk_38_method_16_code (1 : Nat) (Option.some (Jvm.ClassFile.FieldType.array (Jvm.ClassFile.FieldType.object "java/lang/Object")))).before args0 about1 = true := code_word (m := ⟨11, 5⟩) (meth := k11m5) (c := k11c5) (by decide +kernel) rfl rfl rfl (by decide +kernel)
set_option maxRecDepth 65536 in
theorem w_c24 : (Jvm.Cond.code ({ cls := "java/util/Arrays", name := "copyOf", desc := "([Ljava/lang/Object;I)[Ljava/lang/Object;" } : Jvm.MethodName) jdk_65_method_119_code (2 : Nat) (Option.some (Jvm.ClassFile.FieldType.array (Jvm.ClassFile.FieldType.object "java/lang/Object")))).before args0 about1 = true := code_word (m := ⟨27, 1⟩) (meth := k27m1) (c := k27c1) (by decide +kernel) rfl rfl rfl (by decide +kernel)
set_option maxRecDepth 65536 in
theorem w_c25 : (Jvm.Cond.code ({ cls := "java/util/Arrays", name := "copyOf", desc := "([Ljava/lang/Object;ILjava/lang/Class;)[Ljava/lang/Object;" } : Jvm.MethodName) jdk_65_method_120_code (4 : Nat) (Option.some (Jvm.ClassFile.FieldType.array (Jvm.ClassFile.FieldType.object "java/lang/Object")))).before args0 about1 = true := code_word (m := ⟨27, 2⟩) (meth := k27m2) (c := k27c2) (by decide +kernel) rfl rfl rfl (by decide +kernel)
set_option maxRecDepth 65536 in
theorem w_c26 : (Jvm.Cond.code ({ cls := "java/lang/Math", name := "min", desc := "(II)I" } : Jvm.MethodName) jdk_29_method_69_code (2 : Nat) (Option.some Jvm.ClassFile.FieldType.int)).before args0 about1 = true := code_word (m := ⟨18, 2⟩) (meth := k18m2) (c := k18c2) (by decide +kernel) rfl rfl rfl (by decide +kernel)
set_option maxRecDepth 65536 in
theorem w_c27 : (Jvm.Cond.code ({ cls := "java/util/List", name := "of", desc := "([Ljava/lang/Object;)Ljava/util/List;" } : Jvm.MethodName) jdk_40_method_47_code (2 : Nat) (Option.some (Jvm.ClassFile.FieldType.object "java/util/List"))).before args0 about1 = true := code_word (m := ⟨6, 4⟩) (meth := k6m4) (c := k6c4) (by decide +kernel) rfl rfl rfl (by decide +kernel)
set_option maxRecDepth 65536 in
theorem w_c28 : (Jvm.Cond.code ({ cls := "java/util/ImmutableCollections$List12", name := "<init>", desc := "(Ljava/lang/Object;)V" } : Jvm.MethodName) jdk_44_method_1_code (2 : Nat) (Option.none : Option Jvm.ClassFile.FieldType)).before args0 about1 = true := code_word (m := ⟨25, 0⟩) (meth := k25m0) (c := k25c0) (by decide +kernel) rfl rfl rfl (by decide +kernel)
set_option maxRecDepth 65536 in
theorem w_c29 : (Jvm.Cond.code ({ cls := "java/util/ImmutableCollections$AbstractImmutableList", name := "<init>", desc := "()V" } : Jvm.MethodName) jdk_46_method_1_code (1 : Nat) (Option.none : Option Jvm.ClassFile.FieldType)).before args0 about1 = true := code_word (m := ⟨24, 0⟩) (meth := k24m0) (c := k24c0) (by decide +kernel) rfl rfl rfl (by decide +kernel)
set_option maxRecDepth 65536 in
theorem w_c30 : (Jvm.Cond.code ({ cls := "java/util/ImmutableCollections$AbstractImmutableCollection", name := "<init>", desc := "()V" } : Jvm.MethodName) jdk_47_method_1_code (1 : Nat) (Option.none : Option Jvm.ClassFile.FieldType)).before args0 about1 = true := code_word (m := ⟨23, 0⟩) (meth := k23m0) (c := k23c0) (by decide +kernel) rfl rfl rfl (by decide +kernel)
set_option maxRecDepth 65536 in
theorem w_c31 : (Jvm.Cond.code ({ cls := "java/util/Objects", name := "requireNonNull", desc := "(Ljava/lang/Object;)Ljava/lang/Object;" } : Jvm.MethodName) jdk_31_method_10_code (1 : Nat) (Option.some (Jvm.ClassFile.FieldType.object "java/lang/Object"))).before args0 about1 = true := code_word (m := ⟨29, 1⟩) (meth := k29m1) (c := k29c1) (by decide +kernel) rfl rfl rfl (by decide +kernel)
set_option maxRecDepth 65536 in
theorem w_c32 : (Jvm.Cond.code ({ cls := "com/example/evenhand/evenhand/Bounds", name := "max", desc := "(I)I" } : Jvm.MethodName) prog_3_method_5_code (2 : Nat) (Option.some Jvm.ClassFile.FieldType.int)).before args0 about1 = true := code_word (m := ⟨19, 1⟩) (meth := k19m1) (c := k19c1) (by decide +kernel) rfl rfl rfl (by decide +kernel)
set_option maxRecDepth 65536 in
theorem w_c33 : (Jvm.Cond.code ({ cls := "java/util/ImmutableCollections$List12", name := "get", desc := "(I)Ljava/lang/Object;" } : Jvm.MethodName) jdk_44_method_5_code (2 : Nat) (Option.some (Jvm.ClassFile.FieldType.object "java/lang/Object"))).before args0 about1 = true := code_word (m := ⟨25, 2⟩) (meth := k25m2) (c := k25c2) (by decide +kernel) rfl rfl rfl (by decide +kernel)
set_option maxRecDepth 65536 in
theorem w_c34 : (Jvm.Cond.code ({ cls := "java/util/ImmutableCollections", name := "listFromArray", desc := "([Ljava/lang/Object;)Ljava/util/List;" } : Jvm.MethodName) jdk_56_method_4_code (3 : Nat) (Option.some (Jvm.ClassFile.FieldType.object "java/util/List"))).before args0 about1 = true := code_word (m := ⟨22, 2⟩) (meth := k22m2) (c := k22c2) (by decide +kernel) rfl rfl rfl (by decide +kernel)
set_option maxRecDepth 65536 in
theorem w_c35 : (Jvm.Cond.code ({ cls := "java/util/ImmutableCollections$ListN", name := "<init>", desc := "([Ljava/lang/Object;Z)V" } : Jvm.MethodName) jdk_45_method_1_code (3 : Nat) (Option.none : Option Jvm.ClassFile.FieldType)).before args0 about1 = true := code_word (m := ⟨26, 0⟩) (meth := k26m0) (c := k26c0) (by decide +kernel) rfl rfl rfl (by decide +kernel)
set_option maxRecDepth 65536 in
theorem w_c36 : (Jvm.Cond.code ({ cls := "java/util/ImmutableCollections$ListN", name := "get", desc := "(I)Ljava/lang/Object;" } : Jvm.MethodName) jdk_45_method_4_code (2 : Nat) (Option.some (Jvm.ClassFile.FieldType.object "java/lang/Object"))).before args0 about1 = true := code_word (m := ⟨26, 1⟩) (meth := k26m1) (c := k26c1) (by decide +kernel) rfl rfl rfl (by decide +kernel)
set_option maxRecDepth 65536 in
theorem w_c37 : (Jvm.Cond.code ({ cls := "java/lang/Integer", name := "<init>", desc := "(I)V" } : Jvm.MethodName) jdk_33_method_23_code (2 : Nat) (Option.none : Option Jvm.ClassFile.FieldType)).before args0 about1 = true := code_word (m := ⟨16, 1⟩) (meth := k16m1) (c := k16c1) (by decide +kernel) rfl rfl rfl (by decide +kernel)
set_option maxRecDepth 65536 in
theorem w_c38 : (Jvm.Cond.code ({ cls := "java/lang/Number", name := "<init>", desc := "()V" } : Jvm.MethodName) jdk_18_method_1_code (1 : Nat) (Option.none : Option Jvm.ClassFile.FieldType)).before args0 about1 = true := code_word (m := ⟨12, 0⟩) (meth := k12m0) (c := k12c0) (by decide +kernel) rfl rfl rfl (by decide +kernel)
set_option maxRecDepth 65536 in
theorem w_c39 : (Jvm.Cond.code ({ cls := "java/util/ImmutableCollections$List12", name := "<init>", desc := "(Ljava/lang/Object;Ljava/lang/Object;)V" } : Jvm.MethodName) jdk_44_method_2_code (3 : Nat) (Option.none : Option Jvm.ClassFile.FieldType)).before args0 about1 = true := code_word (m := ⟨25, 1⟩) (meth := k25m1) (c := k25c1) (by decide +kernel) rfl rfl rfl (by decide +kernel)
def codes1 : List Jvm.Cond := [Jvm.Cond.code x code maxLocals ret, Jvm.Cond.code ({ cls := "java/util/ArrayList", name := "<init>", desc := "()V" } : Jvm.MethodName) jdk_38_method_2_code (1 : Nat) (Option.none : Option Jvm.ClassFile.FieldType), Jvm.Cond.code ({ cls := "java/util/AbstractList", name := "<init>", desc := "()V" } : Jvm.MethodName) jdk_39_method_1_code (1 : Nat) (Option.none : Option Jvm.ClassFile.FieldType), Jvm.Cond.code ({ cls := "java/util/AbstractCollection", name := "<init>", desc := "()V" } : Jvm.MethodName) jdk_22_method_1_code (1 : Nat) (Option.none : Option Jvm.ClassFile.FieldType), Jvm.Cond.code ({ cls := "java/lang/Object", name := "<init>", desc := "()V" } : Jvm.MethodName) object_method_1_code (1 : Nat) (Option.none : Option Jvm.ClassFile.FieldType), Jvm.Cond.code ({ cls := "java/lang/Integer", name := "valueOf", desc := "(I)Ljava/lang/Integer;" } : Jvm.MethodName) jdk_33_method_22_code (1 : Nat) (Option.some (Jvm.ClassFile.FieldType.object "java/lang/Integer")), Jvm.Cond.code ({ cls := "java/util/ArrayList", name := "add", desc := "(Ljava/lang/Object;)Z" } : Jvm.MethodName) jdk_38_method_25_code (2 : Nat) (Option.some Jvm.ClassFile.FieldType.boolean), Jvm.Cond.code ({ cls := "java/util/ArrayList", name := "add", desc := "(Ljava/lang/Object;[Ljava/lang/Object;I)V" } : Jvm.MethodName) jdk_38_method_24_code (4 : Nat) (Option.none : Option Jvm.ClassFile.FieldType), Jvm.Cond.code ({ cls := "java/util/ArrayList", name := "grow", desc := "()[Ljava/lang/Object;" } : Jvm.MethodName) jdk_38_method_7_code (1 : Nat) (Option.some (Jvm.ClassFile.FieldType.array (Jvm.ClassFile.FieldType.object "java/lang/Object"))), Jvm.Cond.code ({ cls := "java/util/ArrayList", name := "grow", desc := "(I)[Ljava/lang/Object;" } : Jvm.MethodName) jdk_38_method_6_code (4 : Nat) (Option.some (Jvm.ClassFile.FieldType.array (Jvm.ClassFile.FieldType.object "java/lang/Object"))), Jvm.Cond.code ({ cls := "java/lang/Math", name := "max", desc := "(II)I" } : Jvm.MethodName) jdk_29_method_65_code (2 : Nat) (Option.some Jvm.ClassFile.FieldType.int), Jvm.Cond.code ({ cls := "com/example/evenhand/evenhand/Bounds", name := "<init>", desc := "(Ljava/util/List;Ljava/util/List;)V" } : Jvm.MethodName) prog_3_method_1_code (3 : Nat) (Option.none : Option Jvm.ClassFile.FieldType), Jvm.Cond.code ({ cls := "java/util/ArrayList", name := "size", desc := "()I" } : Jvm.MethodName) jdk_38_method_8_code (1 : Nat) (Option.some Jvm.ClassFile.FieldType.int), Jvm.Cond.code ({ cls := "com/example/evenhand/evenhand/Bounds", name := "checkNonNegative", desc := "(Ljava/util/List;)Ljava/util/List;" } : Jvm.MethodName) prog_3_method_9_code (3 : Nat) (Option.some (Jvm.ClassFile.FieldType.object "java/util/List")), Jvm.Cond.code ({ cls := "java/util/ArrayList", name := "iterator", desc := "()Ljava/util/Iterator;" } : Jvm.MethodName) jdk_38_method_55_code (1 : Nat) (Option.some (Jvm.ClassFile.FieldType.object "java/util/Iterator")), Jvm.Cond.code ({ cls := "java/util/ArrayList$Itr", name := "<init>", desc := "(Ljava/util/ArrayList;)V" } : Jvm.MethodName) jdk_49_method_1_code (2 : Nat) (Option.none : Option Jvm.ClassFile.FieldType), Jvm.Cond.code ({ cls := "java/util/ArrayList$Itr", name := "hasNext", desc := "()Z" } : Jvm.MethodName) jdk_49_method_2_code (1 : Nat) (Option.some Jvm.ClassFile.FieldType.boolean), Jvm.Cond.code ({ cls := "java/util/ArrayList$Itr", name := "next", desc := "()Ljava/lang/Object;" } : Jvm.MethodName) jdk_49_method_3_code (3 : Nat) (Option.some (Jvm.ClassFile.FieldType.object "java/lang/Object")), Jvm.Cond.code ({ cls := "java/util/ArrayList$Itr", name := "checkForComodification", desc := "()V" } : Jvm.MethodName) jdk_49_method_6_code (1 : Nat) (Option.none : Option Jvm.ClassFile.FieldType), Jvm.Cond.code ({ cls := "java/lang/Integer", name := "intValue", desc := "()I" } : Jvm.MethodName) jdk_33_method_27_code (1 : Nat) (Option.some Jvm.ClassFile.FieldType.int), Jvm.Cond.code ({ cls := "java/util/List", name := "copyOf", desc := "(Ljava/util/Collection;)Ljava/util/List;" } : Jvm.MethodName) jdk_40_method_48_code (1 : Nat) (Option.some (Jvm.ClassFile.FieldType.object "java/util/List")), Jvm.Cond.code ({ cls := "java/util/ImmutableCollections", name := "listCopy", desc := "(Ljava/util/Collection;)Ljava/util/List;" } : Jvm.MethodName) jdk_56_method_3_code (2 : Nat) (Option.some (Jvm.ClassFile.FieldType.object "java/util/List")), Jvm.Cond.code ({ cls := "java/util/ArrayList", name := "isEmpty", desc := "()Z" } : Jvm.MethodName) jdk_38_method_9_code (1 : Nat) (Option.some Jvm.ClassFile.FieldType.boolean), Jvm.Cond.code ({ cls := "java/util/ArrayList", name := "toArray", desc := "()[Ljava/lang/Object;" } : Jvm.MethodName) jdk_38_method_16_code (1 : Nat) (Option.some (Jvm.ClassFile.FieldType.array (Jvm.ClassFile.FieldType.object "java/lang/Object"))), Jvm.Cond.code ({ cls := "java/util/Arrays", name := "copyOf", desc := "([Ljava/lang/Object;I)[Ljava/lang/Object;" } : Jvm.MethodName) jdk_65_method_119_code (2 : Nat) (Option.some (Jvm.ClassFile.FieldType.array (Jvm.ClassFile.FieldType.object "java/lang/Object"))), Jvm.Cond.code ({ cls := "java/util/Arrays", name := "copyOf", desc := "([Ljava/lang/Object;ILjava/lang/Class;)[Ljava/lang/Object;" } : Jvm.MethodName) jdk_65_method_120_code (4 : Nat) (Option.some (Jvm.ClassFile.FieldType.array (Jvm.ClassFile.FieldType.object "java/lang/Object"))), Jvm.Cond.code ({ cls := "java/lang/Math", name := "min", desc := "(II)I" } : Jvm.MethodName) jdk_29_method_69_code (2 : Nat) (Option.some Jvm.ClassFile.FieldType.int), Jvm.Cond.code ({ cls := "java/util/List", name := "of", desc := "([Ljava/lang/Object;)Ljava/util/List;" } : Jvm.MethodName) jdk_40_method_47_code (2 : Nat) (Option.some (Jvm.ClassFile.FieldType.object "java/util/List")), Jvm.Cond.code ({ cls := "java/util/ImmutableCollections$List12", name := "<init>", desc := "(Ljava/lang/Object;)V" } : Jvm.MethodName) jdk_44_method_1_code (2 : Nat) (Option.none : Option Jvm.ClassFile.FieldType), Jvm.Cond.code ({ cls := "java/util/ImmutableCollections$AbstractImmutableList", name := "<init>", desc := "()V" } : Jvm.MethodName) jdk_46_method_1_code (1 : Nat) (Option.none : Option Jvm.ClassFile.FieldType), Jvm.Cond.code ({ cls := "java/util/ImmutableCollections$AbstractImmutableCollection", name := "<init>", desc := "()V" } : Jvm.MethodName) jdk_47_method_1_code (1 : Nat) (Option.none : Option Jvm.ClassFile.FieldType), Jvm.Cond.code ({ cls := "java/util/Objects", name := "requireNonNull", desc := "(Ljava/lang/Object;)Ljava/lang/Object;" } : Jvm.MethodName) jdk_31_method_10_code (1 : Nat) (Option.some (Jvm.ClassFile.FieldType.object "java/lang/Object")), Jvm.Cond.code ({ cls := "com/example/evenhand/evenhand/Bounds", name := "max", desc := "(I)I" } : Jvm.MethodName) prog_3_method_5_code (2 : Nat) (Option.some Jvm.ClassFile.FieldType.int), Jvm.Cond.code ({ cls := "java/util/ImmutableCollections$List12", name := "get", desc := "(I)Ljava/lang/Object;" } : Jvm.MethodName) jdk_44_method_5_code (2 : Nat) (Option.some (Jvm.ClassFile.FieldType.object "java/lang/Object")), Jvm.Cond.code ({ cls := "java/util/ImmutableCollections", name := "listFromArray", desc := "([Ljava/lang/Object;)Ljava/util/List;" } : Jvm.MethodName) jdk_56_method_4_code (3 : Nat) (Option.some (Jvm.ClassFile.FieldType.object "java/util/List")), Jvm.Cond.code ({ cls := "java/util/ImmutableCollections$ListN", name := "<init>", desc := "([Ljava/lang/Object;Z)V" } : Jvm.MethodName) jdk_45_method_1_code (3 : Nat) (Option.none : Option Jvm.ClassFile.FieldType), Jvm.Cond.code ({ cls := "java/util/ImmutableCollections$ListN", name := "get", desc := "(I)Ljava/lang/Object;" } : Jvm.MethodName) jdk_45_method_4_code (2 : Nat) (Option.some (Jvm.ClassFile.FieldType.object "java/lang/Object")), Jvm.Cond.code ({ cls := "java/lang/Integer", name := "<init>", desc := "(I)V" } : Jvm.MethodName) jdk_33_method_23_code (2 : Nat) (Option.none : Option Jvm.ClassFile.FieldType), Jvm.Cond.code ({ cls := "java/lang/Number", name := "<init>", desc := "()V" } : Jvm.MethodName) jdk_18_method_1_code (1 : Nat) (Option.none : Option Jvm.ClassFile.FieldType), Jvm.Cond.code ({ cls := "java/util/ImmutableCollections$List12", name := "<init>", desc := "(Ljava/lang/Object;Ljava/lang/Object;)V" } : Jvm.MethodName) jdk_44_method_2_code (3 : Nat) (Option.none : Option Jvm.ClassFile.FieldType)]
set_option maxRecDepth 65536 in
theorem codes_eq : words1.filter isCode = codes1 := rfl
theorem w_codes : ∀ c ∈ words1.filter isCode, c.before args0 about1 = true := by
  rw [codes_eq]
  intro c hc
  simp only [codes1, List.mem_cons, List.not_mem_nil, or_false] at hc
  rcases hc with rfl | rfl | rfl | rfl | rfl | rfl | rfl | rfl | rfl | rfl | rfl | rfl | rfl | rfl | rfl | rfl | rfl | rfl | rfl | rfl | rfl | rfl | rfl | rfl | rfl | rfl | rfl | rfl | rfl | rfl | rfl | rfl | rfl | rfl | rfl | rfl | rfl | rfl | rfl | rfl
  · exact w_c0
  · exact w_c1
  · exact w_c2
  · exact w_c3
  · exact w_c4
  · exact w_c5
  · exact w_c6
  · exact w_c7
  · exact w_c8
  · exact w_c9
  · exact w_c10
  · exact w_c11
  · exact w_c12
  · exact w_c13
  · exact w_c14
  · exact w_c15
  · exact w_c16
  · exact w_c17
  · exact w_c18
  · exact w_c19
  · exact w_c20
  · exact w_c21
  · exact w_c22
  · exact w_c23
  · exact w_c24
  · exact w_c25
  · exact w_c26
  · exact w_c27
  · exact w_c28
  · exact w_c29
  · exact w_c30
  · exact w_c31
  · exact w_c32
  · exact w_c33
  · exact w_c34
  · exact w_c35
  · exact w_c36
  · exact w_c37
  · exact w_c38
  · exact w_c39
set_option maxRecDepth 65536 in
theorem w_t1 : (words1.take 24).all (fun c => isCode c || c.before args0 about1) = true := by decide +kernel
set_option maxRecDepth 65536 in
theorem w_t2 : ((words1.drop 24).take 24).all (fun c => isCode c || c.before args0 about1) = true := by decide +kernel
set_option maxRecDepth 65536 in
theorem w_t3 : (((words1.drop 24).drop 24).take 24).all (fun c => isCode c || c.before args0 about1) = true := by decide +kernel
set_option maxRecDepth 65536 in
theorem w_t4 : ((((words1.drop 24).drop 24).drop 24).take 24).all (fun c => isCode c || c.before args0 about1) = true := by decide +kernel
set_option maxRecDepth 65536 in
theorem w_t5 : (((((words1.drop 24).drop 24).drop 24).drop 24).take 24).all (fun c => isCode c || c.before args0 about1) = true := by decide +kernel
set_option maxRecDepth 65536 in
theorem w_t6 : ((((((words1.drop 24).drop 24).drop 24).drop 24).drop 24).take 24).all (fun c => isCode c || c.before args0 about1) = true := by decide +kernel
set_option maxRecDepth 65536 in
theorem w_t7 : (((((((words1.drop 24).drop 24).drop 24).drop 24).drop 24).drop 24).take 24).all (fun c => isCode c || c.before args0 about1) = true := by decide +kernel
set_option maxRecDepth 65536 in
theorem w_t8 : ((((((((words1.drop 24).drop 24).drop 24).drop 24).drop 24).drop 24).drop 24).take 24).all (fun c => isCode c || c.before args0 about1) = true := by decide +kernel
set_option maxRecDepth 65536 in
theorem w_t9 : (((((((((words1.drop 24).drop 24).drop 24).drop 24).drop 24).drop 24).drop 24).drop 24).take 24).all (fun c => isCode c || c.before args0 about1) = true := by decide +kernel
set_option maxRecDepth 65536 in
theorem w_t10 : ((((((((((words1.drop 24).drop 24).drop 24).drop 24).drop 24).drop 24).drop 24).drop 24).drop 24).take 24).all (fun c => isCode c || c.before args0 about1) = true := by decide +kernel
set_option maxRecDepth 65536 in
theorem w_t11 : (((((((((((words1.drop 24).drop 24).drop 24).drop 24).drop 24).drop 24).drop 24).drop 24).drop 24).drop 24).take 24).all (fun c => isCode c || c.before args0 about1) = true := by decide +kernel
set_option maxRecDepth 65536 in
theorem w_t12 : ((((((((((((words1.drop 24).drop 24).drop 24).drop 24).drop 24).drop 24).drop 24).drop 24).drop 24).drop 24).drop 24).take 24).all (fun c => isCode c || c.before args0 about1) = true := by decide +kernel
set_option maxRecDepth 65536 in
theorem w_t13 : ((((((((((((words1.drop 24).drop 24).drop 24).drop 24).drop 24).drop 24).drop 24).drop 24).drop 24).drop 24).drop 24).drop 24).all (fun c => isCode c || c.before args0 about1) = true := by decide +kernel
theorem w_tables : (allAtoms (Jvm.Cond.code x code maxLocals ret :: tables_1)).before args0 about1 = true := by
  rw [allAtoms_all]
  show words1.all (fun c => c.before args0 about1) = true
  refine all_split ?_ w_codes
  rw [← List.take_append_drop 24 words1, List.all_append, w_t1, ← List.take_append_drop 24 (words1.drop 24), List.all_append, w_t2, ← List.take_append_drop 24 ((words1.drop 24).drop 24), List.all_append, w_t3, ← List.take_append_drop 24 (((words1.drop 24).drop 24).drop 24), List.all_append, w_t4, ← List.take_append_drop 24 ((((words1.drop 24).drop 24).drop 24).drop 24), List.all_append, w_t5, ← List.take_append_drop 24 (((((words1.drop 24).drop 24).drop 24).drop 24).drop 24), List.all_append, w_t6, ← List.take_append_drop 24 ((((((words1.drop 24).drop 24).drop 24).drop 24).drop 24).drop 24), List.all_append, w_t7, ← List.take_append_drop 24 (((((((words1.drop 24).drop 24).drop 24).drop 24).drop 24).drop 24).drop 24), List.all_append, w_t8, ← List.take_append_drop 24 ((((((((words1.drop 24).drop 24).drop 24).drop 24).drop 24).drop 24).drop 24).drop 24), List.all_append, w_t9, ← List.take_append_drop 24 (((((((((words1.drop 24).drop 24).drop 24).drop 24).drop 24).drop 24).drop 24).drop 24).drop 24), List.all_append, w_t10, ← List.take_append_drop 24 ((((((((((words1.drop 24).drop 24).drop 24).drop 24).drop 24).drop 24).drop 24).drop 24).drop 24).drop 24), List.all_append, w_t11, ← List.take_append_drop 24 (((((((((((words1.drop 24).drop 24).drop 24).drop 24).drop 24).drop 24).drop 24).drop 24).drop 24).drop 24).drop 24), List.all_append, w_t12, w_t13]
  rfl
set_option maxRecDepth 65536 in
theorem w_rest : rest_1_c.before args0 about1 = true := by decide +kernel
set_option maxRecDepth 65536 in
theorem w_case : (Jvm.Cond.and given_1 narrow_1).before args0 about1 = true := by decide +kernel
theorem w_applies : (headSpec (Jvm.Cond.code x code maxLocals ret :: tables_1) room_1).applies x e0.platform about1 = true :=
  (Spec.applies_iff w_frames).mpr ⟨w_running, w_runnable, w_alone, w_named, w_hears, w_ripe, w_room, w_tables⟩
set_option maxRecDepth 65536 in
theorem atStart : AtStart classFile x code maxLocals ret World_1 tables_1 room_1 Calls_1 rest_1 Pre_1 launch0 p0 e0 about1 theMethod args0 below0 :=
  ⟨lists_1, trivial, launch0.admits_env _ _ _, launch0.least_env, fairChoices_fair.cas, fairChoices_fair.clock, w_frames, w_args, w_heap, w_applies, ⟨⟨36, k36, 3, by decide +kernel, rfl, rfl, _, rfl, rfl⟩, trivial⟩, w_rest, w_case⟩
end start1
theorem witness_1 : WitnessClaimed_1 := ⟨start1.p0, start1.e0, start1.about1, start1.theMethod, start1.args0, start1.below0, start1.atStart⟩
end Jvm.Pilot.@@N@@
