import JvmDerived
import JvmDerived.Pilot.@@N@@Statement
import JvmDerived.Pilot.@@N@@Code
set_option linter.unusedVariables false
set_option linter.unusedSimpArgs false
namespace Jvm.RoadKit
open Sem ClassFile Op Lib Jvm.Stand Jvm.Free Jvm.LawKit
section Own
variable {p : Program} {l : Launch} {e : Env} {R : Room} {s : State} {m : MethodId} {args : Array Value} {below : List Frame} {meth : Method} {c : Code} {T : State} {locs : List Loc} {cells slots : Nat}
/-- from S the run comes to the end of the call, and K holds there -/
def Go (p : Program) (e : Env) (below : List Frame) (K : State → Outcome → Prop) (S : State) : Prop := ∃ s₂ o, Steps p.tables e below S s₂ ∧ s₂.status = .running ∧ Ended s₂ below o ∧ K s₂ o
def Kq (s : State) (Q : Option Value → Heap → List Loc → Prop) (k n : Nat) (t : State) (o : Outcome) : Prop := ∃ v L, o = .returned v ∧ Q v t.heap L ∧ FrameEnd s o t L k n
theorem go {K : State → Outcome → Prop} {S S' : State} (h : ∀ t, Steps p.tables e below S' t → Steps p.tables e below S t) (g : Go p e below K S') : Go p e below K S := by
  obtain ⟨t, o, h1, h2⟩ := g
  exact ⟨t, o, h _ h1, h2⟩
theorem goOut (X : Stand p l e R s m args below meth c T locs cells slots) {Q : Option Value → Heap → List Loc → Prop} {k n : Nat} {S : State} {v : Option Value} (hv : meth.sig.returnType = none → v = none) (hlocks : meth.locks = false)
    (hs : ∀ fs, (∀ (f : JFrame) (acts : List Action), f.method = m → f.locked = none → f.entered = [] → (doReturn e (T.setTop f) acts v).1 = T.setFrames fs) → Steps p.tables e below S (T.setFrames fs))
    (hk : cells ≤ k) (hn : slots ≤ n) (hq : Q v T.heap locs) : Go p e below (Kq s Q k n) S := by
  obtain ⟨fs, hr, hrun, hended, hW, hsame⟩ := X.leave (v := v) hv hlocks
  exact ⟨_, _, hs fs hr, hrun, hended, _, _, rfl, hq, ⟨_, rfl⟩, hW, hsame.mono hk hn⟩
end Own
end Jvm.RoadKit
namespace Jvm.RoadKit
open Sem ClassFile Op Lib Jvm.Stand Jvm.Free Jvm.LawKit
section OwnArr
variable {p : Program} {l : Launch} {e : Env} {R : Room} {s : State} {m : MethodId} {args : Array Value} {below : List Frame} {meth : Method} {c : Code} {T : State} {locs : List Loc} {cells slots : Nat} {Z : State} {h h' : Heap} {a b : Addr} {ty : FieldType} {n : Nat} {f : Nat → Int32} {v : Value} {sl : Nat} {ws : List Addr}
/-- an array of n places, of a kind that lies on the stack as an int, that holds f -/
def IA (Z : State) (h : Heap) (a : Addr) (ty : FieldType) (n : Nat) (f : Nat → Int32) : Prop := ∃ c : Cell, Arr Z h a c ty ∧ c.slots.size = n ∧ ∀ j, j < n → c.slots[j]? = some (.int (f j))
def upI (f : Nat → Int32) (j : Nat) (x : Int32) : Nat → Int32 := fun i => if i = j then x else f i
theorem IA.lt (F : IA Z h a ty n f) : a < h.size := by obtain ⟨c, A, -⟩ := F; exact A.lt
theorem IA.ext (F : IA Z h a ty n f) (E : Ext h h') : IA Z h' a ty n f := by obtain ⟨c, A, r⟩ := F; exact ⟨c, A.ext E, r⟩
theorem IA.other (F : IA Z h b ty n f) (W : Wr h h' a sl v) (q : b ≠ a) : IA Z h' b ty n f := by obtain ⟨c, A, r⟩ := F; exact ⟨c, A.other W q, r⟩
theorem IA.keep (F : IA Z h a ty n f) (K : Keep h h' ws) (q : a ∉ ws) : IA Z h' a ty n f := by obtain ⟨c, A, r⟩ := F; exact ⟨c, ⟨K.2.1 a c A.1 q, A.2⟩, r⟩
theorem IA.new {k : ClassId} {z : Int32} (A : Arr Z h a (newA k ty z) ty) (q : z.toNatClampNeg = n) (hd : defaultValue ty = .int 0) : IA Z h a ty n (fun _ => 0) := by
  refine ⟨_, A, (sz_new _ _ _).trans q, fun j hj => ?_⟩
  simp [newA, hd, q, hj]
theorem IA.put {j x : Int32} {cl : Cell} (A : Arr Z h a cl ty) (S : cl.slots.size = n) (H : ∀ j, j < n → cl.slots[j]? = some (.int (f j))) (W : Wr h h' a j.toNatClampNeg (.int x)) : IA Z h' a ty n (upI f j.toNatClampNeg x) := by
  refine ⟨_, A.same W, by rw [sz_set]; exact S, fun i hi => ?_⟩
  by_cases q : i = j.toNatClampNeg
  · subst q; simp [upI, Cell.setSlot, S, hi]
  · rw [show (cl.setSlot j.toNatClampNeg (.int x)).slots[i]? = cl.slots[i]? from Array.getElem?_setIfInBounds_ne (Ne.symm q), H i hi]; simp [upI, q]
theorem in_of {j : Int32} {cl : Cell} (S : cl.slots.size = n) (hj : 0 ≤ j.toInt ∧ j.toInt < n) : ¬ (j < 0 ∨ cl.slots.size ≤ j.toNatClampNeg) := by
  have h0 : ¬ j < 0 := by rw [Int32.lt_iff_toInt_lt]; have : (0 : Int32).toInt = 0 := rfl; omega
  have h1 := nat_of h0
  rw [S]; intro q; rcases q with q | q
  · exact h0 q
  · omega
theorem nat_in {j : Int32} (hj : 0 ≤ j.toInt ∧ j.toInt < n) : j.toNatClampNeg < n := by
  have h0 : ¬ j < 0 := by rw [Int32.lt_iff_toInt_lt]; have : (0 : Int32).toInt = 0 := rfl; omega
  have h1 := nat_of h0; omega
theorem ldIA (X : Stand p l e R s m args below meth c T locs cells slots) (hx : p.tables.exec = Jvm.exec) (hZ : Z.Warmed39 s.vm) (eT : T.heap = h) (A : IA Z h a .int n f) {j : Int32} (hj : 0 ≤ j.toInt ∧ j.toInt < n) {g : JFrame} (hg : g.method = m) {rest : List Value} (hs : g.stack = .int j :: .ref a :: rest) (hd : decode c.code g.pc = .ok (.iaload, 1)) :
    ∀ target, Steps p.tables e below (T.setTop { g with pc := g.pc + 1, stack := .int (f j.toNatClampNeg) :: rest }) target → Steps p.tables e below (T.setTop g) target := by
  obtain ⟨cl, A, S, H⟩ := A
  exact X.iaload hx (by rw [eT]; exact A.1) (State.isArrayOf_alike hZ.alike A.2.1) A.2.2 (in_of S hj) (H _ (nat_in hj)) hg hs hd
theorem ldCA (X : Stand p l e R s m args below meth c T locs cells slots) (hx : p.tables.exec = Jvm.exec) (hZ : Z.Warmed39 s.vm) (eT : T.heap = h) (A : IA Z h a .char n f) {j : Int32} (hj : 0 ≤ j.toInt ∧ j.toInt < n) {g : JFrame} (hg : g.method = m) {rest : List Value} (hs : g.stack = .int j :: .ref a :: rest) (hd : decode c.code g.pc = .ok (.caload, 1)) :
    ∀ target, Steps p.tables e below (T.setTop { g with pc := g.pc + 1, stack := .int (f j.toNatClampNeg) :: rest }) target → Steps p.tables e below (T.setTop g) target := by
  obtain ⟨cl, A, S, H⟩ := A
  exact X.caload hx (by rw [eT]; exact A.1) (State.isArrayOf_alike hZ.alike A.2.1) A.2.2 (in_of S hj) (H _ (nat_in hj)) hg hs hd
theorem lenIA (X : Stand p l e R s m args below meth c T locs cells slots) (hx : p.tables.exec = Jvm.exec) (hZ : Z.Warmed39 s.vm) (eT : T.heap = h) (A : IA Z h a ty n f) {g : JFrame} (hg : g.method = m) {rest : List Value} (hs : g.stack = .ref a :: rest) (hd : decode c.code g.pc = .ok (.arraylength, 1)) :
    ∀ target, Steps p.tables e below (T.setTop { g with pc := g.pc + 1, stack := .int n.toInt32 :: rest }) target → Steps p.tables e below (T.setTop g) target := by
  obtain ⟨cl, A, S, H⟩ := A
  intro target k
  refine X.arraylength hx (by rw [eT]; exact A.1) (State.isArrayOf_alike hZ.alike A.2.1) hg hs hd target ?_
  rw [S]; exact k
theorem stIA (X : Stand p l e R s m args below meth c T locs cells slots) (hx : p.tables.exec = Jvm.exec) (hZ : Z.Warmed39 s.vm) (eT : T.heap = h) (A : IA Z h a .int n f) {j x : Int32} (hj : 0 ≤ j.toInt ∧ j.toInt < n) {g : JFrame} (hg : g.method = m) {rest : List Value} (hs : g.stack = .int x :: .int j :: .ref a :: rest) (hd : decode c.code g.pc = .ok (.iastore, 1)) :
    ∃ T' h', Stand p l e R s m args below meth c T' (locs ++ [⟨a, j.toNatClampNeg⟩]) cells slots ∧ T'.heap = h' ∧ Wr h h' a j.toNatClampNeg (.int x) ∧ IA Z h' a .int n (upI f j.toNatClampNeg x) ∧ ∀ target, Steps p.tables e below (T'.setTop { g with pc := g.pc + 1, stack := rest }) target → Steps p.tables e below (T.setTop g) target := by
  obtain ⟨cl, A, S, H⟩ := A
  obtain ⟨T', h', X', e', W, st⟩ := stI X hx hZ eT A (in_of S hj) hg hs hd
  exact ⟨T', h', X', e', W, IA.put A S H W, st⟩
theorem stCA (X : Stand p l e R s m args below meth c T locs cells slots) (hx : p.tables.exec = Jvm.exec) (hZ : Z.Warmed39 s.vm) (eT : T.heap = h) (A : IA Z h a .char n f) {j x : Int32} (hj : 0 ≤ j.toInt ∧ j.toInt < n) {g : JFrame} (hg : g.method = m) {rest : List Value} (hs : g.stack = .int x :: .int j :: .ref a :: rest) (hd : decode c.code g.pc = .ok (.castore, 1)) :
    ∃ T' h', Stand p l e R s m args below meth c T' (locs ++ [⟨a, j.toNatClampNeg⟩]) cells slots ∧ T'.heap = h' ∧ Wr h h' a j.toNatClampNeg (.int (nar .char x)) ∧ IA Z h' a .char n (upI f j.toNatClampNeg (nar .char x)) ∧ ∀ target, Steps p.tables e below (T'.setTop { g with pc := g.pc + 1, stack := rest }) target → Steps p.tables e below (T.setTop g) target := by
  obtain ⟨cl, A, S, H⟩ := A
  obtain ⟨T', h', X', e', W, st⟩ := stC X hx hZ eT A (in_of S hj) hg hs hd
  exact ⟨T', h', X', e', W, IA.put A S H W, st⟩
theorem stBA (X : Stand p l e R s m args below meth c T locs cells slots) (hx : p.tables.exec = Jvm.exec) (hZ : Z.Warmed39 s.vm) (eT : T.heap = h) (A : IA Z h a .byte n f) {j x : Int32} (hj : 0 ≤ j.toInt ∧ j.toInt < n) {g : JFrame} (hg : g.method = m) {rest : List Value} (hs : g.stack = .int x :: .int j :: .ref a :: rest) (hd : decode c.code g.pc = .ok (.bastore, 1)) :
    ∃ T' h', Stand p l e R s m args below meth c T' (locs ++ [⟨a, j.toNatClampNeg⟩]) cells slots ∧ T'.heap = h' ∧ Wr h h' a j.toNatClampNeg (.int (nar .byte x)) ∧ IA Z h' a .byte n (upI f j.toNatClampNeg (nar .byte x)) ∧ ∀ target, Steps p.tables e below (T'.setTop { g with pc := g.pc + 1, stack := rest }) target → Steps p.tables e below (T.setTop g) target := by
  obtain ⟨cl, A, S, H⟩ := A
  obtain ⟨T', h', X', e', W, st⟩ := stB X hx hZ eT A (in_of S hj) hg hs hd
  exact ⟨T', h', X', e', W, IA.put A S H W, st⟩
end OwnArr
end Jvm.RoadKit
namespace Jvm.Pilot.@@N@@
open Jvm Jvm.ClassFile Sem Op Lib Jvm.Free Jvm.Stand Jvm.LawKit Jvm.RoadKit Bundle Jvm.Pilot.@@N@@.Jvm.D
def own_sets (Z : State) (dc el em ea : Addr) : Prop := Sta Z Z.heap "java/util/ArrayList" "DEFAULTCAPACITY_EMPTY_ELEMENTDATA" "[Ljava/lang/Object;" (.ref dc) ∧ Sta Z Z.heap "java/util/ImmutableCollections" "EMPTY_LIST" "Ljava/util/ImmutableCollections$ListN;" (.ref el) ∧ Sta Z Z.heap "java/util/ImmutableCollections" "EMPTY" "Ljava/lang/Object;" (.ref em) ∧ Exa Z Z.heap el "java/util/ImmutableCollections$ListN" ∧ Fld Z Z.heap el "java/util/ImmutableCollections$ListN" "elements" "[Ljava/lang/Object;" (.ref ea) ∧ ∃ cE : Cell, Arr Z Z.heap ea cE (.object "java/lang/Object") ∧ cE.slots.size = 0
theorem d3_0 : decode jdk_22_method_1_code 0 = .ok (.aload_n 0, 1) := by decide +kernel
theorem d3_1 : decode jdk_22_method_1_code 1 = .ok (.invokespecial 1, 3) := by decide +kernel
theorem d3_4 : decode jdk_22_method_1_code 4 = .ok (.return_, 1) := by decide +kernel
theorem pn_java_util_AbstractCollection : plainName "java/util/AbstractCollection" = true := by first | (simp [plainName, overriddenIn]; done) | decide +kernel
theorem ef_rm_ac (m : MethodId) (x0 : Addr) : entryFrame m #[(.ref x0)] 1 = mkF m 0 #[.val (.ref x0)] [] := by first | (simp [entryFrame, mkF, argsToLocals, Value.category]; done) | rfl
def Q_ac (Z : State)  (h0 : Heap) (n0 : Nat) (v : Option Value) (h : Heap) (L : List Loc) : Prop := v = none ∧ Fr n0 L ∧ h = h0
set_option maxRecDepth 65536 in
set_option maxHeartbeats 40000000 in
theorem rm_ac (l : Launch) (Z : State) (a0 : Array Value) (hw : ∀ d ∈ tables_1, d.before a0 Z = true) (ws : List Jvm.Cond) (a : Addr)  (h0 : Heap) (n0 : Nat) (Z0 : n0 ≤ h0.size)  :
    MetFree l (⟨"java/util/AbstractCollection", "<init>", "()V"⟩ : MethodName) (head1 (Jvm.Cond.code (⟨"java/util/AbstractCollection", "<init>", "()V"⟩ : MethodName) jdk_22_method_1_code 1 none :: ws) ({ frames := 1, cells := 0, slots := 0, locals := 12 } : Room)) (fun av' U => av' = #[(.ref a)] ∧ Z.Warmed39 U.vm ∧ U.heap = h0) (fun _ _ _ _ _ => True) (fun _ U o U' => ∃ v L, o = .returned v ∧ Q_ac Z  h0 n0 v U'.heap L ∧ FrameEnd U o U' L ({ frames := 1, cells := 0, slots := 0, locals := 12 } : Room).cells ({ frames := 1, cells := 0, slots := 0, locals := 12 } : Room).slots) := by
  refine MetFree.of_bodySF (plainFor_of_name pn_java_util_AbstractCollection) hisR ?_
  intro p e s m args below meth c s₁ Bd hml0 hP hK
  obtain ⟨rfl, hZ, hh⟩ := hP
  have hx := Bd.exec
  have hby := Bd.bytes
  have hlk := Bd.notSynchronized
  have hml : c.maxLocals = 1 := hml0
  have hown : s.vm.findClass "java/util/AbstractCollection" = some m.cls := findClass_of_methodNamed Bd.named
  have hnm := (name_of_methodNamed Bd.named Bd.method).1
  have X0 : Stand p l e ({ frames := 1, cells := 0, slots := 0, locals := 12 } : Room) s m #[(.ref a)] below meth c s₁ [] 0 0 := Stand.of_body Bd
  have e0 : s₁.heap = h0 := by rw [← hh, Bd.state]; rfl
  have N0 := Fr.nil n0
  show Go p e below (Kq s (Q_ac Z  h0 n0) ({ frames := 1, cells := 0, slots := 0, locals := 12 } : Room).cells ({ frames := 1, cells := 0, slots := 0, locals := 12 } : Room).slots) _
  refine go (fun t kt => castTop (ef_rm_ac m a) kt) ?_
  show Go p e below _ (s₁.setTop (mkF m 0 #[.val (.ref a)] []))
  refine go (fun t kt' => by refine XS.aloadN X0.here hx rfl (hb hby d3_0) rfl rfl ?_; exact kt') ?_
  show Go p e below _ (s₁.setTop (mkF m 1 #[.val (.ref a)] [(.ref a)]))
  obtain ⟨T1, X1, e1, st1⟩ := initO X0 hx hZ hown (hw _ (List.mem_of_getElem? (i := 21) rfl)) (hw _ (List.mem_of_getElem? (i := 22) rfl)) (hw _ (List.mem_of_getElem? (i := 23) rfl)) e0 (g := (mkF m 1 #[.val (.ref a)] [(.ref a)])) rfl (by rw [hml]; rfl) rfl (hb hby d3_1) (by decide) (W := 0) (by show 2 * 0 + _ ≤ _; exact Nat.le_of_eq rfl) (by decide)
  refine go st1 ?_
  show Go p e below _ (T1.setTop (mkF m 4 #[.val (.ref a)] []))
  refine goOut X1 (fun _ => rfl) hlk (fun fs hr => X1.returnOut hx Bd.returns (hb hby d3_4) hr) (by decide) (by decide) ?_
  rw [e1]
  exact ⟨rfl, N0, rfl⟩
theorem d6_0 : decode jdk_30_method_1_code 0 = .ok (.aload_n 0, 1) := by decide +kernel
theorem d6_1 : decode jdk_30_method_1_code 1 = .ok (.invokespecial 1, 3) := by decide +kernel
theorem d6_4 : decode jdk_30_method_1_code 4 = .ok (.return_, 1) := by decide +kernel
theorem pn_java_lang_Record : plainName "java/lang/Record" = true := by first | (simp [plainName, overriddenIn]; done) | decide +kernel
theorem ef_rm_rc (m : MethodId) (x0 : Addr) : entryFrame m #[(.ref x0)] 1 = mkF m 0 #[.val (.ref x0)] [] := by first | (simp [entryFrame, mkF, argsToLocals, Value.category]; done) | rfl
def Q_rc (Z : State)  (h0 : Heap) (n0 : Nat) (v : Option Value) (h : Heap) (L : List Loc) : Prop := v = none ∧ Fr n0 L ∧ h = h0
set_option maxRecDepth 65536 in
set_option maxHeartbeats 40000000 in
theorem rm_rc (l : Launch) (Z : State) (a0 : Array Value) (hw : ∀ d ∈ tables_1, d.before a0 Z = true) (ws : List Jvm.Cond) (a : Addr)  (h0 : Heap) (n0 : Nat) (Z0 : n0 ≤ h0.size)  :
    MetFree l (⟨"java/lang/Record", "<init>", "()V"⟩ : MethodName) (head1 (Jvm.Cond.code (⟨"java/lang/Record", "<init>", "()V"⟩ : MethodName) jdk_30_method_1_code 1 none :: ws) ({ frames := 1, cells := 0, slots := 0, locals := 12 } : Room)) (fun av' U => av' = #[(.ref a)] ∧ Z.Warmed39 U.vm ∧ U.heap = h0) (fun _ _ _ _ _ => True) (fun _ U o U' => ∃ v L, o = .returned v ∧ Q_rc Z  h0 n0 v U'.heap L ∧ FrameEnd U o U' L ({ frames := 1, cells := 0, slots := 0, locals := 12 } : Room).cells ({ frames := 1, cells := 0, slots := 0, locals := 12 } : Room).slots) := by
  refine MetFree.of_bodySF (plainFor_of_name pn_java_lang_Record) hisR ?_
  intro p e s m args below meth c s₁ Bd hml0 hP hK
  obtain ⟨rfl, hZ, hh⟩ := hP
  have hx := Bd.exec
  have hby := Bd.bytes
  have hlk := Bd.notSynchronized
  have hml : c.maxLocals = 1 := hml0
  have hown : s.vm.findClass "java/lang/Record" = some m.cls := findClass_of_methodNamed Bd.named
  have hnm := (name_of_methodNamed Bd.named Bd.method).1
  have X0 : Stand p l e ({ frames := 1, cells := 0, slots := 0, locals := 12 } : Room) s m #[(.ref a)] below meth c s₁ [] 0 0 := Stand.of_body Bd
  have e0 : s₁.heap = h0 := by rw [← hh, Bd.state]; rfl
  have N0 := Fr.nil n0
  show Go p e below (Kq s (Q_rc Z  h0 n0) ({ frames := 1, cells := 0, slots := 0, locals := 12 } : Room).cells ({ frames := 1, cells := 0, slots := 0, locals := 12 } : Room).slots) _
  refine go (fun t kt => castTop (ef_rm_rc m a) kt) ?_
  show Go p e below _ (s₁.setTop (mkF m 0 #[.val (.ref a)] []))
  refine go (fun t kt' => by refine XS.aloadN X0.here hx rfl (hb hby d6_0) rfl rfl ?_; exact kt') ?_
  show Go p e below _ (s₁.setTop (mkF m 1 #[.val (.ref a)] [(.ref a)]))
  obtain ⟨T1, X1, e1, st1⟩ := initO X0 hx hZ hown (hw _ (List.mem_of_getElem? (i := 37) rfl)) (hw _ (List.mem_of_getElem? (i := 22) rfl)) (hw _ (List.mem_of_getElem? (i := 23) rfl)) e0 (g := (mkF m 1 #[.val (.ref a)] [(.ref a)])) rfl (by rw [hml]; rfl) rfl (hb hby d6_1) (by decide) (W := 0) (by show 2 * 0 + _ ≤ _; exact Nat.le_of_eq rfl) (by decide)
  refine go st1 ?_
  show Go p e below _ (T1.setTop (mkF m 4 #[.val (.ref a)] []))
  refine goOut X1 (fun _ => rfl) hlk (fun fs hr => X1.returnOut hx Bd.returns (hb hby d6_4) hr) (by decide) (by decide) ?_
  rw [e1]
  exact ⟨rfl, N0, rfl⟩
theorem d21_0 : decode jdk_47_method_1_code 0 = .ok (.aload_n 0, 1) := by decide +kernel
theorem d21_1 : decode jdk_47_method_1_code 1 = .ok (.invokespecial 1, 3) := by decide +kernel
theorem pd_0 : parseMethodDescriptor "()V" = some ⟨[], none⟩ := by decide +kernel
theorem d21_4 : decode jdk_47_method_1_code 4 = .ok (.return_, 1) := by decide +kernel
theorem pn_java_util_ImmutableCollections_AbstractImmutableCollection : plainName "java/util/ImmutableCollections$AbstractImmutableCollection" = true := by first | (simp [plainName, overriddenIn]; done) | decide +kernel
theorem ef_rm_aic (m : MethodId) (x0 : Addr) : entryFrame m #[(.ref x0)] 1 = mkF m 0 #[.val (.ref x0)] [] := by first | (simp [entryFrame, mkF, argsToLocals, Value.category]; done) | rfl
def Q_aic (Z : State)  (h0 : Heap) (n0 : Nat) (v : Option Value) (h : Heap) (L : List Loc) : Prop := v = none ∧ Fr n0 L ∧ h = h0
set_option maxRecDepth 65536 in
set_option maxHeartbeats 40000000 in
theorem rm_aic (l : Launch) (Z : State) (a0 : Array Value) (hw : ∀ d ∈ tables_1, d.before a0 Z = true) (ws : List Jvm.Cond) (a : Addr)  (h0 : Heap) (n0 : Nat) (Z0 : n0 ≤ h0.size)  :
    MetFree l (⟨"java/util/ImmutableCollections$AbstractImmutableCollection", "<init>", "()V"⟩ : MethodName) (head1 (Jvm.Cond.code (⟨"java/util/ImmutableCollections$AbstractImmutableCollection", "<init>", "()V"⟩ : MethodName) jdk_47_method_1_code 1 none :: ws) ({ frames := 2, cells := 0, slots := 0, locals := 24 } : Room)) (fun av' U => av' = #[(.ref a)] ∧ Z.Warmed39 U.vm ∧ U.heap = h0) (fun _ _ _ _ _ => True) (fun _ U o U' => ∃ v L, o = .returned v ∧ Q_aic Z  h0 n0 v U'.heap L ∧ FrameEnd U o U' L ({ frames := 2, cells := 0, slots := 0, locals := 24 } : Room).cells ({ frames := 2, cells := 0, slots := 0, locals := 24 } : Room).slots) := by
  refine MetFree.of_bodySF (plainFor_of_name pn_java_util_ImmutableCollections_AbstractImmutableCollection) hisR ?_
  intro p e s m args below meth c s₁ Bd hml0 hP hK
  obtain ⟨rfl, hZ, hh⟩ := hP
  have hx := Bd.exec
  have hby := Bd.bytes
  have hlk := Bd.notSynchronized
  have hml : c.maxLocals = 1 := hml0
  have hown : s.vm.findClass "java/util/ImmutableCollections$AbstractImmutableCollection" = some m.cls := findClass_of_methodNamed Bd.named
  have hnm := (name_of_methodNamed Bd.named Bd.method).1
  have X0 : Stand p l e ({ frames := 2, cells := 0, slots := 0, locals := 24 } : Room) s m #[(.ref a)] below meth c s₁ [] 0 0 := Stand.of_body Bd
  have e0 : s₁.heap = h0 := by rw [← hh, Bd.state]; rfl
  have N0 := Fr.nil n0
  show Go p e below (Kq s (Q_aic Z  h0 n0) ({ frames := 2, cells := 0, slots := 0, locals := 24 } : Room).cells ({ frames := 2, cells := 0, slots := 0, locals := 24 } : Room).slots) _
  refine go (fun t kt => castTop (ef_rm_aic m a) kt) ?_
  show Go p e below _ (s₁.setTop (mkF m 0 #[.val (.ref a)] []))
  refine go (fun t kt' => by refine XS.aloadN X0.here hx rfl (hb hby d21_0) rfl rfl ?_; exact kt') ?_
  show Go p e below _ (s₁.setTop (mkF m 1 #[.val (.ref a)] [(.ref a)]))
  obtain ⟨_, _, ⟨T1, L1, k1, n1⟩, -, X1, ⟨Lc1, hQ1, l1, y1, z1⟩, st1⟩ := X0.specialBack hx (y := (⟨"java/util/AbstractCollection", "<init>", "()V"⟩ : MethodName)) rfl hown (mvT hZ (hw _ (List.mem_of_getElem? (i := 160) rfl))) (mvT hZ (hw _ (List.mem_of_getElem? (i := 16) rfl))) (mvT hZ (hw _ (List.mem_of_getElem? (i := 20) rfl))) (by decide) (backOf (W := 0) (rm_ac l Z a0 hw [] a h0 n0 Z0 ) hZ (hw _ (List.mem_of_getElem? (i := 20) rfl)) (hw _ (List.mem_of_getElem? (i := 19) rfl)) (by decide) (by decide)) (g := (mkF m 1 #[.val (.ref a)] [(.ref a)])) rfl (by rw [hml]; rfl) (Steps.refl _) (a := a) (argsL := []) (rest := []) (lenOf pd_0 rfl) rfl (by show 2 * 0 + _ ≤ _; exact Nat.le_of_eq rfl) (hb hby d21_1) (fun _ _ => ⟨rfl, e0, (by decide : 0 + 0 ≤ _), (by decide : 0 + 0 ≤ _)⟩)
  dsimp only [Pt.U, Pt.locs, Pt.cells, Pt.slots] at X1 l1 y1 z1 st1 hQ1
  rw [l1, y1, z1] at X1
  obtain ⟨rfl, N1q, e1⟩ := hQ1
  have N1 := Fr.app N0 N1q
  refine go (fun t kt => st1.trans kt) ?_
  show Go p e below _ (T1.setTop (mkF m 4 #[.val (.ref a)] []))
  refine goOut X1 (fun _ => rfl) hlk (fun fs hr => X1.returnOut hx Bd.returns (hb hby d21_4) hr) (by decide) (by decide) ?_
  rw [e1]
  exact ⟨rfl, N1, rfl⟩
theorem d20_0 : decode jdk_46_method_1_code 0 = .ok (.aload_n 0, 1) := by decide +kernel
theorem d20_1 : decode jdk_46_method_1_code 1 = .ok (.invokespecial 1, 3) := by decide +kernel
theorem d20_4 : decode jdk_46_method_1_code 4 = .ok (.return_, 1) := by decide +kernel
theorem pn_java_util_ImmutableCollections_AbstractImmutableList : plainName "java/util/ImmutableCollections$AbstractImmutableList" = true := by first | (simp [plainName, overriddenIn]; done) | decide +kernel
theorem ef_rm_ail (m : MethodId) (x0 : Addr) : entryFrame m #[(.ref x0)] 1 = mkF m 0 #[.val (.ref x0)] [] := by first | (simp [entryFrame, mkF, argsToLocals, Value.category]; done) | rfl
def Q_ail (Z : State)  (h0 : Heap) (n0 : Nat) (v : Option Value) (h : Heap) (L : List Loc) : Prop := v = none ∧ Fr n0 L ∧ h = h0
set_option maxRecDepth 65536 in
set_option maxHeartbeats 40000000 in
theorem rm_ail (l : Launch) (Z : State) (a0 : Array Value) (hw : ∀ d ∈ tables_1, d.before a0 Z = true) (ws : List Jvm.Cond) (a : Addr)  (h0 : Heap) (n0 : Nat) (Z0 : n0 ≤ h0.size)  :
    MetFree l (⟨"java/util/ImmutableCollections$AbstractImmutableList", "<init>", "()V"⟩ : MethodName) (head1 (Jvm.Cond.code (⟨"java/util/ImmutableCollections$AbstractImmutableList", "<init>", "()V"⟩ : MethodName) jdk_46_method_1_code 1 none :: ws) ({ frames := 3, cells := 0, slots := 0, locals := 36 } : Room)) (fun av' U => av' = #[(.ref a)] ∧ Z.Warmed39 U.vm ∧ U.heap = h0) (fun _ _ _ _ _ => True) (fun _ U o U' => ∃ v L, o = .returned v ∧ Q_ail Z  h0 n0 v U'.heap L ∧ FrameEnd U o U' L ({ frames := 3, cells := 0, slots := 0, locals := 36 } : Room).cells ({ frames := 3, cells := 0, slots := 0, locals := 36 } : Room).slots) := by
  refine MetFree.of_bodySF (plainFor_of_name pn_java_util_ImmutableCollections_AbstractImmutableList) hisR ?_
  intro p e s m args below meth c s₁ Bd hml0 hP hK
  obtain ⟨rfl, hZ, hh⟩ := hP
  have hx := Bd.exec
  have hby := Bd.bytes
  have hlk := Bd.notSynchronized
  have hml : c.maxLocals = 1 := hml0
  have hown : s.vm.findClass "java/util/ImmutableCollections$AbstractImmutableList" = some m.cls := findClass_of_methodNamed Bd.named
  have hnm := (name_of_methodNamed Bd.named Bd.method).1
  have X0 : Stand p l e ({ frames := 3, cells := 0, slots := 0, locals := 36 } : Room) s m #[(.ref a)] below meth c s₁ [] 0 0 := Stand.of_body Bd
  have e0 : s₁.heap = h0 := by rw [← hh, Bd.state]; rfl
  have N0 := Fr.nil n0
  show Go p e below (Kq s (Q_ail Z  h0 n0) ({ frames := 3, cells := 0, slots := 0, locals := 36 } : Room).cells ({ frames := 3, cells := 0, slots := 0, locals := 36 } : Room).slots) _
  refine go (fun t kt => castTop (ef_rm_ail m a) kt) ?_
  show Go p e below _ (s₁.setTop (mkF m 0 #[.val (.ref a)] []))
  refine go (fun t kt' => by refine XS.aloadN X0.here hx rfl (hb hby d20_0) rfl rfl ?_; exact kt') ?_
  show Go p e below _ (s₁.setTop (mkF m 1 #[.val (.ref a)] [(.ref a)]))
  obtain ⟨_, _, ⟨T1, L1, k1, n1⟩, -, X1, ⟨Lc1, hQ1, l1, y1, z1⟩, st1⟩ := X0.specialBack hx (y := (⟨"java/util/ImmutableCollections$AbstractImmutableCollection", "<init>", "()V"⟩ : MethodName)) rfl hown (mvT hZ (hw _ (List.mem_of_getElem? (i := 154) rfl))) (mvT hZ (hw _ (List.mem_of_getElem? (i := 155) rfl))) (mvT hZ (hw _ (List.mem_of_getElem? (i := 159) rfl))) (by decide) (backOf (W := 0) (rm_aic l Z a0 hw [] a h0 n0 Z0 ) hZ (hw _ (List.mem_of_getElem? (i := 159) rfl)) (hw _ (List.mem_of_getElem? (i := 158) rfl)) (by decide) (by decide)) (g := (mkF m 1 #[.val (.ref a)] [(.ref a)])) rfl (by rw [hml]; rfl) (Steps.refl _) (a := a) (argsL := []) (rest := []) (lenOf pd_0 rfl) rfl (by show 2 * 0 + _ ≤ _; exact Nat.le_of_eq rfl) (hb hby d20_1) (fun _ _ => ⟨rfl, e0, (by decide : 0 + 0 ≤ _), (by decide : 0 + 0 ≤ _)⟩)
  dsimp only [Pt.U, Pt.locs, Pt.cells, Pt.slots] at X1 l1 y1 z1 st1 hQ1
  rw [l1, y1, z1] at X1
  obtain ⟨rfl, N1q, e1⟩ := hQ1
  have N1 := Fr.app N0 N1q
  refine go (fun t kt => st1.trans kt) ?_
  show Go p e below _ (T1.setTop (mkF m 4 #[.val (.ref a)] []))
  refine goOut X1 (fun _ => rfl) hlk (fun fs hr => X1.returnOut hx Bd.returns (hb hby d20_4) hr) (by decide) (by decide) ?_
  rw [e1]
  exact ⟨rfl, N1, rfl⟩
theorem d2_0 : decode jdk_39_method_1_code 0 = .ok (.aload_n 0, 1) := by decide +kernel
theorem d2_1 : decode jdk_39_method_1_code 1 = .ok (.invokespecial 1, 3) := by decide +kernel
theorem d2_4 : decode jdk_39_method_1_code 4 = .ok (.aload_n 0, 1) := by decide +kernel
theorem d2_5 : decode jdk_39_method_1_code 5 = .ok (.iconst 0, 1) := by decide +kernel
theorem d2_6 : decode jdk_39_method_1_code 6 = .ok (.putfield 7, 3) := by decide +kernel
theorem d2_9 : decode jdk_39_method_1_code 9 = .ok (.return_, 1) := by decide +kernel
theorem pn_java_util_AbstractList : plainName "java/util/AbstractList" = true := by first | (simp [plainName, overriddenIn]; done) | decide +kernel
theorem ef_rm_al (m : MethodId) (x0 : Addr) : entryFrame m #[(.ref x0)] 1 = mkF m 0 #[.val (.ref x0)] [] := by first | (simp [entryFrame, mkF, argsToLocals, Value.category]; done) | rfl
def Q_al (Z : State) (a : Addr) (h0 : Heap) (n0 : Nat) (v : Option Value) (h : Heap) (L : List Loc) : Prop := v = none ∧ Fr n0 L ∧ Keep h0 h [a] ∧ Exa Z h a "java/util/ArrayList" ∧ Fld Z h a "java/util/AbstractList" "modCount" "I" (.int (0 : Int32)) ∧ Fld Z h a "java/util/ArrayList" "elementData" "[Ljava/lang/Object;" .null ∧ Fld Z h a "java/util/ArrayList" "size" "I" (.int (0 : Int32))
set_option maxRecDepth 65536 in
set_option maxHeartbeats 40000000 in
theorem rm_al (l : Launch) (Z : State) (a0 : Array Value) (hw : ∀ d ∈ tables_1, d.before a0 Z = true) (ws : List Jvm.Cond) (a : Addr)  (h0 : Heap) (n0 : Nat) (Z0 : n0 ≤ h0.size) (E_a : Exa Z h0 a "java/util/ArrayList") (g_a : n0 ≤ a) (F_modCount_a : Fld Z h0 a "java/util/AbstractList" "modCount" "I" (.int (0 : Int32))) (F_elementData_a : Fld Z h0 a "java/util/ArrayList" "elementData" "[Ljava/lang/Object;" .null) (F_size_a : Fld Z h0 a "java/util/ArrayList" "size" "I" (.int (0 : Int32))) :
    MetFree l (⟨"java/util/AbstractList", "<init>", "()V"⟩ : MethodName) (head1 (Jvm.Cond.code (⟨"java/util/AbstractList", "<init>", "()V"⟩ : MethodName) jdk_39_method_1_code 1 none :: ws) ({ frames := 2, cells := 0, slots := 0, locals := 24 } : Room)) (fun av' U => av' = #[(.ref a)] ∧ Z.Warmed39 U.vm ∧ U.heap = h0) (fun _ _ _ _ _ => True) (fun _ U o U' => ∃ v L, o = .returned v ∧ Q_al Z a h0 n0 v U'.heap L ∧ FrameEnd U o U' L ({ frames := 2, cells := 0, slots := 0, locals := 24 } : Room).cells ({ frames := 2, cells := 0, slots := 0, locals := 24 } : Room).slots) := by
  refine MetFree.of_bodySF (plainFor_of_name pn_java_util_AbstractList) hisR ?_
  intro p e s m args below meth c s₁ Bd hml0 hP hK
  obtain ⟨rfl, hZ, hh⟩ := hP
  have hx := Bd.exec
  have hby := Bd.bytes
  have hlk := Bd.notSynchronized
  have hml : c.maxLocals = 1 := hml0
  have hown : s.vm.findClass "java/util/AbstractList" = some m.cls := findClass_of_methodNamed Bd.named
  have hnm := (name_of_methodNamed Bd.named Bd.method).1
  have X0 : Stand p l e ({ frames := 2, cells := 0, slots := 0, locals := 24 } : Room) s m #[(.ref a)] below meth c s₁ [] 0 0 := Stand.of_body Bd
  have e0 : s₁.heap = h0 := by rw [← hh, Bd.state]; rfl
  have N0 := Fr.nil n0
  show Go p e below (Kq s (Q_al Z a h0 n0) ({ frames := 2, cells := 0, slots := 0, locals := 24 } : Room).cells ({ frames := 2, cells := 0, slots := 0, locals := 24 } : Room).slots) _
  refine go (fun t kt => castTop (ef_rm_al m a) kt) ?_
  have K0 := Keep.refl h0 [a]
  show Go p e below _ (s₁.setTop (mkF m 0 #[.val (.ref a)] []))
  refine go (fun t kt' => by refine XS.aloadN X0.here hx rfl (hb hby d2_0) rfl rfl ?_; exact kt') ?_
  show Go p e below _ (s₁.setTop (mkF m 1 #[.val (.ref a)] [(.ref a)]))
  obtain ⟨_, _, ⟨T1, L1, k1, n1⟩, -, X1, ⟨Lc1, hQ1, l1, y1, z1⟩, st1⟩ := X0.specialBack hx (y := (⟨"java/util/AbstractCollection", "<init>", "()V"⟩ : MethodName)) rfl hown (mvT hZ (hw _ (List.mem_of_getElem? (i := 15) rfl))) (mvT hZ (hw _ (List.mem_of_getElem? (i := 16) rfl))) (mvT hZ (hw _ (List.mem_of_getElem? (i := 20) rfl))) (by decide) (backOf (W := 0) (rm_ac l Z a0 hw [] a h0 n0 Z0 ) hZ (hw _ (List.mem_of_getElem? (i := 20) rfl)) (hw _ (List.mem_of_getElem? (i := 19) rfl)) (by decide) (by decide)) (g := (mkF m 1 #[.val (.ref a)] [(.ref a)])) rfl (by rw [hml]; rfl) (Steps.refl _) (a := a) (argsL := []) (rest := []) (lenOf pd_0 rfl) rfl (by show 2 * 0 + _ ≤ _; exact Nat.le_of_eq rfl) (hb hby d2_1) (fun _ _ => ⟨rfl, e0, (by decide : 0 + 0 ≤ _), (by decide : 0 + 0 ≤ _)⟩)
  dsimp only [Pt.U, Pt.locs, Pt.cells, Pt.slots] at X1 l1 y1 z1 st1 hQ1
  rw [l1, y1, z1] at X1
  obtain ⟨rfl, N1q, e1⟩ := hQ1
  have N1 := Fr.app N0 N1q
  refine go (fun t kt => st1.trans kt) ?_
  show Go p e below _ (T1.setTop (mkF m 4 #[.val (.ref a)] []))
  refine go (fun t kt' => by refine XS.aloadN X1.here hx rfl (hb hby d2_4) rfl rfl ?_; exact kt') ?_
  show Go p e below _ (T1.setTop (mkF m 5 #[.val (.ref a)] [(.ref a)]))
  refine go (fun t kt' => by refine XS.iconst X1.here hx rfl (hb hby d2_5) ?_; exact kt') ?_
  show Go p e below _ (T1.setTop (mkF m 6 #[.val (.ref a)] [(.int (0 : Int32)), (.ref a)]))
  obtain ⟨T2, h2, X2, e2, W2, st2⟩ := putF X1 hx hZ hown (host := "") (Or.inl (hw _ (List.mem_of_getElem? (i := 24) rfl))) Via.refl e1 F_modCount_a E_a (Or.inl (hw _ (List.mem_of_getElem? (i := 25) rfl))) (hw _ (List.mem_of_getElem? (i := 4) rfl)) (ty := .int) (by decide) rfl rfl (g := (mkF m 6 #[.val (.ref a)] [(.int (0 : Int32)), (.ref a)])) rfl rfl (hb hby d2_6)
  have N2 := Fr.snoc X2 N1 g_a
  have f3_Z := Nat.le_trans Z0 (Keep.of_wr W2).1
  have f4_K := K0.wr W2 (Or.inl (List.mem_of_getElem? (i := 0) rfl))
  have f5_E_a := E_a.wr W2
  have f6_F_a_modCount := F_modCount_a.same W2
  have f7_F_a_elementData := F_elementData_a.other W2 (Or.inr (slot_ne (Or.inl (hw _ (List.mem_of_getElem? (i := 28) rfl))) (Or.inl (hw _ (List.mem_of_getElem? (i := 25) rfl))) (by decide) (t := (.array (.object "java/lang/Object"))) (t' := .int) (by decide) (by decide)))
  have f8_F_a_size := F_size_a.other W2 (Or.inr (slot_ne (Or.inl (hw _ (List.mem_of_getElem? (i := 62) rfl))) (Or.inl (hw _ (List.mem_of_getElem? (i := 25) rfl))) (by decide) (t := .int) (t' := .int) (by decide) (by decide)))
  refine go st2 ?_
  show Go p e below _ (T2.setTop (mkF m 9 #[.val (.ref a)] []))
  refine goOut X2 (fun _ => rfl) hlk (fun fs hr => X2.returnOut hx Bd.returns (hb hby d2_9) hr) (by decide) (by decide) ?_
  rw [e2]
  exact ⟨rfl, N2, f4_K, f5_E_a, f6_F_a_modCount, f7_F_a_elementData, f8_F_a_size⟩
theorem d1_0 : decode jdk_38_method_2_code 0 = .ok (.aload_n 0, 1) := by decide +kernel
theorem d1_1 : decode jdk_38_method_2_code 1 = .ok (.invokespecial 1, 3) := by decide +kernel
theorem d1_4 : decode jdk_38_method_2_code 4 = .ok (.aload_n 0, 1) := by decide +kernel
theorem d1_5 : decode jdk_38_method_2_code 5 = .ok (.getstatic 39, 3) := by decide +kernel
theorem d1_8 : decode jdk_38_method_2_code 8 = .ok (.putfield 9, 3) := by decide +kernel
theorem d1_11 : decode jdk_38_method_2_code 11 = .ok (.return_, 1) := by decide +kernel
theorem pn_java_util_ArrayList : plainName "java/util/ArrayList" = true := by first | (simp [plainName, overriddenIn]; done) | decide +kernel
theorem ef_rm_al0 (m : MethodId) (x0 : Addr) : entryFrame m #[(.ref x0)] 1 = mkF m 0 #[.val (.ref x0)] [] := by first | (simp [entryFrame, mkF, argsToLocals, Value.category]; done) | rfl
def Q_al0 (Z : State) (a dc : Addr) (h0 : Heap) (n0 : Nat) (v : Option Value) (h : Heap) (L : List Loc) : Prop := v = none ∧ Fr n0 L ∧ Keep h0 h [a] ∧ Exa Z h a "java/util/ArrayList" ∧ Fld Z h a "java/util/AbstractList" "modCount" "I" (.int (0 : Int32)) ∧ Fld Z h a "java/util/ArrayList" "elementData" "[Ljava/lang/Object;" (.ref dc) ∧ Fld Z h a "java/util/ArrayList" "size" "I" (.int (0 : Int32))
set_option maxRecDepth 65536 in
set_option maxHeartbeats 40000000 in
theorem rm_al0 (l : Launch) (Z : State) (a0 : Array Value) (hw : ∀ d ∈ tables_1, d.before a0 Z = true) (ws : List Jvm.Cond) (a : Addr) (dc el em ea : Addr)  (h0 : Heap) (n0 : Nat) (Z0 : n0 ≤ h0.size) (E_a : Exa Z h0 a "java/util/ArrayList") (g_a : n0 ≤ a) (F_modCount_a : Fld Z h0 a "java/util/AbstractList" "modCount" "I" (.int (0 : Int32))) (F_elementData_a : Fld Z h0 a "java/util/ArrayList" "elementData" "[Ljava/lang/Object;" .null) (F_size_a : Fld Z h0 a "java/util/ArrayList" "size" "I" (.int (0 : Int32))) (HS : own_sets Z dc el em ea) (OO : Old Z n0 h0) :
    MetFree l (⟨"java/util/ArrayList", "<init>", "()V"⟩ : MethodName) (head1 (Jvm.Cond.code (⟨"java/util/ArrayList", "<init>", "()V"⟩ : MethodName) jdk_38_method_2_code 1 none :: ws) ({ frames := 3, cells := 0, slots := 0, locals := 36 } : Room)) (fun av' U => av' = #[(.ref a)] ∧ Z.Warmed39 U.vm ∧ U.heap = h0) (fun _ _ _ _ _ => True) (fun _ U o U' => ∃ v L, o = .returned v ∧ Q_al0 Z a dc h0 n0 v U'.heap L ∧ FrameEnd U o U' L ({ frames := 3, cells := 0, slots := 0, locals := 36 } : Room).cells ({ frames := 3, cells := 0, slots := 0, locals := 36 } : Room).slots) := by
  refine MetFree.of_bodySF (plainFor_of_name pn_java_util_ArrayList) hisR ?_
  intro p e s m args below meth c s₁ Bd hml0 hP hK
  obtain ⟨rfl, hZ, hh⟩ := hP
  have hx := Bd.exec
  have hby := Bd.bytes
  have hlk := Bd.notSynchronized
  have hml : c.maxLocals = 1 := hml0
  have hown : s.vm.findClass "java/util/ArrayList" = some m.cls := findClass_of_methodNamed Bd.named
  have hnm := (name_of_methodNamed Bd.named Bd.method).1
  have X0 : Stand p l e ({ frames := 3, cells := 0, slots := 0, locals := 36 } : Room) s m #[(.ref a)] below meth c s₁ [] 0 0 := Stand.of_body Bd
  have e0 : s₁.heap = h0 := by rw [← hh, Bd.state]; rfl
  have N0 := Fr.nil n0
  show Go p e below (Kq s (Q_al0 Z a dc h0 n0) ({ frames := 3, cells := 0, slots := 0, locals := 36 } : Room).cells ({ frames := 3, cells := 0, slots := 0, locals := 36 } : Room).slots) _
  refine go (fun t kt => castTop (ef_rm_al0 m a) kt) ?_
  have HS0 := HS
  obtain ⟨S_dc, S_el, S_em, E_el, F_el, cE, A_el, Z_el⟩ := HS0
  have K0 := Keep.refl h0 [a]
  show Go p e below _ (s₁.setTop (mkF m 0 #[.val (.ref a)] []))
  refine go (fun t kt' => by refine XS.aloadN X0.here hx rfl (hb hby d1_0) rfl rfl ?_; exact kt') ?_
  show Go p e below _ (s₁.setTop (mkF m 1 #[.val (.ref a)] [(.ref a)]))
  obtain ⟨_, _, ⟨T1, L1, k1, n1⟩, -, X1, ⟨Lc1, hQ1, l1, y1, z1⟩, st1⟩ := X0.specialBack hx (y := (⟨"java/util/AbstractList", "<init>", "()V"⟩ : MethodName)) rfl hown (mvT hZ (hw _ (List.mem_of_getElem? (i := 9) rfl))) (mvT hZ (hw _ (List.mem_of_getElem? (i := 10) rfl))) (mvT hZ (hw _ (List.mem_of_getElem? (i := 14) rfl))) (by decide) (backOf (W := 0) (rm_al l Z a0 hw [] a  h0 n0 Z0 E_a g_a F_modCount_a F_elementData_a F_size_a) hZ (hw _ (List.mem_of_getElem? (i := 14) rfl)) (hw _ (List.mem_of_getElem? (i := 13) rfl)) (by decide) (by decide)) (g := (mkF m 1 #[.val (.ref a)] [(.ref a)])) rfl (by rw [hml]; rfl) (Steps.refl _) (a := a) (argsL := []) (rest := []) (lenOf pd_0 rfl) rfl (by show 2 * 0 + _ ≤ _; exact Nat.le_of_eq rfl) (hb hby d1_1) (fun _ _ => ⟨rfl, e0, (by decide : 0 + 0 ≤ _), (by decide : 0 + 0 ≤ _)⟩)
  dsimp only [Pt.U, Pt.locs, Pt.cells, Pt.slots] at X1 l1 y1 z1 st1 hQ1
  rw [l1, y1, z1] at X1
  obtain ⟨rfl, N1q, K1, P1_0, P1_1, P1_2, P1_3⟩ := hQ1
  have N1 := Fr.app N0 N1q
  have f2_Z := Nat.le_trans Z0 K1.1
  have f3_O := OO.keep K1 (allS g_a all0)
  have f4_K := K0.trans K1 (allS (Or.inl (List.mem_of_getElem? (i := 0) rfl)) all0)
  refine go (fun t kt => st1.trans kt) ?_
  show Go p e below _ (T1.setTop (mkF m 4 #[.val (.ref a)] []))
  refine go (fun t kt' => by refine XS.aloadN X1.here hx rfl (hb hby d1_4) rfl rfl ?_; exact kt') ?_
  show Go p e below _ (T1.setTop (mkF m 5 #[.val (.ref a)] [(.ref a)]))
  obtain ⟨T5, X5, e5, st5⟩ := getS2 X1 hx hZ hown (host := "") (Or.inl (hw _ (List.mem_of_getElem? (i := 26) rfl))) Via.refl rfl (Sta.ext f3_O.2 S_dc) (g := (mkF m 5 #[.val (.ref a)] [(.ref a)])) rfl (hb hby d1_5)
  refine go st5 ?_
  show Go p e below _ (T5.setTop (mkF m 8 #[.val (.ref a)] [(.ref dc), (.ref a)]))
  obtain ⟨T6, h6, X6, e6, W6, st6⟩ := putF X5 hx hZ hown (host := "") (Or.inl (hw _ (List.mem_of_getElem? (i := 27) rfl))) Via.refl e5 P1_2 P1_0 (Or.inl (hw _ (List.mem_of_getElem? (i := 28) rfl))) (hw _ (List.mem_of_getElem? (i := 4) rfl)) (ty := (.array (.object "java/lang/Object"))) (by decide) rfl rfl (g := (mkF m 8 #[.val (.ref a)] [(.ref dc), (.ref a)])) rfl rfl (hb hby d1_8)
  have N6 := Fr.snoc X6 N1 g_a
  have f7_Z := Nat.le_trans f2_Z (Keep.of_wr W6).1
  have f8_O := f3_O.wr W6 g_a
  have f9_K := f4_K.wr W6 (Or.inl (List.mem_of_getElem? (i := 0) rfl))
  have f10_E_a := P1_0.wr W6
  have f11_F_a_modCount := P1_1.other W6 (Or.inr (slot_ne (Or.inl (hw _ (List.mem_of_getElem? (i := 25) rfl))) (Or.inl (hw _ (List.mem_of_getElem? (i := 28) rfl))) (by decide) (t := .int) (t' := (.array (.object "java/lang/Object"))) (by decide) (by decide)))
  have f12_F_a_elementData := P1_2.same W6
  have f13_F_a_size := P1_3.other W6 (Or.inr (slot_ne (Or.inl (hw _ (List.mem_of_getElem? (i := 62) rfl))) (Or.inl (hw _ (List.mem_of_getElem? (i := 28) rfl))) (by decide) (t := .int) (t' := (.array (.object "java/lang/Object"))) (by decide) (by decide)))
  refine go st6 ?_
  show Go p e below _ (T6.setTop (mkF m 11 #[.val (.ref a)] []))
  refine goOut X6 (fun _ => rfl) hlk (fun fs hr => X6.returnOut hx Bd.returns (hb hby d1_11) hr) (by decide) (by decide) ?_
  rw [e6]
  exact ⟨rfl, N6, f9_K, f10_E_a, f11_F_a_modCount, f12_F_a_elementData, f13_F_a_size⟩
theorem d10_0 : decode jdk_40_method_36_code 0 = .ok (.getstatic 90, 3) := by decide +kernel
theorem d10_3 : decode jdk_40_method_36_code 3 = .ok (.areturn, 1) := by decide +kernel
theorem pn_java_util_List : plainName "java/util/List" = true := by first | (simp [plainName, overriddenIn]; done) | decide +kernel
theorem ef_rm_lo (m : MethodId)  : entryFrame m #[] 0 = mkF m 0 #[] [] := by first | (simp [entryFrame, mkF, argsToLocals, Value.category]; done) | rfl
def Q_lo (Z : State) (el : Addr) (h0 : Heap) (n0 : Nat) (v : Option Value) (h : Heap) (L : List Loc) : Prop := v = some (.ref el) ∧ Fr n0 L ∧ h = h0
set_option maxRecDepth 65536 in
set_option maxHeartbeats 40000000 in
theorem rm_lo (l : Launch) (Z : State) (a0 : Array Value) (hw : ∀ d ∈ tables_1, d.before a0 Z = true) (ws : List Jvm.Cond)  (dc el em ea : Addr)  (h0 : Heap) (n0 : Nat) (Z0 : n0 ≤ h0.size)  (HS : own_sets Z dc el em ea) (OO : Old Z n0 h0) :
    MetFree l (⟨"java/util/List", "of", "()Ljava/util/List;"⟩ : MethodName) (head1 (Jvm.Cond.code (⟨"java/util/List", "of", "()Ljava/util/List;"⟩ : MethodName) jdk_40_method_36_code 0 (some (.object "java/util/List")) :: ws) ({ frames := 0, cells := 0, slots := 0, locals := 0 } : Room)) (fun av' U => av' = #[] ∧ Z.Warmed39 U.vm ∧ U.heap = h0) (fun _ _ _ _ _ => True) (fun _ U o U' => ∃ v L, o = .returned v ∧ Q_lo Z el h0 n0 v U'.heap L ∧ FrameEnd U o U' L ({ frames := 0, cells := 0, slots := 0, locals := 0 } : Room).cells ({ frames := 0, cells := 0, slots := 0, locals := 0 } : Room).slots) := by
  refine MetFree.of_bodySF (plainFor_of_name pn_java_util_List) hisR ?_
  intro p e s m args below meth c s₁ Bd hml0 hP hK
  obtain ⟨rfl, hZ, hh⟩ := hP
  have hx := Bd.exec
  have hby := Bd.bytes
  have hlk := Bd.notSynchronized
  have hml : c.maxLocals = 0 := hml0
  have hown : s.vm.findClass "java/util/List" = some m.cls := findClass_of_methodNamed Bd.named
  have hnm := (name_of_methodNamed Bd.named Bd.method).1
  have X0 : Stand p l e ({ frames := 0, cells := 0, slots := 0, locals := 0 } : Room) s m #[] below meth c s₁ [] 0 0 := Stand.of_body Bd
  have e0 : s₁.heap = h0 := by rw [← hh, Bd.state]; rfl
  have N0 := Fr.nil n0
  show Go p e below (Kq s (Q_lo Z el h0 n0) ({ frames := 0, cells := 0, slots := 0, locals := 0 } : Room).cells ({ frames := 0, cells := 0, slots := 0, locals := 0 } : Room).slots) _
  refine go (fun t kt => castTop (ef_rm_lo m ) kt) ?_
  have HS0 := HS
  obtain ⟨S_dc, S_el, S_em, E_el, F_el, cE, A_el, Z_el⟩ := HS0
  show Go p e below _ (s₁.setTop (mkF m 0 #[] []))
  obtain ⟨T1, X1, e1, st1⟩ := getS2 X0 hx hZ hown (host := "") (Or.inl (hw _ (List.mem_of_getElem? (i := 66) rfl))) Via.refl e0 (Sta.ext OO.2 S_el) (g := (mkF m 0 #[] [])) rfl (hb hby d10_0)
  refine go st1 ?_
  show Go p e below _ (T1.setTop (mkF m 3 #[] [(.ref el)]))
  refine goOut X1 (fun h => by rw [Bd.returns] at h; cases h) hlk (fun fs hr => retOut X1 hx Bd.returns rfl (Or.inr (Or.inr (Or.inr (Or.inr ⟨rfl, rfl, rfl⟩)))) (hb hby d10_3) hr) (by decide) (by decide) ?_
  rw [e1]
  exact ⟨rfl, N0, rfl⟩
theorem d9_0 : decode jdk_38_method_9_code 0 = .ok (.aload_n 0, 1) := by decide +kernel
theorem d9_1 : decode jdk_38_method_9_code 1 = .ok (.getfield 48, 3) := by decide +kernel
theorem d9_4 : decode jdk_38_method_9_code 4 = .ok (.ifCond .ne 7, 3) := by decide +kernel
theorem d9_7 : decode jdk_38_method_9_code 7 = .ok (.iconst 1, 1) := by decide +kernel
theorem d9_8 : decode jdk_38_method_9_code 8 = .ok (.goto 4, 3) := by decide +kernel
theorem d9_12 : decode jdk_38_method_9_code 12 = .ok (.ireturn, 1) := by decide +kernel
theorem ef_rm_ie (m : MethodId) (x0 : Addr) : entryFrame m #[(.ref x0)] 1 = mkF m 0 #[.val (.ref x0)] [] := by first | (simp [entryFrame, mkF, argsToLocals, Value.category]; done) | rfl
def Q_ie (Z : State)  (h0 : Heap) (n0 : Nat) (v : Option Value) (h : Heap) (L : List Loc) : Prop := v = some (.int (1 : Int32)) ∧ Fr n0 L ∧ h = h0
set_option maxRecDepth 65536 in
set_option maxHeartbeats 40000000 in
theorem rm_ie (l : Launch) (Z : State) (a0 : Array Value) (hw : ∀ d ∈ tables_1, d.before a0 Z = true) (ws : List Jvm.Cond) (a : Addr)  (h0 : Heap) (n0 : Nat) (Z0 : n0 ≤ h0.size) (E_a : Exa Z h0 a "java/util/ArrayList") (F_size_a : Fld Z h0 a "java/util/ArrayList" "size" "I" (.int (0 : Int32))) :
    MetFree l (⟨"java/util/ArrayList", "isEmpty", "()Z"⟩ : MethodName) (head1 (Jvm.Cond.code (⟨"java/util/ArrayList", "isEmpty", "()Z"⟩ : MethodName) jdk_38_method_9_code 1 (some .boolean) :: ws) ({ frames := 0, cells := 0, slots := 0, locals := 0 } : Room)) (fun av' U => av' = #[(.ref a)] ∧ Z.Warmed39 U.vm ∧ U.heap = h0) (fun _ _ _ _ _ => True) (fun _ U o U' => ∃ v L, o = .returned v ∧ Q_ie Z  h0 n0 v U'.heap L ∧ FrameEnd U o U' L ({ frames := 0, cells := 0, slots := 0, locals := 0 } : Room).cells ({ frames := 0, cells := 0, slots := 0, locals := 0 } : Room).slots) := by
  refine MetFree.of_bodySF (plainFor_of_name pn_java_util_ArrayList) hisR ?_
  intro p e s m args below meth c s₁ Bd hml0 hP hK
  obtain ⟨rfl, hZ, hh⟩ := hP
  have hx := Bd.exec
  have hby := Bd.bytes
  have hlk := Bd.notSynchronized
  have hml : c.maxLocals = 1 := hml0
  have hown : s.vm.findClass "java/util/ArrayList" = some m.cls := findClass_of_methodNamed Bd.named
  have hnm := (name_of_methodNamed Bd.named Bd.method).1
  have X0 : Stand p l e ({ frames := 0, cells := 0, slots := 0, locals := 0 } : Room) s m #[(.ref a)] below meth c s₁ [] 0 0 := Stand.of_body Bd
  have e0 : s₁.heap = h0 := by rw [← hh, Bd.state]; rfl
  have N0 := Fr.nil n0
  show Go p e below (Kq s (Q_ie Z  h0 n0) ({ frames := 0, cells := 0, slots := 0, locals := 0 } : Room).cells ({ frames := 0, cells := 0, slots := 0, locals := 0 } : Room).slots) _
  refine go (fun t kt => castTop (ef_rm_ie m a) kt) ?_
  show Go p e below _ (s₁.setTop (mkF m 0 #[.val (.ref a)] []))
  refine go (fun t kt' => by refine XS.aloadN X0.here hx rfl (hb hby d9_0) rfl rfl ?_; exact kt') ?_
  show Go p e below _ (s₁.setTop (mkF m 1 #[.val (.ref a)] [(.ref a)]))
  obtain ⟨T1, X1, e1, st1⟩ := getF X0 hx hZ hown (host := "") (Or.inl (hw _ (List.mem_of_getElem? (i := 61) rfl))) Via.refl e0 F_size_a (g := (mkF m 1 #[.val (.ref a)] [(.ref a)])) rfl rfl (hb hby d9_1)
  refine go st1 ?_
  show Go p e below _ (T1.setTop (mkF m 4 #[.val (.ref a)] [(.int (0 : Int32))]))
  have c4_2 : ¬ (¬ (0 : Int32) = (0 : Int32)) := by decide
  refine go (fun t kt' => by refine XS.ifNo X1.here hx rfl (hb hby d9_4) rfl ((if0 _ _).trans (teq (Decidable.not_not.mp c4_2)).2) ?_; exact kt') ?_
  show Go p e below _ (T1.setTop (mkF m 7 #[.val (.ref a)] []))
  refine go (fun t kt' => by refine XS.iconst X1.here hx rfl (hb hby d9_7) ?_; exact kt') ?_
  show Go p e below _ (T1.setTop (mkF m 8 #[.val (.ref a)] [(.int (1 : Int32))]))
  refine go (fun t kt' => by refine XS.goto X1.here hx rfl (pc0 := 8) (pc' := 12) rfl (hb hby d9_8) (by decide) (by decide) ?_; exact kt') ?_
  show Go p e below _ (T1.setTop (mkF m 12 #[.val (.ref a)] [(.int (1 : Int32))]))
  refine goOut X1 (fun h => by rw [Bd.returns] at h; cases h) hlk (fun fs hr => retN X1 hx (t := .boolean) Bd.returns (by simp) (hb hby d9_12) hr) (by decide) (by decide) ?_
  rw [e1]
  exact ⟨rfl, N0, rfl⟩
theorem own_ns {Z : State} {K : String} {t : ClassId} {a0 : Array Value} (hw : ∀ d ∈ tables_1, d.before a0 Z = true) (ht : Z.vm.findClass K = some t) (n1 : "java/lang/Object" ≠ K) (n2 : "java/util/AbstractCollection" ≠ K) (n3 : "java/util/AbstractList" ≠ K) (n4 : "java/util/ArrayList" ≠ K) : NS Z "java/util/ArrayList" K := by
  refine NS.step (hw _ (List.mem_of_getElem? (i := 47) rfl)) (NS.step (hw _ (List.mem_of_getElem? (i := 48) rfl)) (NS.step (hw _ (List.mem_of_getElem? (i := 49) rfl)) ?_ n2) n3) n4
  obtain ⟨c, k, h1, h2, h3, -, -⟩ := Cond.noSuperclass_spec (hw _ (List.mem_of_getElem? (i := 50) rfl))
  have ne := ids_ne h1 ht n1
  refine ⟨c, t, h1, ht, fun fuel => ?_⟩
  cases fuel with
  | zero => rfl
  | succ f => simp [Vm.isSubclassAux, ne, h2, h3]
theorem own_no {Z : State} {K : String} {t : ClassId} {kt : Class} {a0 : Array Value} (hw : ∀ d ∈ tables_1, d.before a0 Z = true) (ht : Z.vm.findClass K = some t) (hk : Z.vm.classes[t]? = some kt) (hi : kt.isInterface = false) (n1 : "java/lang/Object" ≠ K) (n2 : "java/util/AbstractCollection" ≠ K) (n3 : "java/util/AbstractList" ≠ K) (n4 : "java/util/ArrayList" ≠ K) :
    ∃ c t, Z.vm.findClass "java/util/ArrayList" = some c ∧ Z.vm.findClass K = some t ∧ Z.vm.assignable c t = false := by
  obtain ⟨c, t', h0, g0, n5⟩ := own_ns hw ht n1 n2 n3 n4
  cases ht.symm.trans g0
  obtain ⟨p, k, kp, h1, h2, h3, h4, h5, -, h7⟩ := Cond.superclass_spec h0 (hw _ (List.mem_of_getElem? (i := 47) rfl))
  have ne := ids_ne h0 ht n4
  refine ⟨c, t, h0, ht, ?_⟩
  show Z.vm.assignableAux (255 + 1) c t = false
  cases hq : kt.kind <;> simp [Vm.assignableAux, ne, h2, hk, h5, hq, hi, Vm.isSubclass, n5]
theorem own_no12 {Z : State} {a0 : Array Value} (hw : ∀ d ∈ tables_1, d.before a0 Z = true) : ∃ c t, Z.vm.findClass "java/util/ArrayList" = some c ∧ Z.vm.findClass "java/util/ImmutableCollections$List12" = some t ∧ Z.vm.assignable c t = false := by
  obtain ⟨t, k, h1, h2, -, h4, -⟩ := Cond.instantiable_spec (hw _ (List.mem_of_getElem? (i := 142) rfl))
  exact own_no hw h1 h2 (by cases hq : k.isInterface <;> simp_all) (by decide) (by decide) (by decide) (by decide)
theorem own_noN {Z : State} {a0 : Array Value} (hw : ∀ d ∈ tables_1, d.before a0 Z = true) : ∃ c t, Z.vm.findClass "java/util/ArrayList" = some c ∧ Z.vm.findClass "java/util/ImmutableCollections$ListN" = some t ∧ Z.vm.assignable c t = false := by
  obtain ⟨c, r, m, h1, h2, h3, h4, mk, h5, h6⟩ := Cond.selects_spec (hw _ (List.mem_of_getElem? (i := 90) rfl))
  exact own_no hw (findClass_of_methodNamed h3) h5 h6 (by decide) (by decide) (by decide) (by decide)
theorem d8_0 : decode jdk_56_method_3_code 0 = .ok (.aload_n 0, 1) := by decide +kernel
theorem d8_1 : decode jdk_56_method_3_code 1 = .ok (.instanceof 10, 3) := by decide +kernel
theorem d8_4 : decode jdk_56_method_3_code 4 = .ok (.ifCond .ne 22, 3) := by decide +kernel
theorem d8_7 : decode jdk_56_method_3_code 7 = .ok (.aload_n 0, 1) := by decide +kernel
theorem d8_8 : decode jdk_56_method_3_code 8 = .ok (.instanceof 12, 3) := by decide +kernel
theorem d8_11 : decode jdk_56_method_3_code 11 = .ok (.ifCond .eq 20, 3) := by decide +kernel
theorem d8_31 : decode jdk_56_method_3_code 31 = .ok (.aload_n 0, 1) := by decide +kernel
theorem d8_32 : decode jdk_56_method_3_code 32 = .ok (.invokeinterface 20 1, 5) := by decide +kernel
theorem pd_1 : parseMethodDescriptor "()Z" = some ⟨[], some .boolean⟩ := by decide +kernel
theorem d8_37 : decode jdk_56_method_3_code 37 = .ok (.ifCond .eq 7, 3) := by decide +kernel
theorem d8_40 : decode jdk_56_method_3_code 40 = .ok (.invokestatic 26, 3) := by decide +kernel
theorem pd_2 : parseMethodDescriptor "()Ljava/util/List;" = some ⟨[], some (.object "java/util/List")⟩ := by decide +kernel
theorem d8_43 : decode jdk_56_method_3_code 43 = .ok (.areturn, 1) := by decide +kernel
theorem pn_java_util_ImmutableCollections : plainName "java/util/ImmutableCollections" = true := by first | (simp [plainName, overriddenIn]; done) | decide +kernel
theorem ef_rm_lcA (m : MethodId) (x0 : Addr) : entryFrame m #[(.ref x0)] 2 = mkF m 0 #[.val (.ref x0), .unset] [] := by first | (simp [entryFrame, mkF, argsToLocals, Value.category]; done) | rfl
def Q_lcA (Z : State) (el : Addr) (h0 : Heap) (n0 : Nat) (v : Option Value) (h : Heap) (L : List Loc) : Prop := v = some (.ref el) ∧ Fr n0 L ∧ h = h0
set_option maxRecDepth 65536 in
set_option maxHeartbeats 40000000 in
theorem rm_lcA (l : Launch) (Z : State) (a0 : Array Value) (hw : ∀ d ∈ tables_1, d.before a0 Z = true) (ws : List Jvm.Cond) (a : Addr) (dc el em ea : Addr)  (h0 : Heap) (n0 : Nat) (Z0 : n0 ≤ h0.size) (E_a : Exa Z h0 a "java/util/ArrayList") (F_size_a : Fld Z h0 a "java/util/ArrayList" "size" "I" (.int (0 : Int32))) (HS : own_sets Z dc el em ea) (OO : Old Z n0 h0) :
    MetFree l (⟨"java/util/ImmutableCollections", "listCopy", "(Ljava/util/Collection;)Ljava/util/List;"⟩ : MethodName) (head1 (Jvm.Cond.code (⟨"java/util/ImmutableCollections", "listCopy", "(Ljava/util/Collection;)Ljava/util/List;"⟩ : MethodName) jdk_56_method_3_code 2 (some (.object "java/util/List")) :: ws) ({ frames := 1, cells := 0, slots := 0, locals := 12 } : Room)) (fun av' U => av' = #[(.ref a)] ∧ Z.Warmed39 U.vm ∧ U.heap = h0) (fun _ _ _ _ _ => True) (fun _ U o U' => ∃ v L, o = .returned v ∧ Q_lcA Z el h0 n0 v U'.heap L ∧ FrameEnd U o U' L ({ frames := 1, cells := 0, slots := 0, locals := 12 } : Room).cells ({ frames := 1, cells := 0, slots := 0, locals := 12 } : Room).slots) := by
  refine MetFree.of_bodySF (plainFor_of_name pn_java_util_ImmutableCollections) hisR ?_
  intro p e s m args below meth c s₁ Bd hml0 hP hK
  obtain ⟨rfl, hZ, hh⟩ := hP
  have hx := Bd.exec
  have hby := Bd.bytes
  have hlk := Bd.notSynchronized
  have hml : c.maxLocals = 2 := hml0
  have hown : s.vm.findClass "java/util/ImmutableCollections" = some m.cls := findClass_of_methodNamed Bd.named
  have hnm := (name_of_methodNamed Bd.named Bd.method).1
  have X0 : Stand p l e ({ frames := 1, cells := 0, slots := 0, locals := 12 } : Room) s m #[(.ref a)] below meth c s₁ [] 0 0 := Stand.of_body Bd
  have e0 : s₁.heap = h0 := by rw [← hh, Bd.state]; rfl
  have N0 := Fr.nil n0
  show Go p e below (Kq s (Q_lcA Z el h0 n0) ({ frames := 1, cells := 0, slots := 0, locals := 12 } : Room).cells ({ frames := 1, cells := 0, slots := 0, locals := 12 } : Room).slots) _
  refine go (fun t kt => castTop (ef_rm_lcA m a) kt) ?_
  have HS0 := HS
  obtain ⟨S_dc, S_el, S_em, E_el, F_el, cE, A_el, Z_el⟩ := HS0
  show Go p e below _ (s₁.setTop (mkF m 0 #[.val (.ref a), .unset] []))
  refine go (fun t kt' => by refine XS.aloadN X0.here hx rfl (hb hby d8_0) rfl rfl ?_; exact kt') ?_
  show Go p e below _ (s₁.setTop (mkF m 1 #[.val (.ref a), .unset] [(.ref a)]))
  obtain ⟨T1, X1, e1, st1⟩ := instNo X0 hx hZ hown (hw _ (List.mem_of_getElem? (i := 46) rfl)) e0 E_a (own_no12 hw) (g := (mkF m 1 #[.val (.ref a), .unset] [(.ref a)])) rfl rfl (hb hby d8_1)
  refine go st1 ?_
  show Go p e below _ (T1.setTop (mkF m 4 #[.val (.ref a), .unset] [(.int (0 : Int32))]))
  have c4_2 : ¬ (¬ (0 : Int32) = (0 : Int32)) := by decide
  refine go (fun t kt' => by refine XS.ifNo X1.here hx rfl (hb hby d8_4) rfl ((if0 _ _).trans (teq (Decidable.not_not.mp c4_2)).2) ?_; exact kt') ?_
  show Go p e below _ (T1.setTop (mkF m 7 #[.val (.ref a), .unset] []))
  refine go (fun t kt' => by refine XS.aloadN X1.here hx rfl (hb hby d8_7) rfl rfl ?_; exact kt') ?_
  show Go p e below _ (T1.setTop (mkF m 8 #[.val (.ref a), .unset] [(.ref a)]))
  obtain ⟨T3, X3, e3, st3⟩ := instNo X1 hx hZ hown (hw _ (List.mem_of_getElem? (i := 51) rfl)) e1 E_a (own_noN hw) (g := (mkF m 8 #[.val (.ref a), .unset] [(.ref a)])) rfl rfl (hb hby d8_8)
  refine go st3 ?_
  show Go p e below _ (T3.setTop (mkF m 11 #[.val (.ref a), .unset] [(.int (0 : Int32))]))
  have c11_4 : (0 : Int32) = (0 : Int32) := by decide
  refine go (fun t kt' => by refine XS.ifYes X3.here hx rfl (pc0 := 11) (pc' := 31) rfl (hb hby d8_11) rfl ((if0 _ _).trans (teq c11_4).1) (by decide) (by decide) ?_; exact kt') ?_
  show Go p e below _ (T3.setTop (mkF m 31 #[.val (.ref a), .unset] []))
  refine go (fun t kt' => by refine XS.aloadN X3.here hx rfl (hb hby d8_31) rfl rfl ?_; exact kt') ?_
  show Go p e below _ (T3.setTop (mkF m 32 #[.val (.ref a), .unset] [(.ref a)]))
  obtain ⟨cq5, kq5, q5a, q5b, q5c⟩ := isOf hZ e3 E_a
  obtain ⟨_, _, ⟨T5, L5, k5, n5⟩, -, X5, ⟨Lc5, hQ5, l5, y5, z5⟩, st5⟩ := X3.interfaceBack hx (xi := (⟨"java/util/Collection", "isEmpty", "()Z"⟩ : MethodName)) (y := (⟨"java/util/ArrayList", "isEmpty", "()Z"⟩ : MethodName)) hown (mvT hZ (hw _ (List.mem_of_getElem? (i := 52) rfl))) (mvT hZ (hw _ (List.mem_of_getElem? (i := 53) rfl))) (mvT hZ (hw _ (List.mem_of_getElem? (i := 54) rfl))) (mvT hZ (hw _ (List.mem_of_getElem? (i := 55) rfl))) (mvT hZ (hw _ (List.mem_of_getElem? (i := 56) rfl))) (mvT hZ (hw _ (List.mem_of_getElem? (i := 57) rfl))) (mvT hZ (hw _ (List.mem_of_getElem? (i := 58) rfl))) (mvT hZ (hw _ (List.mem_of_getElem? (i := 59) rfl))) (by decide) (backOf (W := 0) (rm_ie l Z a0 hw [] a h0 n0 Z0 E_a F_size_a) hZ (hw _ (List.mem_of_getElem? (i := 60) rfl)) (hw _ (List.mem_of_getElem? (i := 5) rfl)) (by decide) (by decide)) q5a q5b q5c (g := (mkF m 32 #[.val (.ref a), .unset] [(.ref a)])) rfl (by rw [hml]; rfl) (Steps.refl _) (argsL := []) (rest := []) (lenOf pd_1 rfl) rfl (by show 2 * 0 + _ ≤ _; exact Nat.le_of_eq rfl) (hb hby d8_32) (fun _ _ => ⟨rfl, e3, (by decide : 0 + 0 ≤ _), (by decide : 0 + 0 ≤ _)⟩)
  dsimp only [Pt.U, Pt.locs, Pt.cells, Pt.slots] at X5 l5 y5 z5 st5 hQ5
  rw [l5, y5, z5] at X5
  obtain ⟨rfl, N5q, e5⟩ := hQ5
  have N5 := Fr.app N0 N5q
  refine go (fun t kt => st5.trans kt) ?_
  show Go p e below _ (T5.setTop (mkF m 37 #[.val (.ref a), .unset] [(.int (1 : Int32))]))
  have c37_6 : ¬ ((1 : Int32) = (0 : Int32)) := by decide
  refine go (fun t kt' => by refine XS.ifNo X5.here hx rfl (hb hby d8_37) rfl ((if0 _ _).trans (feq c37_6).1) ?_; exact kt') ?_
  show Go p e below _ (T5.setTop (mkF m 40 #[.val (.ref a), .unset] []))
  obtain ⟨_, _, ⟨T7, L7, k7, n7⟩, -, X7, ⟨Lc7, hQ7, l7, y7, z7⟩, st7⟩ := Jvm.LawKit.callS X5 hx (y := (⟨"java/util/List", "of", "()Ljava/util/List;"⟩ : MethodName)) hown (mvT hZ (hw _ (List.mem_of_getElem? (i := 63) rfl))) (mvT hZ (hw _ (List.mem_of_getElem? (i := 64) rfl))) (mvT hZ (hw _ (List.mem_of_getElem? (i := 40) rfl))) (mvT hZ (hw _ (List.mem_of_getElem? (i := 65) rfl))) (by decide) (backOf (W := 0) (rm_lo l Z a0 hw [] dc el em ea h0 n0 Z0 HS OO) hZ (hw _ (List.mem_of_getElem? (i := 65) rfl)) (hw _ (List.mem_of_getElem? (i := 40) rfl)) (by decide) (by decide)) (g := (mkF m 40 #[.val (.ref a), .unset] [])) rfl (by rw [hml]; rfl) (argsL := []) (rest := []) (lenOf pd_2 rfl) rfl (by show 2 * 0 + _ ≤ _; exact Nat.le_of_eq rfl) (hb hby d8_40) (fun _ _ => ⟨rfl, e5, (by decide : 0 + 0 ≤ _), (by decide : 0 + 0 ≤ _)⟩)
  dsimp only [Pt.U, Pt.locs, Pt.cells, Pt.slots] at X7 l7 y7 z7 st7 hQ7
  rw [l7, y7, z7] at X7
  obtain ⟨rfl, N7q, e7⟩ := hQ7
  have N7 := Fr.app N5 N7q
  refine go st7 ?_
  show Go p e below _ (T7.setTop (mkF m 43 #[.val (.ref a), .unset] [(.ref el)]))
  refine goOut X7 (fun h => by rw [Bd.returns] at h; cases h) hlk (fun fs hr => retOut X7 hx Bd.returns rfl (Or.inr (Or.inr (Or.inr (Or.inr ⟨rfl, rfl, rfl⟩)))) (hb hby d8_43) hr) (by decide) (by decide) ?_
  rw [e7]
  exact ⟨rfl, N7, rfl⟩
theorem d8_26 : decode jdk_56_method_3_code 26 = .ok (.aload_n 0, 1) := by decide +kernel
theorem d8_27 : decode jdk_56_method_3_code 27 = .ok (.checkcast 18, 3) := by decide +kernel
theorem d8_30 : decode jdk_56_method_3_code 30 = .ok (.areturn, 1) := by decide +kernel
theorem ef_rm_lcB (m : MethodId) (x0 : Addr) : entryFrame m #[(.ref x0)] 2 = mkF m 0 #[.val (.ref x0), .unset] [] := by first | (simp [entryFrame, mkF, argsToLocals, Value.category]; done) | rfl
def Q_lcB (Z : State) (a : Addr) (h0 : Heap) (n0 : Nat) (v : Option Value) (h : Heap) (L : List Loc) : Prop := v = some (.ref a) ∧ Fr n0 L ∧ h = h0
set_option maxRecDepth 65536 in
set_option maxHeartbeats 40000000 in
theorem rm_lcB (l : Launch) (Z : State) (a0 : Array Value) (hw : ∀ d ∈ tables_1, d.before a0 Z = true) (ws : List Jvm.Cond) (a : Addr)  (h0 : Heap) (n0 : Nat) (Z0 : n0 ≤ h0.size) (E_a : Exa Z h0 a "java/util/ImmutableCollections$List12") :
    MetFree l (⟨"java/util/ImmutableCollections", "listCopy", "(Ljava/util/Collection;)Ljava/util/List;"⟩ : MethodName) (head1 (Jvm.Cond.code (⟨"java/util/ImmutableCollections", "listCopy", "(Ljava/util/Collection;)Ljava/util/List;"⟩ : MethodName) jdk_56_method_3_code 2 (some (.object "java/util/List")) :: ws) ({ frames := 0, cells := 0, slots := 0, locals := 0 } : Room)) (fun av' U => av' = #[(.ref a)] ∧ Z.Warmed39 U.vm ∧ U.heap = h0) (fun _ _ _ _ _ => True) (fun _ U o U' => ∃ v L, o = .returned v ∧ Q_lcB Z a h0 n0 v U'.heap L ∧ FrameEnd U o U' L ({ frames := 0, cells := 0, slots := 0, locals := 0 } : Room).cells ({ frames := 0, cells := 0, slots := 0, locals := 0 } : Room).slots) := by
  refine MetFree.of_bodySF (plainFor_of_name pn_java_util_ImmutableCollections) hisR ?_
  intro p e s m args below meth c s₁ Bd hml0 hP hK
  obtain ⟨rfl, hZ, hh⟩ := hP
  have hx := Bd.exec
  have hby := Bd.bytes
  have hlk := Bd.notSynchronized
  have hml : c.maxLocals = 2 := hml0
  have hown : s.vm.findClass "java/util/ImmutableCollections" = some m.cls := findClass_of_methodNamed Bd.named
  have hnm := (name_of_methodNamed Bd.named Bd.method).1
  have X0 : Stand p l e ({ frames := 0, cells := 0, slots := 0, locals := 0 } : Room) s m #[(.ref a)] below meth c s₁ [] 0 0 := Stand.of_body Bd
  have e0 : s₁.heap = h0 := by rw [← hh, Bd.state]; rfl
  have N0 := Fr.nil n0
  show Go p e below (Kq s (Q_lcB Z a h0 n0) ({ frames := 0, cells := 0, slots := 0, locals := 0 } : Room).cells ({ frames := 0, cells := 0, slots := 0, locals := 0 } : Room).slots) _
  refine go (fun t kt => castTop (ef_rm_lcB m a) kt) ?_
  show Go p e below _ (s₁.setTop (mkF m 0 #[.val (.ref a), .unset] []))
  refine go (fun t kt' => by refine XS.aloadN X0.here hx rfl (hb hby d8_0) rfl rfl ?_; exact kt') ?_
  show Go p e below _ (s₁.setTop (mkF m 1 #[.val (.ref a), .unset] [(.ref a)]))
  obtain ⟨T1, X1, e1, st1⟩ := instY X0 hx hZ hown (hw _ (List.mem_of_getElem? (i := 46) rfl)) e0 (Ins.self E_a) (g := (mkF m 1 #[.val (.ref a), .unset] [(.ref a)])) rfl rfl (hb hby d8_1)
  refine go st1 ?_
  show Go p e below _ (T1.setTop (mkF m 4 #[.val (.ref a), .unset] [(.int (1 : Int32))]))
  have c4_2 : ¬ (1 : Int32) = (0 : Int32) := by decide
  refine go (fun t kt' => by refine XS.ifYes X1.here hx rfl (pc0 := 4) (pc' := 26) rfl (hb hby d8_4) rfl ((if0 _ _).trans (feq c4_2).2) (by decide) (by decide) ?_; exact kt') ?_
  show Go p e below _ (T1.setTop (mkF m 26 #[.val (.ref a), .unset] []))
  refine go (fun t kt' => by refine XS.aloadN X1.here hx rfl (hb hby d8_26) rfl rfl ?_; exact kt') ?_
  show Go p e below _ (T1.setTop (mkF m 27 #[.val (.ref a), .unset] [(.ref a)]))
  obtain ⟨T3, X3, e3, st3⟩ := castY X1 hx hZ hown (hw _ (List.mem_of_getElem? (i := 172) rfl)) e1 (Ins.of_exa E_a (hw _ (List.mem_of_getElem? (i := 173) rfl))) (g := (mkF m 27 #[.val (.ref a), .unset] [(.ref a)])) rfl rfl (hb hby d8_27)
  refine go st3 ?_
  show Go p e below _ (T3.setTop (mkF m 30 #[.val (.ref a), .unset] [(.ref a)]))
  refine goOut X3 (fun h => by rw [Bd.returns] at h; cases h) hlk (fun fs hr => retOut X3 hx Bd.returns rfl (Or.inr (Or.inr (Or.inr (Or.inr ⟨rfl, rfl, rfl⟩)))) (hb hby d8_30) hr) (by decide) (by decide) ?_
  rw [e3]
  exact ⟨rfl, N0, rfl⟩
theorem d7_0 : decode jdk_40_method_48_code 0 = .ok (.aload_n 0, 1) := by decide +kernel
theorem d7_1 : decode jdk_40_method_48_code 1 = .ok (.invokestatic 112, 3) := by decide +kernel
theorem pd_3 : parseMethodDescriptor "(Ljava/util/Collection;)Ljava/util/List;" = some ⟨[(.object "java/util/Collection")], some (.object "java/util/List")⟩ := by decide +kernel
theorem d7_4 : decode jdk_40_method_48_code 4 = .ok (.areturn, 1) := by decide +kernel
theorem ef_rm_coA (m : MethodId) (x0 : Addr) : entryFrame m #[(.ref x0)] 1 = mkF m 0 #[.val (.ref x0)] [] := by first | (simp [entryFrame, mkF, argsToLocals, Value.category]; done) | rfl
def Q_coA (Z : State) (el : Addr) (h0 : Heap) (n0 : Nat) (v : Option Value) (h : Heap) (L : List Loc) : Prop := v = some (.ref el) ∧ Fr n0 L ∧ h = h0
set_option maxRecDepth 65536 in
set_option maxHeartbeats 40000000 in
theorem rm_coA (l : Launch) (Z : State) (a0 : Array Value) (hw : ∀ d ∈ tables_1, d.before a0 Z = true) (ws : List Jvm.Cond) (a : Addr) (dc el em ea : Addr)  (h0 : Heap) (n0 : Nat) (Z0 : n0 ≤ h0.size) (E_a : Exa Z h0 a "java/util/ArrayList") (F_size_a : Fld Z h0 a "java/util/ArrayList" "size" "I" (.int (0 : Int32))) (HS : own_sets Z dc el em ea) (OO : Old Z n0 h0) :
    MetFree l (⟨"java/util/List", "copyOf", "(Ljava/util/Collection;)Ljava/util/List;"⟩ : MethodName) (head1 (Jvm.Cond.code (⟨"java/util/List", "copyOf", "(Ljava/util/Collection;)Ljava/util/List;"⟩ : MethodName) jdk_40_method_48_code 1 (some (.object "java/util/List")) :: ws) ({ frames := 2, cells := 0, slots := 0, locals := 25 } : Room)) (fun av' U => av' = #[(.ref a)] ∧ Z.Warmed39 U.vm ∧ U.heap = h0) (fun _ _ _ _ _ => True) (fun _ U o U' => ∃ v L, o = .returned v ∧ Q_coA Z el h0 n0 v U'.heap L ∧ FrameEnd U o U' L ({ frames := 2, cells := 0, slots := 0, locals := 25 } : Room).cells ({ frames := 2, cells := 0, slots := 0, locals := 25 } : Room).slots) := by
  refine MetFree.of_bodySF (plainFor_of_name pn_java_util_List) hisR ?_
  intro p e s m args below meth c s₁ Bd hml0 hP hK
  obtain ⟨rfl, hZ, hh⟩ := hP
  have hx := Bd.exec
  have hby := Bd.bytes
  have hlk := Bd.notSynchronized
  have hml : c.maxLocals = 1 := hml0
  have hown : s.vm.findClass "java/util/List" = some m.cls := findClass_of_methodNamed Bd.named
  have hnm := (name_of_methodNamed Bd.named Bd.method).1
  have X0 : Stand p l e ({ frames := 2, cells := 0, slots := 0, locals := 25 } : Room) s m #[(.ref a)] below meth c s₁ [] 0 0 := Stand.of_body Bd
  have e0 : s₁.heap = h0 := by rw [← hh, Bd.state]; rfl
  have N0 := Fr.nil n0
  show Go p e below (Kq s (Q_coA Z el h0 n0) ({ frames := 2, cells := 0, slots := 0, locals := 25 } : Room).cells ({ frames := 2, cells := 0, slots := 0, locals := 25 } : Room).slots) _
  refine go (fun t kt => castTop (ef_rm_coA m a) kt) ?_
  have HS0 := HS
  obtain ⟨S_dc, S_el, S_em, E_el, F_el, cE, A_el, Z_el⟩ := HS0
  show Go p e below _ (s₁.setTop (mkF m 0 #[.val (.ref a)] []))
  refine go (fun t kt' => by refine XS.aloadN X0.here hx rfl (hb hby d7_0) rfl rfl ?_; exact kt') ?_
  show Go p e below _ (s₁.setTop (mkF m 1 #[.val (.ref a)] [(.ref a)]))
  obtain ⟨_, _, ⟨T1, L1, k1, n1⟩, -, X1, ⟨Lc1, hQ1, l1, y1, z1⟩, st1⟩ := Jvm.LawKit.callS X0 hx (y := (⟨"java/util/ImmutableCollections", "listCopy", "(Ljava/util/Collection;)Ljava/util/List;"⟩ : MethodName)) hown (mvT hZ (hw _ (List.mem_of_getElem? (i := 42) rfl))) (mvT hZ (hw _ (List.mem_of_getElem? (i := 43) rfl))) (mvT hZ (hw _ (List.mem_of_getElem? (i := 44) rfl))) (mvT hZ (hw _ (List.mem_of_getElem? (i := 45) rfl))) (by decide) (backOf (W := 0) (rm_lcA l Z a0 hw [] a dc el em ea h0 n0 Z0 E_a F_size_a HS OO) hZ (hw _ (List.mem_of_getElem? (i := 45) rfl)) (hw _ (List.mem_of_getElem? (i := 44) rfl)) (by decide) (by decide)) (g := (mkF m 1 #[.val (.ref a)] [(.ref a)])) rfl (by rw [hml]; rfl) (argsL := [(.ref a)]) (rest := []) (lenOf pd_3 rfl) rfl (by show 2 * 0 + _ ≤ _; exact Nat.le_of_eq rfl) (hb hby d7_1) (fun _ _ => ⟨rfl, e0, (by decide : 0 + 0 ≤ _), (by decide : 0 + 0 ≤ _)⟩)
  dsimp only [Pt.U, Pt.locs, Pt.cells, Pt.slots] at X1 l1 y1 z1 st1 hQ1
  rw [l1, y1, z1] at X1
  obtain ⟨rfl, N1q, e1⟩ := hQ1
  have N1 := Fr.app N0 N1q
  refine go st1 ?_
  show Go p e below _ (T1.setTop (mkF m 4 #[.val (.ref a)] [(.ref el)]))
  refine goOut X1 (fun h => by rw [Bd.returns] at h; cases h) hlk (fun fs hr => retOut X1 hx Bd.returns rfl (Or.inr (Or.inr (Or.inr (Or.inr ⟨rfl, rfl, rfl⟩)))) (hb hby d7_4) hr) (by decide) (by decide) ?_
  rw [e1]
  exact ⟨rfl, N1, rfl⟩
theorem ef_rm_coB (m : MethodId) (x0 : Addr) : entryFrame m #[(.ref x0)] 1 = mkF m 0 #[.val (.ref x0)] [] := by first | (simp [entryFrame, mkF, argsToLocals, Value.category]; done) | rfl
def Q_coB (Z : State) (a : Addr) (h0 : Heap) (n0 : Nat) (v : Option Value) (h : Heap) (L : List Loc) : Prop := v = some (.ref a) ∧ Fr n0 L ∧ h = h0
set_option maxRecDepth 65536 in
set_option maxHeartbeats 40000000 in
theorem rm_coB (l : Launch) (Z : State) (a0 : Array Value) (hw : ∀ d ∈ tables_1, d.before a0 Z = true) (ws : List Jvm.Cond) (a : Addr)  (h0 : Heap) (n0 : Nat) (Z0 : n0 ≤ h0.size) (E_a : Exa Z h0 a "java/util/ImmutableCollections$List12") :
    MetFree l (⟨"java/util/List", "copyOf", "(Ljava/util/Collection;)Ljava/util/List;"⟩ : MethodName) (head1 (Jvm.Cond.code (⟨"java/util/List", "copyOf", "(Ljava/util/Collection;)Ljava/util/List;"⟩ : MethodName) jdk_40_method_48_code 1 (some (.object "java/util/List")) :: ws) ({ frames := 1, cells := 0, slots := 0, locals := 13 } : Room)) (fun av' U => av' = #[(.ref a)] ∧ Z.Warmed39 U.vm ∧ U.heap = h0) (fun _ _ _ _ _ => True) (fun _ U o U' => ∃ v L, o = .returned v ∧ Q_coB Z a h0 n0 v U'.heap L ∧ FrameEnd U o U' L ({ frames := 1, cells := 0, slots := 0, locals := 13 } : Room).cells ({ frames := 1, cells := 0, slots := 0, locals := 13 } : Room).slots) := by
  refine MetFree.of_bodySF (plainFor_of_name pn_java_util_List) hisR ?_
  intro p e s m args below meth c s₁ Bd hml0 hP hK
  obtain ⟨rfl, hZ, hh⟩ := hP
  have hx := Bd.exec
  have hby := Bd.bytes
  have hlk := Bd.notSynchronized
  have hml : c.maxLocals = 1 := hml0
  have hown : s.vm.findClass "java/util/List" = some m.cls := findClass_of_methodNamed Bd.named
  have hnm := (name_of_methodNamed Bd.named Bd.method).1
  have X0 : Stand p l e ({ frames := 1, cells := 0, slots := 0, locals := 13 } : Room) s m #[(.ref a)] below meth c s₁ [] 0 0 := Stand.of_body Bd
  have e0 : s₁.heap = h0 := by rw [← hh, Bd.state]; rfl
  have N0 := Fr.nil n0
  show Go p e below (Kq s (Q_coB Z a h0 n0) ({ frames := 1, cells := 0, slots := 0, locals := 13 } : Room).cells ({ frames := 1, cells := 0, slots := 0, locals := 13 } : Room).slots) _
  refine go (fun t kt => castTop (ef_rm_coB m a) kt) ?_
  show Go p e below _ (s₁.setTop (mkF m 0 #[.val (.ref a)] []))
  refine go (fun t kt' => by refine XS.aloadN X0.here hx rfl (hb hby d7_0) rfl rfl ?_; exact kt') ?_
  show Go p e below _ (s₁.setTop (mkF m 1 #[.val (.ref a)] [(.ref a)]))
  obtain ⟨_, _, ⟨T1, L1, k1, n1⟩, -, X1, ⟨Lc1, hQ1, l1, y1, z1⟩, st1⟩ := Jvm.LawKit.callS X0 hx (y := (⟨"java/util/ImmutableCollections", "listCopy", "(Ljava/util/Collection;)Ljava/util/List;"⟩ : MethodName)) hown (mvT hZ (hw _ (List.mem_of_getElem? (i := 42) rfl))) (mvT hZ (hw _ (List.mem_of_getElem? (i := 43) rfl))) (mvT hZ (hw _ (List.mem_of_getElem? (i := 44) rfl))) (mvT hZ (hw _ (List.mem_of_getElem? (i := 45) rfl))) (by decide) (backOf (W := 0) (rm_lcB l Z a0 hw [] a h0 n0 Z0 E_a) hZ (hw _ (List.mem_of_getElem? (i := 45) rfl)) (hw _ (List.mem_of_getElem? (i := 44) rfl)) (by decide) (by decide)) (g := (mkF m 1 #[.val (.ref a)] [(.ref a)])) rfl (by rw [hml]; rfl) (argsL := [(.ref a)]) (rest := []) (lenOf pd_3 rfl) rfl (by show 2 * 0 + _ ≤ _; exact Nat.le_of_eq rfl) (hb hby d7_1) (fun _ _ => ⟨rfl, e0, (by decide : 0 + 0 ≤ _), (by decide : 0 + 0 ≤ _)⟩)
  dsimp only [Pt.U, Pt.locs, Pt.cells, Pt.slots] at X1 l1 y1 z1 st1 hQ1
  rw [l1, y1, z1] at X1
  obtain ⟨rfl, N1q, e1⟩ := hQ1
  have N1 := Fr.app N0 N1q
  refine go st1 ?_
  show Go p e below _ (T1.setTop (mkF m 4 #[.val (.ref a)] [(.ref a)]))
  refine goOut X1 (fun h => by rw [Bd.returns] at h; cases h) hlk (fun fs hr => retOut X1 hx Bd.returns rfl (Or.inr (Or.inr (Or.inr (Or.inr ⟨rfl, rfl, rfl⟩)))) (hb hby d7_4) hr) (by decide) (by decide) ?_
  rw [e1]
  exact ⟨rfl, N1, rfl⟩
theorem d5_0 : decode prog_74_method_1_code 0 = .ok (.aload_n 0, 1) := by decide +kernel
theorem d5_1 : decode prog_74_method_1_code 1 = .ok (.invokespecial 1, 3) := by decide +kernel
theorem d5_4 : decode prog_74_method_1_code 4 = .ok (.aload_n 3, 1) := by decide +kernel
theorem d5_5 : decode prog_74_method_1_code 5 = .ok (.invokestatic 7, 3) := by decide +kernel
theorem d5_8 : decode prog_74_method_1_code 8 = .ok (.astore_n 3, 1) := by decide +kernel
theorem d5_9 : decode prog_74_method_1_code 9 = .ok (.aload_n 0, 1) := by decide +kernel
theorem d5_10 : decode prog_74_method_1_code 10 = .ok (.iload_n 1, 1) := by decide +kernel
theorem d5_11 : decode prog_74_method_1_code 11 = .ok (.putfield 13, 3) := by decide +kernel
theorem d5_14 : decode prog_74_method_1_code 14 = .ok (.aload_n 0, 1) := by decide +kernel
theorem d5_15 : decode prog_74_method_1_code 15 = .ok (.iload_n 2, 1) := by decide +kernel
theorem d5_16 : decode prog_74_method_1_code 16 = .ok (.putfield 19, 3) := by decide +kernel
theorem d5_19 : decode prog_74_method_1_code 19 = .ok (.aload_n 0, 1) := by decide +kernel
theorem d5_20 : decode prog_74_method_1_code 20 = .ok (.aload_n 3, 1) := by decide +kernel
theorem d5_21 : decode prog_74_method_1_code 21 = .ok (.putfield 22, 3) := by decide +kernel
theorem d5_24 : decode prog_74_method_1_code 24 = .ok (.return_, 1) := by decide +kernel
theorem pn_org_keymoot_SecurityAssociation : plainName "org/keymoot/SecurityAssociation" = true := by first | (simp [plainName, overriddenIn]; done) | decide +kernel
theorem ef_rm_saA (m : MethodId) (x0 : Addr) (x1 : Int32) (x2 : Int32) (x3 : Addr) : entryFrame m #[(.ref x0), (.int x1), (.int x2), (.ref x3)] 4 = mkF m 0 #[.val (.ref x0), .val (.int x1), .val (.int x2), .val (.ref x3)] [] := by first | (simp [entryFrame, mkF, argsToLocals, Value.category]; done) | rfl
def Q_saA (Z : State) (a : Addr) (p1 p2 : Int32) (h0 : Heap) (n0 : Nat) (v : Option Value) (h : Heap) (L : List Loc) : Prop := v = none ∧ Fr n0 L ∧ Keep h0 h [a] ∧ Exa Z h a "org/keymoot/SecurityAssociation" ∧ Fld Z h a "org/keymoot/SecurityAssociation" "doi" "I" (.int p1) ∧ Fld Z h a "org/keymoot/SecurityAssociation" "situation" "I" (.int p2)
set_option maxRecDepth 65536 in
set_option maxHeartbeats 40000000 in
theorem rm_saA (l : Launch) (Z : State) (a0 : Array Value) (hw : ∀ d ∈ tables_1, d.before a0 Z = true) (ws : List Jvm.Cond) (a : Addr) (p1 : Int32) (p2 : Int32) (a3 : Addr) (dc el em ea : Addr)  (h0 : Heap) (n0 : Nat) (Z0 : n0 ≤ h0.size) (E_a : Exa Z h0 a "org/keymoot/SecurityAssociation") (g_a : n0 ≤ a) (F_doi_a : Fld Z h0 a "org/keymoot/SecurityAssociation" "doi" "I" (.int (0 : Int32))) (F_situation_a : Fld Z h0 a "org/keymoot/SecurityAssociation" "situation" "I" (.int (0 : Int32))) (F_proposals_a : Fld Z h0 a "org/keymoot/SecurityAssociation" "proposals" "Ljava/util/List;" .null) (E_a3 : Exa Z h0 a3 "java/util/ArrayList") (F_size_a3 : Fld Z h0 a3 "java/util/ArrayList" "size" "I" (.int (0 : Int32))) (ne_a3 : a3 ≠ a) (HS : own_sets Z dc el em ea) (OO : Old Z n0 h0) :
    MetFree l (⟨"org/keymoot/SecurityAssociation", "<init>", "(IILjava/util/List;)V"⟩ : MethodName) (head1 (Jvm.Cond.code (⟨"org/keymoot/SecurityAssociation", "<init>", "(IILjava/util/List;)V"⟩ : MethodName) prog_74_method_1_code 4 none :: ws) ({ frames := 3, cells := 0, slots := 0, locals := 37 } : Room)) (fun av' U => av' = #[(.ref a), (.int p1), (.int p2), (.ref a3)] ∧ Z.Warmed39 U.vm ∧ U.heap = h0) (fun _ _ _ _ _ => True) (fun _ U o U' => ∃ v L, o = .returned v ∧ Q_saA Z a p1 p2 h0 n0 v U'.heap L ∧ FrameEnd U o U' L ({ frames := 3, cells := 0, slots := 0, locals := 37 } : Room).cells ({ frames := 3, cells := 0, slots := 0, locals := 37 } : Room).slots) := by
  refine MetFree.of_bodySF (plainFor_of_name pn_org_keymoot_SecurityAssociation) hisR ?_
  intro p e s m args below meth c s₁ Bd hml0 hP hK
  obtain ⟨rfl, hZ, hh⟩ := hP
  have hx := Bd.exec
  have hby := Bd.bytes
  have hlk := Bd.notSynchronized
  have hml : c.maxLocals = 4 := hml0
  have hown : s.vm.findClass "org/keymoot/SecurityAssociation" = some m.cls := findClass_of_methodNamed Bd.named
  have hnm := (name_of_methodNamed Bd.named Bd.method).1
  have X0 : Stand p l e ({ frames := 3, cells := 0, slots := 0, locals := 37 } : Room) s m #[(.ref a), (.int p1), (.int p2), (.ref a3)] below meth c s₁ [] 0 0 := Stand.of_body Bd
  have e0 : s₁.heap = h0 := by rw [← hh, Bd.state]; rfl
  have N0 := Fr.nil n0
  show Go p e below (Kq s (Q_saA Z a p1 p2 h0 n0) ({ frames := 3, cells := 0, slots := 0, locals := 37 } : Room).cells ({ frames := 3, cells := 0, slots := 0, locals := 37 } : Room).slots) _
  refine go (fun t kt => castTop (ef_rm_saA m a p1 p2 a3) kt) ?_
  have HS0 := HS
  obtain ⟨S_dc, S_el, S_em, E_el, F_el, cE, A_el, Z_el⟩ := HS0
  have K0 := Keep.refl h0 [a]
  show Go p e below _ (s₁.setTop (mkF m 0 #[.val (.ref a), .val (.int p1), .val (.int p2), .val (.ref a3)] []))
  refine go (fun t kt' => by refine XS.aloadN X0.here hx rfl (hb hby d5_0) rfl rfl ?_; exact kt') ?_
  show Go p e below _ (s₁.setTop (mkF m 1 #[.val (.ref a), .val (.int p1), .val (.int p2), .val (.ref a3)] [(.ref a)]))
  obtain ⟨_, _, ⟨T1, L1, k1, n1⟩, -, X1, ⟨Lc1, hQ1, l1, y1, z1⟩, st1⟩ := X0.specialBack hx (y := (⟨"java/lang/Record", "<init>", "()V"⟩ : MethodName)) rfl hown (mvT hZ (hw _ (List.mem_of_getElem? (i := 32) rfl))) (mvT hZ (hw _ (List.mem_of_getElem? (i := 33) rfl))) (mvT hZ (hw _ (List.mem_of_getElem? (i := 36) rfl))) (by decide) (backOf (W := 0) (rm_rc l Z a0 hw [] a h0 n0 Z0 ) hZ (hw _ (List.mem_of_getElem? (i := 36) rfl)) (hw _ (List.mem_of_getElem? (i := 35) rfl)) (by decide) (by decide)) (g := (mkF m 1 #[.val (.ref a), .val (.int p1), .val (.int p2), .val (.ref a3)] [(.ref a)])) rfl (by rw [hml]; rfl) (Steps.refl _) (a := a) (argsL := []) (rest := []) (lenOf pd_0 rfl) rfl (by show 2 * 0 + _ ≤ _; exact Nat.le_of_eq rfl) (hb hby d5_1) (fun _ _ => ⟨rfl, e0, (by decide : 0 + 0 ≤ _), (by decide : 0 + 0 ≤ _)⟩)
  dsimp only [Pt.U, Pt.locs, Pt.cells, Pt.slots] at X1 l1 y1 z1 st1 hQ1
  rw [l1, y1, z1] at X1
  obtain ⟨rfl, N1q, e1⟩ := hQ1
  have N1 := Fr.app N0 N1q
  refine go (fun t kt => st1.trans kt) ?_
  show Go p e below _ (T1.setTop (mkF m 4 #[.val (.ref a), .val (.int p1), .val (.int p2), .val (.ref a3)] []))
  refine go (fun t kt' => by refine XS.aloadN X1.here hx rfl (hb hby d5_4) rfl rfl ?_; exact kt') ?_
  show Go p e below _ (T1.setTop (mkF m 5 #[.val (.ref a), .val (.int p1), .val (.int p2), .val (.ref a3)] [(.ref a3)]))
  obtain ⟨_, _, ⟨T2, L2, k2, n2⟩, -, X2, ⟨Lc2, hQ2, l2, y2, z2⟩, st2⟩ := Jvm.LawKit.callS X1 hx (y := (⟨"java/util/List", "copyOf", "(Ljava/util/Collection;)Ljava/util/List;"⟩ : MethodName)) hown (mvT hZ (hw _ (List.mem_of_getElem? (i := 38) rfl))) (mvT hZ (hw _ (List.mem_of_getElem? (i := 39) rfl))) (mvT hZ (hw _ (List.mem_of_getElem? (i := 40) rfl))) (mvT hZ (hw _ (List.mem_of_getElem? (i := 41) rfl))) (by decide) (backOf (W := 0) (rm_coA l Z a0 hw [] a3 dc el em ea h0 n0 Z0 E_a3 F_size_a3 HS OO) hZ (hw _ (List.mem_of_getElem? (i := 41) rfl)) (hw _ (List.mem_of_getElem? (i := 40) rfl)) (by decide) (by decide)) (g := (mkF m 5 #[.val (.ref a), .val (.int p1), .val (.int p2), .val (.ref a3)] [(.ref a3)])) rfl (by rw [hml]; rfl) (argsL := [(.ref a3)]) (rest := []) (lenOf pd_3 rfl) rfl (by show 2 * 0 + _ ≤ _; exact Nat.le_of_eq rfl) (hb hby d5_5) (fun _ _ => ⟨rfl, e1, (by decide : 0 + 0 ≤ _), (by decide : 0 + 0 ≤ _)⟩)
  dsimp only [Pt.U, Pt.locs, Pt.cells, Pt.slots] at X2 l2 y2 z2 st2 hQ2
  rw [l2, y2, z2] at X2
  obtain ⟨rfl, N2q, e2⟩ := hQ2
  have N2 := Fr.app N1 N2q
  refine go st2 ?_
  show Go p e below _ (T2.setTop (mkF m 8 #[.val (.ref a), .val (.int p1), .val (.int p2), .val (.ref a3)] [(.ref el)]))
  refine go (fun t kt' => by refine XS.astoreN X2.here hx rfl (hb hby d5_8) rfl rfl (l' := #[.val (.ref a), .val (.int p1), .val (.int p2), .val (.ref el)]) rfl ?_; exact kt') ?_
  show Go p e below _ (T2.setTop (mkF m 9 #[.val (.ref a), .val (.int p1), .val (.int p2), .val (.ref el)] []))
  refine go (fun t kt' => by refine XS.aloadN X2.here hx rfl (hb hby d5_9) rfl rfl ?_; exact kt') ?_
  show Go p e below _ (T2.setTop (mkF m 10 #[.val (.ref a), .val (.int p1), .val (.int p2), .val (.ref el)] [(.ref a)]))
  refine go (fun t kt' => by refine XS.iloadN X2.here hx rfl (hb hby d5_10) rfl ?_; exact kt') ?_
  show Go p e below _ (T2.setTop (mkF m 11 #[.val (.ref a), .val (.int p1), .val (.int p2), .val (.ref el)] [(.int p1), (.ref a)]))
  obtain ⟨T3, h3, X3, e3, W3, st3⟩ := putF X2 hx hZ hown (host := "") (Or.inl (hw _ (List.mem_of_getElem? (i := 67) rfl))) Via.refl e2 F_doi_a E_a (Or.inr ⟨(hw _ (List.mem_of_getElem? (i := 68) rfl)), rfl, hnm⟩) (hw _ (List.mem_of_getElem? (i := 1) rfl)) (ty := .int) (by decide) rfl rfl (g := (mkF m 11 #[.val (.ref a), .val (.int p1), .val (.int p2), .val (.ref el)] [(.int p1), (.ref a)])) rfl rfl (hb hby d5_11)
  have N3 := Fr.snoc X3 N2 g_a
  have f4_Z := Nat.le_trans Z0 (Keep.of_wr W3).1
  have f5_O := OO.wr W3 g_a
  have f6_K := K0.wr W3 (Or.inl (List.mem_of_getElem? (i := 0) rfl))
  have f7_E_a := E_a.wr W3
  have f8_F_a_doi := F_doi_a.same W3
  have f9_F_a_situation := F_situation_a.other W3 (Or.inr (slot_ne (Or.inr (hw _ (List.mem_of_getElem? (i := 70) rfl))) (Or.inr (hw _ (List.mem_of_getElem? (i := 68) rfl))) (by decide) (t := .int) (t' := .int) (by decide) (by decide)))
  have f10_F_a_proposals := F_proposals_a.other W3 (Or.inr (slot_ne (Or.inr (hw _ (List.mem_of_getElem? (i := 72) rfl))) (Or.inr (hw _ (List.mem_of_getElem? (i := 68) rfl))) (by decide) (t := (.object "java/util/List")) (t' := .int) (by decide) (by decide)))
  have f11_E_a3 := E_a3.wr W3
  have f12_F_a3_size := F_size_a3.other W3 (Or.inl ne_a3)
  refine go st3 ?_
  show Go p e below _ (T3.setTop (mkF m 14 #[.val (.ref a), .val (.int p1), .val (.int p2), .val (.ref el)] []))
  refine go (fun t kt' => by refine XS.aloadN X3.here hx rfl (hb hby d5_14) rfl rfl ?_; exact kt') ?_
  show Go p e below _ (T3.setTop (mkF m 15 #[.val (.ref a), .val (.int p1), .val (.int p2), .val (.ref el)] [(.ref a)]))
  refine go (fun t kt' => by refine XS.iloadN X3.here hx rfl (hb hby d5_15) rfl ?_; exact kt') ?_
  show Go p e below _ (T3.setTop (mkF m 16 #[.val (.ref a), .val (.int p1), .val (.int p2), .val (.ref el)] [(.int p2), (.ref a)]))
  obtain ⟨T13, h13, X13, e13, W13, st13⟩ := putF X3 hx hZ hown (host := "") (Or.inl (hw _ (List.mem_of_getElem? (i := 69) rfl))) Via.refl e3 f9_F_a_situation f7_E_a (Or.inr ⟨(hw _ (List.mem_of_getElem? (i := 70) rfl)), rfl, hnm⟩) (hw _ (List.mem_of_getElem? (i := 1) rfl)) (ty := .int) (by decide) rfl rfl (g := (mkF m 16 #[.val (.ref a), .val (.int p1), .val (.int p2), .val (.ref el)] [(.int p2), (.ref a)])) rfl rfl (hb hby d5_16)
  have N13 := Fr.snoc X13 N3 g_a
  have f14_Z := Nat.le_trans f4_Z (Keep.of_wr W13).1
  have f15_O := f5_O.wr W13 g_a
  have f16_K := f6_K.wr W13 (Or.inl (List.mem_of_getElem? (i := 0) rfl))
  have f17_E_a := f7_E_a.wr W13
  have f18_F_a_doi := f8_F_a_doi.other W13 (Or.inr (slot_ne (Or.inr (hw _ (List.mem_of_getElem? (i := 68) rfl))) (Or.inr (hw _ (List.mem_of_getElem? (i := 70) rfl))) (by decide) (t := .int) (t' := .int) (by decide) (by decide)))
  have f19_F_a_situation := f9_F_a_situation.same W13
  have f20_F_a_proposals := f10_F_a_proposals.other W13 (Or.inr (slot_ne (Or.inr (hw _ (List.mem_of_getElem? (i := 72) rfl))) (Or.inr (hw _ (List.mem_of_getElem? (i := 70) rfl))) (by decide) (t := (.object "java/util/List")) (t' := .int) (by decide) (by decide)))
  have f21_E_a3 := f11_E_a3.wr W13
  have f22_F_a3_size := f12_F_a3_size.other W13 (Or.inl ne_a3)
  refine go st13 ?_
  show Go p e below _ (T13.setTop (mkF m 19 #[.val (.ref a), .val (.int p1), .val (.int p2), .val (.ref el)] []))
  refine go (fun t kt' => by refine XS.aloadN X13.here hx rfl (hb hby d5_19) rfl rfl ?_; exact kt') ?_
  show Go p e below _ (T13.setTop (mkF m 20 #[.val (.ref a), .val (.int p1), .val (.int p2), .val (.ref el)] [(.ref a)]))
  refine go (fun t kt' => by refine XS.aloadN X13.here hx rfl (hb hby d5_20) rfl rfl ?_; exact kt') ?_
  show Go p e below _ (T13.setTop (mkF m 21 #[.val (.ref a), .val (.int p1), .val (.int p2), .val (.ref el)] [(.ref el), (.ref a)]))
  obtain ⟨T23, h23, X23, e23, W23, st23⟩ := putF X13 hx hZ hown (host := "") (Or.inl (hw _ (List.mem_of_getElem? (i := 71) rfl))) Via.refl e13 f20_F_a_proposals f17_E_a (Or.inr ⟨(hw _ (List.mem_of_getElem? (i := 72) rfl)), rfl, hnm⟩) (hw _ (List.mem_of_getElem? (i := 1) rfl)) (ty := (.object "java/util/List")) (by decide) rfl rfl (g := (mkF m 21 #[.val (.ref a), .val (.int p1), .val (.int p2), .val (.ref el)] [(.ref el), (.ref a)])) rfl rfl (hb hby d5_21)
  have N23 := Fr.snoc X23 N13 g_a
  have f24_Z := Nat.le_trans f14_Z (Keep.of_wr W23).1
  have f25_O := f15_O.wr W23 g_a
  have f26_K := f16_K.wr W23 (Or.inl (List.mem_of_getElem? (i := 0) rfl))
  have f27_E_a := f17_E_a.wr W23
  have f28_F_a_doi := f18_F_a_doi.other W23 (Or.inr (slot_ne (Or.inr (hw _ (List.mem_of_getElem? (i := 68) rfl))) (Or.inr (hw _ (List.mem_of_getElem? (i := 72) rfl))) (by decide) (t := .int) (t' := (.object "java/util/List")) (by decide) (by decide)))
  have f29_F_a_situation := f19_F_a_situation.other W23 (Or.inr (slot_ne (Or.inr (hw _ (List.mem_of_getElem? (i := 70) rfl))) (Or.inr (hw _ (List.mem_of_getElem? (i := 72) rfl))) (by decide) (t := .int) (t' := (.object "java/util/List")) (by decide) (by decide)))
  have f30_F_a_proposals := f20_F_a_proposals.same W23
  have f31_E_a3 := f21_E_a3.wr W23
  have f32_F_a3_size := f22_F_a3_size.other W23 (Or.inl ne_a3)
  refine go st23 ?_
  show Go p e below _ (T23.setTop (mkF m 24 #[.val (.ref a), .val (.int p1), .val (.int p2), .val (.ref el)] []))
  refine goOut X23 (fun _ => rfl) hlk (fun fs hr => X23.returnOut hx Bd.returns (hb hby d5_24) hr) (by decide) (by decide) ?_
  rw [e23]
  exact ⟨rfl, N23, f26_K, f27_E_a, f28_F_a_doi, f29_F_a_situation⟩
theorem ef_rm_saB (m : MethodId) (x0 : Addr) (x1 : Int32) (x2 : Int32) (x3 : Addr) : entryFrame m #[(.ref x0), (.int x1), (.int x2), (.ref x3)] 4 = mkF m 0 #[.val (.ref x0), .val (.int x1), .val (.int x2), .val (.ref x3)] [] := by first | (simp [entryFrame, mkF, argsToLocals, Value.category]; done) | rfl
def Q_saB (Z : State) (a : Addr) (p1 p2 : Int32) (h0 : Heap) (n0 : Nat) (v : Option Value) (h : Heap) (L : List Loc) : Prop := v = none ∧ Fr n0 L ∧ Keep h0 h [a] ∧ Exa Z h a "org/keymoot/SecurityAssociation" ∧ Fld Z h a "org/keymoot/SecurityAssociation" "doi" "I" (.int p1) ∧ Fld Z h a "org/keymoot/SecurityAssociation" "situation" "I" (.int p2)
set_option maxRecDepth 65536 in
set_option maxHeartbeats 40000000 in
theorem rm_saB (l : Launch) (Z : State) (a0 : Array Value) (hw : ∀ d ∈ tables_1, d.before a0 Z = true) (ws : List Jvm.Cond) (a : Addr) (p1 : Int32) (p2 : Int32) (a3 : Addr) (dc el em ea : Addr)  (h0 : Heap) (n0 : Nat) (Z0 : n0 ≤ h0.size) (E_a : Exa Z h0 a "org/keymoot/SecurityAssociation") (g_a : n0 ≤ a) (F_doi_a : Fld Z h0 a "org/keymoot/SecurityAssociation" "doi" "I" (.int (0 : Int32))) (F_situation_a : Fld Z h0 a "org/keymoot/SecurityAssociation" "situation" "I" (.int (0 : Int32))) (F_proposals_a : Fld Z h0 a "org/keymoot/SecurityAssociation" "proposals" "Ljava/util/List;" .null) (E_a3 : Exa Z h0 a3 "java/util/ImmutableCollections$List12") (F_e1_a3 : Fld Z h0 a3 "java/util/ImmutableCollections$List12" "e1" "Ljava/lang/Object;" (.ref em)) (ne_a3 : a3 ≠ a) (HS : own_sets Z dc el em ea) (OO : Old Z n0 h0) :
    MetFree l (⟨"org/keymoot/SecurityAssociation", "<init>", "(IILjava/util/List;)V"⟩ : MethodName) (head1 (Jvm.Cond.code (⟨"org/keymoot/SecurityAssociation", "<init>", "(IILjava/util/List;)V"⟩ : MethodName) prog_74_method_1_code 4 none :: ws) ({ frames := 2, cells := 0, slots := 0, locals := 25 } : Room)) (fun av' U => av' = #[(.ref a), (.int p1), (.int p2), (.ref a3)] ∧ Z.Warmed39 U.vm ∧ U.heap = h0) (fun _ _ _ _ _ => True) (fun _ U o U' => ∃ v L, o = .returned v ∧ Q_saB Z a p1 p2 h0 n0 v U'.heap L ∧ FrameEnd U o U' L ({ frames := 2, cells := 0, slots := 0, locals := 25 } : Room).cells ({ frames := 2, cells := 0, slots := 0, locals := 25 } : Room).slots) := by
  refine MetFree.of_bodySF (plainFor_of_name pn_org_keymoot_SecurityAssociation) hisR ?_
  intro p e s m args below meth c s₁ Bd hml0 hP hK
  obtain ⟨rfl, hZ, hh⟩ := hP
  have hx := Bd.exec
  have hby := Bd.bytes
  have hlk := Bd.notSynchronized
  have hml : c.maxLocals = 4 := hml0
  have hown : s.vm.findClass "org/keymoot/SecurityAssociation" = some m.cls := findClass_of_methodNamed Bd.named
  have hnm := (name_of_methodNamed Bd.named Bd.method).1
  have X0 : Stand p l e ({ frames := 2, cells := 0, slots := 0, locals := 25 } : Room) s m #[(.ref a), (.int p1), (.int p2), (.ref a3)] below meth c s₁ [] 0 0 := Stand.of_body Bd
  have e0 : s₁.heap = h0 := by rw [← hh, Bd.state]; rfl
  have N0 := Fr.nil n0
  show Go p e below (Kq s (Q_saB Z a p1 p2 h0 n0) ({ frames := 2, cells := 0, slots := 0, locals := 25 } : Room).cells ({ frames := 2, cells := 0, slots := 0, locals := 25 } : Room).slots) _
  refine go (fun t kt => castTop (ef_rm_saB m a p1 p2 a3) kt) ?_
  have HS0 := HS
  obtain ⟨S_dc, S_el, S_em, E_el, F_el, cE, A_el, Z_el⟩ := HS0
  have K0 := Keep.refl h0 [a]
  show Go p e below _ (s₁.setTop (mkF m 0 #[.val (.ref a), .val (.int p1), .val (.int p2), .val (.ref a3)] []))
  refine go (fun t kt' => by refine XS.aloadN X0.here hx rfl (hb hby d5_0) rfl rfl ?_; exact kt') ?_
  show Go p e below _ (s₁.setTop (mkF m 1 #[.val (.ref a), .val (.int p1), .val (.int p2), .val (.ref a3)] [(.ref a)]))
  obtain ⟨_, _, ⟨T1, L1, k1, n1⟩, -, X1, ⟨Lc1, hQ1, l1, y1, z1⟩, st1⟩ := X0.specialBack hx (y := (⟨"java/lang/Record", "<init>", "()V"⟩ : MethodName)) rfl hown (mvT hZ (hw _ (List.mem_of_getElem? (i := 32) rfl))) (mvT hZ (hw _ (List.mem_of_getElem? (i := 33) rfl))) (mvT hZ (hw _ (List.mem_of_getElem? (i := 36) rfl))) (by decide) (backOf (W := 0) (rm_rc l Z a0 hw [] a h0 n0 Z0 ) hZ (hw _ (List.mem_of_getElem? (i := 36) rfl)) (hw _ (List.mem_of_getElem? (i := 35) rfl)) (by decide) (by decide)) (g := (mkF m 1 #[.val (.ref a), .val (.int p1), .val (.int p2), .val (.ref a3)] [(.ref a)])) rfl (by rw [hml]; rfl) (Steps.refl _) (a := a) (argsL := []) (rest := []) (lenOf pd_0 rfl) rfl (by show 2 * 0 + _ ≤ _; exact Nat.le_of_eq rfl) (hb hby d5_1) (fun _ _ => ⟨rfl, e0, (by decide : 0 + 0 ≤ _), (by decide : 0 + 0 ≤ _)⟩)
  dsimp only [Pt.U, Pt.locs, Pt.cells, Pt.slots] at X1 l1 y1 z1 st1 hQ1
  rw [l1, y1, z1] at X1
  obtain ⟨rfl, N1q, e1⟩ := hQ1
  have N1 := Fr.app N0 N1q
  refine go (fun t kt => st1.trans kt) ?_
  show Go p e below _ (T1.setTop (mkF m 4 #[.val (.ref a), .val (.int p1), .val (.int p2), .val (.ref a3)] []))
  refine go (fun t kt' => by refine XS.aloadN X1.here hx rfl (hb hby d5_4) rfl rfl ?_; exact kt') ?_
  show Go p e below _ (T1.setTop (mkF m 5 #[.val (.ref a), .val (.int p1), .val (.int p2), .val (.ref a3)] [(.ref a3)]))
  obtain ⟨_, _, ⟨T2, L2, k2, n2⟩, -, X2, ⟨Lc2, hQ2, l2, y2, z2⟩, st2⟩ := Jvm.LawKit.callS X1 hx (y := (⟨"java/util/List", "copyOf", "(Ljava/util/Collection;)Ljava/util/List;"⟩ : MethodName)) hown (mvT hZ (hw _ (List.mem_of_getElem? (i := 38) rfl))) (mvT hZ (hw _ (List.mem_of_getElem? (i := 39) rfl))) (mvT hZ (hw _ (List.mem_of_getElem? (i := 40) rfl))) (mvT hZ (hw _ (List.mem_of_getElem? (i := 41) rfl))) (by decide) (backOf (W := 0) (rm_coB l Z a0 hw [] a3 h0 n0 Z0 E_a3) hZ (hw _ (List.mem_of_getElem? (i := 41) rfl)) (hw _ (List.mem_of_getElem? (i := 40) rfl)) (by decide) (by decide)) (g := (mkF m 5 #[.val (.ref a), .val (.int p1), .val (.int p2), .val (.ref a3)] [(.ref a3)])) rfl (by rw [hml]; rfl) (argsL := [(.ref a3)]) (rest := []) (lenOf pd_3 rfl) rfl (by show 2 * 0 + _ ≤ _; exact Nat.le_of_eq rfl) (hb hby d5_5) (fun _ _ => ⟨rfl, e1, (by decide : 0 + 0 ≤ _), (by decide : 0 + 0 ≤ _)⟩)
  dsimp only [Pt.U, Pt.locs, Pt.cells, Pt.slots] at X2 l2 y2 z2 st2 hQ2
  rw [l2, y2, z2] at X2
  obtain ⟨rfl, N2q, e2⟩ := hQ2
  have N2 := Fr.app N1 N2q
  refine go st2 ?_
  show Go p e below _ (T2.setTop (mkF m 8 #[.val (.ref a), .val (.int p1), .val (.int p2), .val (.ref a3)] [(.ref a3)]))
  refine go (fun t kt' => by refine XS.astoreN X2.here hx rfl (hb hby d5_8) rfl rfl (l' := #[.val (.ref a), .val (.int p1), .val (.int p2), .val (.ref a3)]) rfl ?_; exact kt') ?_
  show Go p e below _ (T2.setTop (mkF m 9 #[.val (.ref a), .val (.int p1), .val (.int p2), .val (.ref a3)] []))
  refine go (fun t kt' => by refine XS.aloadN X2.here hx rfl (hb hby d5_9) rfl rfl ?_; exact kt') ?_
  show Go p e below _ (T2.setTop (mkF m 10 #[.val (.ref a), .val (.int p1), .val (.int p2), .val (.ref a3)] [(.ref a)]))
  refine go (fun t kt' => by refine XS.iloadN X2.here hx rfl (hb hby d5_10) rfl ?_; exact kt') ?_
  show Go p e below _ (T2.setTop (mkF m 11 #[.val (.ref a), .val (.int p1), .val (.int p2), .val (.ref a3)] [(.int p1), (.ref a)]))
  obtain ⟨T3, h3, X3, e3, W3, st3⟩ := putF X2 hx hZ hown (host := "") (Or.inl (hw _ (List.mem_of_getElem? (i := 67) rfl))) Via.refl e2 F_doi_a E_a (Or.inr ⟨(hw _ (List.mem_of_getElem? (i := 68) rfl)), rfl, hnm⟩) (hw _ (List.mem_of_getElem? (i := 1) rfl)) (ty := .int) (by decide) rfl rfl (g := (mkF m 11 #[.val (.ref a), .val (.int p1), .val (.int p2), .val (.ref a3)] [(.int p1), (.ref a)])) rfl rfl (hb hby d5_11)
  have N3 := Fr.snoc X3 N2 g_a
  have f4_Z := Nat.le_trans Z0 (Keep.of_wr W3).1
  have f5_O := OO.wr W3 g_a
  have f6_K := K0.wr W3 (Or.inl (List.mem_of_getElem? (i := 0) rfl))
  have f7_E_a := E_a.wr W3
  have f8_F_a_doi := F_doi_a.same W3
  have f9_F_a_situation := F_situation_a.other W3 (Or.inr (slot_ne (Or.inr (hw _ (List.mem_of_getElem? (i := 70) rfl))) (Or.inr (hw _ (List.mem_of_getElem? (i := 68) rfl))) (by decide) (t := .int) (t' := .int) (by decide) (by decide)))
  have f10_F_a_proposals := F_proposals_a.other W3 (Or.inr (slot_ne (Or.inr (hw _ (List.mem_of_getElem? (i := 72) rfl))) (Or.inr (hw _ (List.mem_of_getElem? (i := 68) rfl))) (by decide) (t := (.object "java/util/List")) (t' := .int) (by decide) (by decide)))
  have f11_E_a3 := E_a3.wr W3
  have f12_F_a3_e1 := F_e1_a3.other W3 (Or.inl ne_a3)
  refine go st3 ?_
  show Go p e below _ (T3.setTop (mkF m 14 #[.val (.ref a), .val (.int p1), .val (.int p2), .val (.ref a3)] []))
  refine go (fun t kt' => by refine XS.aloadN X3.here hx rfl (hb hby d5_14) rfl rfl ?_; exact kt') ?_
  show Go p e below _ (T3.setTop (mkF m 15 #[.val (.ref a), .val (.int p1), .val (.int p2), .val (.ref a3)] [(.ref a)]))
  refine go (fun t kt' => by refine XS.iloadN X3.here hx rfl (hb hby d5_15) rfl ?_; exact kt') ?_
  show Go p e below _ (T3.setTop (mkF m 16 #[.val (.ref a), .val (.int p1), .val (.int p2), .val (.ref a3)] [(.int p2), (.ref a)]))
  obtain ⟨T13, h13, X13, e13, W13, st13⟩ := putF X3 hx hZ hown (host := "") (Or.inl (hw _ (List.mem_of_getElem? (i := 69) rfl))) Via.refl e3 f9_F_a_situation f7_E_a (Or.inr ⟨(hw _ (List.mem_of_getElem? (i := 70) rfl)), rfl, hnm⟩) (hw _ (List.mem_of_getElem? (i := 1) rfl)) (ty := .int) (by decide) rfl rfl (g := (mkF m 16 #[.val (.ref a), .val (.int p1), .val (.int p2), .val (.ref a3)] [(.int p2), (.ref a)])) rfl rfl (hb hby d5_16)
  have N13 := Fr.snoc X13 N3 g_a
  have f14_Z := Nat.le_trans f4_Z (Keep.of_wr W13).1
  have f15_O := f5_O.wr W13 g_a
  have f16_K := f6_K.wr W13 (Or.inl (List.mem_of_getElem? (i := 0) rfl))
  have f17_E_a := f7_E_a.wr W13
  have f18_F_a_doi := f8_F_a_doi.other W13 (Or.inr (slot_ne (Or.inr (hw _ (List.mem_of_getElem? (i := 68) rfl))) (Or.inr (hw _ (List.mem_of_getElem? (i := 70) rfl))) (by decide) (t := .int) (t' := .int) (by decide) (by decide)))
  have f19_F_a_situation := f9_F_a_situation.same W13
  have f20_F_a_proposals := f10_F_a_proposals.other W13 (Or.inr (slot_ne (Or.inr (hw _ (List.mem_of_getElem? (i := 72) rfl))) (Or.inr (hw _ (List.mem_of_getElem? (i := 70) rfl))) (by decide) (t := (.object "java/util/List")) (t' := .int) (by decide) (by decide)))
  have f21_E_a3 := f11_E_a3.wr W13
  have f22_F_a3_e1 := f12_F_a3_e1.other W13 (Or.inl ne_a3)
  refine go st13 ?_
  show Go p e below _ (T13.setTop (mkF m 19 #[.val (.ref a), .val (.int p1), .val (.int p2), .val (.ref a3)] []))
  refine go (fun t kt' => by refine XS.aloadN X13.here hx rfl (hb hby d5_19) rfl rfl ?_; exact kt') ?_
  show Go p e below _ (T13.setTop (mkF m 20 #[.val (.ref a), .val (.int p1), .val (.int p2), .val (.ref a3)] [(.ref a)]))
  refine go (fun t kt' => by refine XS.aloadN X13.here hx rfl (hb hby d5_20) rfl rfl ?_; exact kt') ?_
  show Go p e below _ (T13.setTop (mkF m 21 #[.val (.ref a), .val (.int p1), .val (.int p2), .val (.ref a3)] [(.ref a3), (.ref a)]))
  obtain ⟨T23, h23, X23, e23, W23, st23⟩ := putF X13 hx hZ hown (host := "") (Or.inl (hw _ (List.mem_of_getElem? (i := 71) rfl))) Via.refl e13 f20_F_a_proposals f17_E_a (Or.inr ⟨(hw _ (List.mem_of_getElem? (i := 72) rfl)), rfl, hnm⟩) (hw _ (List.mem_of_getElem? (i := 1) rfl)) (ty := (.object "java/util/List")) (by decide) rfl rfl (g := (mkF m 21 #[.val (.ref a), .val (.int p1), .val (.int p2), .val (.ref a3)] [(.ref a3), (.ref a)])) rfl rfl (hb hby d5_21)
  have N23 := Fr.snoc X23 N13 g_a
  have f24_Z := Nat.le_trans f14_Z (Keep.of_wr W23).1
  have f25_O := f15_O.wr W23 g_a
  have f26_K := f16_K.wr W23 (Or.inl (List.mem_of_getElem? (i := 0) rfl))
  have f27_E_a := f17_E_a.wr W23
  have f28_F_a_doi := f18_F_a_doi.other W23 (Or.inr (slot_ne (Or.inr (hw _ (List.mem_of_getElem? (i := 68) rfl))) (Or.inr (hw _ (List.mem_of_getElem? (i := 72) rfl))) (by decide) (t := .int) (t' := (.object "java/util/List")) (by decide) (by decide)))
  have f29_F_a_situation := f19_F_a_situation.other W23 (Or.inr (slot_ne (Or.inr (hw _ (List.mem_of_getElem? (i := 70) rfl))) (Or.inr (hw _ (List.mem_of_getElem? (i := 72) rfl))) (by decide) (t := .int) (t' := (.object "java/util/List")) (by decide) (by decide)))
  have f30_F_a_proposals := f20_F_a_proposals.same W23
  have f31_E_a3 := f21_E_a3.wr W23
  have f32_F_a3_e1 := f22_F_a3_e1.other W23 (Or.inl ne_a3)
  refine go st23 ?_
  show Go p e below _ (T23.setTop (mkF m 24 #[.val (.ref a), .val (.int p1), .val (.int p2), .val (.ref a3)] []))
  refine goOut X23 (fun _ => rfl) hlk (fun fs hr => X23.returnOut hx Bd.returns (hb hby d5_24) hr) (by decide) (by decide) ?_
  rw [e23]
  exact ⟨rfl, N23, f26_K, f27_E_a, f28_F_a_doi, f29_F_a_situation⟩
def own_ip (d s : Int32) : Int32 := if d = 1 ∧ s = 1 then 1 else 0
theorem d11_0 : decode prog_74_method_4_code 0 = .ok (.aload_n 0, 1) := by decide +kernel
theorem d11_1 : decode prog_74_method_4_code 1 = .ok (.getfield 13, 3) := by decide +kernel
theorem d11_4 : decode prog_74_method_4_code 4 = .ok (.iconst 1, 1) := by decide +kernel
theorem d11_5 : decode prog_74_method_4_code 5 = .ok (.if_icmp .ne 15, 3) := by decide +kernel
theorem d11_20 : decode prog_74_method_4_code 20 = .ok (.iconst 0, 1) := by decide +kernel
theorem d11_21 : decode prog_74_method_4_code 21 = .ok (.ireturn, 1) := by decide +kernel
theorem d11_8 : decode prog_74_method_4_code 8 = .ok (.aload_n 0, 1) := by decide +kernel
theorem d11_9 : decode prog_74_method_4_code 9 = .ok (.getfield 19, 3) := by decide +kernel
theorem d11_12 : decode prog_74_method_4_code 12 = .ok (.iconst 1, 1) := by decide +kernel
theorem d11_13 : decode prog_74_method_4_code 13 = .ok (.if_icmp .ne 7, 3) := by decide +kernel
theorem d11_16 : decode prog_74_method_4_code 16 = .ok (.iconst 1, 1) := by decide +kernel
theorem d11_17 : decode prog_74_method_4_code 17 = .ok (.goto 4, 3) := by decide +kernel
theorem ef_rm_ip (m : MethodId) (x0 : Addr) : entryFrame m #[(.ref x0)] 1 = mkF m 0 #[.val (.ref x0)] [] := by first | (simp [entryFrame, mkF, argsToLocals, Value.category]; done) | rfl
def Q_ip (Z : State) (dd ss : Int32) (h0 : Heap) (n0 : Nat) (v : Option Value) (h : Heap) (L : List Loc) : Prop := v = some (.int (own_ip dd ss)) ∧ Fr n0 L ∧ h = h0
set_option maxRecDepth 65536 in
set_option maxHeartbeats 40000000 in
theorem rm_ip (l : Launch) (Z : State) (a0 : Array Value) (hw : ∀ d ∈ tables_1, d.before a0 Z = true) (ws : List Jvm.Cond) (a : Addr) (dd ss : Int32) (h0 : Heap) (n0 : Nat) (Z0 : n0 ≤ h0.size) (E_a : Exa Z h0 a "org/keymoot/SecurityAssociation") (F_doi_a : Fld Z h0 a "org/keymoot/SecurityAssociation" "doi" "I" (.int dd)) (F_situation_a : Fld Z h0 a "org/keymoot/SecurityAssociation" "situation" "I" (.int ss)) :
    MetFree l (⟨"org/keymoot/SecurityAssociation", "isIpsecIdentityOnly", "()Z"⟩ : MethodName) (head1 (Jvm.Cond.code (⟨"org/keymoot/SecurityAssociation", "isIpsecIdentityOnly", "()Z"⟩ : MethodName) prog_74_method_4_code 1 (some .boolean) :: ws) ({ frames := 0, cells := 0, slots := 0, locals := 0 } : Room)) (fun av' U => av' = #[(.ref a)] ∧ Z.Warmed39 U.vm ∧ U.heap = h0) (fun _ _ _ _ _ => True) (fun _ U o U' => ∃ v L, o = .returned v ∧ Q_ip Z dd ss h0 n0 v U'.heap L ∧ FrameEnd U o U' L ({ frames := 0, cells := 0, slots := 0, locals := 0 } : Room).cells ({ frames := 0, cells := 0, slots := 0, locals := 0 } : Room).slots) := by
  refine MetFree.of_bodySF (plainFor_of_name pn_org_keymoot_SecurityAssociation) hisR ?_
  intro p e s m args below meth c s₁ Bd hml0 hP hK
  obtain ⟨rfl, hZ, hh⟩ := hP
  have hx := Bd.exec
  have hby := Bd.bytes
  have hlk := Bd.notSynchronized
  have hml : c.maxLocals = 1 := hml0
  have hown : s.vm.findClass "org/keymoot/SecurityAssociation" = some m.cls := findClass_of_methodNamed Bd.named
  have hnm := (name_of_methodNamed Bd.named Bd.method).1
  have X0 : Stand p l e ({ frames := 0, cells := 0, slots := 0, locals := 0 } : Room) s m #[(.ref a)] below meth c s₁ [] 0 0 := Stand.of_body Bd
  have e0 : s₁.heap = h0 := by rw [← hh, Bd.state]; rfl
  have N0 := Fr.nil n0
  show Go p e below (Kq s (Q_ip Z dd ss h0 n0) ({ frames := 0, cells := 0, slots := 0, locals := 0 } : Room).cells ({ frames := 0, cells := 0, slots := 0, locals := 0 } : Room).slots) _
  refine go (fun t kt => castTop (ef_rm_ip m a) kt) ?_
  show Go p e below _ (s₁.setTop (mkF m 0 #[.val (.ref a)] []))
  refine go (fun t kt' => by refine XS.aloadN X0.here hx rfl (hb hby d11_0) rfl rfl ?_; exact kt') ?_
  show Go p e below _ (s₁.setTop (mkF m 1 #[.val (.ref a)] [(.ref a)]))
  obtain ⟨T1, X1, e1, st1⟩ := getF X0 hx hZ hown (host := "") (Or.inl (hw _ (List.mem_of_getElem? (i := 67) rfl))) Via.refl e0 F_doi_a (g := (mkF m 1 #[.val (.ref a)] [(.ref a)])) rfl rfl (hb hby d11_1)
  refine go st1 ?_
  show Go p e below _ (T1.setTop (mkF m 4 #[.val (.ref a)] [(.int dd)]))
  refine go (fun t kt' => by refine XS.iconst X1.here hx rfl (hb hby d11_4) ?_; exact kt') ?_
  show Go p e below _ (T1.setTop (mkF m 5 #[.val (.ref a)] [(.int (1 : Int32)), (.int dd)]))
  by_cases c5_2 : ¬ dd = (1 : Int32)
  · skip
    refine go (fun t kt' => by refine XS.icmpYes X1.here hx rfl (pc0 := 5) (pc' := 20) rfl (hb hby d11_5) rfl (feq c5_2).2 (by decide) (by decide) ?_; exact kt') ?_
    show Go p e below _ (T1.setTop (mkF m 20 #[.val (.ref a)] []))
    refine go (fun t kt' => by refine XS.iconst X1.here hx rfl (hb hby d11_20) ?_; exact kt') ?_
    show Go p e below _ (T1.setTop (mkF m 21 #[.val (.ref a)] [(.int (0 : Int32))]))
    refine goOut X1 (fun h => by rw [Bd.returns] at h; cases h) hlk (fun fs hr => retN X1 hx (t := .boolean) Bd.returns (by simp) (hb hby d11_21) hr) (by decide) (by decide) ?_
    rw [e1]
    exact ⟨by simp [own_ip, c5_2, nar], N0, rfl⟩
  · skip
    refine go (fun t kt' => by refine XS.icmpNo X1.here hx rfl (hb hby d11_5) rfl (teq (Decidable.not_not.mp c5_2)).2 ?_; exact kt') ?_
    show Go p e below _ (T1.setTop (mkF m 8 #[.val (.ref a)] []))
    refine go (fun t kt' => by refine XS.aloadN X1.here hx rfl (hb hby d11_8) rfl rfl ?_; exact kt') ?_
    show Go p e below _ (T1.setTop (mkF m 9 #[.val (.ref a)] [(.ref a)]))
    obtain ⟨T3, X3, e3, st3⟩ := getF X1 hx hZ hown (host := "") (Or.inl (hw _ (List.mem_of_getElem? (i := 69) rfl))) Via.refl e1 F_situation_a (g := (mkF m 9 #[.val (.ref a)] [(.ref a)])) rfl rfl (hb hby d11_9)
    refine go st3 ?_
    show Go p e below _ (T3.setTop (mkF m 12 #[.val (.ref a)] [(.int ss)]))
    refine go (fun t kt' => by refine XS.iconst X3.here hx rfl (hb hby d11_12) ?_; exact kt') ?_
    show Go p e below _ (T3.setTop (mkF m 13 #[.val (.ref a)] [(.int (1 : Int32)), (.int ss)]))
    by_cases c13_4 : ¬ ss = (1 : Int32)
    · skip
      refine go (fun t kt' => by refine XS.icmpYes X3.here hx rfl (pc0 := 13) (pc' := 20) rfl (hb hby d11_13) rfl (feq c13_4).2 (by decide) (by decide) ?_; exact kt') ?_
      show Go p e below _ (T3.setTop (mkF m 20 #[.val (.ref a)] []))
      refine go (fun t kt' => by refine XS.iconst X3.here hx rfl (hb hby d11_20) ?_; exact kt') ?_
      show Go p e below _ (T3.setTop (mkF m 21 #[.val (.ref a)] [(.int (0 : Int32))]))
      refine goOut X3 (fun h => by rw [Bd.returns] at h; cases h) hlk (fun fs hr => retN X3 hx (t := .boolean) Bd.returns (by simp) (hb hby d11_21) hr) (by decide) (by decide) ?_
      rw [e3]
      exact ⟨by simp [own_ip, Decidable.not_not.mp c5_2, c13_4, nar], N0, rfl⟩
    · skip
      refine go (fun t kt' => by refine XS.icmpNo X3.here hx rfl (hb hby d11_13) rfl (teq (Decidable.not_not.mp c13_4)).2 ?_; exact kt') ?_
      show Go p e below _ (T3.setTop (mkF m 16 #[.val (.ref a)] []))
      refine go (fun t kt' => by refine XS.iconst X3.here hx rfl (hb hby d11_16) ?_; exact kt') ?_
      show Go p e below _ (T3.setTop (mkF m 17 #[.val (.ref a)] [(.int (1 : Int32))]))
      refine go (fun t kt' => by refine XS.goto X3.here hx rfl (pc0 := 17) (pc' := 21) rfl (hb hby d11_17) (by decide) (by decide) ?_; exact kt') ?_
      show Go p e below _ (T3.setTop (mkF m 21 #[.val (.ref a)] [(.int (1 : Int32))]))
      refine goOut X3 (fun h => by rw [Bd.returns] at h; cases h) hlk (fun fs hr => retN X3 hx (t := .boolean) Bd.returns (by simp) (hb hby d11_21) hr) (by decide) (by decide) ?_
      rw [e3]
      exact ⟨by simp [own_ip, Decidable.not_not.mp c5_2, Decidable.not_not.mp c13_4, nar], N0, rfl⟩
theorem d13_0 : decode jdk_45_method_3_code 0 = .ok (.aload_n 0, 1) := by decide +kernel
theorem d13_1 : decode jdk_45_method_3_code 1 = .ok (.getfield 7, 3) := by decide +kernel
theorem d13_4 : decode jdk_45_method_3_code 4 = .ok (.arraylength, 1) := by decide +kernel
theorem d13_5 : decode jdk_45_method_3_code 5 = .ok (.ireturn, 1) := by decide +kernel
theorem pn_java_util_ImmutableCollections_ListN : plainName "java/util/ImmutableCollections$ListN" = true := by first | (simp [plainName, overriddenIn]; done) | decide +kernel
theorem ef_rm_ns (m : MethodId) (x0 : Addr) : entryFrame m #[(.ref x0)] 1 = mkF m 0 #[.val (.ref x0)] [] := by first | (simp [entryFrame, mkF, argsToLocals, Value.category]; done) | rfl
def Q_ns (Z : State)  (h0 : Heap) (n0 : Nat) (v : Option Value) (h : Heap) (L : List Loc) : Prop := v = some (.int (0 : Int32)) ∧ Fr n0 L ∧ h = h0
set_option maxRecDepth 65536 in
set_option maxHeartbeats 40000000 in
theorem rm_ns (l : Launch) (Z : State) (a0 : Array Value) (hw : ∀ d ∈ tables_1, d.before a0 Z = true) (ws : List Jvm.Cond) (el : Addr) (dc em ea : Addr) (h0 : Heap) (n0 : Nat) (Z0 : n0 ≤ h0.size) (HS : own_sets Z dc el em ea) (OO : Old Z n0 h0) :
    MetFree l (⟨"java/util/ImmutableCollections$ListN", "size", "()I"⟩ : MethodName) (head1 (Jvm.Cond.code (⟨"java/util/ImmutableCollections$ListN", "size", "()I"⟩ : MethodName) jdk_45_method_3_code 1 (some .int) :: ws) ({ frames := 0, cells := 0, slots := 0, locals := 0 } : Room)) (fun av' U => av' = #[(.ref el)] ∧ Z.Warmed39 U.vm ∧ U.heap = h0) (fun _ _ _ _ _ => True) (fun _ U o U' => ∃ v L, o = .returned v ∧ Q_ns Z  h0 n0 v U'.heap L ∧ FrameEnd U o U' L ({ frames := 0, cells := 0, slots := 0, locals := 0 } : Room).cells ({ frames := 0, cells := 0, slots := 0, locals := 0 } : Room).slots) := by
  refine MetFree.of_bodySF (plainFor_of_name pn_java_util_ImmutableCollections_ListN) hisR ?_
  intro p e s m args below meth c s₁ Bd hml0 hP hK
  obtain ⟨rfl, hZ, hh⟩ := hP
  have hx := Bd.exec
  have hby := Bd.bytes
  have hlk := Bd.notSynchronized
  have hml : c.maxLocals = 1 := hml0
  have hown : s.vm.findClass "java/util/ImmutableCollections$ListN" = some m.cls := findClass_of_methodNamed Bd.named
  have hnm := (name_of_methodNamed Bd.named Bd.method).1
  have X0 : Stand p l e ({ frames := 0, cells := 0, slots := 0, locals := 0 } : Room) s m #[(.ref el)] below meth c s₁ [] 0 0 := Stand.of_body Bd
  have e0 : s₁.heap = h0 := by rw [← hh, Bd.state]; rfl
  have N0 := Fr.nil n0
  show Go p e below (Kq s (Q_ns Z  h0 n0) ({ frames := 0, cells := 0, slots := 0, locals := 0 } : Room).cells ({ frames := 0, cells := 0, slots := 0, locals := 0 } : Room).slots) _
  refine go (fun t kt => castTop (ef_rm_ns m el) kt) ?_
  have HS0 := HS
  obtain ⟨S_dc, S_el, S_em, E_el, F_el, cE, A_el, Z_el⟩ := HS0
  have E_el' := E_el.ext OO.2
  have F_el' := F_el.ext OO.2
  have A_el' := A_el.ext OO.2
  show Go p e below _ (s₁.setTop (mkF m 0 #[.val (.ref el)] []))
  refine go (fun t kt' => by refine XS.aloadN X0.here hx rfl (hb hby d13_0) rfl rfl ?_; exact kt') ?_
  show Go p e below _ (s₁.setTop (mkF m 1 #[.val (.ref el)] [(.ref el)]))
  obtain ⟨T1, X1, e1, st1⟩ := getF X0 hx hZ hown (host := "") (Or.inl (hw _ (List.mem_of_getElem? (i := 97) rfl))) Via.refl e0 F_el' (g := (mkF m 1 #[.val (.ref el)] [(.ref el)])) rfl rfl (hb hby d13_1)
  refine go st1 ?_
  show Go p e below _ (T1.setTop (mkF m 4 #[.val (.ref el)] [(.ref ea)]))
  refine go (fun t kt' => by refine X1.arraylength hx (by rw [e1]; exact A_el'.1) (State.isArrayOf_alike hZ.alike A_el'.2.1) (g := (mkF m 4 #[.val (.ref el)] [(.ref ea)])) rfl rfl (hb hby d13_4) t ?_; exact kt') ?_
  show Go p e below _ (T1.setTop (mkF m 5 #[.val (.ref el)] [(.int (Nat.toInt32 cE.slots.size))]))
  rw [Z_el]
  show Go p e below _ (T1.setTop (mkF m 5 #[.val (.ref el)] [(.int (0 : Int32))]))
  refine goOut X1 (fun h => by rw [Bd.returns] at h; cases h) hlk (fun fs hr => retOut X1 hx Bd.returns rfl (Or.inl ⟨rfl, Or.inl rfl, _, rfl⟩) (hb hby d13_5) hr) (by decide) (by decide) ?_
  rw [e1]
  exact ⟨rfl, N0, rfl⟩
theorem d22_0 : decode jdk_31_method_10_code 0 = .ok (.aload_n 0, 1) := by decide +kernel
theorem d22_1 : decode jdk_31_method_10_code 1 = .ok (.ifnonnull 11, 3) := by decide +kernel
theorem d22_12 : decode jdk_31_method_10_code 12 = .ok (.aload_n 0, 1) := by decide +kernel
theorem d22_13 : decode jdk_31_method_10_code 13 = .ok (.areturn, 1) := by decide +kernel
theorem pn_java_util_Objects : plainName "java/util/Objects" = true := by first | (simp [plainName, overriddenIn]; done) | decide +kernel
theorem ef_rm_rn (m : MethodId) (x0 : Addr) : entryFrame m #[(.ref x0)] 1 = mkF m 0 #[.val (.ref x0)] [] := by first | (simp [entryFrame, mkF, argsToLocals, Value.category]; done) | rfl
def Q_rn (Z : State) (a : Addr) (h0 : Heap) (n0 : Nat) (v : Option Value) (h : Heap) (L : List Loc) : Prop := v = some (.ref a) ∧ Fr n0 L ∧ h = h0
set_option maxRecDepth 65536 in
set_option maxHeartbeats 40000000 in
theorem rm_rn (l : Launch) (Z : State) (a0 : Array Value) (hw : ∀ d ∈ tables_1, d.before a0 Z = true) (ws : List Jvm.Cond) (a : Addr)  (h0 : Heap) (n0 : Nat) (Z0 : n0 ≤ h0.size)  :
    MetFree l (⟨"java/util/Objects", "requireNonNull", "(Ljava/lang/Object;)Ljava/lang/Object;"⟩ : MethodName) (head1 (Jvm.Cond.code (⟨"java/util/Objects", "requireNonNull", "(Ljava/lang/Object;)Ljava/lang/Object;"⟩ : MethodName) jdk_31_method_10_code 1 (some (.object "java/lang/Object")) :: ws) ({ frames := 0, cells := 0, slots := 0, locals := 0 } : Room)) (fun av' U => av' = #[(.ref a)] ∧ Z.Warmed39 U.vm ∧ U.heap = h0) (fun _ _ _ _ _ => True) (fun _ U o U' => ∃ v L, o = .returned v ∧ Q_rn Z a h0 n0 v U'.heap L ∧ FrameEnd U o U' L ({ frames := 0, cells := 0, slots := 0, locals := 0 } : Room).cells ({ frames := 0, cells := 0, slots := 0, locals := 0 } : Room).slots) := by
  refine MetFree.of_bodySF (plainFor_of_name pn_java_util_Objects) hisR ?_
  intro p e s m args below meth c s₁ Bd hml0 hP hK
  obtain ⟨rfl, hZ, hh⟩ := hP
  have hx := Bd.exec
  have hby := Bd.bytes
  have hlk := Bd.notSynchronized
  have hml : c.maxLocals = 1 := hml0
  have hown : s.vm.findClass "java/util/Objects" = some m.cls := findClass_of_methodNamed Bd.named
  have hnm := (name_of_methodNamed Bd.named Bd.method).1
  have X0 : Stand p l e ({ frames := 0, cells := 0, slots := 0, locals := 0 } : Room) s m #[(.ref a)] below meth c s₁ [] 0 0 := Stand.of_body Bd
  have e0 : s₁.heap = h0 := by rw [← hh, Bd.state]; rfl
  have N0 := Fr.nil n0
  show Go p e below (Kq s (Q_rn Z a h0 n0) ({ frames := 0, cells := 0, slots := 0, locals := 0 } : Room).cells ({ frames := 0, cells := 0, slots := 0, locals := 0 } : Room).slots) _
  refine go (fun t kt => castTop (ef_rm_rn m a) kt) ?_
  show Go p e below _ (s₁.setTop (mkF m 0 #[.val (.ref a)] []))
  refine go (fun t kt' => by refine XS.aloadN X0.here hx rfl (hb hby d22_0) rfl rfl ?_; exact kt') ?_
  show Go p e below _ (s₁.setTop (mkF m 1 #[.val (.ref a)] [(.ref a)]))
  refine go (fun t kt' => by refine XS.ifnonnullYes X0.here hx rfl (pc0 := 1) (pc' := 12) rfl (hb hby d22_1) rfl (by decide) (by decide) ?_; exact kt') ?_
  show Go p e below _ (s₁.setTop (mkF m 12 #[.val (.ref a)] []))
  refine go (fun t kt' => by refine XS.aloadN X0.here hx rfl (hb hby d22_12) rfl rfl ?_; exact kt') ?_
  show Go p e below _ (s₁.setTop (mkF m 13 #[.val (.ref a)] [(.ref a)]))
  refine goOut X0 (fun h => by rw [Bd.returns] at h; cases h) hlk (fun fs hr => retOut X0 hx Bd.returns rfl (Or.inr (Or.inr (Or.inr (Or.inr ⟨rfl, rfl, rfl⟩)))) (hb hby d22_13) hr) (by decide) (by decide) ?_
  rw [e0]
  exact ⟨rfl, N0, rfl⟩
theorem d19_0 : decode jdk_44_method_1_code 0 = .ok (.aload_n 0, 1) := by decide +kernel
theorem d19_1 : decode jdk_44_method_1_code 1 = .ok (.invokespecial 1, 3) := by decide +kernel
theorem d19_4 : decode jdk_44_method_1_code 4 = .ok (.aload_n 0, 1) := by decide +kernel
theorem d19_5 : decode jdk_44_method_1_code 5 = .ok (.aload_n 1, 1) := by decide +kernel
theorem d19_6 : decode jdk_44_method_1_code 6 = .ok (.invokestatic 7, 3) := by decide +kernel
theorem pd_4 : parseMethodDescriptor "(Ljava/lang/Object;)Ljava/lang/Object;" = some ⟨[(.object "java/lang/Object")], some (.object "java/lang/Object")⟩ := by decide +kernel
theorem d19_9 : decode jdk_44_method_1_code 9 = .ok (.putfield 13, 3) := by decide +kernel
theorem d19_12 : decode jdk_44_method_1_code 12 = .ok (.aload_n 0, 1) := by decide +kernel
theorem d19_13 : decode jdk_44_method_1_code 13 = .ok (.getstatic 19, 3) := by decide +kernel
theorem d19_16 : decode jdk_44_method_1_code 16 = .ok (.putfield 24, 3) := by decide +kernel
theorem d19_19 : decode jdk_44_method_1_code 19 = .ok (.return_, 1) := by decide +kernel
theorem pn_java_util_ImmutableCollections_List12 : plainName "java/util/ImmutableCollections$List12" = true := by first | (simp [plainName, overriddenIn]; done) | decide +kernel
theorem ef_rm_i12 (m : MethodId) (x0 : Addr) (x1 : Addr) : entryFrame m #[(.ref x0), (.ref x1)] 2 = mkF m 0 #[.val (.ref x0), .val (.ref x1)] [] := by first | (simp [entryFrame, mkF, argsToLocals, Value.category]; done) | rfl
def Q_i12 (Z : State) (a em : Addr) (h0 : Heap) (n0 : Nat) (v : Option Value) (h : Heap) (L : List Loc) : Prop := v = none ∧ Fr n0 L ∧ Keep h0 h [a] ∧ Exa Z h a "java/util/ImmutableCollections$List12" ∧ Fld Z h a "java/util/ImmutableCollections$List12" "e1" "Ljava/lang/Object;" (.ref em)
set_option maxRecDepth 65536 in
set_option maxHeartbeats 40000000 in
theorem rm_i12 (l : Launch) (Z : State) (a0 : Array Value) (hw : ∀ d ∈ tables_1, d.before a0 Z = true) (ws : List Jvm.Cond) (a : Addr) (a1 : Addr) (dc el em ea : Addr)  (h0 : Heap) (n0 : Nat) (Z0 : n0 ≤ h0.size) (E_a : Exa Z h0 a "java/util/ImmutableCollections$List12") (g_a : n0 ≤ a) (F_e0_a : Fld Z h0 a "java/util/ImmutableCollections$List12" "e0" "Ljava/lang/Object;" .null) (F_e1_a : Fld Z h0 a "java/util/ImmutableCollections$List12" "e1" "Ljava/lang/Object;" .null) (HS : own_sets Z dc el em ea) (OO : Old Z n0 h0) :
    MetFree l (⟨"java/util/ImmutableCollections$List12", "<init>", "(Ljava/lang/Object;)V"⟩ : MethodName) (head1 (Jvm.Cond.code (⟨"java/util/ImmutableCollections$List12", "<init>", "(Ljava/lang/Object;)V"⟩ : MethodName) jdk_44_method_1_code 2 none :: ws) ({ frames := 4, cells := 0, slots := 0, locals := 48 } : Room)) (fun av' U => av' = #[(.ref a), (.ref a1)] ∧ Z.Warmed39 U.vm ∧ U.heap = h0) (fun _ _ _ _ _ => True) (fun _ U o U' => ∃ v L, o = .returned v ∧ Q_i12 Z a em h0 n0 v U'.heap L ∧ FrameEnd U o U' L ({ frames := 4, cells := 0, slots := 0, locals := 48 } : Room).cells ({ frames := 4, cells := 0, slots := 0, locals := 48 } : Room).slots) := by
  refine MetFree.of_bodySF (plainFor_of_name pn_java_util_ImmutableCollections_List12) hisR ?_
  intro p e s m args below meth c s₁ Bd hml0 hP hK
  obtain ⟨rfl, hZ, hh⟩ := hP
  have hx := Bd.exec
  have hby := Bd.bytes
  have hlk := Bd.notSynchronized
  have hml : c.maxLocals = 2 := hml0
  have hown : s.vm.findClass "java/util/ImmutableCollections$List12" = some m.cls := findClass_of_methodNamed Bd.named
  have hnm := (name_of_methodNamed Bd.named Bd.method).1
  have X0 : Stand p l e ({ frames := 4, cells := 0, slots := 0, locals := 48 } : Room) s m #[(.ref a), (.ref a1)] below meth c s₁ [] 0 0 := Stand.of_body Bd
  have e0 : s₁.heap = h0 := by rw [← hh, Bd.state]; rfl
  have N0 := Fr.nil n0
  show Go p e below (Kq s (Q_i12 Z a em h0 n0) ({ frames := 4, cells := 0, slots := 0, locals := 48 } : Room).cells ({ frames := 4, cells := 0, slots := 0, locals := 48 } : Room).slots) _
  refine go (fun t kt => castTop (ef_rm_i12 m a a1) kt) ?_
  have HS0 := HS
  obtain ⟨S_dc, S_el, S_em, E_el, F_el, cE, A_el, Z_el⟩ := HS0
  have K0 := Keep.refl h0 [a]
  show Go p e below _ (s₁.setTop (mkF m 0 #[.val (.ref a), .val (.ref a1)] []))
  refine go (fun t kt' => by refine XS.aloadN X0.here hx rfl (hb hby d19_0) rfl rfl ?_; exact kt') ?_
  show Go p e below _ (s₁.setTop (mkF m 1 #[.val (.ref a), .val (.ref a1)] [(.ref a)]))
  obtain ⟨_, _, ⟨T1, L1, k1, n1⟩, -, X1, ⟨Lc1, hQ1, l1, y1, z1⟩, st1⟩ := X0.specialBack hx (y := (⟨"java/util/ImmutableCollections$AbstractImmutableList", "<init>", "()V"⟩ : MethodName)) rfl hown (mvT hZ (hw _ (List.mem_of_getElem? (i := 148) rfl))) (mvT hZ (hw _ (List.mem_of_getElem? (i := 149) rfl))) (mvT hZ (hw _ (List.mem_of_getElem? (i := 153) rfl))) (by decide) (backOf (W := 0) (rm_ail l Z a0 hw [] a h0 n0 Z0 ) hZ (hw _ (List.mem_of_getElem? (i := 153) rfl)) (hw _ (List.mem_of_getElem? (i := 152) rfl)) (by decide) (by decide)) (g := (mkF m 1 #[.val (.ref a), .val (.ref a1)] [(.ref a)])) rfl (by rw [hml]; rfl) (Steps.refl _) (a := a) (argsL := []) (rest := []) (lenOf pd_0 rfl) rfl (by show 2 * 0 + _ ≤ _; exact Nat.le_of_eq rfl) (hb hby d19_1) (fun _ _ => ⟨rfl, e0, (by decide : 0 + 0 ≤ _), (by decide : 0 + 0 ≤ _)⟩)
  dsimp only [Pt.U, Pt.locs, Pt.cells, Pt.slots] at X1 l1 y1 z1 st1 hQ1
  rw [l1, y1, z1] at X1
  obtain ⟨rfl, N1q, e1⟩ := hQ1
  have N1 := Fr.app N0 N1q
  refine go (fun t kt => st1.trans kt) ?_
  show Go p e below _ (T1.setTop (mkF m 4 #[.val (.ref a), .val (.ref a1)] []))
  refine go (fun t kt' => by refine XS.aloadN X1.here hx rfl (hb hby d19_4) rfl rfl ?_; exact kt') ?_
  show Go p e below _ (T1.setTop (mkF m 5 #[.val (.ref a), .val (.ref a1)] [(.ref a)]))
  refine go (fun t kt' => by refine XS.aloadN X1.here hx rfl (hb hby d19_5) rfl rfl ?_; exact kt') ?_
  show Go p e below _ (T1.setTop (mkF m 6 #[.val (.ref a), .val (.ref a1)] [(.ref a1), (.ref a)]))
  obtain ⟨_, _, ⟨T2, L2, k2, n2⟩, -, X2, ⟨Lc2, hQ2, l2, y2, z2⟩, st2⟩ := Jvm.LawKit.callS X1 hx (y := (⟨"java/util/Objects", "requireNonNull", "(Ljava/lang/Object;)Ljava/lang/Object;"⟩ : MethodName)) hown (mvT hZ (hw _ (List.mem_of_getElem? (i := 162) rfl))) (mvT hZ (hw _ (List.mem_of_getElem? (i := 163) rfl))) (mvT hZ (hw _ (List.mem_of_getElem? (i := 164) rfl))) (mvT hZ (hw _ (List.mem_of_getElem? (i := 165) rfl))) (by decide) (backOf (W := 1) (rm_rn l Z a0 hw [] a1 h0 n0 Z0 ) hZ (hw _ (List.mem_of_getElem? (i := 165) rfl)) (hw _ (List.mem_of_getElem? (i := 164) rfl)) (by decide) (by decide)) (g := (mkF m 6 #[.val (.ref a), .val (.ref a1)] [(.ref a1), (.ref a)])) rfl (by rw [hml]; rfl) (argsL := [(.ref a1)]) (rest := [(.ref a)]) (lenOf pd_4 rfl) rfl (by show 2 * 0 + _ ≤ _; exact Nat.le_of_eq rfl) (hb hby d19_6) (fun _ _ => ⟨rfl, e1, (by decide : 0 + 0 ≤ _), (by decide : 0 + 0 ≤ _)⟩)
  dsimp only [Pt.U, Pt.locs, Pt.cells, Pt.slots] at X2 l2 y2 z2 st2 hQ2
  rw [l2, y2, z2] at X2
  obtain ⟨rfl, N2q, e2⟩ := hQ2
  have N2 := Fr.app N1 N2q
  refine go st2 ?_
  show Go p e below _ (T2.setTop (mkF m 9 #[.val (.ref a), .val (.ref a1)] [(.ref a1), (.ref a)]))
  obtain ⟨T3, h3, X3, e3, W3, st3⟩ := putF X2 hx hZ hown (host := "") (Or.inl (hw _ (List.mem_of_getElem? (i := 166) rfl))) Via.refl e2 F_e0_a E_a (Or.inr ⟨(hw _ (List.mem_of_getElem? (i := 167) rfl)), rfl, hnm⟩) (hw _ (List.mem_of_getElem? (i := 142) rfl)) (ty := (.object "java/lang/Object")) (by decide) rfl rfl (g := (mkF m 9 #[.val (.ref a), .val (.ref a1)] [(.ref a1), (.ref a)])) rfl rfl (hb hby d19_9)
  have N3 := Fr.snoc X3 N2 g_a
  have f4_Z := Nat.le_trans Z0 (Keep.of_wr W3).1
  have f5_O := OO.wr W3 g_a
  have f6_K := K0.wr W3 (Or.inl (List.mem_of_getElem? (i := 0) rfl))
  have f7_E_a := E_a.wr W3
  have f8_F_a_e0 := F_e0_a.same W3
  have f9_F_a_e1 := F_e1_a.other W3 (Or.inr (slot_ne (Or.inr (hw _ (List.mem_of_getElem? (i := 170) rfl))) (Or.inr (hw _ (List.mem_of_getElem? (i := 167) rfl))) (by decide) (t := (.object "java/lang/Object")) (t' := (.object "java/lang/Object")) (by decide) (by decide)))
  refine go st3 ?_
  show Go p e below _ (T3.setTop (mkF m 12 #[.val (.ref a), .val (.ref a1)] []))
  refine go (fun t kt' => by refine XS.aloadN X3.here hx rfl (hb hby d19_12) rfl rfl ?_; exact kt') ?_
  show Go p e below _ (T3.setTop (mkF m 13 #[.val (.ref a), .val (.ref a1)] [(.ref a)]))
  obtain ⟨T10, X10, e10, st10⟩ := getS2 X3 hx hZ hown (Or.inr (hw _ (List.mem_of_getElem? (i := 168) rfl))) Via.refl e3 (Sta.ext f5_O.2 S_em) (g := (mkF m 13 #[.val (.ref a), .val (.ref a1)] [(.ref a)])) rfl (hb hby d19_13)
  refine go st10 ?_
  show Go p e below _ (T10.setTop (mkF m 16 #[.val (.ref a), .val (.ref a1)] [(.ref em), (.ref a)]))
  obtain ⟨T11, h11, X11, e11, W11, st11⟩ := putF X10 hx hZ hown (host := "") (Or.inl (hw _ (List.mem_of_getElem? (i := 169) rfl))) Via.refl e10 f9_F_a_e1 f7_E_a (Or.inr ⟨(hw _ (List.mem_of_getElem? (i := 170) rfl)), rfl, hnm⟩) (hw _ (List.mem_of_getElem? (i := 142) rfl)) (ty := (.object "java/lang/Object")) (by decide) rfl rfl (g := (mkF m 16 #[.val (.ref a), .val (.ref a1)] [(.ref em), (.ref a)])) rfl rfl (hb hby d19_16)
  have N11 := Fr.snoc X11 N3 g_a
  have f12_Z := Nat.le_trans f4_Z (Keep.of_wr W11).1
  have f13_O := f5_O.wr W11 g_a
  have f14_K := f6_K.wr W11 (Or.inl (List.mem_of_getElem? (i := 0) rfl))
  have f15_E_a := f7_E_a.wr W11
  have f16_F_a_e0 := f8_F_a_e0.other W11 (Or.inr (slot_ne (Or.inr (hw _ (List.mem_of_getElem? (i := 167) rfl))) (Or.inr (hw _ (List.mem_of_getElem? (i := 170) rfl))) (by decide) (t := (.object "java/lang/Object")) (t' := (.object "java/lang/Object")) (by decide) (by decide)))
  have f17_F_a_e1 := f9_F_a_e1.same W11
  refine go st11 ?_
  show Go p e below _ (T11.setTop (mkF m 19 #[.val (.ref a), .val (.ref a1)] []))
  refine goOut X11 (fun _ => rfl) hlk (fun fs hr => X11.returnOut hx Bd.returns (hb hby d19_19) hr) (by decide) (by decide) ?_
  rw [e11]
  exact ⟨rfl, N11, f14_K, f15_E_a, f17_F_a_e1⟩
theorem d18_0 : decode jdk_40_method_37_code 0 = .ok (.new 96, 3) := by decide +kernel
theorem d18_3 : decode jdk_40_method_37_code 3 = .ok (.dup, 1) := by decide +kernel
theorem d18_4 : decode jdk_40_method_37_code 4 = .ok (.aload_n 0, 1) := by decide +kernel
theorem d18_5 : decode jdk_40_method_37_code 5 = .ok (.invokespecial 98, 3) := by decide +kernel
theorem pd_5 : parseMethodDescriptor "(Ljava/lang/Object;)V" = some ⟨[(.object "java/lang/Object")], none⟩ := by decide +kernel
theorem d18_8 : decode jdk_40_method_37_code 8 = .ok (.areturn, 1) := by decide +kernel
theorem ef_rm_o1 (m : MethodId) (x0 : Addr) : entryFrame m #[(.ref x0)] 1 = mkF m 0 #[.val (.ref x0)] [] := by first | (simp [entryFrame, mkF, argsToLocals, Value.category]; done) | rfl
def Q_o1 (Z : State) (em : Addr) (h0 : Heap) (n0 : Nat) (v : Option Value) (h : Heap) (L : List Loc) : Prop := ∃ b : Addr, v = some (.ref b) ∧ Fr n0 L ∧ Keep h0 h [] ∧ n0 ≤ b ∧ h0.size ≤ b ∧ Exa Z h b "java/util/ImmutableCollections$List12" ∧ Fld Z h b "java/util/ImmutableCollections$List12" "e1" "Ljava/lang/Object;" (.ref em)
set_option maxRecDepth 65536 in
set_option maxHeartbeats 40000000 in
theorem rm_o1 (l : Launch) (Z : State) (a0 : Array Value) (hw : ∀ d ∈ tables_1, d.before a0 Z = true) (ws : List Jvm.Cond) (a1 : Addr) (dc el em ea : Addr)  (h0 : Heap) (n0 : Nat) (Z0 : n0 ≤ h0.size)  (HS : own_sets Z dc el em ea) (OO : Old Z n0 h0) :
    MetFree l (⟨"java/util/List", "of", "(Ljava/lang/Object;)Ljava/util/List;"⟩ : MethodName) (head1 (Jvm.Cond.code (⟨"java/util/List", "of", "(Ljava/lang/Object;)Ljava/util/List;"⟩ : MethodName) jdk_40_method_37_code 1 (some (.object "java/util/List")) :: ws) ({ frames := 5, cells := 1, slots := 2, locals := 62 } : Room)) (fun av' U => av' = #[(.ref a1)] ∧ Z.Warmed39 U.vm ∧ U.heap = h0) (fun _ _ _ _ _ => True) (fun _ U o U' => ∃ v L, o = .returned v ∧ Q_o1 Z em h0 n0 v U'.heap L ∧ FrameEnd U o U' L ({ frames := 5, cells := 1, slots := 2, locals := 62 } : Room).cells ({ frames := 5, cells := 1, slots := 2, locals := 62 } : Room).slots) := by
  refine MetFree.of_bodySF (plainFor_of_name pn_java_util_List) hisR ?_
  intro p e s m args below meth c s₁ Bd hml0 hP hK
  obtain ⟨rfl, hZ, hh⟩ := hP
  have hx := Bd.exec
  have hby := Bd.bytes
  have hlk := Bd.notSynchronized
  have hml : c.maxLocals = 1 := hml0
  have hown : s.vm.findClass "java/util/List" = some m.cls := findClass_of_methodNamed Bd.named
  have hnm := (name_of_methodNamed Bd.named Bd.method).1
  have X0 : Stand p l e ({ frames := 5, cells := 1, slots := 2, locals := 62 } : Room) s m #[(.ref a1)] below meth c s₁ [] 0 0 := Stand.of_body Bd
  have e0 : s₁.heap = h0 := by rw [← hh, Bd.state]; rfl
  have N0 := Fr.nil n0
  show Go p e below (Kq s (Q_o1 Z em h0 n0) ({ frames := 5, cells := 1, slots := 2, locals := 62 } : Room).cells ({ frames := 5, cells := 1, slots := 2, locals := 62 } : Room).slots) _
  refine go (fun t kt => castTop (ef_rm_o1 m a1) kt) ?_
  have HS0 := HS
  obtain ⟨S_dc, S_el, S_em, E_el, F_el, cE, A_el, Z_el⟩ := HS0
  have K0 := Keep.refl h0 []
  show Go p e below _ (s₁.setTop (mkF m 0 #[.val (.ref a1)] []))
  obtain ⟨T1, h1, X1, e1, E1, A1, D1, -, st1⟩ := newO X0 hx hZ hown (hw _ (List.mem_of_getElem? (i := 141) rfl)) (hw _ (List.mem_of_getElem? (i := 142) rfl)) (hw _ (List.mem_of_getElem? (i := 143) rfl)) e0 (g := (mkF m 0 #[.val (.ref a1)] [])) rfl (hb hby d18_0) (by decide) (by decide)
  obtain ⟨b1, g1⟩ : ∃ z, z = h0.size := ⟨_, rfl⟩
  have n0_b1 : n0 ≤ b1 := Nat.le_trans Z0 (Nat.le_of_eq g1.symm)
  have sz_b1 : h0.size ≤ b1 := Nat.le_trans K0.1 (Nat.le_of_eq g1.symm)
  rw [← g1] at A1 D1 st1
  have f2_Z := Nat.le_trans Z0 E1.1
  have f3_O := OO.ext E1
  have f4_K := K0.ext E1
  have F1_e0 : Fld Z h1 b1 "java/util/ImmutableCollections$List12" "e0" "Ljava/lang/Object;" .null := D1 (Or.inr (hw _ (List.mem_of_getElem? (i := 167) rfl))) (ty := (.object "java/lang/Object")) (by decide)
  have F1_e1 : Fld Z h1 b1 "java/util/ImmutableCollections$List12" "e1" "Ljava/lang/Object;" .null := D1 (Or.inr (hw _ (List.mem_of_getElem? (i := 170) rfl))) (ty := (.object "java/lang/Object")) (by decide)
  refine go st1 ?_
  show Go p e below _ (T1.setTop (mkF m 3 #[.val (.ref a1)] [(.ref b1)]))
  refine go (fun t kt' => by refine XS.dup X1.here hx rfl (hb hby d18_3) rfl rfl ?_; exact kt') ?_
  show Go p e below _ (T1.setTop (mkF m 4 #[.val (.ref a1)] [(.ref b1), (.ref b1)]))
  refine go (fun t kt' => by refine XS.aloadN X1.here hx rfl (hb hby d18_4) rfl rfl ?_; exact kt') ?_
  show Go p e below _ (T1.setTop (mkF m 5 #[.val (.ref a1)] [(.ref a1), (.ref b1), (.ref b1)]))
  obtain ⟨_, _, ⟨T5, L5, k5, n5⟩, -, X5, ⟨Lc5, hQ5, l5, y5, z5⟩, st5⟩ := X1.specialBack hx (y := (⟨"java/util/ImmutableCollections$List12", "<init>", "(Ljava/lang/Object;)V"⟩ : MethodName)) rfl hown (mvT hZ (hw _ (List.mem_of_getElem? (i := 144) rfl))) (mvT hZ (hw _ (List.mem_of_getElem? (i := 145) rfl))) (mvT hZ (hw _ (List.mem_of_getElem? (i := 147) rfl))) (by decide) (backOf (W := 1) (rm_i12 l Z a0 hw [] b1 a1 dc el em ea h1 n0 f2_Z A1 n0_b1 F1_e0 F1_e1 HS f3_O) hZ (hw _ (List.mem_of_getElem? (i := 147) rfl)) (hw _ (List.mem_of_getElem? (i := 143) rfl)) (by decide) (by decide)) (g := (mkF m 5 #[.val (.ref a1)] [(.ref a1), (.ref b1), (.ref b1)])) rfl (by rw [hml]; rfl) (Steps.refl _) (a := b1) (argsL := [(.ref a1)]) (rest := [(.ref b1)]) (lenOf pd_5 rfl) rfl (by show 2 * 0 + _ ≤ _; exact Nat.le_of_eq rfl) (hb hby d18_5) (fun _ _ => ⟨rfl, e1, (by decide : 1 + 0 ≤ _), (by decide : 2 + 0 ≤ _)⟩)
  dsimp only [Pt.U, Pt.locs, Pt.cells, Pt.slots] at X5 l5 y5 z5 st5 hQ5
  rw [l5, y5, z5] at X5
  obtain ⟨rfl, N5q, K5, P5_0, P5_1⟩ := hQ5
  have N5 := Fr.app N0 N5q
  have f6_Z := Nat.le_trans f2_Z K5.1
  have f7_O := f3_O.keep K5 (allS n0_b1 all0)
  have f8_K := f4_K.trans K5 (allS (Or.inr sz_b1) all0)
  refine go (fun t kt => st5.trans kt) ?_
  show Go p e below _ (T5.setTop (mkF m 8 #[.val (.ref a1)] [(.ref b1)]))
  refine goOut X5 (fun h => by rw [Bd.returns] at h; cases h) hlk (fun fs hr => retOut X5 hx Bd.returns rfl (Or.inr (Or.inr (Or.inr (Or.inr ⟨rfl, rfl, rfl⟩)))) (hb hby d18_8) hr) (by decide) (by decide) ?_
  exact ⟨b1, rfl, N5, f8_K, n0_b1, sz_b1, P5_0, P5_1⟩
theorem d23_0 : decode jdk_44_method_3_code 0 = .ok (.aload_n 0, 1) := by decide +kernel
theorem d23_1 : decode jdk_44_method_3_code 1 = .ok (.getfield 24, 3) := by decide +kernel
theorem d23_4 : decode jdk_44_method_3_code 4 = .ok (.getstatic 19, 3) := by decide +kernel
theorem d23_7 : decode jdk_44_method_3_code 7 = .ok (.if_acmp .eq 7, 3) := by decide +kernel
theorem d23_14 : decode jdk_44_method_3_code 14 = .ok (.iconst 1, 1) := by decide +kernel
theorem d23_15 : decode jdk_44_method_3_code 15 = .ok (.ireturn, 1) := by decide +kernel
theorem ef_rm_s12 (m : MethodId) (x0 : Addr) : entryFrame m #[(.ref x0)] 1 = mkF m 0 #[.val (.ref x0)] [] := by first | (simp [entryFrame, mkF, argsToLocals, Value.category]; done) | rfl
def Q_s12 (Z : State)  (h0 : Heap) (n0 : Nat) (v : Option Value) (h : Heap) (L : List Loc) : Prop := v = some (.int (1 : Int32)) ∧ Fr n0 L ∧ h = h0
set_option maxRecDepth 65536 in
set_option maxHeartbeats 40000000 in
theorem rm_s12 (l : Launch) (Z : State) (a0 : Array Value) (hw : ∀ d ∈ tables_1, d.before a0 Z = true) (ws : List Jvm.Cond) (a : Addr) (dc el em ea : Addr)  (h0 : Heap) (n0 : Nat) (Z0 : n0 ≤ h0.size) (E_a : Exa Z h0 a "java/util/ImmutableCollections$List12") (F_e1_a : Fld Z h0 a "java/util/ImmutableCollections$List12" "e1" "Ljava/lang/Object;" (.ref em)) (HS : own_sets Z dc el em ea) (OO : Old Z n0 h0) :
    MetFree l (⟨"java/util/ImmutableCollections$List12", "size", "()I"⟩ : MethodName) (head1 (Jvm.Cond.code (⟨"java/util/ImmutableCollections$List12", "size", "()I"⟩ : MethodName) jdk_44_method_3_code 1 (some .int) :: ws) ({ frames := 0, cells := 0, slots := 0, locals := 0 } : Room)) (fun av' U => av' = #[(.ref a)] ∧ Z.Warmed39 U.vm ∧ U.heap = h0) (fun _ _ _ _ _ => True) (fun _ U o U' => ∃ v L, o = .returned v ∧ Q_s12 Z  h0 n0 v U'.heap L ∧ FrameEnd U o U' L ({ frames := 0, cells := 0, slots := 0, locals := 0 } : Room).cells ({ frames := 0, cells := 0, slots := 0, locals := 0 } : Room).slots) := by
  refine MetFree.of_bodySF (plainFor_of_name pn_java_util_ImmutableCollections_List12) hisR ?_
  intro p e s m args below meth c s₁ Bd hml0 hP hK
  obtain ⟨rfl, hZ, hh⟩ := hP
  have hx := Bd.exec
  have hby := Bd.bytes
  have hlk := Bd.notSynchronized
  have hml : c.maxLocals = 1 := hml0
  have hown : s.vm.findClass "java/util/ImmutableCollections$List12" = some m.cls := findClass_of_methodNamed Bd.named
  have hnm := (name_of_methodNamed Bd.named Bd.method).1
  have X0 : Stand p l e ({ frames := 0, cells := 0, slots := 0, locals := 0 } : Room) s m #[(.ref a)] below meth c s₁ [] 0 0 := Stand.of_body Bd
  have e0 : s₁.heap = h0 := by rw [← hh, Bd.state]; rfl
  have N0 := Fr.nil n0
  show Go p e below (Kq s (Q_s12 Z  h0 n0) ({ frames := 0, cells := 0, slots := 0, locals := 0 } : Room).cells ({ frames := 0, cells := 0, slots := 0, locals := 0 } : Room).slots) _
  refine go (fun t kt => castTop (ef_rm_s12 m a) kt) ?_
  have HS0 := HS
  obtain ⟨S_dc, S_el, S_em, E_el, F_el, cE, A_el, Z_el⟩ := HS0
  show Go p e below _ (s₁.setTop (mkF m 0 #[.val (.ref a)] []))
  refine go (fun t kt' => by refine XS.aloadN X0.here hx rfl (hb hby d23_0) rfl rfl ?_; exact kt') ?_
  show Go p e below _ (s₁.setTop (mkF m 1 #[.val (.ref a)] [(.ref a)]))
  obtain ⟨T1, X1, e1, st1⟩ := getF X0 hx hZ hown (host := "") (Or.inl (hw _ (List.mem_of_getElem? (i := 169) rfl))) Via.refl e0 F_e1_a (g := (mkF m 1 #[.val (.ref a)] [(.ref a)])) rfl rfl (hb hby d23_1)
  refine go st1 ?_
  show Go p e below _ (T1.setTop (mkF m 4 #[.val (.ref a)] [(.ref em)]))
  obtain ⟨T2, X2, e2, st2⟩ := getS2 X1 hx hZ hown (Or.inr (hw _ (List.mem_of_getElem? (i := 168) rfl))) Via.refl e1 (Sta.ext OO.2 S_em) (g := (mkF m 4 #[.val (.ref a)] [(.ref em)])) rfl (hb hby d23_4)
  refine go st2 ?_
  show Go p e below _ (T2.setTop (mkF m 7 #[.val (.ref a)] [(.ref em), (.ref em)]))
  refine go (fun t kt' => by refine XS.acmpYes X2.here hx rfl (pc0 := 7) (pc' := 14) rfl (hb hby d23_7) rfl (by simp [if_acmp.holds]) (by decide) (by decide) ?_; exact kt') ?_
  show Go p e below _ (T2.setTop (mkF m 14 #[.val (.ref a)] []))
  refine go (fun t kt' => by refine XS.iconst X2.here hx rfl (hb hby d23_14) ?_; exact kt') ?_
  show Go p e below _ (T2.setTop (mkF m 15 #[.val (.ref a)] [(.int (1 : Int32))]))
  refine goOut X2 (fun h => by rw [Bd.returns] at h; cases h) hlk (fun fs hr => retOut X2 hx Bd.returns rfl (Or.inl ⟨rfl, Or.inl rfl, _, rfl⟩) (hb hby d23_15) hr) (by decide) (by decide) ?_
  rw [e2]
  exact ⟨rfl, N0, rfl⟩
theorem own_n4 (N : Nat) (h : N ≤ 4) : ¬ (255 : Int32) < Nat.toInt32 N := by
  match N, h with
  | 0, _ => decide
  | 1, _ => decide
  | 2, _ => decide
  | 3, _ => decide
  | 4, _ => decide
theorem d12_0 : decode prog_63_method_1_code 0 = .ok (.aload_n 0, 1) := by decide +kernel
theorem d12_1 : decode prog_63_method_1_code 1 = .ok (.invokespecial 1, 3) := by decide +kernel
theorem d12_4 : decode prog_63_method_1_code 4 = .ok (.aload 4, 2) := by decide +kernel
theorem d12_6 : decode prog_63_method_1_code 6 = .ok (.invokestatic 7, 3) := by decide +kernel
theorem d12_9 : decode prog_63_method_1_code 9 = .ok (.astore 4, 2) := by decide +kernel
theorem d12_11 : decode prog_63_method_1_code 11 = .ok (.aload_n 3, 1) := by decide +kernel
theorem d12_12 : decode prog_63_method_1_code 12 = .ok (.arraylength, 1) := by decide +kernel
theorem d12_13 : decode prog_63_method_1_code 13 = .ok (.sipush 255, 3) := by decide +kernel
theorem d12_16 : decode prog_63_method_1_code 16 = .ok (.if_icmp .gt 16, 3) := by decide +kernel
theorem d12_19 : decode prog_63_method_1_code 19 = .ok (.aload 4, 2) := by decide +kernel
theorem d12_21 : decode prog_63_method_1_code 21 = .ok (.invokeinterface 13 1, 5) := by decide +kernel
theorem pd_6 : parseMethodDescriptor "()I" = some ⟨[], some .int⟩ := by decide +kernel
theorem d12_26 : decode prog_63_method_1_code 26 = .ok (.sipush 255, 3) := by decide +kernel
theorem d12_29 : decode prog_63_method_1_code 29 = .ok (.if_icmp .le 25, 3) := by decide +kernel
theorem d12_54 : decode prog_63_method_1_code 54 = .ok (.aload_n 0, 1) := by decide +kernel
theorem d12_55 : decode prog_63_method_1_code 55 = .ok (.iload_n 1, 1) := by decide +kernel
theorem d12_56 : decode prog_63_method_1_code 56 = .ok (.putfield 26, 3) := by decide +kernel
theorem d12_59 : decode prog_63_method_1_code 59 = .ok (.aload_n 0, 1) := by decide +kernel
theorem d12_60 : decode prog_63_method_1_code 60 = .ok (.iload_n 2, 1) := by decide +kernel
theorem d12_61 : decode prog_63_method_1_code 61 = .ok (.putfield 32, 3) := by decide +kernel
theorem d12_64 : decode prog_63_method_1_code 64 = .ok (.aload_n 0, 1) := by decide +kernel
theorem d12_65 : decode prog_63_method_1_code 65 = .ok (.aload_n 3, 1) := by decide +kernel
theorem d12_66 : decode prog_63_method_1_code 66 = .ok (.putfield 35, 3) := by decide +kernel
theorem d12_69 : decode prog_63_method_1_code 69 = .ok (.aload_n 0, 1) := by decide +kernel
theorem d12_70 : decode prog_63_method_1_code 70 = .ok (.aload 4, 2) := by decide +kernel
theorem d12_72 : decode prog_63_method_1_code 72 = .ok (.putfield 39, 3) := by decide +kernel
theorem d12_75 : decode prog_63_method_1_code 75 = .ok (.return_, 1) := by decide +kernel
theorem pn_org_keymoot_Proposal : plainName "org/keymoot/Proposal" = true := by first | (simp [plainName, overriddenIn]; done) | decide +kernel
theorem ef_rm_piA (m : MethodId) (x0 : Addr) (x1 : Int32) (x2 : Int32) (x3 : Addr) (x4 : Addr) : entryFrame m #[(.ref x0), (.int x1), (.int x2), (.ref x3), (.ref x4)] 5 = mkF m 0 #[.val (.ref x0), .val (.int x1), .val (.int x2), .val (.ref x3), .val (.ref x4)] [] := by first | (simp [entryFrame, mkF, argsToLocals, Value.category]; done) | rfl
def Q_piA (Z : State) (a : Addr) (p1 p2 : Int32) (h0 : Heap) (n0 : Nat) (v : Option Value) (h : Heap) (L : List Loc) : Prop := v = none ∧ Fr n0 L ∧ Keep h0 h [a] ∧ Exa Z h a "org/keymoot/Proposal" ∧ Fld Z h a "org/keymoot/Proposal" "number" "I" (.int p1) ∧ Fld Z h a "org/keymoot/Proposal" "protocol" "I" (.int p2)
set_option maxRecDepth 65536 in
set_option maxHeartbeats 40000000 in
theorem rm_piA (l : Launch) (Z : State) (a0 : Array Value) (hw : ∀ d ∈ tables_1, d.before a0 Z = true) (ws : List Jvm.Cond) (a : Addr) (p1 : Int32) (p2 : Int32) (a3 : Addr) (a4 : Addr) (dc el em ea : Addr) (N : Nat) (fv : Nat → Int32) (h0 : Heap) (n0 : Nat) (Z0 : n0 ≤ h0.size) (E_a : Exa Z h0 a "org/keymoot/Proposal") (g_a : n0 ≤ a) (F_number_a : Fld Z h0 a "org/keymoot/Proposal" "number" "I" (.int (0 : Int32))) (F_protocol_a : Fld Z h0 a "org/keymoot/Proposal" "protocol" "I" (.int (0 : Int32))) (F_spi_a : Fld Z h0 a "org/keymoot/Proposal" "spi" "[B" .null) (F_transforms_a : Fld Z h0 a "org/keymoot/Proposal" "transforms" "Ljava/util/List;" .null) (E_a4 : Exa Z h0 a4 "java/util/ArrayList") (F_size_a4 : Fld Z h0 a4 "java/util/ArrayList" "size" "I" (.int (0 : Int32))) (ne_a4 : a4 ≠ a) (V_a3 : IA Z h0 a3 .byte N fv) (hN : N ≤ 4) (ne_a3 : a3 ≠ a) (HS : own_sets Z dc el em ea) (OO : Old Z n0 h0) :
    MetFree l (⟨"org/keymoot/Proposal", "<init>", "(II[BLjava/util/List;)V"⟩ : MethodName) (head1 (Jvm.Cond.code (⟨"org/keymoot/Proposal", "<init>", "(II[BLjava/util/List;)V"⟩ : MethodName) prog_63_method_1_code 5 none :: ws) ({ frames := 3, cells := 0, slots := 0, locals := 37 } : Room)) (fun av' U => av' = #[(.ref a), (.int p1), (.int p2), (.ref a3), (.ref a4)] ∧ Z.Warmed39 U.vm ∧ U.heap = h0) (fun _ _ _ _ _ => True) (fun _ U o U' => ∃ v L, o = .returned v ∧ Q_piA Z a p1 p2 h0 n0 v U'.heap L ∧ FrameEnd U o U' L ({ frames := 3, cells := 0, slots := 0, locals := 37 } : Room).cells ({ frames := 3, cells := 0, slots := 0, locals := 37 } : Room).slots) := by
  refine MetFree.of_bodySF (plainFor_of_name pn_org_keymoot_Proposal) hisR ?_
  intro p e s m args below meth c s₁ Bd hml0 hP hK
  obtain ⟨rfl, hZ, hh⟩ := hP
  have hx := Bd.exec
  have hby := Bd.bytes
  have hlk := Bd.notSynchronized
  have hml : c.maxLocals = 5 := hml0
  have hown : s.vm.findClass "org/keymoot/Proposal" = some m.cls := findClass_of_methodNamed Bd.named
  have hnm := (name_of_methodNamed Bd.named Bd.method).1
  have X0 : Stand p l e ({ frames := 3, cells := 0, slots := 0, locals := 37 } : Room) s m #[(.ref a), (.int p1), (.int p2), (.ref a3), (.ref a4)] below meth c s₁ [] 0 0 := Stand.of_body Bd
  have e0 : s₁.heap = h0 := by rw [← hh, Bd.state]; rfl
  have N0 := Fr.nil n0
  show Go p e below (Kq s (Q_piA Z a p1 p2 h0 n0) ({ frames := 3, cells := 0, slots := 0, locals := 37 } : Room).cells ({ frames := 3, cells := 0, slots := 0, locals := 37 } : Room).slots) _
  refine go (fun t kt => castTop (ef_rm_piA m a p1 p2 a3 a4) kt) ?_
  have HS0 := HS
  obtain ⟨S_dc, S_el, S_em, E_el, F_el, cE, A_el, Z_el⟩ := HS0
  have K0 := Keep.refl h0 [a]
  have E_el' := E_el.ext OO.2
  show Go p e below _ (s₁.setTop (mkF m 0 #[.val (.ref a), .val (.int p1), .val (.int p2), .val (.ref a3), .val (.ref a4)] []))
  refine go (fun t kt' => by refine XS.aloadN X0.here hx rfl (hb hby d12_0) rfl rfl ?_; exact kt') ?_
  show Go p e below _ (s₁.setTop (mkF m 1 #[.val (.ref a), .val (.int p1), .val (.int p2), .val (.ref a3), .val (.ref a4)] [(.ref a)]))
  obtain ⟨_, _, ⟨T1, L1, k1, n1⟩, -, X1, ⟨Lc1, hQ1, l1, y1, z1⟩, st1⟩ := X0.specialBack hx (y := (⟨"java/lang/Record", "<init>", "()V"⟩ : MethodName)) rfl hown (mvT hZ (hw _ (List.mem_of_getElem? (i := 85) rfl))) (mvT hZ (hw _ (List.mem_of_getElem? (i := 33) rfl))) (mvT hZ (hw _ (List.mem_of_getElem? (i := 36) rfl))) (by decide) (backOf (W := 0) (rm_rc l Z a0 hw [] a h0 n0 Z0 ) hZ (hw _ (List.mem_of_getElem? (i := 36) rfl)) (hw _ (List.mem_of_getElem? (i := 35) rfl)) (by decide) (by decide)) (g := (mkF m 1 #[.val (.ref a), .val (.int p1), .val (.int p2), .val (.ref a3), .val (.ref a4)] [(.ref a)])) rfl (by rw [hml]; rfl) (Steps.refl _) (a := a) (argsL := []) (rest := []) (lenOf pd_0 rfl) rfl (by show 2 * 0 + _ ≤ _; exact Nat.le_of_eq rfl) (hb hby d12_1) (fun _ _ => ⟨rfl, e0, (by decide : 0 + 0 ≤ _), (by decide : 0 + 0 ≤ _)⟩)
  dsimp only [Pt.U, Pt.locs, Pt.cells, Pt.slots] at X1 l1 y1 z1 st1 hQ1
  rw [l1, y1, z1] at X1
  obtain ⟨rfl, N1q, e1⟩ := hQ1
  have N1 := Fr.app N0 N1q
  refine go (fun t kt => st1.trans kt) ?_
  show Go p e below _ (T1.setTop (mkF m 4 #[.val (.ref a), .val (.int p1), .val (.int p2), .val (.ref a3), .val (.ref a4)] []))
  refine go (fun t kt' => by refine XS.aload X1.here hx rfl (hb hby d12_4) rfl rfl ?_; exact kt') ?_
  show Go p e below _ (T1.setTop (mkF m 6 #[.val (.ref a), .val (.int p1), .val (.int p2), .val (.ref a3), .val (.ref a4)] [(.ref a4)]))
  obtain ⟨_, _, ⟨T2, L2, k2, n2⟩, -, X2, ⟨Lc2, hQ2, l2, y2, z2⟩, st2⟩ := Jvm.LawKit.callS X1 hx (y := (⟨"java/util/List", "copyOf", "(Ljava/util/Collection;)Ljava/util/List;"⟩ : MethodName)) hown (mvT hZ (hw _ (List.mem_of_getElem? (i := 86) rfl))) (mvT hZ (hw _ (List.mem_of_getElem? (i := 39) rfl))) (mvT hZ (hw _ (List.mem_of_getElem? (i := 40) rfl))) (mvT hZ (hw _ (List.mem_of_getElem? (i := 41) rfl))) (by decide) (backOf (W := 0) (rm_coA l Z a0 hw [] a4 dc el em ea h0 n0 Z0 E_a4 F_size_a4 HS OO) hZ (hw _ (List.mem_of_getElem? (i := 41) rfl)) (hw _ (List.mem_of_getElem? (i := 40) rfl)) (by decide) (by decide)) (g := (mkF m 6 #[.val (.ref a), .val (.int p1), .val (.int p2), .val (.ref a3), .val (.ref a4)] [(.ref a4)])) rfl (by rw [hml]; rfl) (argsL := [(.ref a4)]) (rest := []) (lenOf pd_3 rfl) rfl (by show 2 * 0 + _ ≤ _; exact Nat.le_of_eq rfl) (hb hby d12_6) (fun _ _ => ⟨rfl, e1, (by decide : 0 + 0 ≤ _), (by decide : 0 + 0 ≤ _)⟩)
  dsimp only [Pt.U, Pt.locs, Pt.cells, Pt.slots] at X2 l2 y2 z2 st2 hQ2
  rw [l2, y2, z2] at X2
  obtain ⟨rfl, N2q, e2⟩ := hQ2
  have N2 := Fr.app N1 N2q
  refine go st2 ?_
  show Go p e below _ (T2.setTop (mkF m 9 #[.val (.ref a), .val (.int p1), .val (.int p2), .val (.ref a3), .val (.ref a4)] [(.ref el)]))
  refine go (fun t kt' => by refine XS.astore X2.here hx rfl (hb hby d12_9) rfl rfl (l' := #[.val (.ref a), .val (.int p1), .val (.int p2), .val (.ref a3), .val (.ref el)]) rfl ?_; exact kt') ?_
  show Go p e below _ (T2.setTop (mkF m 11 #[.val (.ref a), .val (.int p1), .val (.int p2), .val (.ref a3), .val (.ref el)] []))
  refine go (fun t kt' => by refine XS.aloadN X2.here hx rfl (hb hby d12_11) rfl rfl ?_; exact kt') ?_
  show Go p e below _ (T2.setTop (mkF m 12 #[.val (.ref a), .val (.int p1), .val (.int p2), .val (.ref a3), .val (.ref el)] [(.ref a3)]))
  refine go (fun t kt' => by refine lenIA X2 hx hZ e2 V_a3 (g := (mkF m 12 #[.val (.ref a), .val (.int p1), .val (.int p2), .val (.ref a3), .val (.ref el)] [(.ref a3)])) rfl rfl (hb hby d12_12) t ?_; exact kt') ?_
  show Go p e below _ (T2.setTop (mkF m 13 #[.val (.ref a), .val (.int p1), .val (.int p2), .val (.ref a3), .val (.ref el)] [(.int (Nat.toInt32 N))]))
  refine go (fun t kt' => by refine XS.sipush X2.here hx rfl (hb hby d12_13) ?_; exact kt') ?_
  show Go p e below _ (T2.setTop (mkF m 16 #[.val (.ref a), .val (.int p1), .val (.int p2), .val (.ref a3), .val (.ref el)] [(.int (255 : Int32)), (.int (Nat.toInt32 N))]))
  have c16_3 : ¬ ((255 : Int32) < (Nat.toInt32 N)) := own_n4 N hN
  refine go (fun t kt' => by refine XS.icmpNo X2.here hx rfl (hb hby d12_16) rfl (flt c16_3).2.2.1 ?_; exact kt') ?_
  show Go p e below _ (T2.setTop (mkF m 19 #[.val (.ref a), .val (.int p1), .val (.int p2), .val (.ref a3), .val (.ref el)] []))
  refine go (fun t kt' => by refine XS.aload X2.here hx rfl (hb hby d12_19) rfl rfl ?_; exact kt') ?_
  show Go p e below _ (T2.setTop (mkF m 21 #[.val (.ref a), .val (.int p1), .val (.int p2), .val (.ref a3), .val (.ref el)] [(.ref el)]))
  obtain ⟨cq4, kq4, q4a, q4b, q4c⟩ := isOf hZ e2 E_el'
  obtain ⟨_, _, ⟨T4, L4, k4, n4⟩, -, X4, ⟨Lc4, hQ4, l4, y4, z4⟩, st4⟩ := X2.interfaceBack hx (xi := (⟨"java/util/List", "size", "()I"⟩ : MethodName)) (y := (⟨"java/util/ImmutableCollections$ListN", "size", "()I"⟩ : MethodName)) hown (mvT hZ (hw _ (List.mem_of_getElem? (i := 87) rfl))) (mvT hZ (hw _ (List.mem_of_getElem? (i := 88) rfl))) (mvT hZ (hw _ (List.mem_of_getElem? (i := 89) rfl))) (mvT hZ (hw _ (List.mem_of_getElem? (i := 90) rfl))) (mvT hZ (hw _ (List.mem_of_getElem? (i := 91) rfl))) (mvT hZ (hw _ (List.mem_of_getElem? (i := 92) rfl))) (mvT hZ (hw _ (List.mem_of_getElem? (i := 93) rfl))) (mvT hZ (hw _ (List.mem_of_getElem? (i := 94) rfl))) (by decide) (backOf (W := 0) (rm_ns l Z a0 hw [] el dc em ea h0 n0 Z0 HS OO) hZ (hw _ (List.mem_of_getElem? (i := 96) rfl)) (hw _ (List.mem_of_getElem? (i := 95) rfl)) (by decide) (by decide)) q4a q4b q4c (g := (mkF m 21 #[.val (.ref a), .val (.int p1), .val (.int p2), .val (.ref a3), .val (.ref el)] [(.ref el)])) rfl (by rw [hml]; rfl) (Steps.refl _) (argsL := []) (rest := []) (lenOf pd_6 rfl) rfl (by show 2 * 0 + _ ≤ _; exact Nat.le_of_eq rfl) (hb hby d12_21) (fun _ _ => ⟨rfl, e2, (by decide : 0 + 0 ≤ _), (by decide : 0 + 0 ≤ _)⟩)
  dsimp only [Pt.U, Pt.locs, Pt.cells, Pt.slots] at X4 l4 y4 z4 st4 hQ4
  rw [l4, y4, z4] at X4
  obtain ⟨rfl, N4q, e4⟩ := hQ4
  have N4 := Fr.app N2 N4q
  refine go (fun t kt => st4.trans kt) ?_
  show Go p e below _ (T4.setTop (mkF m 26 #[.val (.ref a), .val (.int p1), .val (.int p2), .val (.ref a3), .val (.ref el)] [(.int (0 : Int32))]))
  refine go (fun t kt' => by refine XS.sipush X4.here hx rfl (hb hby d12_26) ?_; exact kt') ?_
  show Go p e below _ (T4.setTop (mkF m 29 #[.val (.ref a), .val (.int p1), .val (.int p2), .val (.ref a3), .val (.ref el)] [(.int (255 : Int32)), (.int (0 : Int32))]))
  have c29_5 : ¬ (255 : Int32) < (0 : Int32) := by decide
  refine go (fun t kt' => by refine XS.icmpYes X4.here hx rfl (pc0 := 29) (pc' := 54) rfl (hb hby d12_29) rfl (flt c29_5).2.2.2 (by decide) (by decide) ?_; exact kt') ?_
  show Go p e below _ (T4.setTop (mkF m 54 #[.val (.ref a), .val (.int p1), .val (.int p2), .val (.ref a3), .val (.ref el)] []))
  refine go (fun t kt' => by refine XS.aloadN X4.here hx rfl (hb hby d12_54) rfl rfl ?_; exact kt') ?_
  show Go p e below _ (T4.setTop (mkF m 55 #[.val (.ref a), .val (.int p1), .val (.int p2), .val (.ref a3), .val (.ref el)] [(.ref a)]))
  refine go (fun t kt' => by refine XS.iloadN X4.here hx rfl (hb hby d12_55) rfl ?_; exact kt') ?_
  show Go p e below _ (T4.setTop (mkF m 56 #[.val (.ref a), .val (.int p1), .val (.int p2), .val (.ref a3), .val (.ref el)] [(.int p1), (.ref a)]))
  obtain ⟨T6, h6, X6, e6, W6, st6⟩ := putF X4 hx hZ hown (host := "") (Or.inl (hw _ (List.mem_of_getElem? (i := 99) rfl))) Via.refl e4 F_number_a E_a (Or.inr ⟨(hw _ (List.mem_of_getElem? (i := 100) rfl)), rfl, hnm⟩) (hw _ (List.mem_of_getElem? (i := 79) rfl)) (ty := .int) (by decide) rfl rfl (g := (mkF m 56 #[.val (.ref a), .val (.int p1), .val (.int p2), .val (.ref a3), .val (.ref el)] [(.int p1), (.ref a)])) rfl rfl (hb hby d12_56)
  have N6 := Fr.snoc X6 N4 g_a
  have f7_Z := Nat.le_trans Z0 (Keep.of_wr W6).1
  have f8_O := OO.wr W6 g_a
  have f9_K := K0.wr W6 (Or.inl (List.mem_of_getElem? (i := 0) rfl))
  have f10_E_a := E_a.wr W6
  have f11_F_a_number := F_number_a.same W6
  have f12_F_a_protocol := F_protocol_a.other W6 (Or.inr (slot_ne (Or.inr (hw _ (List.mem_of_getElem? (i := 102) rfl))) (Or.inr (hw _ (List.mem_of_getElem? (i := 100) rfl))) (by decide) (t := .int) (t' := .int) (by decide) (by decide)))
  have f13_F_a_spi := F_spi_a.other W6 (Or.inr (slot_ne (Or.inr (hw _ (List.mem_of_getElem? (i := 104) rfl))) (Or.inr (hw _ (List.mem_of_getElem? (i := 100) rfl))) (by decide) (t := (.array .byte)) (t' := .int) (by decide) (by decide)))
  have f14_F_a_transforms := F_transforms_a.other W6 (Or.inr (slot_ne (Or.inr (hw _ (List.mem_of_getElem? (i := 106) rfl))) (Or.inr (hw _ (List.mem_of_getElem? (i := 100) rfl))) (by decide) (t := (.object "java/util/List")) (t' := .int) (by decide) (by decide)))
  have f15_E_a4 := E_a4.wr W6
  have f16_F_a4_size := F_size_a4.other W6 (Or.inl ne_a4)
  have f17_A_a3 := V_a3.other W6 ne_a3
  have f18_E_el := E_el'.wr W6
  refine go st6 ?_
  show Go p e below _ (T6.setTop (mkF m 59 #[.val (.ref a), .val (.int p1), .val (.int p2), .val (.ref a3), .val (.ref el)] []))
  refine go (fun t kt' => by refine XS.aloadN X6.here hx rfl (hb hby d12_59) rfl rfl ?_; exact kt') ?_
  show Go p e below _ (T6.setTop (mkF m 60 #[.val (.ref a), .val (.int p1), .val (.int p2), .val (.ref a3), .val (.ref el)] [(.ref a)]))
  refine go (fun t kt' => by refine XS.iloadN X6.here hx rfl (hb hby d12_60) rfl ?_; exact kt') ?_
  show Go p e below _ (T6.setTop (mkF m 61 #[.val (.ref a), .val (.int p1), .val (.int p2), .val (.ref a3), .val (.ref el)] [(.int p2), (.ref a)]))
  obtain ⟨T19, h19, X19, e19, W19, st19⟩ := putF X6 hx hZ hown (host := "") (Or.inl (hw _ (List.mem_of_getElem? (i := 101) rfl))) Via.refl e6 f12_F_a_protocol f10_E_a (Or.inr ⟨(hw _ (List.mem_of_getElem? (i := 102) rfl)), rfl, hnm⟩) (hw _ (List.mem_of_getElem? (i := 79) rfl)) (ty := .int) (by decide) rfl rfl (g := (mkF m 61 #[.val (.ref a), .val (.int p1), .val (.int p2), .val (.ref a3), .val (.ref el)] [(.int p2), (.ref a)])) rfl rfl (hb hby d12_61)
  have N19 := Fr.snoc X19 N6 g_a
  have f20_Z := Nat.le_trans f7_Z (Keep.of_wr W19).1
  have f21_O := f8_O.wr W19 g_a
  have f22_K := f9_K.wr W19 (Or.inl (List.mem_of_getElem? (i := 0) rfl))
  have f23_E_a := f10_E_a.wr W19
  have f24_F_a_number := f11_F_a_number.other W19 (Or.inr (slot_ne (Or.inr (hw _ (List.mem_of_getElem? (i := 100) rfl))) (Or.inr (hw _ (List.mem_of_getElem? (i := 102) rfl))) (by decide) (t := .int) (t' := .int) (by decide) (by decide)))
  have f25_F_a_protocol := f12_F_a_protocol.same W19
  have f26_F_a_spi := f13_F_a_spi.other W19 (Or.inr (slot_ne (Or.inr (hw _ (List.mem_of_getElem? (i := 104) rfl))) (Or.inr (hw _ (List.mem_of_getElem? (i := 102) rfl))) (by decide) (t := (.array .byte)) (t' := .int) (by decide) (by decide)))
  have f27_F_a_transforms := f14_F_a_transforms.other W19 (Or.inr (slot_ne (Or.inr (hw _ (List.mem_of_getElem? (i := 106) rfl))) (Or.inr (hw _ (List.mem_of_getElem? (i := 102) rfl))) (by decide) (t := (.object "java/util/List")) (t' := .int) (by decide) (by decide)))
  have f28_E_a4 := f15_E_a4.wr W19
  have f29_F_a4_size := f16_F_a4_size.other W19 (Or.inl ne_a4)
  have f30_A_a3 := f17_A_a3.other W19 ne_a3
  have f31_E_el := f18_E_el.wr W19
  refine go st19 ?_
  show Go p e below _ (T19.setTop (mkF m 64 #[.val (.ref a), .val (.int p1), .val (.int p2), .val (.ref a3), .val (.ref el)] []))
  refine go (fun t kt' => by refine XS.aloadN X19.here hx rfl (hb hby d12_64) rfl rfl ?_; exact kt') ?_
  show Go p e below _ (T19.setTop (mkF m 65 #[.val (.ref a), .val (.int p1), .val (.int p2), .val (.ref a3), .val (.ref el)] [(.ref a)]))
  refine go (fun t kt' => by refine XS.aloadN X19.here hx rfl (hb hby d12_65) rfl rfl ?_; exact kt') ?_
  show Go p e below _ (T19.setTop (mkF m 66 #[.val (.ref a), .val (.int p1), .val (.int p2), .val (.ref a3), .val (.ref el)] [(.ref a3), (.ref a)]))
  obtain ⟨T32, h32, X32, e32, W32, st32⟩ := putF X19 hx hZ hown (host := "") (Or.inl (hw _ (List.mem_of_getElem? (i := 103) rfl))) Via.refl e19 f26_F_a_spi f23_E_a (Or.inr ⟨(hw _ (List.mem_of_getElem? (i := 104) rfl)), rfl, hnm⟩) (hw _ (List.mem_of_getElem? (i := 79) rfl)) (ty := (.array .byte)) (by decide) rfl rfl (g := (mkF m 66 #[.val (.ref a), .val (.int p1), .val (.int p2), .val (.ref a3), .val (.ref el)] [(.ref a3), (.ref a)])) rfl rfl (hb hby d12_66)
  have N32 := Fr.snoc X32 N19 g_a
  have f33_Z := Nat.le_trans f20_Z (Keep.of_wr W32).1
  have f34_O := f21_O.wr W32 g_a
  have f35_K := f22_K.wr W32 (Or.inl (List.mem_of_getElem? (i := 0) rfl))
  have f36_E_a := f23_E_a.wr W32
  have f37_F_a_number := f24_F_a_number.other W32 (Or.inr (slot_ne (Or.inr (hw _ (List.mem_of_getElem? (i := 100) rfl))) (Or.inr (hw _ (List.mem_of_getElem? (i := 104) rfl))) (by decide) (t := .int) (t' := (.array .byte)) (by decide) (by decide)))
  have f38_F_a_protocol := f25_F_a_protocol.other W32 (Or.inr (slot_ne (Or.inr (hw _ (List.mem_of_getElem? (i := 102) rfl))) (Or.inr (hw _ (List.mem_of_getElem? (i := 104) rfl))) (by decide) (t := .int) (t' := (.array .byte)) (by decide) (by decide)))
  have f39_F_a_spi := f26_F_a_spi.same W32
  have f40_F_a_transforms := f27_F_a_transforms.other W32 (Or.inr (slot_ne (Or.inr (hw _ (List.mem_of_getElem? (i := 106) rfl))) (Or.inr (hw _ (List.mem_of_getElem? (i := 104) rfl))) (by decide) (t := (.object "java/util/List")) (t' := (.array .byte)) (by decide) (by decide)))
  have f41_E_a4 := f28_E_a4.wr W32
  have f42_F_a4_size := f29_F_a4_size.other W32 (Or.inl ne_a4)
  have f43_A_a3 := f30_A_a3.other W32 ne_a3
  have f44_E_el := f31_E_el.wr W32
  refine go st32 ?_
  show Go p e below _ (T32.setTop (mkF m 69 #[.val (.ref a), .val (.int p1), .val (.int p2), .val (.ref a3), .val (.ref el)] []))
  refine go (fun t kt' => by refine XS.aloadN X32.here hx rfl (hb hby d12_69) rfl rfl ?_; exact kt') ?_
  show Go p e below _ (T32.setTop (mkF m 70 #[.val (.ref a), .val (.int p1), .val (.int p2), .val (.ref a3), .val (.ref el)] [(.ref a)]))
  refine go (fun t kt' => by refine XS.aload X32.here hx rfl (hb hby d12_70) rfl rfl ?_; exact kt') ?_
  show Go p e below _ (T32.setTop (mkF m 72 #[.val (.ref a), .val (.int p1), .val (.int p2), .val (.ref a3), .val (.ref el)] [(.ref el), (.ref a)]))
  obtain ⟨T45, h45, X45, e45, W45, st45⟩ := putF X32 hx hZ hown (host := "") (Or.inl (hw _ (List.mem_of_getElem? (i := 105) rfl))) Via.refl e32 f40_F_a_transforms f36_E_a (Or.inr ⟨(hw _ (List.mem_of_getElem? (i := 106) rfl)), rfl, hnm⟩) (hw _ (List.mem_of_getElem? (i := 79) rfl)) (ty := (.object "java/util/List")) (by decide) rfl rfl (g := (mkF m 72 #[.val (.ref a), .val (.int p1), .val (.int p2), .val (.ref a3), .val (.ref el)] [(.ref el), (.ref a)])) rfl rfl (hb hby d12_72)
  have N45 := Fr.snoc X45 N32 g_a
  have f46_Z := Nat.le_trans f33_Z (Keep.of_wr W45).1
  have f47_O := f34_O.wr W45 g_a
  have f48_K := f35_K.wr W45 (Or.inl (List.mem_of_getElem? (i := 0) rfl))
  have f49_E_a := f36_E_a.wr W45
  have f50_F_a_number := f37_F_a_number.other W45 (Or.inr (slot_ne (Or.inr (hw _ (List.mem_of_getElem? (i := 100) rfl))) (Or.inr (hw _ (List.mem_of_getElem? (i := 106) rfl))) (by decide) (t := .int) (t' := (.object "java/util/List")) (by decide) (by decide)))
  have f51_F_a_protocol := f38_F_a_protocol.other W45 (Or.inr (slot_ne (Or.inr (hw _ (List.mem_of_getElem? (i := 102) rfl))) (Or.inr (hw _ (List.mem_of_getElem? (i := 106) rfl))) (by decide) (t := .int) (t' := (.object "java/util/List")) (by decide) (by decide)))
  have f52_F_a_spi := f39_F_a_spi.other W45 (Or.inr (slot_ne (Or.inr (hw _ (List.mem_of_getElem? (i := 104) rfl))) (Or.inr (hw _ (List.mem_of_getElem? (i := 106) rfl))) (by decide) (t := (.array .byte)) (t' := (.object "java/util/List")) (by decide) (by decide)))
  have f53_F_a_transforms := f40_F_a_transforms.same W45
  have f54_E_a4 := f41_E_a4.wr W45
  have f55_F_a4_size := f42_F_a4_size.other W45 (Or.inl ne_a4)
  have f56_A_a3 := f43_A_a3.other W45 ne_a3
  have f57_E_el := f44_E_el.wr W45
  refine go st45 ?_
  show Go p e below _ (T45.setTop (mkF m 75 #[.val (.ref a), .val (.int p1), .val (.int p2), .val (.ref a3), .val (.ref el)] []))
  refine goOut X45 (fun _ => rfl) hlk (fun fs hr => X45.returnOut hx Bd.returns (hb hby d12_75) hr) (by decide) (by decide) ?_
  rw [e45]
  exact ⟨rfl, N45, f48_K, f49_E_a, f50_F_a_number, f51_F_a_protocol⟩
theorem ef_rm_piB (m : MethodId) (x0 : Addr) (x1 : Int32) (x2 : Int32) (x3 : Addr) (x4 : Addr) : entryFrame m #[(.ref x0), (.int x1), (.int x2), (.ref x3), (.ref x4)] 5 = mkF m 0 #[.val (.ref x0), .val (.int x1), .val (.int x2), .val (.ref x3), .val (.ref x4)] [] := by first | (simp [entryFrame, mkF, argsToLocals, Value.category]; done) | rfl
def Q_piB (Z : State) (a : Addr) (p1 p2 : Int32) (h0 : Heap) (n0 : Nat) (v : Option Value) (h : Heap) (L : List Loc) : Prop := v = none ∧ Fr n0 L ∧ Keep h0 h [a] ∧ Exa Z h a "org/keymoot/Proposal" ∧ Fld Z h a "org/keymoot/Proposal" "number" "I" (.int p1) ∧ Fld Z h a "org/keymoot/Proposal" "protocol" "I" (.int p2)
set_option maxRecDepth 65536 in
set_option maxHeartbeats 40000000 in
theorem rm_piB (l : Launch) (Z : State) (a0 : Array Value) (hw : ∀ d ∈ tables_1, d.before a0 Z = true) (ws : List Jvm.Cond) (a : Addr) (p1 : Int32) (p2 : Int32) (a3 : Addr) (a4 : Addr) (dc el em ea : Addr) (N : Nat) (fv : Nat → Int32) (h0 : Heap) (n0 : Nat) (Z0 : n0 ≤ h0.size) (E_a : Exa Z h0 a "org/keymoot/Proposal") (g_a : n0 ≤ a) (F_number_a : Fld Z h0 a "org/keymoot/Proposal" "number" "I" (.int (0 : Int32))) (F_protocol_a : Fld Z h0 a "org/keymoot/Proposal" "protocol" "I" (.int (0 : Int32))) (F_spi_a : Fld Z h0 a "org/keymoot/Proposal" "spi" "[B" .null) (F_transforms_a : Fld Z h0 a "org/keymoot/Proposal" "transforms" "Ljava/util/List;" .null) (E_a4 : Exa Z h0 a4 "java/util/ImmutableCollections$List12") (F_e1_a4 : Fld Z h0 a4 "java/util/ImmutableCollections$List12" "e1" "Ljava/lang/Object;" (.ref em)) (ne_a4 : a4 ≠ a) (V_a3 : IA Z h0 a3 .byte N fv) (hN : N ≤ 4) (ne_a3 : a3 ≠ a) (HS : own_sets Z dc el em ea) (OO : Old Z n0 h0) :
    MetFree l (⟨"org/keymoot/Proposal", "<init>", "(II[BLjava/util/List;)V"⟩ : MethodName) (head1 (Jvm.Cond.code (⟨"org/keymoot/Proposal", "<init>", "(II[BLjava/util/List;)V"⟩ : MethodName) prog_63_method_1_code 5 none :: ws) ({ frames := 2, cells := 0, slots := 0, locals := 25 } : Room)) (fun av' U => av' = #[(.ref a), (.int p1), (.int p2), (.ref a3), (.ref a4)] ∧ Z.Warmed39 U.vm ∧ U.heap = h0) (fun _ _ _ _ _ => True) (fun _ U o U' => ∃ v L, o = .returned v ∧ Q_piB Z a p1 p2 h0 n0 v U'.heap L ∧ FrameEnd U o U' L ({ frames := 2, cells := 0, slots := 0, locals := 25 } : Room).cells ({ frames := 2, cells := 0, slots := 0, locals := 25 } : Room).slots) := by
  refine MetFree.of_bodySF (plainFor_of_name pn_org_keymoot_Proposal) hisR ?_
  intro p e s m args below meth c s₁ Bd hml0 hP hK
  obtain ⟨rfl, hZ, hh⟩ := hP
  have hx := Bd.exec
  have hby := Bd.bytes
  have hlk := Bd.notSynchronized
  have hml : c.maxLocals = 5 := hml0
  have hown : s.vm.findClass "org/keymoot/Proposal" = some m.cls := findClass_of_methodNamed Bd.named
  have hnm := (name_of_methodNamed Bd.named Bd.method).1
  have X0 : Stand p l e ({ frames := 2, cells := 0, slots := 0, locals := 25 } : Room) s m #[(.ref a), (.int p1), (.int p2), (.ref a3), (.ref a4)] below meth c s₁ [] 0 0 := Stand.of_body Bd
  have e0 : s₁.heap = h0 := by rw [← hh, Bd.state]; rfl
  have N0 := Fr.nil n0
  show Go p e below (Kq s (Q_piB Z a p1 p2 h0 n0) ({ frames := 2, cells := 0, slots := 0, locals := 25 } : Room).cells ({ frames := 2, cells := 0, slots := 0, locals := 25 } : Room).slots) _
  refine go (fun t kt => castTop (ef_rm_piB m a p1 p2 a3 a4) kt) ?_
  have HS0 := HS
  obtain ⟨S_dc, S_el, S_em, E_el, F_el, cE, A_el, Z_el⟩ := HS0
  have K0 := Keep.refl h0 [a]
  show Go p e below _ (s₁.setTop (mkF m 0 #[.val (.ref a), .val (.int p1), .val (.int p2), .val (.ref a3), .val (.ref a4)] []))
  refine go (fun t kt' => by refine XS.aloadN X0.here hx rfl (hb hby d12_0) rfl rfl ?_; exact kt') ?_
  show Go p e below _ (s₁.setTop (mkF m 1 #[.val (.ref a), .val (.int p1), .val (.int p2), .val (.ref a3), .val (.ref a4)] [(.ref a)]))
  obtain ⟨_, _, ⟨T1, L1, k1, n1⟩, -, X1, ⟨Lc1, hQ1, l1, y1, z1⟩, st1⟩ := X0.specialBack hx (y := (⟨"java/lang/Record", "<init>", "()V"⟩ : MethodName)) rfl hown (mvT hZ (hw _ (List.mem_of_getElem? (i := 85) rfl))) (mvT hZ (hw _ (List.mem_of_getElem? (i := 33) rfl))) (mvT hZ (hw _ (List.mem_of_getElem? (i := 36) rfl))) (by decide) (backOf (W := 0) (rm_rc l Z a0 hw [] a h0 n0 Z0 ) hZ (hw _ (List.mem_of_getElem? (i := 36) rfl)) (hw _ (List.mem_of_getElem? (i := 35) rfl)) (by decide) (by decide)) (g := (mkF m 1 #[.val (.ref a), .val (.int p1), .val (.int p2), .val (.ref a3), .val (.ref a4)] [(.ref a)])) rfl (by rw [hml]; rfl) (Steps.refl _) (a := a) (argsL := []) (rest := []) (lenOf pd_0 rfl) rfl (by show 2 * 0 + _ ≤ _; exact Nat.le_of_eq rfl) (hb hby d12_1) (fun _ _ => ⟨rfl, e0, (by decide : 0 + 0 ≤ _), (by decide : 0 + 0 ≤ _)⟩)
  dsimp only [Pt.U, Pt.locs, Pt.cells, Pt.slots] at X1 l1 y1 z1 st1 hQ1
  rw [l1, y1, z1] at X1
  obtain ⟨rfl, N1q, e1⟩ := hQ1
  have N1 := Fr.app N0 N1q
  refine go (fun t kt => st1.trans kt) ?_
  show Go p e below _ (T1.setTop (mkF m 4 #[.val (.ref a), .val (.int p1), .val (.int p2), .val (.ref a3), .val (.ref a4)] []))
  refine go (fun t kt' => by refine XS.aload X1.here hx rfl (hb hby d12_4) rfl rfl ?_; exact kt') ?_
  show Go p e below _ (T1.setTop (mkF m 6 #[.val (.ref a), .val (.int p1), .val (.int p2), .val (.ref a3), .val (.ref a4)] [(.ref a4)]))
  obtain ⟨_, _, ⟨T2, L2, k2, n2⟩, -, X2, ⟨Lc2, hQ2, l2, y2, z2⟩, st2⟩ := Jvm.LawKit.callS X1 hx (y := (⟨"java/util/List", "copyOf", "(Ljava/util/Collection;)Ljava/util/List;"⟩ : MethodName)) hown (mvT hZ (hw _ (List.mem_of_getElem? (i := 86) rfl))) (mvT hZ (hw _ (List.mem_of_getElem? (i := 39) rfl))) (mvT hZ (hw _ (List.mem_of_getElem? (i := 40) rfl))) (mvT hZ (hw _ (List.mem_of_getElem? (i := 41) rfl))) (by decide) (backOf (W := 0) (rm_coB l Z a0 hw [] a4 h0 n0 Z0 E_a4) hZ (hw _ (List.mem_of_getElem? (i := 41) rfl)) (hw _ (List.mem_of_getElem? (i := 40) rfl)) (by decide) (by decide)) (g := (mkF m 6 #[.val (.ref a), .val (.int p1), .val (.int p2), .val (.ref a3), .val (.ref a4)] [(.ref a4)])) rfl (by rw [hml]; rfl) (argsL := [(.ref a4)]) (rest := []) (lenOf pd_3 rfl) rfl (by show 2 * 0 + _ ≤ _; exact Nat.le_of_eq rfl) (hb hby d12_6) (fun _ _ => ⟨rfl, e1, (by decide : 0 + 0 ≤ _), (by decide : 0 + 0 ≤ _)⟩)
  dsimp only [Pt.U, Pt.locs, Pt.cells, Pt.slots] at X2 l2 y2 z2 st2 hQ2
  rw [l2, y2, z2] at X2
  obtain ⟨rfl, N2q, e2⟩ := hQ2
  have N2 := Fr.app N1 N2q
  refine go st2 ?_
  show Go p e below _ (T2.setTop (mkF m 9 #[.val (.ref a), .val (.int p1), .val (.int p2), .val (.ref a3), .val (.ref a4)] [(.ref a4)]))
  refine go (fun t kt' => by refine XS.astore X2.here hx rfl (hb hby d12_9) rfl rfl (l' := #[.val (.ref a), .val (.int p1), .val (.int p2), .val (.ref a3), .val (.ref a4)]) rfl ?_; exact kt') ?_
  show Go p e below _ (T2.setTop (mkF m 11 #[.val (.ref a), .val (.int p1), .val (.int p2), .val (.ref a3), .val (.ref a4)] []))
  refine go (fun t kt' => by refine XS.aloadN X2.here hx rfl (hb hby d12_11) rfl rfl ?_; exact kt') ?_
  show Go p e below _ (T2.setTop (mkF m 12 #[.val (.ref a), .val (.int p1), .val (.int p2), .val (.ref a3), .val (.ref a4)] [(.ref a3)]))
  refine go (fun t kt' => by refine lenIA X2 hx hZ e2 V_a3 (g := (mkF m 12 #[.val (.ref a), .val (.int p1), .val (.int p2), .val (.ref a3), .val (.ref a4)] [(.ref a3)])) rfl rfl (hb hby d12_12) t ?_; exact kt') ?_
  show Go p e below _ (T2.setTop (mkF m 13 #[.val (.ref a), .val (.int p1), .val (.int p2), .val (.ref a3), .val (.ref a4)] [(.int (Nat.toInt32 N))]))
  refine go (fun t kt' => by refine XS.sipush X2.here hx rfl (hb hby d12_13) ?_; exact kt') ?_
  show Go p e below _ (T2.setTop (mkF m 16 #[.val (.ref a), .val (.int p1), .val (.int p2), .val (.ref a3), .val (.ref a4)] [(.int (255 : Int32)), (.int (Nat.toInt32 N))]))
  have c16_3 : ¬ ((255 : Int32) < (Nat.toInt32 N)) := own_n4 N hN
  refine go (fun t kt' => by refine XS.icmpNo X2.here hx rfl (hb hby d12_16) rfl (flt c16_3).2.2.1 ?_; exact kt') ?_
  show Go p e below _ (T2.setTop (mkF m 19 #[.val (.ref a), .val (.int p1), .val (.int p2), .val (.ref a3), .val (.ref a4)] []))
  refine go (fun t kt' => by refine XS.aload X2.here hx rfl (hb hby d12_19) rfl rfl ?_; exact kt') ?_
  show Go p e below _ (T2.setTop (mkF m 21 #[.val (.ref a), .val (.int p1), .val (.int p2), .val (.ref a3), .val (.ref a4)] [(.ref a4)]))
  obtain ⟨cq4, kq4, q4a, q4b, q4c⟩ := isOf hZ e2 E_a4
  obtain ⟨_, _, ⟨T4, L4, k4, n4⟩, -, X4, ⟨Lc4, hQ4, l4, y4, z4⟩, st4⟩ := X2.interfaceBack hx (xi := (⟨"java/util/List", "size", "()I"⟩ : MethodName)) (y := (⟨"java/util/ImmutableCollections$List12", "size", "()I"⟩ : MethodName)) hown (mvT hZ (hw _ (List.mem_of_getElem? (i := 87) rfl))) (mvT hZ (hw _ (List.mem_of_getElem? (i := 88) rfl))) (mvT hZ (hw _ (List.mem_of_getElem? (i := 89) rfl))) (mvT hZ (hw _ (List.mem_of_getElem? (i := 174) rfl))) (mvT hZ (hw _ (List.mem_of_getElem? (i := 175) rfl))) (mvT hZ (hw _ (List.mem_of_getElem? (i := 176) rfl))) (mvT hZ (hw _ (List.mem_of_getElem? (i := 177) rfl))) (mvT hZ (hw _ (List.mem_of_getElem? (i := 173) rfl))) (by decide) (backOf (W := 0) (rm_s12 l Z a0 hw [] a4 dc el em ea h0 n0 Z0 E_a4 F_e1_a4 HS OO) hZ (hw _ (List.mem_of_getElem? (i := 178) rfl)) (hw _ (List.mem_of_getElem? (i := 143) rfl)) (by decide) (by decide)) q4a q4b q4c (g := (mkF m 21 #[.val (.ref a), .val (.int p1), .val (.int p2), .val (.ref a3), .val (.ref a4)] [(.ref a4)])) rfl (by rw [hml]; rfl) (Steps.refl _) (argsL := []) (rest := []) (lenOf pd_6 rfl) rfl (by show 2 * 0 + _ ≤ _; exact Nat.le_of_eq rfl) (hb hby d12_21) (fun _ _ => ⟨rfl, e2, (by decide : 0 + 0 ≤ _), (by decide : 0 + 0 ≤ _)⟩)
  dsimp only [Pt.U, Pt.locs, Pt.cells, Pt.slots] at X4 l4 y4 z4 st4 hQ4
  rw [l4, y4, z4] at X4
  obtain ⟨rfl, N4q, e4⟩ := hQ4
  have N4 := Fr.app N2 N4q
  refine go (fun t kt => st4.trans kt) ?_
  show Go p e below _ (T4.setTop (mkF m 26 #[.val (.ref a), .val (.int p1), .val (.int p2), .val (.ref a3), .val (.ref a4)] [(.int (1 : Int32))]))
  refine go (fun t kt' => by refine XS.sipush X4.here hx rfl (hb hby d12_26) ?_; exact kt') ?_
  show Go p e below _ (T4.setTop (mkF m 29 #[.val (.ref a), .val (.int p1), .val (.int p2), .val (.ref a3), .val (.ref a4)] [(.int (255 : Int32)), (.int (1 : Int32))]))
  have c29_5 : ¬ (255 : Int32) < (1 : Int32) := by decide
  refine go (fun t kt' => by refine XS.icmpYes X4.here hx rfl (pc0 := 29) (pc' := 54) rfl (hb hby d12_29) rfl (flt c29_5).2.2.2 (by decide) (by decide) ?_; exact kt') ?_
  show Go p e below _ (T4.setTop (mkF m 54 #[.val (.ref a), .val (.int p1), .val (.int p2), .val (.ref a3), .val (.ref a4)] []))
  refine go (fun t kt' => by refine XS.aloadN X4.here hx rfl (hb hby d12_54) rfl rfl ?_; exact kt') ?_
  show Go p e below _ (T4.setTop (mkF m 55 #[.val (.ref a), .val (.int p1), .val (.int p2), .val (.ref a3), .val (.ref a4)] [(.ref a)]))
  refine go (fun t kt' => by refine XS.iloadN X4.here hx rfl (hb hby d12_55) rfl ?_; exact kt') ?_
  show Go p e below _ (T4.setTop (mkF m 56 #[.val (.ref a), .val (.int p1), .val (.int p2), .val (.ref a3), .val (.ref a4)] [(.int p1), (.ref a)]))
  obtain ⟨T6, h6, X6, e6, W6, st6⟩ := putF X4 hx hZ hown (host := "") (Or.inl (hw _ (List.mem_of_getElem? (i := 99) rfl))) Via.refl e4 F_number_a E_a (Or.inr ⟨(hw _ (List.mem_of_getElem? (i := 100) rfl)), rfl, hnm⟩) (hw _ (List.mem_of_getElem? (i := 79) rfl)) (ty := .int) (by decide) rfl rfl (g := (mkF m 56 #[.val (.ref a), .val (.int p1), .val (.int p2), .val (.ref a3), .val (.ref a4)] [(.int p1), (.ref a)])) rfl rfl (hb hby d12_56)
  have N6 := Fr.snoc X6 N4 g_a
  have f7_Z := Nat.le_trans Z0 (Keep.of_wr W6).1
  have f8_O := OO.wr W6 g_a
  have f9_K := K0.wr W6 (Or.inl (List.mem_of_getElem? (i := 0) rfl))
  have f10_E_a := E_a.wr W6
  have f11_F_a_number := F_number_a.same W6
  have f12_F_a_protocol := F_protocol_a.other W6 (Or.inr (slot_ne (Or.inr (hw _ (List.mem_of_getElem? (i := 102) rfl))) (Or.inr (hw _ (List.mem_of_getElem? (i := 100) rfl))) (by decide) (t := .int) (t' := .int) (by decide) (by decide)))
  have f13_F_a_spi := F_spi_a.other W6 (Or.inr (slot_ne (Or.inr (hw _ (List.mem_of_getElem? (i := 104) rfl))) (Or.inr (hw _ (List.mem_of_getElem? (i := 100) rfl))) (by decide) (t := (.array .byte)) (t' := .int) (by decide) (by decide)))
  have f14_F_a_transforms := F_transforms_a.other W6 (Or.inr (slot_ne (Or.inr (hw _ (List.mem_of_getElem? (i := 106) rfl))) (Or.inr (hw _ (List.mem_of_getElem? (i := 100) rfl))) (by decide) (t := (.object "java/util/List")) (t' := .int) (by decide) (by decide)))
  have f15_E_a4 := E_a4.wr W6
  have f16_F_a4_e1 := F_e1_a4.other W6 (Or.inl ne_a4)
  have f17_A_a3 := V_a3.other W6 ne_a3
  refine go st6 ?_
  show Go p e below _ (T6.setTop (mkF m 59 #[.val (.ref a), .val (.int p1), .val (.int p2), .val (.ref a3), .val (.ref a4)] []))
  refine go (fun t kt' => by refine XS.aloadN X6.here hx rfl (hb hby d12_59) rfl rfl ?_; exact kt') ?_
  show Go p e below _ (T6.setTop (mkF m 60 #[.val (.ref a), .val (.int p1), .val (.int p2), .val (.ref a3), .val (.ref a4)] [(.ref a)]))
  refine go (fun t kt' => by refine XS.iloadN X6.here hx rfl (hb hby d12_60) rfl ?_; exact kt') ?_
  show Go p e below _ (T6.setTop (mkF m 61 #[.val (.ref a), .val (.int p1), .val (.int p2), .val (.ref a3), .val (.ref a4)] [(.int p2), (.ref a)]))
  obtain ⟨T18, h18, X18, e18, W18, st18⟩ := putF X6 hx hZ hown (host := "") (Or.inl (hw _ (List.mem_of_getElem? (i := 101) rfl))) Via.refl e6 f12_F_a_protocol f10_E_a (Or.inr ⟨(hw _ (List.mem_of_getElem? (i := 102) rfl)), rfl, hnm⟩) (hw _ (List.mem_of_getElem? (i := 79) rfl)) (ty := .int) (by decide) rfl rfl (g := (mkF m 61 #[.val (.ref a), .val (.int p1), .val (.int p2), .val (.ref a3), .val (.ref a4)] [(.int p2), (.ref a)])) rfl rfl (hb hby d12_61)
  have N18 := Fr.snoc X18 N6 g_a
  have f19_Z := Nat.le_trans f7_Z (Keep.of_wr W18).1
  have f20_O := f8_O.wr W18 g_a
  have f21_K := f9_K.wr W18 (Or.inl (List.mem_of_getElem? (i := 0) rfl))
  have f22_E_a := f10_E_a.wr W18
  have f23_F_a_number := f11_F_a_number.other W18 (Or.inr (slot_ne (Or.inr (hw _ (List.mem_of_getElem? (i := 100) rfl))) (Or.inr (hw _ (List.mem_of_getElem? (i := 102) rfl))) (by decide) (t := .int) (t' := .int) (by decide) (by decide)))
  have f24_F_a_protocol := f12_F_a_protocol.same W18
  have f25_F_a_spi := f13_F_a_spi.other W18 (Or.inr (slot_ne (Or.inr (hw _ (List.mem_of_getElem? (i := 104) rfl))) (Or.inr (hw _ (List.mem_of_getElem? (i := 102) rfl))) (by decide) (t := (.array .byte)) (t' := .int) (by decide) (by decide)))
  have f26_F_a_transforms := f14_F_a_transforms.other W18 (Or.inr (slot_ne (Or.inr (hw _ (List.mem_of_getElem? (i := 106) rfl))) (Or.inr (hw _ (List.mem_of_getElem? (i := 102) rfl))) (by decide) (t := (.object "java/util/List")) (t' := .int) (by decide) (by decide)))
  have f27_E_a4 := f15_E_a4.wr W18
  have f28_F_a4_e1 := f16_F_a4_e1.other W18 (Or.inl ne_a4)
  have f29_A_a3 := f17_A_a3.other W18 ne_a3
  refine go st18 ?_
  show Go p e below _ (T18.setTop (mkF m 64 #[.val (.ref a), .val (.int p1), .val (.int p2), .val (.ref a3), .val (.ref a4)] []))
  refine go (fun t kt' => by refine XS.aloadN X18.here hx rfl (hb hby d12_64) rfl rfl ?_; exact kt') ?_
  show Go p e below _ (T18.setTop (mkF m 65 #[.val (.ref a), .val (.int p1), .val (.int p2), .val (.ref a3), .val (.ref a4)] [(.ref a)]))
  refine go (fun t kt' => by refine XS.aloadN X18.here hx rfl (hb hby d12_65) rfl rfl ?_; exact kt') ?_
  show Go p e below _ (T18.setTop (mkF m 66 #[.val (.ref a), .val (.int p1), .val (.int p2), .val (.ref a3), .val (.ref a4)] [(.ref a3), (.ref a)]))
  obtain ⟨T30, h30, X30, e30, W30, st30⟩ := putF X18 hx hZ hown (host := "") (Or.inl (hw _ (List.mem_of_getElem? (i := 103) rfl))) Via.refl e18 f25_F_a_spi f22_E_a (Or.inr ⟨(hw _ (List.mem_of_getElem? (i := 104) rfl)), rfl, hnm⟩) (hw _ (List.mem_of_getElem? (i := 79) rfl)) (ty := (.array .byte)) (by decide) rfl rfl (g := (mkF m 66 #[.val (.ref a), .val (.int p1), .val (.int p2), .val (.ref a3), .val (.ref a4)] [(.ref a3), (.ref a)])) rfl rfl (hb hby d12_66)
  have N30 := Fr.snoc X30 N18 g_a
  have f31_Z := Nat.le_trans f19_Z (Keep.of_wr W30).1
  have f32_O := f20_O.wr W30 g_a
  have f33_K := f21_K.wr W30 (Or.inl (List.mem_of_getElem? (i := 0) rfl))
  have f34_E_a := f22_E_a.wr W30
  have f35_F_a_number := f23_F_a_number.other W30 (Or.inr (slot_ne (Or.inr (hw _ (List.mem_of_getElem? (i := 100) rfl))) (Or.inr (hw _ (List.mem_of_getElem? (i := 104) rfl))) (by decide) (t := .int) (t' := (.array .byte)) (by decide) (by decide)))
  have f36_F_a_protocol := f24_F_a_protocol.other W30 (Or.inr (slot_ne (Or.inr (hw _ (List.mem_of_getElem? (i := 102) rfl))) (Or.inr (hw _ (List.mem_of_getElem? (i := 104) rfl))) (by decide) (t := .int) (t' := (.array .byte)) (by decide) (by decide)))
  have f37_F_a_spi := f25_F_a_spi.same W30
  have f38_F_a_transforms := f26_F_a_transforms.other W30 (Or.inr (slot_ne (Or.inr (hw _ (List.mem_of_getElem? (i := 106) rfl))) (Or.inr (hw _ (List.mem_of_getElem? (i := 104) rfl))) (by decide) (t := (.object "java/util/List")) (t' := (.array .byte)) (by decide) (by decide)))
  have f39_E_a4 := f27_E_a4.wr W30
  have f40_F_a4_e1 := f28_F_a4_e1.other W30 (Or.inl ne_a4)
  have f41_A_a3 := f29_A_a3.other W30 ne_a3
  refine go st30 ?_
  show Go p e below _ (T30.setTop (mkF m 69 #[.val (.ref a), .val (.int p1), .val (.int p2), .val (.ref a3), .val (.ref a4)] []))
  refine go (fun t kt' => by refine XS.aloadN X30.here hx rfl (hb hby d12_69) rfl rfl ?_; exact kt') ?_
  show Go p e below _ (T30.setTop (mkF m 70 #[.val (.ref a), .val (.int p1), .val (.int p2), .val (.ref a3), .val (.ref a4)] [(.ref a)]))
  refine go (fun t kt' => by refine XS.aload X30.here hx rfl (hb hby d12_70) rfl rfl ?_; exact kt') ?_
  show Go p e below _ (T30.setTop (mkF m 72 #[.val (.ref a), .val (.int p1), .val (.int p2), .val (.ref a3), .val (.ref a4)] [(.ref a4), (.ref a)]))
  obtain ⟨T42, h42, X42, e42, W42, st42⟩ := putF X30 hx hZ hown (host := "") (Or.inl (hw _ (List.mem_of_getElem? (i := 105) rfl))) Via.refl e30 f38_F_a_transforms f34_E_a (Or.inr ⟨(hw _ (List.mem_of_getElem? (i := 106) rfl)), rfl, hnm⟩) (hw _ (List.mem_of_getElem? (i := 79) rfl)) (ty := (.object "java/util/List")) (by decide) rfl rfl (g := (mkF m 72 #[.val (.ref a), .val (.int p1), .val (.int p2), .val (.ref a3), .val (.ref a4)] [(.ref a4), (.ref a)])) rfl rfl (hb hby d12_72)
  have N42 := Fr.snoc X42 N30 g_a
  have f43_Z := Nat.le_trans f31_Z (Keep.of_wr W42).1
  have f44_O := f32_O.wr W42 g_a
  have f45_K := f33_K.wr W42 (Or.inl (List.mem_of_getElem? (i := 0) rfl))
  have f46_E_a := f34_E_a.wr W42
  have f47_F_a_number := f35_F_a_number.other W42 (Or.inr (slot_ne (Or.inr (hw _ (List.mem_of_getElem? (i := 100) rfl))) (Or.inr (hw _ (List.mem_of_getElem? (i := 106) rfl))) (by decide) (t := .int) (t' := (.object "java/util/List")) (by decide) (by decide)))
  have f48_F_a_protocol := f36_F_a_protocol.other W42 (Or.inr (slot_ne (Or.inr (hw _ (List.mem_of_getElem? (i := 102) rfl))) (Or.inr (hw _ (List.mem_of_getElem? (i := 106) rfl))) (by decide) (t := .int) (t' := (.object "java/util/List")) (by decide) (by decide)))
  have f49_F_a_spi := f37_F_a_spi.other W42 (Or.inr (slot_ne (Or.inr (hw _ (List.mem_of_getElem? (i := 104) rfl))) (Or.inr (hw _ (List.mem_of_getElem? (i := 106) rfl))) (by decide) (t := (.array .byte)) (t' := (.object "java/util/List")) (by decide) (by decide)))
  have f50_F_a_transforms := f38_F_a_transforms.same W42
  have f51_E_a4 := f39_E_a4.wr W42
  have f52_F_a4_e1 := f40_F_a4_e1.other W42 (Or.inl ne_a4)
  have f53_A_a3 := f41_A_a3.other W42 ne_a3
  refine go st42 ?_
  show Go p e below _ (T42.setTop (mkF m 75 #[.val (.ref a), .val (.int p1), .val (.int p2), .val (.ref a3), .val (.ref a4)] []))
  refine goOut X42 (fun _ => rfl) hlk (fun fs hr => X42.returnOut hx Bd.returns (hb hby d12_75) hr) (by decide) (by decide) ?_
  rw [e42]
  exact ⟨rfl, N42, f45_K, f46_E_a, f47_F_a_number, f48_F_a_protocol⟩
theorem d14_0 : decode prog_78_method_1_code 0 = .ok (.aload_n 0, 1) := by decide +kernel
theorem d14_1 : decode prog_78_method_1_code 1 = .ok (.invokespecial 1, 3) := by decide +kernel
theorem d14_4 : decode prog_78_method_1_code 4 = .ok (.aload_n 3, 1) := by decide +kernel
theorem d14_5 : decode prog_78_method_1_code 5 = .ok (.invokestatic 7, 3) := by decide +kernel
theorem d14_8 : decode prog_78_method_1_code 8 = .ok (.astore_n 3, 1) := by decide +kernel
theorem d14_9 : decode prog_78_method_1_code 9 = .ok (.aload_n 0, 1) := by decide +kernel
theorem d14_10 : decode prog_78_method_1_code 10 = .ok (.iload_n 1, 1) := by decide +kernel
theorem d14_11 : decode prog_78_method_1_code 11 = .ok (.putfield 13, 3) := by decide +kernel
theorem d14_14 : decode prog_78_method_1_code 14 = .ok (.aload_n 0, 1) := by decide +kernel
theorem d14_15 : decode prog_78_method_1_code 15 = .ok (.iload_n 2, 1) := by decide +kernel
theorem d14_16 : decode prog_78_method_1_code 16 = .ok (.putfield 19, 3) := by decide +kernel
theorem d14_19 : decode prog_78_method_1_code 19 = .ok (.aload_n 0, 1) := by decide +kernel
theorem d14_20 : decode prog_78_method_1_code 20 = .ok (.aload_n 3, 1) := by decide +kernel
theorem d14_21 : decode prog_78_method_1_code 21 = .ok (.putfield 22, 3) := by decide +kernel
theorem d14_24 : decode prog_78_method_1_code 24 = .ok (.return_, 1) := by decide +kernel
theorem pn_org_keymoot_Transform : plainName "org/keymoot/Transform" = true := by first | (simp [plainName, overriddenIn]; done) | decide +kernel
theorem ef_rm_ti (m : MethodId) (x0 : Addr) (x1 : Int32) (x2 : Int32) (x3 : Addr) : entryFrame m #[(.ref x0), (.int x1), (.int x2), (.ref x3)] 4 = mkF m 0 #[.val (.ref x0), .val (.int x1), .val (.int x2), .val (.ref x3)] [] := by first | (simp [entryFrame, mkF, argsToLocals, Value.category]; done) | rfl
def Q_ti (Z : State) (a : Addr) (p1 : Int32) (h0 : Heap) (n0 : Nat) (v : Option Value) (h : Heap) (L : List Loc) : Prop := v = none ∧ Fr n0 L ∧ Keep h0 h [a] ∧ Exa Z h a "org/keymoot/Transform" ∧ Fld Z h a "org/keymoot/Transform" "number" "I" (.int p1)
set_option maxRecDepth 65536 in
set_option maxHeartbeats 40000000 in
theorem rm_ti (l : Launch) (Z : State) (a0 : Array Value) (hw : ∀ d ∈ tables_1, d.before a0 Z = true) (ws : List Jvm.Cond) (a : Addr) (p1 : Int32) (p2 : Int32) (a3 : Addr) (dc el em ea : Addr)  (h0 : Heap) (n0 : Nat) (Z0 : n0 ≤ h0.size) (E_a : Exa Z h0 a "org/keymoot/Transform") (g_a : n0 ≤ a) (F_number_a : Fld Z h0 a "org/keymoot/Transform" "number" "I" (.int (0 : Int32))) (F_id_a : Fld Z h0 a "org/keymoot/Transform" "id" "I" (.int (0 : Int32))) (F_attributes_a : Fld Z h0 a "org/keymoot/Transform" "attributes" "Ljava/util/List;" .null) (E_a3 : Exa Z h0 a3 "java/util/ArrayList") (F_size_a3 : Fld Z h0 a3 "java/util/ArrayList" "size" "I" (.int (0 : Int32))) (ne_a3 : a3 ≠ a) (HS : own_sets Z dc el em ea) (OO : Old Z n0 h0) :
    MetFree l (⟨"org/keymoot/Transform", "<init>", "(IILjava/util/List;)V"⟩ : MethodName) (head1 (Jvm.Cond.code (⟨"org/keymoot/Transform", "<init>", "(IILjava/util/List;)V"⟩ : MethodName) prog_78_method_1_code 4 none :: ws) ({ frames := 3, cells := 0, slots := 0, locals := 37 } : Room)) (fun av' U => av' = #[(.ref a), (.int p1), (.int p2), (.ref a3)] ∧ Z.Warmed39 U.vm ∧ U.heap = h0) (fun _ _ _ _ _ => True) (fun _ U o U' => ∃ v L, o = .returned v ∧ Q_ti Z a p1 h0 n0 v U'.heap L ∧ FrameEnd U o U' L ({ frames := 3, cells := 0, slots := 0, locals := 37 } : Room).cells ({ frames := 3, cells := 0, slots := 0, locals := 37 } : Room).slots) := by
  refine MetFree.of_bodySF (plainFor_of_name pn_org_keymoot_Transform) hisR ?_
  intro p e s m args below meth c s₁ Bd hml0 hP hK
  obtain ⟨rfl, hZ, hh⟩ := hP
  have hx := Bd.exec
  have hby := Bd.bytes
  have hlk := Bd.notSynchronized
  have hml : c.maxLocals = 4 := hml0
  have hown : s.vm.findClass "org/keymoot/Transform" = some m.cls := findClass_of_methodNamed Bd.named
  have hnm := (name_of_methodNamed Bd.named Bd.method).1
  have X0 : Stand p l e ({ frames := 3, cells := 0, slots := 0, locals := 37 } : Room) s m #[(.ref a), (.int p1), (.int p2), (.ref a3)] below meth c s₁ [] 0 0 := Stand.of_body Bd
  have e0 : s₁.heap = h0 := by rw [← hh, Bd.state]; rfl
  have N0 := Fr.nil n0
  show Go p e below (Kq s (Q_ti Z a p1 h0 n0) ({ frames := 3, cells := 0, slots := 0, locals := 37 } : Room).cells ({ frames := 3, cells := 0, slots := 0, locals := 37 } : Room).slots) _
  refine go (fun t kt => castTop (ef_rm_ti m a p1 p2 a3) kt) ?_
  have HS0 := HS
  obtain ⟨S_dc, S_el, S_em, E_el, F_el, cE, A_el, Z_el⟩ := HS0
  have K0 := Keep.refl h0 [a]
  show Go p e below _ (s₁.setTop (mkF m 0 #[.val (.ref a), .val (.int p1), .val (.int p2), .val (.ref a3)] []))
  refine go (fun t kt' => by refine XS.aloadN X0.here hx rfl (hb hby d14_0) rfl rfl ?_; exact kt') ?_
  show Go p e below _ (s₁.setTop (mkF m 1 #[.val (.ref a), .val (.int p1), .val (.int p2), .val (.ref a3)] [(.ref a)]))
  obtain ⟨_, _, ⟨T1, L1, k1, n1⟩, -, X1, ⟨Lc1, hQ1, l1, y1, z1⟩, st1⟩ := X0.specialBack hx (y := (⟨"java/lang/Record", "<init>", "()V"⟩ : MethodName)) rfl hown (mvT hZ (hw _ (List.mem_of_getElem? (i := 113) rfl))) (mvT hZ (hw _ (List.mem_of_getElem? (i := 33) rfl))) (mvT hZ (hw _ (List.mem_of_getElem? (i := 36) rfl))) (by decide) (backOf (W := 0) (rm_rc l Z a0 hw [] a h0 n0 Z0 ) hZ (hw _ (List.mem_of_getElem? (i := 36) rfl)) (hw _ (List.mem_of_getElem? (i := 35) rfl)) (by decide) (by decide)) (g := (mkF m 1 #[.val (.ref a), .val (.int p1), .val (.int p2), .val (.ref a3)] [(.ref a)])) rfl (by rw [hml]; rfl) (Steps.refl _) (a := a) (argsL := []) (rest := []) (lenOf pd_0 rfl) rfl (by show 2 * 0 + _ ≤ _; exact Nat.le_of_eq rfl) (hb hby d14_1) (fun _ _ => ⟨rfl, e0, (by decide : 0 + 0 ≤ _), (by decide : 0 + 0 ≤ _)⟩)
  dsimp only [Pt.U, Pt.locs, Pt.cells, Pt.slots] at X1 l1 y1 z1 st1 hQ1
  rw [l1, y1, z1] at X1
  obtain ⟨rfl, N1q, e1⟩ := hQ1
  have N1 := Fr.app N0 N1q
  refine go (fun t kt => st1.trans kt) ?_
  show Go p e below _ (T1.setTop (mkF m 4 #[.val (.ref a), .val (.int p1), .val (.int p2), .val (.ref a3)] []))
  refine go (fun t kt' => by refine XS.aloadN X1.here hx rfl (hb hby d14_4) rfl rfl ?_; exact kt') ?_
  show Go p e below _ (T1.setTop (mkF m 5 #[.val (.ref a), .val (.int p1), .val (.int p2), .val (.ref a3)] [(.ref a3)]))
  obtain ⟨_, _, ⟨T2, L2, k2, n2⟩, -, X2, ⟨Lc2, hQ2, l2, y2, z2⟩, st2⟩ := Jvm.LawKit.callS X1 hx (y := (⟨"java/util/List", "copyOf", "(Ljava/util/Collection;)Ljava/util/List;"⟩ : MethodName)) hown (mvT hZ (hw _ (List.mem_of_getElem? (i := 114) rfl))) (mvT hZ (hw _ (List.mem_of_getElem? (i := 39) rfl))) (mvT hZ (hw _ (List.mem_of_getElem? (i := 40) rfl))) (mvT hZ (hw _ (List.mem_of_getElem? (i := 41) rfl))) (by decide) (backOf (W := 0) (rm_coA l Z a0 hw [] a3 dc el em ea h0 n0 Z0 E_a3 F_size_a3 HS OO) hZ (hw _ (List.mem_of_getElem? (i := 41) rfl)) (hw _ (List.mem_of_getElem? (i := 40) rfl)) (by decide) (by decide)) (g := (mkF m 5 #[.val (.ref a), .val (.int p1), .val (.int p2), .val (.ref a3)] [(.ref a3)])) rfl (by rw [hml]; rfl) (argsL := [(.ref a3)]) (rest := []) (lenOf pd_3 rfl) rfl (by show 2 * 0 + _ ≤ _; exact Nat.le_of_eq rfl) (hb hby d14_5) (fun _ _ => ⟨rfl, e1, (by decide : 0 + 0 ≤ _), (by decide : 0 + 0 ≤ _)⟩)
  dsimp only [Pt.U, Pt.locs, Pt.cells, Pt.slots] at X2 l2 y2 z2 st2 hQ2
  rw [l2, y2, z2] at X2
  obtain ⟨rfl, N2q, e2⟩ := hQ2
  have N2 := Fr.app N1 N2q
  refine go st2 ?_
  show Go p e below _ (T2.setTop (mkF m 8 #[.val (.ref a), .val (.int p1), .val (.int p2), .val (.ref a3)] [(.ref el)]))
  refine go (fun t kt' => by refine XS.astoreN X2.here hx rfl (hb hby d14_8) rfl rfl (l' := #[.val (.ref a), .val (.int p1), .val (.int p2), .val (.ref el)]) rfl ?_; exact kt') ?_
  show Go p e below _ (T2.setTop (mkF m 9 #[.val (.ref a), .val (.int p1), .val (.int p2), .val (.ref el)] []))
  refine go (fun t kt' => by refine XS.aloadN X2.here hx rfl (hb hby d14_9) rfl rfl ?_; exact kt') ?_
  show Go p e below _ (T2.setTop (mkF m 10 #[.val (.ref a), .val (.int p1), .val (.int p2), .val (.ref el)] [(.ref a)]))
  refine go (fun t kt' => by refine XS.iloadN X2.here hx rfl (hb hby d14_10) rfl ?_; exact kt') ?_
  show Go p e below _ (T2.setTop (mkF m 11 #[.val (.ref a), .val (.int p1), .val (.int p2), .val (.ref el)] [(.int p1), (.ref a)]))
  obtain ⟨T3, h3, X3, e3, W3, st3⟩ := putF X2 hx hZ hown (host := "") (Or.inl (hw _ (List.mem_of_getElem? (i := 115) rfl))) Via.refl e2 F_number_a E_a (Or.inr ⟨(hw _ (List.mem_of_getElem? (i := 116) rfl)), rfl, hnm⟩) (hw _ (List.mem_of_getElem? (i := 108) rfl)) (ty := .int) (by decide) rfl rfl (g := (mkF m 11 #[.val (.ref a), .val (.int p1), .val (.int p2), .val (.ref el)] [(.int p1), (.ref a)])) rfl rfl (hb hby d14_11)
  have N3 := Fr.snoc X3 N2 g_a
  have f4_Z := Nat.le_trans Z0 (Keep.of_wr W3).1
  have f5_O := OO.wr W3 g_a
  have f6_K := K0.wr W3 (Or.inl (List.mem_of_getElem? (i := 0) rfl))
  have f7_E_a := E_a.wr W3
  have f8_F_a_number := F_number_a.same W3
  have f9_F_a_id := F_id_a.other W3 (Or.inr (slot_ne (Or.inr (hw _ (List.mem_of_getElem? (i := 118) rfl))) (Or.inr (hw _ (List.mem_of_getElem? (i := 116) rfl))) (by decide) (t := .int) (t' := .int) (by decide) (by decide)))
  have f10_F_a_attributes := F_attributes_a.other W3 (Or.inr (slot_ne (Or.inr (hw _ (List.mem_of_getElem? (i := 120) rfl))) (Or.inr (hw _ (List.mem_of_getElem? (i := 116) rfl))) (by decide) (t := (.object "java/util/List")) (t' := .int) (by decide) (by decide)))
  have f11_E_a3 := E_a3.wr W3
  have f12_F_a3_size := F_size_a3.other W3 (Or.inl ne_a3)
  refine go st3 ?_
  show Go p e below _ (T3.setTop (mkF m 14 #[.val (.ref a), .val (.int p1), .val (.int p2), .val (.ref el)] []))
  refine go (fun t kt' => by refine XS.aloadN X3.here hx rfl (hb hby d14_14) rfl rfl ?_; exact kt') ?_
  show Go p e below _ (T3.setTop (mkF m 15 #[.val (.ref a), .val (.int p1), .val (.int p2), .val (.ref el)] [(.ref a)]))
  refine go (fun t kt' => by refine XS.iloadN X3.here hx rfl (hb hby d14_15) rfl ?_; exact kt') ?_
  show Go p e below _ (T3.setTop (mkF m 16 #[.val (.ref a), .val (.int p1), .val (.int p2), .val (.ref el)] [(.int p2), (.ref a)]))
  obtain ⟨T13, h13, X13, e13, W13, st13⟩ := putF X3 hx hZ hown (host := "") (Or.inl (hw _ (List.mem_of_getElem? (i := 117) rfl))) Via.refl e3 f9_F_a_id f7_E_a (Or.inr ⟨(hw _ (List.mem_of_getElem? (i := 118) rfl)), rfl, hnm⟩) (hw _ (List.mem_of_getElem? (i := 108) rfl)) (ty := .int) (by decide) rfl rfl (g := (mkF m 16 #[.val (.ref a), .val (.int p1), .val (.int p2), .val (.ref el)] [(.int p2), (.ref a)])) rfl rfl (hb hby d14_16)
  have N13 := Fr.snoc X13 N3 g_a
  have f14_Z := Nat.le_trans f4_Z (Keep.of_wr W13).1
  have f15_O := f5_O.wr W13 g_a
  have f16_K := f6_K.wr W13 (Or.inl (List.mem_of_getElem? (i := 0) rfl))
  have f17_E_a := f7_E_a.wr W13
  have f18_F_a_number := f8_F_a_number.other W13 (Or.inr (slot_ne (Or.inr (hw _ (List.mem_of_getElem? (i := 116) rfl))) (Or.inr (hw _ (List.mem_of_getElem? (i := 118) rfl))) (by decide) (t := .int) (t' := .int) (by decide) (by decide)))
  have f19_F_a_id := f9_F_a_id.same W13
  have f20_F_a_attributes := f10_F_a_attributes.other W13 (Or.inr (slot_ne (Or.inr (hw _ (List.mem_of_getElem? (i := 120) rfl))) (Or.inr (hw _ (List.mem_of_getElem? (i := 118) rfl))) (by decide) (t := (.object "java/util/List")) (t' := .int) (by decide) (by decide)))
  have f21_E_a3 := f11_E_a3.wr W13
  have f22_F_a3_size := f12_F_a3_size.other W13 (Or.inl ne_a3)
  refine go st13 ?_
  show Go p e below _ (T13.setTop (mkF m 19 #[.val (.ref a), .val (.int p1), .val (.int p2), .val (.ref el)] []))
  refine go (fun t kt' => by refine XS.aloadN X13.here hx rfl (hb hby d14_19) rfl rfl ?_; exact kt') ?_
  show Go p e below _ (T13.setTop (mkF m 20 #[.val (.ref a), .val (.int p1), .val (.int p2), .val (.ref el)] [(.ref a)]))
  refine go (fun t kt' => by refine XS.aloadN X13.here hx rfl (hb hby d14_20) rfl rfl ?_; exact kt') ?_
  show Go p e below _ (T13.setTop (mkF m 21 #[.val (.ref a), .val (.int p1), .val (.int p2), .val (.ref el)] [(.ref el), (.ref a)]))
  obtain ⟨T23, h23, X23, e23, W23, st23⟩ := putF X13 hx hZ hown (host := "") (Or.inl (hw _ (List.mem_of_getElem? (i := 119) rfl))) Via.refl e13 f20_F_a_attributes f17_E_a (Or.inr ⟨(hw _ (List.mem_of_getElem? (i := 120) rfl)), rfl, hnm⟩) (hw _ (List.mem_of_getElem? (i := 108) rfl)) (ty := (.object "java/util/List")) (by decide) rfl rfl (g := (mkF m 21 #[.val (.ref a), .val (.int p1), .val (.int p2), .val (.ref el)] [(.ref el), (.ref a)])) rfl rfl (hb hby d14_21)
  have N23 := Fr.snoc X23 N13 g_a
  have f24_Z := Nat.le_trans f14_Z (Keep.of_wr W23).1
  have f25_O := f15_O.wr W23 g_a
  have f26_K := f16_K.wr W23 (Or.inl (List.mem_of_getElem? (i := 0) rfl))
  have f27_E_a := f17_E_a.wr W23
  have f28_F_a_number := f18_F_a_number.other W23 (Or.inr (slot_ne (Or.inr (hw _ (List.mem_of_getElem? (i := 116) rfl))) (Or.inr (hw _ (List.mem_of_getElem? (i := 120) rfl))) (by decide) (t := .int) (t' := (.object "java/util/List")) (by decide) (by decide)))
  have f29_F_a_id := f19_F_a_id.other W23 (Or.inr (slot_ne (Or.inr (hw _ (List.mem_of_getElem? (i := 118) rfl))) (Or.inr (hw _ (List.mem_of_getElem? (i := 120) rfl))) (by decide) (t := .int) (t' := (.object "java/util/List")) (by decide) (by decide)))
  have f30_F_a_attributes := f20_F_a_attributes.same W23
  have f31_E_a3 := f21_E_a3.wr W23
  have f32_F_a3_size := f22_F_a3_size.other W23 (Or.inl ne_a3)
  refine go st23 ?_
  show Go p e below _ (T23.setTop (mkF m 24 #[.val (.ref a), .val (.int p1), .val (.int p2), .val (.ref el)] []))
  refine goOut X23 (fun _ => rfl) hlk (fun fs hr => X23.returnOut hx Bd.returns (hb hby d14_24) hr) (by decide) (by decide) ?_
  rw [e23]
  exact ⟨rfl, N23, f26_K, f27_E_a, f28_F_a_number⟩
theorem d16_0 : decode prog_63_method_10_code 0 = .ok (.aload_n 0, 1) := by decide +kernel
theorem d16_1 : decode prog_63_method_10_code 1 = .ok (.getfield 26, 3) := by decide +kernel
theorem d16_4 : decode prog_63_method_10_code 4 = .ok (.ireturn, 1) := by decide +kernel
theorem ef_rm_g_number (m : MethodId) (x0 : Addr) : entryFrame m #[(.ref x0)] 1 = mkF m 0 #[.val (.ref x0)] [] := by first | (simp [entryFrame, mkF, argsToLocals, Value.category]; done) | rfl
def Q_g_number (Z : State) (vv : Int32) (h0 : Heap) (n0 : Nat) (v : Option Value) (h : Heap) (L : List Loc) : Prop := v = some (.int vv) ∧ Fr n0 L ∧ h = h0
set_option maxRecDepth 65536 in
set_option maxHeartbeats 40000000 in
theorem rm_g_number (l : Launch) (Z : State) (a0 : Array Value) (hw : ∀ d ∈ tables_1, d.before a0 Z = true) (ws : List Jvm.Cond) (a : Addr) (vv : Int32) (h0 : Heap) (n0 : Nat) (Z0 : n0 ≤ h0.size) (E_a : Exa Z h0 a "org/keymoot/Proposal") (F_number_a : Fld Z h0 a "org/keymoot/Proposal" "number" "I" (.int vv)) :
    MetFree l (⟨"org/keymoot/Proposal", "number", "()I"⟩ : MethodName) (head1 (Jvm.Cond.code (⟨"org/keymoot/Proposal", "number", "()I"⟩ : MethodName) prog_63_method_10_code 1 (some .int) :: ws) ({ frames := 0, cells := 0, slots := 0, locals := 0 } : Room)) (fun av' U => av' = #[(.ref a)] ∧ Z.Warmed39 U.vm ∧ U.heap = h0) (fun _ _ _ _ _ => True) (fun _ U o U' => ∃ v L, o = .returned v ∧ Q_g_number Z vv h0 n0 v U'.heap L ∧ FrameEnd U o U' L ({ frames := 0, cells := 0, slots := 0, locals := 0 } : Room).cells ({ frames := 0, cells := 0, slots := 0, locals := 0 } : Room).slots) := by
  refine MetFree.of_bodySF (plainFor_of_name pn_org_keymoot_Proposal) hisR ?_
  intro p e s m args below meth c s₁ Bd hml0 hP hK
  obtain ⟨rfl, hZ, hh⟩ := hP
  have hx := Bd.exec
  have hby := Bd.bytes
  have hlk := Bd.notSynchronized
  have hml : c.maxLocals = 1 := hml0
  have hown : s.vm.findClass "org/keymoot/Proposal" = some m.cls := findClass_of_methodNamed Bd.named
  have hnm := (name_of_methodNamed Bd.named Bd.method).1
  have X0 : Stand p l e ({ frames := 0, cells := 0, slots := 0, locals := 0 } : Room) s m #[(.ref a)] below meth c s₁ [] 0 0 := Stand.of_body Bd
  have e0 : s₁.heap = h0 := by rw [← hh, Bd.state]; rfl
  have N0 := Fr.nil n0
  show Go p e below (Kq s (Q_g_number Z vv h0 n0) ({ frames := 0, cells := 0, slots := 0, locals := 0 } : Room).cells ({ frames := 0, cells := 0, slots := 0, locals := 0 } : Room).slots) _
  refine go (fun t kt => castTop (ef_rm_g_number m a) kt) ?_
  show Go p e below _ (s₁.setTop (mkF m 0 #[.val (.ref a)] []))
  refine go (fun t kt' => by refine XS.aloadN X0.here hx rfl (hb hby d16_0) rfl rfl ?_; exact kt') ?_
  show Go p e below _ (s₁.setTop (mkF m 1 #[.val (.ref a)] [(.ref a)]))
  obtain ⟨T1, X1, e1, st1⟩ := getF X0 hx hZ hown (host := "") (Or.inl (hw _ (List.mem_of_getElem? (i := 99) rfl))) Via.refl e0 F_number_a (g := (mkF m 1 #[.val (.ref a)] [(.ref a)])) rfl rfl (hb hby d16_1)
  refine go st1 ?_
  show Go p e below _ (T1.setTop (mkF m 4 #[.val (.ref a)] [(.int vv)]))
  refine goOut X1 (fun h => by rw [Bd.returns] at h; cases h) hlk (fun fs hr => retOut X1 hx Bd.returns rfl (Or.inl ⟨rfl, Or.inl rfl, _, rfl⟩) (hb hby d16_4) hr) (by decide) (by decide) ?_
  rw [e1]
  exact ⟨rfl, N0, rfl⟩
theorem d17_0 : decode prog_63_method_11_code 0 = .ok (.aload_n 0, 1) := by decide +kernel
theorem d17_1 : decode prog_63_method_11_code 1 = .ok (.getfield 32, 3) := by decide +kernel
theorem d17_4 : decode prog_63_method_11_code 4 = .ok (.ireturn, 1) := by decide +kernel
theorem ef_rm_g_protocol (m : MethodId) (x0 : Addr) : entryFrame m #[(.ref x0)] 1 = mkF m 0 #[.val (.ref x0)] [] := by first | (simp [entryFrame, mkF, argsToLocals, Value.category]; done) | rfl
def Q_g_protocol (Z : State) (vv : Int32) (h0 : Heap) (n0 : Nat) (v : Option Value) (h : Heap) (L : List Loc) : Prop := v = some (.int vv) ∧ Fr n0 L ∧ h = h0
set_option maxRecDepth 65536 in
set_option maxHeartbeats 40000000 in
theorem rm_g_protocol (l : Launch) (Z : State) (a0 : Array Value) (hw : ∀ d ∈ tables_1, d.before a0 Z = true) (ws : List Jvm.Cond) (a : Addr) (vv : Int32) (h0 : Heap) (n0 : Nat) (Z0 : n0 ≤ h0.size) (E_a : Exa Z h0 a "org/keymoot/Proposal") (F_protocol_a : Fld Z h0 a "org/keymoot/Proposal" "protocol" "I" (.int vv)) :
    MetFree l (⟨"org/keymoot/Proposal", "protocol", "()I"⟩ : MethodName) (head1 (Jvm.Cond.code (⟨"org/keymoot/Proposal", "protocol", "()I"⟩ : MethodName) prog_63_method_11_code 1 (some .int) :: ws) ({ frames := 0, cells := 0, slots := 0, locals := 0 } : Room)) (fun av' U => av' = #[(.ref a)] ∧ Z.Warmed39 U.vm ∧ U.heap = h0) (fun _ _ _ _ _ => True) (fun _ U o U' => ∃ v L, o = .returned v ∧ Q_g_protocol Z vv h0 n0 v U'.heap L ∧ FrameEnd U o U' L ({ frames := 0, cells := 0, slots := 0, locals := 0 } : Room).cells ({ frames := 0, cells := 0, slots := 0, locals := 0 } : Room).slots) := by
  refine MetFree.of_bodySF (plainFor_of_name pn_org_keymoot_Proposal) hisR ?_
  intro p e s m args below meth c s₁ Bd hml0 hP hK
  obtain ⟨rfl, hZ, hh⟩ := hP
  have hx := Bd.exec
  have hby := Bd.bytes
  have hlk := Bd.notSynchronized
  have hml : c.maxLocals = 1 := hml0
  have hown : s.vm.findClass "org/keymoot/Proposal" = some m.cls := findClass_of_methodNamed Bd.named
  have hnm := (name_of_methodNamed Bd.named Bd.method).1
  have X0 : Stand p l e ({ frames := 0, cells := 0, slots := 0, locals := 0 } : Room) s m #[(.ref a)] below meth c s₁ [] 0 0 := Stand.of_body Bd
  have e0 : s₁.heap = h0 := by rw [← hh, Bd.state]; rfl
  have N0 := Fr.nil n0
  show Go p e below (Kq s (Q_g_protocol Z vv h0 n0) ({ frames := 0, cells := 0, slots := 0, locals := 0 } : Room).cells ({ frames := 0, cells := 0, slots := 0, locals := 0 } : Room).slots) _
  refine go (fun t kt => castTop (ef_rm_g_protocol m a) kt) ?_
  show Go p e below _ (s₁.setTop (mkF m 0 #[.val (.ref a)] []))
  refine go (fun t kt' => by refine XS.aloadN X0.here hx rfl (hb hby d17_0) rfl rfl ?_; exact kt') ?_
  show Go p e below _ (s₁.setTop (mkF m 1 #[.val (.ref a)] [(.ref a)]))
  obtain ⟨T1, X1, e1, st1⟩ := getF X0 hx hZ hown (host := "") (Or.inl (hw _ (List.mem_of_getElem? (i := 101) rfl))) Via.refl e0 F_protocol_a (g := (mkF m 1 #[.val (.ref a)] [(.ref a)])) rfl rfl (hb hby d17_1)
  refine go st1 ?_
  show Go p e below _ (T1.setTop (mkF m 4 #[.val (.ref a)] [(.int vv)]))
  refine goOut X1 (fun h => by rw [Bd.returns] at h; cases h) hlk (fun fs hr => retOut X1 hx Bd.returns rfl (Or.inl ⟨rfl, Or.inl rfl, _, rfl⟩) (hb hby d17_4) hr) (by decide) (by decide) ?_
  rw [e1]
  exact ⟨rfl, N0, rfl⟩
theorem d15_0 : decode prog_74_method_3_code 0 = .ok (.new 14, 3) := by decide +kernel
theorem d15_3 : decode prog_74_method_3_code 3 = .ok (.dup, 1) := by decide +kernel
theorem d15_4 : decode prog_74_method_3_code 4 = .ok (.aload_n 0, 1) := by decide +kernel
theorem d15_5 : decode prog_74_method_3_code 5 = .ok (.getfield 13, 3) := by decide +kernel
theorem d15_8 : decode prog_74_method_3_code 8 = .ok (.aload_n 0, 1) := by decide +kernel
theorem d15_9 : decode prog_74_method_3_code 9 = .ok (.getfield 19, 3) := by decide +kernel
theorem d15_12 : decode prog_74_method_3_code 12 = .ok (.new 57, 3) := by decide +kernel
theorem d15_15 : decode prog_74_method_3_code 15 = .ok (.dup, 1) := by decide +kernel
theorem d15_16 : decode prog_74_method_3_code 16 = .ok (.aload_n 1, 1) := by decide +kernel
theorem d15_17 : decode prog_74_method_3_code 17 = .ok (.invokevirtual 69, 3) := by decide +kernel
theorem d15_20 : decode prog_74_method_3_code 20 = .ok (.aload_n 1, 1) := by decide +kernel
theorem d15_21 : decode prog_74_method_3_code 21 = .ok (.invokevirtual 72, 3) := by decide +kernel
theorem d15_24 : decode prog_74_method_3_code 24 = .ok (.aload_n 2, 1) := by decide +kernel
theorem d15_25 : decode prog_74_method_3_code 25 = .ok (.aload_n 3, 1) := by decide +kernel
theorem d15_26 : decode prog_74_method_3_code 26 = .ok (.invokestatic 62, 3) := by decide +kernel
theorem pd_7 : parseMethodDescriptor "(Ljava/lang/Object;)Ljava/util/List;" = some ⟨[(.object "java/lang/Object")], some (.object "java/util/List")⟩ := by decide +kernel
theorem d15_29 : decode prog_74_method_3_code 29 = .ok (.invokespecial 59, 3) := by decide +kernel
theorem pd_8 : parseMethodDescriptor "(II[BLjava/util/List;)V" = some ⟨[.int, .int, (.array .byte), (.object "java/util/List")], none⟩ := by decide +kernel
theorem d15_32 : decode prog_74_method_3_code 32 = .ok (.invokestatic 62, 3) := by decide +kernel
theorem d15_35 : decode prog_74_method_3_code 35 = .ok (.invokespecial 66, 3) := by decide +kernel
theorem pd_9 : parseMethodDescriptor "(IILjava/util/List;)V" = some ⟨[.int, .int, (.object "java/util/List")], none⟩ := by decide +kernel
theorem d15_38 : decode prog_74_method_3_code 38 = .ok (.areturn, 1) := by decide +kernel
theorem ef_rm_an (m : MethodId) (x0 : Addr) (x1 : Addr) (x2 : Addr) (x3 : Addr) : entryFrame m #[(.ref x0), (.ref x1), (.ref x2), (.ref x3)] 4 = mkF m 0 #[.val (.ref x0), .val (.ref x1), .val (.ref x2), .val (.ref x3)] [] := by first | (simp [entryFrame, mkF, argsToLocals, Value.category]; done) | rfl
def Q_an (Z : State) (dd ss : Int32) (h0 : Heap) (n0 : Nat) (v : Option Value) (h : Heap) (L : List Loc) : Prop := ∃ b : Addr, v = some (.ref b) ∧ Fr n0 L ∧ Keep h0 h [] ∧ n0 ≤ b ∧ h0.size ≤ b ∧ Exa Z h b "org/keymoot/SecurityAssociation" ∧ Fld Z h b "org/keymoot/SecurityAssociation" "doi" "I" (.int dd) ∧ Fld Z h b "org/keymoot/SecurityAssociation" "situation" "I" (.int ss)
set_option maxRecDepth 65536 in
set_option maxHeartbeats 40000000 in
theorem rm_an (l : Launch) (Z : State) (a0 : Array Value) (hw : ∀ d ∈ tables_1, d.before a0 Z = true) (ws : List Jvm.Cond) (a : Addr) (a1 : Addr) (a2 : Addr) (a3 : Addr) (dc el em ea : Addr) (dd ss nn pp : Int32) (N : Nat) (fv : Nat → Int32) (h0 : Heap) (n0 : Nat) (Z0 : n0 ≤ h0.size) (E_a : Exa Z h0 a "org/keymoot/SecurityAssociation") (F_doi_a : Fld Z h0 a "org/keymoot/SecurityAssociation" "doi" "I" (.int dd)) (F_situation_a : Fld Z h0 a "org/keymoot/SecurityAssociation" "situation" "I" (.int ss)) (E_a1 : Exa Z h0 a1 "org/keymoot/Proposal") (F_number_a1 : Fld Z h0 a1 "org/keymoot/Proposal" "number" "I" (.int nn)) (F_protocol_a1 : Fld Z h0 a1 "org/keymoot/Proposal" "protocol" "I" (.int pp)) (V_a2 : IA Z h0 a2 .byte N fv) (hN : N ≤ 4) (HS : own_sets Z dc el em ea) (OO : Old Z n0 h0) :
    MetFree l (⟨"org/keymoot/SecurityAssociation", "answer", "(Lorg/keymoot/Proposal;[BLorg/keymoot/Transform;)Lorg/keymoot/SecurityAssociation;"⟩ : MethodName) (head1 (Jvm.Cond.code (⟨"org/keymoot/SecurityAssociation", "answer", "(Lorg/keymoot/Proposal;[BLorg/keymoot/Transform;)Lorg/keymoot/SecurityAssociation;"⟩ : MethodName) prog_74_method_3_code 4 (some (.object "org/keymoot/SecurityAssociation")) :: ws) ({ frames := 6, cells := 4, slots := 11, locals := 83 } : Room)) (fun av' U => av' = #[(.ref a), (.ref a1), (.ref a2), (.ref a3)] ∧ Z.Warmed39 U.vm ∧ U.heap = h0) (fun _ _ _ _ _ => True) (fun _ U o U' => ∃ v L, o = .returned v ∧ Q_an Z dd ss h0 n0 v U'.heap L ∧ FrameEnd U o U' L ({ frames := 6, cells := 4, slots := 11, locals := 83 } : Room).cells ({ frames := 6, cells := 4, slots := 11, locals := 83 } : Room).slots) := by
  refine MetFree.of_bodySF (plainFor_of_name pn_org_keymoot_SecurityAssociation) hisR ?_
  intro p e s m args below meth c s₁ Bd hml0 hP hK
  obtain ⟨rfl, hZ, hh⟩ := hP
  have hx := Bd.exec
  have hby := Bd.bytes
  have hlk := Bd.notSynchronized
  have hml : c.maxLocals = 4 := hml0
  have hown : s.vm.findClass "org/keymoot/SecurityAssociation" = some m.cls := findClass_of_methodNamed Bd.named
  have hnm := (name_of_methodNamed Bd.named Bd.method).1
  have X0 : Stand p l e ({ frames := 6, cells := 4, slots := 11, locals := 83 } : Room) s m #[(.ref a), (.ref a1), (.ref a2), (.ref a3)] below meth c s₁ [] 0 0 := Stand.of_body Bd
  have e0 : s₁.heap = h0 := by rw [← hh, Bd.state]; rfl
  have N0 := Fr.nil n0
  show Go p e below (Kq s (Q_an Z dd ss h0 n0) ({ frames := 6, cells := 4, slots := 11, locals := 83 } : Room).cells ({ frames := 6, cells := 4, slots := 11, locals := 83 } : Room).slots) _
  refine go (fun t kt => castTop (ef_rm_an m a a1 a2 a3) kt) ?_
  have HS0 := HS
  obtain ⟨S_dc, S_el, S_em, E_el, F_el, cE, A_el, Z_el⟩ := HS0
  have K0 := Keep.refl h0 []
  show Go p e below _ (s₁.setTop (mkF m 0 #[.val (.ref a), .val (.ref a1), .val (.ref a2), .val (.ref a3)] []))
  obtain ⟨T1, h1, X1, e1, E1, A1, D1, -, st1⟩ := newO X0 hx hZ hown (hw _ (List.mem_of_getElem? (i := 126) rfl)) (hw _ (List.mem_of_getElem? (i := 1) rfl)) (hw _ (List.mem_of_getElem? (i := 2) rfl)) e0 (g := (mkF m 0 #[.val (.ref a), .val (.ref a1), .val (.ref a2), .val (.ref a3)] [])) rfl (hb hby d15_0) (by decide) (by decide)
  obtain ⟨b1, g1⟩ : ∃ z, z = h0.size := ⟨_, rfl⟩
  have n0_b1 : n0 ≤ b1 := Nat.le_trans Z0 (Nat.le_of_eq g1.symm)
  have sz_b1 : h0.size ≤ b1 := Nat.le_trans K0.1 (Nat.le_of_eq g1.symm)
  have ne1_a_b1 : a ≠ b1 := Nat.ne_of_lt (Nat.lt_of_lt_of_le E_a.lt (Nat.le_of_eq g1.symm))
  have ne1_a1_b1 : a1 ≠ b1 := Nat.ne_of_lt (Nat.lt_of_lt_of_le E_a1.lt (Nat.le_of_eq g1.symm))
  have ne1_a2_b1 : a2 ≠ b1 := Nat.ne_of_lt (Nat.lt_of_lt_of_le V_a2.lt (Nat.le_of_eq g1.symm))
  rw [← g1] at A1 D1 st1
  have f2_Z := Nat.le_trans Z0 E1.1
  have f3_O := OO.ext E1
  have f4_K := K0.ext E1
  have f5_E_a := E_a.ext E1
  have f6_F_a_doi := F_doi_a.ext E1
  have f7_F_a_situation := F_situation_a.ext E1
  have f8_E_a1 := E_a1.ext E1
  have f9_F_a1_number := F_number_a1.ext E1
  have f10_F_a1_protocol := F_protocol_a1.ext E1
  have f11_A_a2 := V_a2.ext E1
  have F1_doi : Fld Z h1 b1 "org/keymoot/SecurityAssociation" "doi" "I" (.int (0 : Int32)) := D1 (Or.inr (hw _ (List.mem_of_getElem? (i := 68) rfl))) (ty := .int) (by decide)
  have F1_situation : Fld Z h1 b1 "org/keymoot/SecurityAssociation" "situation" "I" (.int (0 : Int32)) := D1 (Or.inr (hw _ (List.mem_of_getElem? (i := 70) rfl))) (ty := .int) (by decide)
  have F1_proposals : Fld Z h1 b1 "org/keymoot/SecurityAssociation" "proposals" "Ljava/util/List;" .null := D1 (Or.inr (hw _ (List.mem_of_getElem? (i := 72) rfl))) (ty := (.object "java/util/List")) (by decide)
  refine go st1 ?_
  show Go p e below _ (T1.setTop (mkF m 3 #[.val (.ref a), .val (.ref a1), .val (.ref a2), .val (.ref a3)] [(.ref b1)]))
  refine go (fun t kt' => by refine XS.dup X1.here hx rfl (hb hby d15_3) rfl rfl ?_; exact kt') ?_
  show Go p e below _ (T1.setTop (mkF m 4 #[.val (.ref a), .val (.ref a1), .val (.ref a2), .val (.ref a3)] [(.ref b1), (.ref b1)]))
  refine go (fun t kt' => by refine XS.aloadN X1.here hx rfl (hb hby d15_4) rfl rfl ?_; exact kt') ?_
  show Go p e below _ (T1.setTop (mkF m 5 #[.val (.ref a), .val (.ref a1), .val (.ref a2), .val (.ref a3)] [(.ref a), (.ref b1), (.ref b1)]))
  obtain ⟨T12, X12, e12, st12⟩ := getF X1 hx hZ hown (host := "") (Or.inl (hw _ (List.mem_of_getElem? (i := 67) rfl))) Via.refl e1 f6_F_a_doi (g := (mkF m 5 #[.val (.ref a), .val (.ref a1), .val (.ref a2), .val (.ref a3)] [(.ref a), (.ref b1), (.ref b1)])) rfl rfl (hb hby d15_5)
  refine go st12 ?_
  show Go p e below _ (T12.setTop (mkF m 8 #[.val (.ref a), .val (.ref a1), .val (.ref a2), .val (.ref a3)] [(.int dd), (.ref b1), (.ref b1)]))
  refine go (fun t kt' => by refine XS.aloadN X12.here hx rfl (hb hby d15_8) rfl rfl ?_; exact kt') ?_
  show Go p e below _ (T12.setTop (mkF m 9 #[.val (.ref a), .val (.ref a1), .val (.ref a2), .val (.ref a3)] [(.ref a), (.int dd), (.ref b1), (.ref b1)]))
  obtain ⟨T13, X13, e13, st13⟩ := getF X12 hx hZ hown (host := "") (Or.inl (hw _ (List.mem_of_getElem? (i := 69) rfl))) Via.refl e12 f7_F_a_situation (g := (mkF m 9 #[.val (.ref a), .val (.ref a1), .val (.ref a2), .val (.ref a3)] [(.ref a), (.int dd), (.ref b1), (.ref b1)])) rfl rfl (hb hby d15_9)
  refine go st13 ?_
  show Go p e below _ (T13.setTop (mkF m 12 #[.val (.ref a), .val (.ref a1), .val (.ref a2), .val (.ref a3)] [(.int ss), (.int dd), (.ref b1), (.ref b1)]))
  obtain ⟨T14, h14, X14, e14, E14, A14, D14, -, st14⟩ := newO X13 hx hZ hown (hw _ (List.mem_of_getElem? (i := 127) rfl)) (hw _ (List.mem_of_getElem? (i := 79) rfl)) (hw _ (List.mem_of_getElem? (i := 80) rfl)) e13 (g := (mkF m 12 #[.val (.ref a), .val (.ref a1), .val (.ref a2), .val (.ref a3)] [(.int ss), (.int dd), (.ref b1), (.ref b1)])) rfl (hb hby d15_12) (by decide) (by decide)
  obtain ⟨b14, g14⟩ : ∃ z, z = h1.size := ⟨_, rfl⟩
  have n0_b14 : n0 ≤ b14 := Nat.le_trans f2_Z (Nat.le_of_eq g14.symm)
  have sz_b14 : h0.size ≤ b14 := Nat.le_trans f4_K.1 (Nat.le_of_eq g14.symm)
  have ne14_a_b14 : a ≠ b14 := Nat.ne_of_lt (Nat.lt_of_lt_of_le f5_E_a.lt (Nat.le_of_eq g14.symm))
  have ne14_a1_b14 : a1 ≠ b14 := Nat.ne_of_lt (Nat.lt_of_lt_of_le f8_E_a1.lt (Nat.le_of_eq g14.symm))
  have ne14_a2_b14 : a2 ≠ b14 := Nat.ne_of_lt (Nat.lt_of_lt_of_le f11_A_a2.lt (Nat.le_of_eq g14.symm))
  have ne14_b1_b14 : b1 ≠ b14 := Nat.ne_of_lt (Nat.lt_of_lt_of_le A1.lt (Nat.le_of_eq g14.symm))
  rw [← g14] at A14 D14 st14
  have f15_Z := Nat.le_trans f2_Z E14.1
  have f16_O := f3_O.ext E14
  have f17_K := f4_K.ext E14
  have f18_E_a := f5_E_a.ext E14
  have f19_F_a_doi := f6_F_a_doi.ext E14
  have f20_F_a_situation := f7_F_a_situation.ext E14
  have f21_E_a1 := f8_E_a1.ext E14
  have f22_F_a1_number := f9_F_a1_number.ext E14
  have f23_F_a1_protocol := f10_F_a1_protocol.ext E14
  have f24_A_a2 := f11_A_a2.ext E14
  have f25_E_b1 := A1.ext E14
  have f26_F_b1_doi := F1_doi.ext E14
  have f27_F_b1_situation := F1_situation.ext E14
  have f28_F_b1_proposals := F1_proposals.ext E14
  have F14_number : Fld Z h14 b14 "org/keymoot/Proposal" "number" "I" (.int (0 : Int32)) := D14 (Or.inr (hw _ (List.mem_of_getElem? (i := 100) rfl))) (ty := .int) (by decide)
  have F14_protocol : Fld Z h14 b14 "org/keymoot/Proposal" "protocol" "I" (.int (0 : Int32)) := D14 (Or.inr (hw _ (List.mem_of_getElem? (i := 102) rfl))) (ty := .int) (by decide)
  have F14_spi : Fld Z h14 b14 "org/keymoot/Proposal" "spi" "[B" .null := D14 (Or.inr (hw _ (List.mem_of_getElem? (i := 104) rfl))) (ty := (.array .byte)) (by decide)
  have F14_transforms : Fld Z h14 b14 "org/keymoot/Proposal" "transforms" "Ljava/util/List;" .null := D14 (Or.inr (hw _ (List.mem_of_getElem? (i := 106) rfl))) (ty := (.object "java/util/List")) (by decide)
  refine go st14 ?_
  show Go p e below _ (T14.setTop (mkF m 15 #[.val (.ref a), .val (.ref a1), .val (.ref a2), .val (.ref a3)] [(.ref b14), (.int ss), (.int dd), (.ref b1), (.ref b1)]))
  refine go (fun t kt' => by refine XS.dup X14.here hx rfl (hb hby d15_15) rfl rfl ?_; exact kt') ?_
  show Go p e below _ (T14.setTop (mkF m 16 #[.val (.ref a), .val (.ref a1), .val (.ref a2), .val (.ref a3)] [(.ref b14), (.ref b14), (.int ss), (.int dd), (.ref b1), (.ref b1)]))
  refine go (fun t kt' => by refine XS.aloadN X14.here hx rfl (hb hby d15_16) rfl rfl ?_; exact kt') ?_
  show Go p e below _ (T14.setTop (mkF m 17 #[.val (.ref a), .val (.ref a1), .val (.ref a2), .val (.ref a3)] [(.ref a1), (.ref b14), (.ref b14), (.int ss), (.int dd), (.ref b1), (.ref b1)]))
  obtain ⟨cq29, kq29, q29a, q29b, q29c⟩ := isOf hZ e14 f21_E_a1
  obtain ⟨_, _, ⟨T29, L29, k29, n29⟩, -, X29, ⟨Lc29, hQ29, l29, y29, z29⟩, st29⟩ := X14.virtualBack hx (y := (⟨"org/keymoot/Proposal", "number", "()I"⟩ : MethodName)) (z := (⟨"org/keymoot/Proposal", "number", "()I"⟩ : MethodName)) hown (mvT hZ (hw _ (List.mem_of_getElem? (i := 128) rfl))) (mvT hZ (hw _ (List.mem_of_getElem? (i := 129) rfl))) (notFace_of_selects (args := #[]) (mvT hZ (hw _ (List.mem_of_getElem? (i := 131) rfl)))) (mvT hZ (hw _ (List.mem_of_getElem? (i := 131) rfl))) (mvT hZ (hw _ (List.mem_of_getElem? (i := 130) rfl))) (by decide) (backOf (W := 6) (rm_g_number l Z a0 hw [] a1 nn h14 n0 f15_Z f21_E_a1 f22_F_a1_number) hZ (hw _ (List.mem_of_getElem? (i := 132) rfl)) (hw _ (List.mem_of_getElem? (i := 80) rfl)) (by decide) (by decide)) q29a q29c (g := (mkF m 17 #[.val (.ref a), .val (.ref a1), .val (.ref a2), .val (.ref a3)] [(.ref a1), (.ref b14), (.ref b14), (.int ss), (.int dd), (.ref b1), (.ref b1)])) rfl (by rw [hml]; rfl) (Steps.refl _) (argsL := []) (rest := [(.ref b14), (.ref b14), (.int ss), (.int dd), (.ref b1), (.ref b1)]) (lenOf pd_6 rfl) rfl (by show 2 * 0 + _ ≤ _; exact Nat.le_of_eq rfl) (hb hby d15_17) (fun _ _ => ⟨rfl, e14, (by decide : 2 + 0 ≤ _), (by decide : 7 + 0 ≤ _)⟩)
  dsimp only [Pt.U, Pt.locs, Pt.cells, Pt.slots] at X29 l29 y29 z29 st29 hQ29
  rw [l29, y29, z29] at X29
  obtain ⟨rfl, N29q, e29⟩ := hQ29
  have N29 := Fr.app N0 N29q
  refine go (fun t kt => st29.trans kt) ?_
  show Go p e below _ (T29.setTop (mkF m 20 #[.val (.ref a), .val (.ref a1), .val (.ref a2), .val (.ref a3)] [(.int nn), (.ref b14), (.ref b14), (.int ss), (.int dd), (.ref b1), (.ref b1)]))
  refine go (fun t kt' => by refine XS.aloadN X29.here hx rfl (hb hby d15_20) rfl rfl ?_; exact kt') ?_
  show Go p e below _ (T29.setTop (mkF m 21 #[.val (.ref a), .val (.ref a1), .val (.ref a2), .val (.ref a3)] [(.ref a1), (.int nn), (.ref b14), (.ref b14), (.int ss), (.int dd), (.ref b1), (.ref b1)]))
  obtain ⟨cq30, kq30, q30a, q30b, q30c⟩ := isOf hZ e29 f21_E_a1
  obtain ⟨_, _, ⟨T30, L30, k30, n30⟩, -, X30, ⟨Lc30, hQ30, l30, y30, z30⟩, st30⟩ := X29.virtualBack hx (y := (⟨"org/keymoot/Proposal", "protocol", "()I"⟩ : MethodName)) (z := (⟨"org/keymoot/Proposal", "protocol", "()I"⟩ : MethodName)) hown (mvT hZ (hw _ (List.mem_of_getElem? (i := 133) rfl))) (mvT hZ (hw _ (List.mem_of_getElem? (i := 134) rfl))) (notFace_of_selects (args := #[]) (mvT hZ (hw _ (List.mem_of_getElem? (i := 136) rfl)))) (mvT hZ (hw _ (List.mem_of_getElem? (i := 136) rfl))) (mvT hZ (hw _ (List.mem_of_getElem? (i := 135) rfl))) (by decide) (backOf (W := 7) (rm_g_protocol l Z a0 hw [] a1 pp h14 n0 f15_Z f21_E_a1 f23_F_a1_protocol) hZ (hw _ (List.mem_of_getElem? (i := 137) rfl)) (hw _ (List.mem_of_getElem? (i := 80) rfl)) (by decide) (by decide)) q30a q30c (g := (mkF m 21 #[.val (.ref a), .val (.ref a1), .val (.ref a2), .val (.ref a3)] [(.ref a1), (.int nn), (.ref b14), (.ref b14), (.int ss), (.int dd), (.ref b1), (.ref b1)])) rfl (by rw [hml]; rfl) (Steps.refl _) (argsL := []) (rest := [(.int nn), (.ref b14), (.ref b14), (.int ss), (.int dd), (.ref b1), (.ref b1)]) (lenOf pd_6 rfl) rfl (by show 2 * 0 + _ ≤ _; exact Nat.le_of_eq rfl) (hb hby d15_21) (fun _ _ => ⟨rfl, e29, (by decide : 2 + 0 ≤ _), (by decide : 7 + 0 ≤ _)⟩)
  dsimp only [Pt.U, Pt.locs, Pt.cells, Pt.slots] at X30 l30 y30 z30 st30 hQ30
  rw [l30, y30, z30] at X30
  obtain ⟨rfl, N30q, e30⟩ := hQ30
  have N30 := Fr.app N29 N30q
  refine go (fun t kt => st30.trans kt) ?_
  show Go p e below _ (T30.setTop (mkF m 24 #[.val (.ref a), .val (.ref a1), .val (.ref a2), .val (.ref a3)] [(.int pp), (.int nn), (.ref b14), (.ref b14), (.int ss), (.int dd), (.ref b1), (.ref b1)]))
  refine go (fun t kt' => by refine XS.aloadN X30.here hx rfl (hb hby d15_24) rfl rfl ?_; exact kt') ?_
  show Go p e below _ (T30.setTop (mkF m 25 #[.val (.ref a), .val (.ref a1), .val (.ref a2), .val (.ref a3)] [(.ref a2), (.int pp), (.int nn), (.ref b14), (.ref b14), (.int ss), (.int dd), (.ref b1), (.ref b1)]))
  refine go (fun t kt' => by refine XS.aloadN X30.here hx rfl (hb hby d15_25) rfl rfl ?_; exact kt') ?_
  show Go p e below _ (T30.setTop (mkF m 26 #[.val (.ref a), .val (.ref a1), .val (.ref a2), .val (.ref a3)] [(.ref a3), (.ref a2), (.int pp), (.int nn), (.ref b14), (.ref b14), (.int ss), (.int dd), (.ref b1), (.ref b1)]))
  obtain ⟨_, _, ⟨T31, L31, k31, n31⟩, -, X31, ⟨Lc31, hQ31, l31, y31, z31⟩, st31⟩ := Jvm.LawKit.callS X30 hx (y := (⟨"java/util/List", "of", "(Ljava/lang/Object;)Ljava/util/List;"⟩ : MethodName)) hown (mvT hZ (hw _ (List.mem_of_getElem? (i := 138) rfl))) (mvT hZ (hw _ (List.mem_of_getElem? (i := 139) rfl))) (mvT hZ (hw _ (List.mem_of_getElem? (i := 40) rfl))) (mvT hZ (hw _ (List.mem_of_getElem? (i := 140) rfl))) (by decide) (backOf (W := 9) (rm_o1 l Z a0 hw [] a3 dc el em ea h14 n0 f15_Z HS f16_O) hZ (hw _ (List.mem_of_getElem? (i := 140) rfl)) (hw _ (List.mem_of_getElem? (i := 40) rfl)) (by decide) (by decide)) (g := (mkF m 26 #[.val (.ref a), .val (.ref a1), .val (.ref a2), .val (.ref a3)] [(.ref a3), (.ref a2), (.int pp), (.int nn), (.ref b14), (.ref b14), (.int ss), (.int dd), (.ref b1), (.ref b1)])) rfl (by rw [hml]; rfl) (argsL := [(.ref a3)]) (rest := [(.ref a2), (.int pp), (.int nn), (.ref b14), (.ref b14), (.int ss), (.int dd), (.ref b1), (.ref b1)]) (lenOf pd_7 rfl) rfl (by show 2 * 0 + _ ≤ _; exact Nat.le_of_eq rfl) (hb hby d15_26) (fun _ _ => ⟨rfl, e30, (by decide : 2 + 1 ≤ _), (by decide : 7 + 2 ≤ _)⟩)
  dsimp only [Pt.U, Pt.locs, Pt.cells, Pt.slots] at X31 l31 y31 z31 st31 hQ31
  rw [l31, y31, z31] at X31
  obtain ⟨r31, rfl, N31q, K31, n0_r31, sq31, E31_, P31_0⟩ := hQ31
  have N31 := Fr.app N30 N31q
  have ne31_a : a ≠ r31 := Nat.ne_of_lt (Nat.lt_of_lt_of_le f18_E_a.lt sq31)
  have ne31_a1 : a1 ≠ r31 := Nat.ne_of_lt (Nat.lt_of_lt_of_le f21_E_a1.lt sq31)
  have ne31_a2 : a2 ≠ r31 := Nat.ne_of_lt (Nat.lt_of_lt_of_le f24_A_a2.lt sq31)
  have ne31_b1 : b1 ≠ r31 := Nat.ne_of_lt (Nat.lt_of_lt_of_le f25_E_b1.lt sq31)
  have ne31_b14 : b14 ≠ r31 := Nat.ne_of_lt (Nat.lt_of_lt_of_le A14.lt sq31)
  have sz_r31 : h0.size ≤ r31 := Nat.le_trans f17_K.1 sq31
  have f32_Z := Nat.le_trans f15_Z K31.1
  have f33_O := f16_O.keep K31 all0
  have f34_K := f17_K.trans K31 all0
  have f35_E_a := f18_E_a.keep K31
  have f36_F_a_doi := f19_F_a_doi.keep K31 nin0
  have f37_F_a_situation := f20_F_a_situation.keep K31 nin0
  have f38_E_a1 := f21_E_a1.keep K31
  have f39_F_a1_number := f22_F_a1_number.keep K31 nin0
  have f40_F_a1_protocol := f23_F_a1_protocol.keep K31 nin0
  have f41_A_a2 := f24_A_a2.keep K31 nin0
  have f42_E_b1 := f25_E_b1.keep K31
  have f43_F_b1_doi := f26_F_b1_doi.keep K31 nin0
  have f44_F_b1_situation := f27_F_b1_situation.keep K31 nin0
  have f45_F_b1_proposals := f28_F_b1_proposals.keep K31 nin0
  have f46_E_b14 := A14.keep K31
  have f47_F_b14_number := F14_number.keep K31 nin0
  have f48_F_b14_protocol := F14_protocol.keep K31 nin0
  have f49_F_b14_spi := F14_spi.keep K31 nin0
  have f50_F_b14_transforms := F14_transforms.keep K31 nin0
  refine go st31 ?_
  show Go p e below _ (T31.setTop (mkF m 29 #[.val (.ref a), .val (.ref a1), .val (.ref a2), .val (.ref a3)] [(.ref r31), (.ref a2), (.int pp), (.int nn), (.ref b14), (.ref b14), (.int ss), (.int dd), (.ref b1), (.ref b1)]))
  obtain ⟨_, _, ⟨T51, L51, k51, n51⟩, -, X51, ⟨Lc51, hQ51, l51, y51, z51⟩, st51⟩ := X31.specialBack hx (y := (⟨"org/keymoot/Proposal", "<init>", "(II[BLjava/util/List;)V"⟩ : MethodName)) rfl hown (mvT hZ (hw _ (List.mem_of_getElem? (i := 171) rfl))) (mvT hZ (hw _ (List.mem_of_getElem? (i := 83) rfl))) (mvT hZ (hw _ (List.mem_of_getElem? (i := 84) rfl))) (by decide) (backOf (W := 5) (rm_piB l Z a0 hw [] b14 nn pp a2 r31 dc el em ea N fv T31.heap n0 f32_Z f46_E_b14 n0_b14 f47_F_b14_number f48_F_b14_protocol f49_F_b14_spi f50_F_b14_transforms E31_ P31_0 (Ne.symm ne31_b14) f41_A_a2 hN ne14_a2_b14 HS f33_O) hZ (hw _ (List.mem_of_getElem? (i := 84) rfl)) (hw _ (List.mem_of_getElem? (i := 80) rfl)) (by decide) (by decide)) (g := (mkF m 29 #[.val (.ref a), .val (.ref a1), .val (.ref a2), .val (.ref a3)] [(.ref r31), (.ref a2), (.int pp), (.int nn), (.ref b14), (.ref b14), (.int ss), (.int dd), (.ref b1), (.ref b1)])) rfl (by rw [hml]; rfl) (Steps.refl _) (a := b14) (argsL := [(.int nn), (.int pp), (.ref a2), (.ref r31)]) (rest := [(.ref b14), (.int ss), (.int dd), (.ref b1), (.ref b1)]) (lenOf pd_8 rfl) rfl (by show 2 * 0 + _ ≤ _; exact Nat.le_of_eq rfl) (hb hby d15_29) (fun _ _ => ⟨rfl, rfl, (by decide : 3 + 0 ≤ _), (by decide : 9 + 0 ≤ _)⟩)
  dsimp only [Pt.U, Pt.locs, Pt.cells, Pt.slots] at X51 l51 y51 z51 st51 hQ51
  rw [l51, y51, z51] at X51
  obtain ⟨rfl, N51q, K51, P51_0, P51_1, P51_2⟩ := hQ51
  have N51 := Fr.app N31 N51q
  have f52_Z := Nat.le_trans f32_Z K51.1
  have f53_O := f33_O.keep K51 (allS n0_b14 all0)
  have f54_K := f34_K.trans K51 (allS (Or.inr sz_b14) all0)
  have f55_E_a := f35_E_a.keep K51
  have f56_F_a_doi := f36_F_a_doi.keep K51 (ninS ne14_a_b14 nin0)
  have f57_F_a_situation := f37_F_a_situation.keep K51 (ninS ne14_a_b14 nin0)
  have f58_E_a1 := f38_E_a1.keep K51
  have f59_F_a1_number := f39_F_a1_number.keep K51 (ninS ne14_a1_b14 nin0)
  have f60_F_a1_protocol := f40_F_a1_protocol.keep K51 (ninS ne14_a1_b14 nin0)
  have f61_A_a2 := f41_A_a2.keep K51 (ninS ne14_a2_b14 nin0)
  have f62_E_b1 := f42_E_b1.keep K51
  have f63_F_b1_doi := f43_F_b1_doi.keep K51 (ninS ne14_b1_b14 nin0)
  have f64_F_b1_situation := f44_F_b1_situation.keep K51 (ninS ne14_b1_b14 nin0)
  have f65_F_b1_proposals := f45_F_b1_proposals.keep K51 (ninS ne14_b1_b14 nin0)
  have f66_E_r31 := E31_.keep K51
  have f67_F_r31_e1 := P31_0.keep K51 (ninS (Ne.symm ne31_b14) nin0)
  refine go (fun t kt => st51.trans kt) ?_
  show Go p e below _ (T51.setTop (mkF m 32 #[.val (.ref a), .val (.ref a1), .val (.ref a2), .val (.ref a3)] [(.ref b14), (.int ss), (.int dd), (.ref b1), (.ref b1)]))
  obtain ⟨_, _, ⟨T68, L68, k68, n68⟩, -, X68, ⟨Lc68, hQ68, l68, y68, z68⟩, st68⟩ := Jvm.LawKit.callS X51 hx (y := (⟨"java/util/List", "of", "(Ljava/lang/Object;)Ljava/util/List;"⟩ : MethodName)) hown (mvT hZ (hw _ (List.mem_of_getElem? (i := 138) rfl))) (mvT hZ (hw _ (List.mem_of_getElem? (i := 139) rfl))) (mvT hZ (hw _ (List.mem_of_getElem? (i := 40) rfl))) (mvT hZ (hw _ (List.mem_of_getElem? (i := 140) rfl))) (by decide) (backOf (W := 4) (rm_o1 l Z a0 hw [] b14 dc el em ea T51.heap n0 f52_Z HS f53_O) hZ (hw _ (List.mem_of_getElem? (i := 140) rfl)) (hw _ (List.mem_of_getElem? (i := 40) rfl)) (by decide) (by decide)) (g := (mkF m 32 #[.val (.ref a), .val (.ref a1), .val (.ref a2), .val (.ref a3)] [(.ref b14), (.int ss), (.int dd), (.ref b1), (.ref b1)])) rfl (by rw [hml]; rfl) (argsL := [(.ref b14)]) (rest := [(.int ss), (.int dd), (.ref b1), (.ref b1)]) (lenOf pd_7 rfl) rfl (by show 2 * 0 + _ ≤ _; exact Nat.le_of_eq rfl) (hb hby d15_32) (fun _ _ => ⟨rfl, rfl, (by decide : 3 + 1 ≤ _), (by decide : 9 + 2 ≤ _)⟩)
  dsimp only [Pt.U, Pt.locs, Pt.cells, Pt.slots] at X68 l68 y68 z68 st68 hQ68
  rw [l68, y68, z68] at X68
  obtain ⟨r68, rfl, N68q, K68, n0_r68, sq68, E68_, P68_0⟩ := hQ68
  have N68 := Fr.app N51 N68q
  have ne68_a : a ≠ r68 := Nat.ne_of_lt (Nat.lt_of_lt_of_le f55_E_a.lt sq68)
  have ne68_a1 : a1 ≠ r68 := Nat.ne_of_lt (Nat.lt_of_lt_of_le f58_E_a1.lt sq68)
  have ne68_a2 : a2 ≠ r68 := Nat.ne_of_lt (Nat.lt_of_lt_of_le f61_A_a2.lt sq68)
  have ne68_b1 : b1 ≠ r68 := Nat.ne_of_lt (Nat.lt_of_lt_of_le f62_E_b1.lt sq68)
  have ne68_r31 : r31 ≠ r68 := Nat.ne_of_lt (Nat.lt_of_lt_of_le f66_E_r31.lt sq68)
  have ne68_b14 : b14 ≠ r68 := Nat.ne_of_lt (Nat.lt_of_lt_of_le P51_0.lt sq68)
  have sz_r68 : h0.size ≤ r68 := Nat.le_trans f54_K.1 sq68
  have f69_Z := Nat.le_trans f52_Z K68.1
  have f70_O := f53_O.keep K68 all0
  have f71_K := f54_K.trans K68 all0
  have f72_E_a := f55_E_a.keep K68
  have f73_F_a_doi := f56_F_a_doi.keep K68 nin0
  have f74_F_a_situation := f57_F_a_situation.keep K68 nin0
  have f75_E_a1 := f58_E_a1.keep K68
  have f76_F_a1_number := f59_F_a1_number.keep K68 nin0
  have f77_F_a1_protocol := f60_F_a1_protocol.keep K68 nin0
  have f78_A_a2 := f61_A_a2.keep K68 nin0
  have f79_E_b1 := f62_E_b1.keep K68
  have f80_F_b1_doi := f63_F_b1_doi.keep K68 nin0
  have f81_F_b1_situation := f64_F_b1_situation.keep K68 nin0
  have f82_F_b1_proposals := f65_F_b1_proposals.keep K68 nin0
  have f83_E_r31 := f66_E_r31.keep K68
  have f84_F_r31_e1 := f67_F_r31_e1.keep K68 nin0
  have f85_E_b14 := P51_0.keep K68
  have f86_F_b14_number := P51_1.keep K68 nin0
  have f87_F_b14_protocol := P51_2.keep K68 nin0
  refine go st68 ?_
  show Go p e below _ (T68.setTop (mkF m 35 #[.val (.ref a), .val (.ref a1), .val (.ref a2), .val (.ref a3)] [(.ref r68), (.int ss), (.int dd), (.ref b1), (.ref b1)]))
  obtain ⟨_, _, ⟨T88, L88, k88, n88⟩, -, X88, ⟨Lc88, hQ88, l88, y88, z88⟩, st88⟩ := X68.specialBack hx (y := (⟨"org/keymoot/SecurityAssociation", "<init>", "(IILjava/util/List;)V"⟩ : MethodName)) rfl hown (mvT hZ (hw _ (List.mem_of_getElem? (i := 179) rfl))) (mvT hZ (hw _ (List.mem_of_getElem? (i := 30) rfl))) (mvT hZ (hw _ (List.mem_of_getElem? (i := 31) rfl))) (by decide) (backOf (W := 1) (rm_saB l Z a0 hw [] b1 dd ss r68 dc el em ea T68.heap n0 f69_Z f79_E_b1 n0_b1 f80_F_b1_doi f81_F_b1_situation f82_F_b1_proposals E68_ P68_0 (Ne.symm ne68_b1) HS f70_O) hZ (hw _ (List.mem_of_getElem? (i := 31) rfl)) (hw _ (List.mem_of_getElem? (i := 2) rfl)) (by decide) (by decide)) (g := (mkF m 35 #[.val (.ref a), .val (.ref a1), .val (.ref a2), .val (.ref a3)] [(.ref r68), (.int ss), (.int dd), (.ref b1), (.ref b1)])) rfl (by rw [hml]; rfl) (Steps.refl _) (a := b1) (argsL := [(.int dd), (.int ss), (.ref r68)]) (rest := [(.ref b1)]) (lenOf pd_9 rfl) rfl (by show 2 * 0 + _ ≤ _; exact Nat.le_of_eq rfl) (hb hby d15_35) (fun _ _ => ⟨rfl, rfl, (by decide : 4 + 0 ≤ _), (by decide : 11 + 0 ≤ _)⟩)
  dsimp only [Pt.U, Pt.locs, Pt.cells, Pt.slots] at X88 l88 y88 z88 st88 hQ88
  rw [l88, y88, z88] at X88
  obtain ⟨rfl, N88q, K88, P88_0, P88_1, P88_2⟩ := hQ88
  have N88 := Fr.app N68 N88q
  have f89_Z := Nat.le_trans f69_Z K88.1
  have f90_O := f70_O.keep K88 (allS n0_b1 all0)
  have f91_K := f71_K.trans K88 (allS (Or.inr sz_b1) all0)
  have f92_E_a := f72_E_a.keep K88
  have f93_F_a_doi := f73_F_a_doi.keep K88 (ninS ne1_a_b1 nin0)
  have f94_F_a_situation := f74_F_a_situation.keep K88 (ninS ne1_a_b1 nin0)
  have f95_E_a1 := f75_E_a1.keep K88
  have f96_F_a1_number := f76_F_a1_number.keep K88 (ninS ne1_a1_b1 nin0)
  have f97_F_a1_protocol := f77_F_a1_protocol.keep K88 (ninS ne1_a1_b1 nin0)
  have f98_A_a2 := f78_A_a2.keep K88 (ninS ne1_a2_b1 nin0)
  have f99_E_r31 := f83_E_r31.keep K88
  have f100_F_r31_e1 := f84_F_r31_e1.keep K88 (ninS (Ne.symm ne31_b1) nin0)
  have f101_E_b14 := f85_E_b14.keep K88
  have f102_F_b14_number := f86_F_b14_number.keep K88 (ninS (Ne.symm ne14_b1_b14) nin0)
  have f103_F_b14_protocol := f87_F_b14_protocol.keep K88 (ninS (Ne.symm ne14_b1_b14) nin0)
  have f104_E_r68 := E68_.keep K88
  have f105_F_r68_e1 := P68_0.keep K88 (ninS (Ne.symm ne68_b1) nin0)
  refine go (fun t kt => st88.trans kt) ?_
  show Go p e below _ (T88.setTop (mkF m 38 #[.val (.ref a), .val (.ref a1), .val (.ref a2), .val (.ref a3)] [(.ref b1)]))
  refine goOut X88 (fun h => by rw [Bd.returns] at h; cases h) hlk (fun fs hr => retOut X88 hx Bd.returns rfl (Or.inr (Or.inr (Or.inr (Or.inr ⟨rfl, rfl, rfl⟩)))) (hb hby d15_38) hr) (by decide) (by decide) ?_
  exact ⟨b1, rfl, N88, f91_K, n0_b1, sz_b1, P88_0, P88_1, P88_2⟩
theorem d26_0 : decode jdk_49_method_1_code 0 = .ok (.aload_n 0, 1) := by decide +kernel
theorem d26_1 : decode jdk_49_method_1_code 1 = .ok (.aload_n 1, 1) := by decide +kernel
theorem d26_2 : decode jdk_49_method_1_code 2 = .ok (.putfield 1, 3) := by decide +kernel
theorem d26_5 : decode jdk_49_method_1_code 5 = .ok (.aload_n 0, 1) := by decide +kernel
theorem d26_6 : decode jdk_49_method_1_code 6 = .ok (.invokespecial 7, 3) := by decide +kernel
theorem d26_9 : decode jdk_49_method_1_code 9 = .ok (.aload_n 0, 1) := by decide +kernel
theorem d26_10 : decode jdk_49_method_1_code 10 = .ok (.iconst (-1), 1) := by decide +kernel
theorem d26_11 : decode jdk_49_method_1_code 11 = .ok (.putfield 13, 3) := by decide +kernel
theorem d26_14 : decode jdk_49_method_1_code 14 = .ok (.aload_n 0, 1) := by decide +kernel
theorem d26_15 : decode jdk_49_method_1_code 15 = .ok (.aload_n 0, 1) := by decide +kernel
theorem d26_16 : decode jdk_49_method_1_code 16 = .ok (.getfield 1, 3) := by decide +kernel
theorem d26_19 : decode jdk_49_method_1_code 19 = .ok (.getfield 17, 3) := by decide +kernel
theorem d26_22 : decode jdk_49_method_1_code 22 = .ok (.putfield 22, 3) := by decide +kernel
theorem d26_25 : decode jdk_49_method_1_code 25 = .ok (.return_, 1) := by decide +kernel
theorem pn_java_util_ArrayList_Itr : plainName "java/util/ArrayList$Itr" = true := by first | (simp [plainName, overriddenIn]; done) | decide +kernel
theorem ef_rm_ii (m : MethodId) (x0 : Addr) (x1 : Addr) : entryFrame m #[(.ref x0), (.ref x1)] 2 = mkF m 0 #[.val (.ref x0), .val (.ref x1)] [] := by first | (simp [entryFrame, mkF, argsToLocals, Value.category]; done) | rfl
def Q_ii (Z : State) (a a1 : Addr) (h0 : Heap) (n0 : Nat) (v : Option Value) (h : Heap) (L : List Loc) : Prop := v = none ∧ Fr n0 L ∧ Keep h0 h [a] ∧ Exa Z h a "java/util/ArrayList$Itr" ∧ Fld Z h a "java/util/ArrayList$Itr" "this$0" "Ljava/util/ArrayList;" (.ref a1) ∧ Fld Z h a "java/util/ArrayList$Itr" "cursor" "I" (.int (0 : Int32))
set_option maxRecDepth 65536 in
set_option maxHeartbeats 40000000 in
theorem rm_ii (l : Launch) (Z : State) (a0 : Array Value) (hw : ∀ d ∈ tables_1, d.before a0 Z = true) (ws : List Jvm.Cond) (a : Addr) (a1 : Addr)  (h0 : Heap) (n0 : Nat) (Z0 : n0 ≤ h0.size) (E_a : Exa Z h0 a "java/util/ArrayList$Itr") (g_a : n0 ≤ a) (F_this_0_a : Fld Z h0 a "java/util/ArrayList$Itr" "this$0" "Ljava/util/ArrayList;" .null) (F_lastRet_a : Fld Z h0 a "java/util/ArrayList$Itr" "lastRet" "I" (.int (0 : Int32))) (F_expectedModCount_a : Fld Z h0 a "java/util/ArrayList$Itr" "expectedModCount" "I" (.int (0 : Int32))) (F_cursor_a : Fld Z h0 a "java/util/ArrayList$Itr" "cursor" "I" (.int (0 : Int32))) (F_modCount_a1 : Fld Z h0 a1 "java/util/AbstractList" "modCount" "I" (.int (0 : Int32))) (ne_a1 : a1 ≠ a) :
    MetFree l (⟨"java/util/ArrayList$Itr", "<init>", "(Ljava/util/ArrayList;)V"⟩ : MethodName) (head1 (Jvm.Cond.code (⟨"java/util/ArrayList$Itr", "<init>", "(Ljava/util/ArrayList;)V"⟩ : MethodName) jdk_49_method_1_code 2 none :: ws) ({ frames := 1, cells := 0, slots := 0, locals := 12 } : Room)) (fun av' U => av' = #[(.ref a), (.ref a1)] ∧ Z.Warmed39 U.vm ∧ U.heap = h0) (fun _ _ _ _ _ => True) (fun _ U o U' => ∃ v L, o = .returned v ∧ Q_ii Z a a1 h0 n0 v U'.heap L ∧ FrameEnd U o U' L ({ frames := 1, cells := 0, slots := 0, locals := 12 } : Room).cells ({ frames := 1, cells := 0, slots := 0, locals := 12 } : Room).slots) := by
  refine MetFree.of_bodySF (plainFor_of_name pn_java_util_ArrayList_Itr) hisR ?_
  intro p e s m args below meth c s₁ Bd hml0 hP hK
  obtain ⟨rfl, hZ, hh⟩ := hP
  have hx := Bd.exec
  have hby := Bd.bytes
  have hlk := Bd.notSynchronized
  have hml : c.maxLocals = 2 := hml0
  have hown : s.vm.findClass "java/util/ArrayList$Itr" = some m.cls := findClass_of_methodNamed Bd.named
  have hnm := (name_of_methodNamed Bd.named Bd.method).1
  have X0 : Stand p l e ({ frames := 1, cells := 0, slots := 0, locals := 12 } : Room) s m #[(.ref a), (.ref a1)] below meth c s₁ [] 0 0 := Stand.of_body Bd
  have e0 : s₁.heap = h0 := by rw [← hh, Bd.state]; rfl
  have N0 := Fr.nil n0
  show Go p e below (Kq s (Q_ii Z a a1 h0 n0) ({ frames := 1, cells := 0, slots := 0, locals := 12 } : Room).cells ({ frames := 1, cells := 0, slots := 0, locals := 12 } : Room).slots) _
  refine go (fun t kt => castTop (ef_rm_ii m a a1) kt) ?_
  have K0 := Keep.refl h0 [a]
  show Go p e below _ (s₁.setTop (mkF m 0 #[.val (.ref a), .val (.ref a1)] []))
  refine go (fun t kt' => by refine XS.aloadN X0.here hx rfl (hb hby d26_0) rfl rfl ?_; exact kt') ?_
  show Go p e below _ (s₁.setTop (mkF m 1 #[.val (.ref a), .val (.ref a1)] [(.ref a)]))
  refine go (fun t kt' => by refine XS.aloadN X0.here hx rfl (hb hby d26_1) rfl rfl ?_; exact kt') ?_
  show Go p e below _ (s₁.setTop (mkF m 2 #[.val (.ref a), .val (.ref a1)] [(.ref a1), (.ref a)]))
  obtain ⟨T1, h1, X1, e1, W1, st1⟩ := putF X0 hx hZ hown (host := "") (Or.inl (hw _ (List.mem_of_getElem? (i := 201) rfl))) Via.refl e0 F_this_0_a E_a (Or.inr ⟨(hw _ (List.mem_of_getElem? (i := 202) rfl)), rfl, hnm⟩) (hw _ (List.mem_of_getElem? (i := 195) rfl)) (ty := (.object "java/util/ArrayList")) (by decide) rfl rfl (g := (mkF m 2 #[.val (.ref a), .val (.ref a1)] [(.ref a1), (.ref a)])) rfl rfl (hb hby d26_2)
  have N1 := Fr.snoc X1 N0 g_a
  have f2_Z := Nat.le_trans Z0 (Keep.of_wr W1).1
  have f3_K := K0.wr W1 (Or.inl (List.mem_of_getElem? (i := 0) rfl))
  have f4_E_a := E_a.wr W1
  have f5_F_a_this_0 := F_this_0_a.same W1
  have f6_F_a_lastRet := F_lastRet_a.other W1 (Or.inr (slot_ne (Or.inl (hw _ (List.mem_of_getElem? (i := 205) rfl))) (Or.inr (hw _ (List.mem_of_getElem? (i := 202) rfl))) (by decide) (t := .int) (t' := (.object "java/util/ArrayList")) (by decide) (by decide)))
  have f7_F_a_expectedModCount := F_expectedModCount_a.other W1 (Or.inr (slot_ne (Or.inl (hw _ (List.mem_of_getElem? (i := 209) rfl))) (Or.inr (hw _ (List.mem_of_getElem? (i := 202) rfl))) (by decide) (t := .int) (t' := (.object "java/util/ArrayList")) (by decide) (by decide)))
  have f8_F_a_cursor := F_cursor_a.other W1 (Or.inr (slot_ne (Or.inl (hw _ (List.mem_of_getElem? (i := 220) rfl))) (Or.inr (hw _ (List.mem_of_getElem? (i := 202) rfl))) (by decide) (t := .int) (t' := (.object "java/util/ArrayList")) (by decide) (by decide)))
  have f9_F_a1_modCount := F_modCount_a1.other W1 (Or.inl ne_a1)
  refine go st1 ?_
  show Go p e below _ (T1.setTop (mkF m 5 #[.val (.ref a), .val (.ref a1)] []))
  refine go (fun t kt' => by refine XS.aloadN X1.here hx rfl (hb hby d26_5) rfl rfl ?_; exact kt') ?_
  show Go p e below _ (T1.setTop (mkF m 6 #[.val (.ref a), .val (.ref a1)] [(.ref a)]))
  obtain ⟨T10, X10, e10, st10⟩ := initO X1 hx hZ hown (hw _ (List.mem_of_getElem? (i := 203) rfl)) (hw _ (List.mem_of_getElem? (i := 22) rfl)) (hw _ (List.mem_of_getElem? (i := 23) rfl)) e1 (g := (mkF m 6 #[.val (.ref a), .val (.ref a1)] [(.ref a)])) rfl (by rw [hml]; rfl) rfl (hb hby d26_6) (by decide) (W := 0) (by show 2 * 0 + _ ≤ _; exact Nat.le_of_eq rfl) (by decide)
  refine go st10 ?_
  show Go p e below _ (T10.setTop (mkF m 9 #[.val (.ref a), .val (.ref a1)] []))
  refine go (fun t kt' => by refine XS.aloadN X10.here hx rfl (hb hby d26_9) rfl rfl ?_; exact kt') ?_
  show Go p e below _ (T10.setTop (mkF m 10 #[.val (.ref a), .val (.ref a1)] [(.ref a)]))
  refine go (fun t kt' => by refine XS.iconst X10.here hx rfl (hb hby d26_10) ?_; exact kt') ?_
  show Go p e below _ (T10.setTop (mkF m 11 #[.val (.ref a), .val (.ref a1)] [(.int (-1 : Int32)), (.ref a)]))
  obtain ⟨T11, h11, X11, e11, W11, st11⟩ := putF X10 hx hZ hown (host := "") (Or.inl (hw _ (List.mem_of_getElem? (i := 204) rfl))) Via.refl e10 f6_F_a_lastRet f4_E_a (Or.inl (hw _ (List.mem_of_getElem? (i := 205) rfl))) (hw _ (List.mem_of_getElem? (i := 195) rfl)) (ty := .int) (by decide) rfl rfl (g := (mkF m 11 #[.val (.ref a), .val (.ref a1)] [(.int (-1 : Int32)), (.ref a)])) rfl rfl (hb hby d26_11)
  have N11 := Fr.snoc X11 N1 g_a
  have f12_Z := Nat.le_trans f2_Z (Keep.of_wr W11).1
  have f13_K := f3_K.wr W11 (Or.inl (List.mem_of_getElem? (i := 0) rfl))
  have f14_E_a := f4_E_a.wr W11
  have f15_F_a_this_0 := f5_F_a_this_0.other W11 (Or.inr (slot_ne (Or.inr (hw _ (List.mem_of_getElem? (i := 202) rfl))) (Or.inl (hw _ (List.mem_of_getElem? (i := 205) rfl))) (by decide) (t := (.object "java/util/ArrayList")) (t' := .int) (by decide) (by decide)))
  have f16_F_a_lastRet := f6_F_a_lastRet.same W11
  have f17_F_a_expectedModCount := f7_F_a_expectedModCount.other W11 (Or.inr (slot_ne (Or.inl (hw _ (List.mem_of_getElem? (i := 209) rfl))) (Or.inl (hw _ (List.mem_of_getElem? (i := 205) rfl))) (by decide) (t := .int) (t' := .int) (by decide) (by decide)))
  have f18_F_a_cursor := f8_F_a_cursor.other W11 (Or.inr (slot_ne (Or.inl (hw _ (List.mem_of_getElem? (i := 220) rfl))) (Or.inl (hw _ (List.mem_of_getElem? (i := 205) rfl))) (by decide) (t := .int) (t' := .int) (by decide) (by decide)))
  have f19_F_a1_modCount := f9_F_a1_modCount.other W11 (Or.inl ne_a1)
  refine go st11 ?_
  show Go p e below _ (T11.setTop (mkF m 14 #[.val (.ref a), .val (.ref a1)] []))
  refine go (fun t kt' => by refine XS.aloadN X11.here hx rfl (hb hby d26_14) rfl rfl ?_; exact kt') ?_
  show Go p e below _ (T11.setTop (mkF m 15 #[.val (.ref a), .val (.ref a1)] [(.ref a)]))
  refine go (fun t kt' => by refine XS.aloadN X11.here hx rfl (hb hby d26_15) rfl rfl ?_; exact kt') ?_
  show Go p e below _ (T11.setTop (mkF m 16 #[.val (.ref a), .val (.ref a1)] [(.ref a), (.ref a)]))
  obtain ⟨T20, X20, e20, st20⟩ := getF X11 hx hZ hown (host := "") (Or.inl (hw _ (List.mem_of_getElem? (i := 201) rfl))) Via.refl e11 f15_F_a_this_0 (g := (mkF m 16 #[.val (.ref a), .val (.ref a1)] [(.ref a), (.ref a)])) rfl rfl (hb hby d26_16)
  refine go st20 ?_
  show Go p e below _ (T20.setTop (mkF m 19 #[.val (.ref a), .val (.ref a1)] [(.ref a1), (.ref a)]))
  obtain ⟨T21, X21, e21, st21⟩ := getF X20 hx hZ hown (host := "") (Or.inl (hw _ (List.mem_of_getElem? (i := 206) rfl))) (Via.of (hw _ (List.mem_of_getElem? (i := 207) rfl))) e20 f19_F_a1_modCount (g := (mkF m 19 #[.val (.ref a), .val (.ref a1)] [(.ref a1), (.ref a)])) rfl rfl (hb hby d26_19)
  refine go st21 ?_
  show Go p e below _ (T21.setTop (mkF m 22 #[.val (.ref a), .val (.ref a1)] [(.int (0 : Int32)), (.ref a)]))
  obtain ⟨T22, h22, X22, e22, W22, st22⟩ := putF X21 hx hZ hown (host := "") (Or.inl (hw _ (List.mem_of_getElem? (i := 208) rfl))) Via.refl e21 f17_F_a_expectedModCount f14_E_a (Or.inl (hw _ (List.mem_of_getElem? (i := 209) rfl))) (hw _ (List.mem_of_getElem? (i := 195) rfl)) (ty := .int) (by decide) rfl rfl (g := (mkF m 22 #[.val (.ref a), .val (.ref a1)] [(.int (0 : Int32)), (.ref a)])) rfl rfl (hb hby d26_22)
  have N22 := Fr.snoc X22 N11 g_a
  have f23_Z := Nat.le_trans f12_Z (Keep.of_wr W22).1
  have f24_K := f13_K.wr W22 (Or.inl (List.mem_of_getElem? (i := 0) rfl))
  have f25_E_a := f14_E_a.wr W22
  have f26_F_a_this_0 := f15_F_a_this_0.other W22 (Or.inr (slot_ne (Or.inr (hw _ (List.mem_of_getElem? (i := 202) rfl))) (Or.inl (hw _ (List.mem_of_getElem? (i := 209) rfl))) (by decide) (t := (.object "java/util/ArrayList")) (t' := .int) (by decide) (by decide)))
  have f27_F_a_lastRet := f16_F_a_lastRet.other W22 (Or.inr (slot_ne (Or.inl (hw _ (List.mem_of_getElem? (i := 205) rfl))) (Or.inl (hw _ (List.mem_of_getElem? (i := 209) rfl))) (by decide) (t := .int) (t' := .int) (by decide) (by decide)))
  have f28_F_a_expectedModCount := f17_F_a_expectedModCount.same W22
  have f29_F_a_cursor := f18_F_a_cursor.other W22 (Or.inr (slot_ne (Or.inl (hw _ (List.mem_of_getElem? (i := 220) rfl))) (Or.inl (hw _ (List.mem_of_getElem? (i := 209) rfl))) (by decide) (t := .int) (t' := .int) (by decide) (by decide)))
  have f30_F_a1_modCount := f19_F_a1_modCount.other W22 (Or.inl ne_a1)
  refine go st22 ?_
  show Go p e below _ (T22.setTop (mkF m 25 #[.val (.ref a), .val (.ref a1)] []))
  refine goOut X22 (fun _ => rfl) hlk (fun fs hr => X22.returnOut hx Bd.returns (hb hby d26_25) hr) (by decide) (by decide) ?_
  rw [e22]
  exact ⟨rfl, N22, f24_K, f25_E_a, f26_F_a_this_0, f29_F_a_cursor⟩
theorem d25_0 : decode jdk_38_method_55_code 0 = .ok (.new 267, 3) := by decide +kernel
theorem d25_3 : decode jdk_38_method_55_code 3 = .ok (.dup, 1) := by decide +kernel
theorem d25_4 : decode jdk_38_method_55_code 4 = .ok (.aload_n 0, 1) := by decide +kernel
theorem d25_5 : decode jdk_38_method_55_code 5 = .ok (.invokespecial 269, 3) := by decide +kernel
theorem pd_10 : parseMethodDescriptor "(Ljava/util/ArrayList;)V" = some ⟨[(.object "java/util/ArrayList")], none⟩ := by decide +kernel
theorem d25_8 : decode jdk_38_method_55_code 8 = .ok (.areturn, 1) := by decide +kernel
theorem ef_rm_it (m : MethodId) (x0 : Addr) : entryFrame m #[(.ref x0)] 1 = mkF m 0 #[.val (.ref x0)] [] := by first | (simp [entryFrame, mkF, argsToLocals, Value.category]; done) | rfl
def Q_it (Z : State) (a : Addr) (h0 : Heap) (n0 : Nat) (v : Option Value) (h : Heap) (L : List Loc) : Prop := ∃ b : Addr, v = some (.ref b) ∧ Fr n0 L ∧ Keep h0 h [] ∧ n0 ≤ b ∧ h0.size ≤ b ∧ Exa Z h b "java/util/ArrayList$Itr" ∧ Fld Z h b "java/util/ArrayList$Itr" "this$0" "Ljava/util/ArrayList;" (.ref a) ∧ Fld Z h b "java/util/ArrayList$Itr" "cursor" "I" (.int (0 : Int32))
set_option maxRecDepth 65536 in
set_option maxHeartbeats 40000000 in
theorem rm_it (l : Launch) (Z : State) (a0 : Array Value) (hw : ∀ d ∈ tables_1, d.before a0 Z = true) (ws : List Jvm.Cond) (a : Addr)  (h0 : Heap) (n0 : Nat) (Z0 : n0 ≤ h0.size) (E_a : Exa Z h0 a "java/util/ArrayList") (F_modCount_a : Fld Z h0 a "java/util/AbstractList" "modCount" "I" (.int (0 : Int32))) :
    MetFree l (⟨"java/util/ArrayList", "iterator", "()Ljava/util/Iterator;"⟩ : MethodName) (head1 (Jvm.Cond.code (⟨"java/util/ArrayList", "iterator", "()Ljava/util/Iterator;"⟩ : MethodName) jdk_38_method_55_code 1 (some (.object "java/util/Iterator")) :: ws) ({ frames := 2, cells := 1, slots := 4, locals := 26 } : Room)) (fun av' U => av' = #[(.ref a)] ∧ Z.Warmed39 U.vm ∧ U.heap = h0) (fun _ _ _ _ _ => True) (fun _ U o U' => ∃ v L, o = .returned v ∧ Q_it Z a h0 n0 v U'.heap L ∧ FrameEnd U o U' L ({ frames := 2, cells := 1, slots := 4, locals := 26 } : Room).cells ({ frames := 2, cells := 1, slots := 4, locals := 26 } : Room).slots) := by
  refine MetFree.of_bodySF (plainFor_of_name pn_java_util_ArrayList) hisR ?_
  intro p e s m args below meth c s₁ Bd hml0 hP hK
  obtain ⟨rfl, hZ, hh⟩ := hP
  have hx := Bd.exec
  have hby := Bd.bytes
  have hlk := Bd.notSynchronized
  have hml : c.maxLocals = 1 := hml0
  have hown : s.vm.findClass "java/util/ArrayList" = some m.cls := findClass_of_methodNamed Bd.named
  have hnm := (name_of_methodNamed Bd.named Bd.method).1
  have X0 : Stand p l e ({ frames := 2, cells := 1, slots := 4, locals := 26 } : Room) s m #[(.ref a)] below meth c s₁ [] 0 0 := Stand.of_body Bd
  have e0 : s₁.heap = h0 := by rw [← hh, Bd.state]; rfl
  have N0 := Fr.nil n0
  show Go p e below (Kq s (Q_it Z a h0 n0) ({ frames := 2, cells := 1, slots := 4, locals := 26 } : Room).cells ({ frames := 2, cells := 1, slots := 4, locals := 26 } : Room).slots) _
  refine go (fun t kt => castTop (ef_rm_it m a) kt) ?_
  have K0 := Keep.refl h0 []
  show Go p e below _ (s₁.setTop (mkF m 0 #[.val (.ref a)] []))
  obtain ⟨T1, h1, X1, e1, E1, A1, D1, -, st1⟩ := newO X0 hx hZ hown (hw _ (List.mem_of_getElem? (i := 194) rfl)) (hw _ (List.mem_of_getElem? (i := 195) rfl)) (hw _ (List.mem_of_getElem? (i := 196) rfl)) e0 (g := (mkF m 0 #[.val (.ref a)] [])) rfl (hb hby d25_0) (by decide) (by decide)
  obtain ⟨b1, g1⟩ : ∃ z, z = h0.size := ⟨_, rfl⟩
  have n0_b1 : n0 ≤ b1 := Nat.le_trans Z0 (Nat.le_of_eq g1.symm)
  have sz_b1 : h0.size ≤ b1 := Nat.le_trans K0.1 (Nat.le_of_eq g1.symm)
  have ne1_a_b1 : a ≠ b1 := Nat.ne_of_lt (Nat.lt_of_lt_of_le E_a.lt (Nat.le_of_eq g1.symm))
  rw [← g1] at A1 D1 st1
  have f2_Z := Nat.le_trans Z0 E1.1
  have f3_K := K0.ext E1
  have f4_E_a := E_a.ext E1
  have f5_F_a_modCount := F_modCount_a.ext E1
  have F1_this_0 : Fld Z h1 b1 "java/util/ArrayList$Itr" "this$0" "Ljava/util/ArrayList;" .null := D1 (Or.inr (hw _ (List.mem_of_getElem? (i := 202) rfl))) (ty := (.object "java/util/ArrayList")) (by decide)
  have F1_lastRet : Fld Z h1 b1 "java/util/ArrayList$Itr" "lastRet" "I" (.int (0 : Int32)) := D1 (Or.inl (hw _ (List.mem_of_getElem? (i := 205) rfl))) (ty := .int) (by decide)
  have F1_expectedModCount : Fld Z h1 b1 "java/util/ArrayList$Itr" "expectedModCount" "I" (.int (0 : Int32)) := D1 (Or.inl (hw _ (List.mem_of_getElem? (i := 209) rfl))) (ty := .int) (by decide)
  have F1_cursor : Fld Z h1 b1 "java/util/ArrayList$Itr" "cursor" "I" (.int (0 : Int32)) := D1 (Or.inl (hw _ (List.mem_of_getElem? (i := 220) rfl))) (ty := .int) (by decide)
  refine go st1 ?_
  show Go p e below _ (T1.setTop (mkF m 3 #[.val (.ref a)] [(.ref b1)]))
  refine go (fun t kt' => by refine XS.dup X1.here hx rfl (hb hby d25_3) rfl rfl ?_; exact kt') ?_
  show Go p e below _ (T1.setTop (mkF m 4 #[.val (.ref a)] [(.ref b1), (.ref b1)]))
  refine go (fun t kt' => by refine XS.aloadN X1.here hx rfl (hb hby d25_4) rfl rfl ?_; exact kt') ?_
  show Go p e below _ (T1.setTop (mkF m 5 #[.val (.ref a)] [(.ref a), (.ref b1), (.ref b1)]))
  obtain ⟨_, _, ⟨T6, L6, k6, n6⟩, -, X6, ⟨Lc6, hQ6, l6, y6, z6⟩, st6⟩ := X1.specialBack hx (y := (⟨"java/util/ArrayList$Itr", "<init>", "(Ljava/util/ArrayList;)V"⟩ : MethodName)) rfl hown (mvT hZ (hw _ (List.mem_of_getElem? (i := 197) rfl))) (mvT hZ (hw _ (List.mem_of_getElem? (i := 198) rfl))) (mvT hZ (hw _ (List.mem_of_getElem? (i := 200) rfl))) (by decide) (backOf (W := 1) (rm_ii l Z a0 hw [] b1 a h1 n0 f2_Z A1 n0_b1 F1_this_0 F1_lastRet F1_expectedModCount F1_cursor f5_F_a_modCount ne1_a_b1) hZ (hw _ (List.mem_of_getElem? (i := 200) rfl)) (hw _ (List.mem_of_getElem? (i := 196) rfl)) (by decide) (by decide)) (g := (mkF m 5 #[.val (.ref a)] [(.ref a), (.ref b1), (.ref b1)])) rfl (by rw [hml]; rfl) (Steps.refl _) (a := b1) (argsL := [(.ref a)]) (rest := [(.ref b1)]) (lenOf pd_10 rfl) rfl (by show 2 * 0 + _ ≤ _; exact Nat.le_of_eq rfl) (hb hby d25_5) (fun _ _ => ⟨rfl, e1, (by decide : 1 + 0 ≤ _), (by decide : 4 + 0 ≤ _)⟩)
  dsimp only [Pt.U, Pt.locs, Pt.cells, Pt.slots] at X6 l6 y6 z6 st6 hQ6
  rw [l6, y6, z6] at X6
  obtain ⟨rfl, N6q, K6, P6_0, P6_1, P6_2⟩ := hQ6
  have N6 := Fr.app N0 N6q
  have f7_Z := Nat.le_trans f2_Z K6.1
  have f8_K := f3_K.trans K6 (allS (Or.inr sz_b1) all0)
  have f9_E_a := f4_E_a.keep K6
  have f10_F_a_modCount := f5_F_a_modCount.keep K6 (ninS ne1_a_b1 nin0)
  refine go (fun t kt => st6.trans kt) ?_
  show Go p e below _ (T6.setTop (mkF m 8 #[.val (.ref a)] [(.ref b1)]))
  refine goOut X6 (fun h => by rw [Bd.returns] at h; cases h) hlk (fun fs hr => retOut X6 hx Bd.returns rfl (Or.inr (Or.inr (Or.inr (Or.inr ⟨rfl, rfl, rfl⟩)))) (hb hby d25_8) hr) (by decide) (by decide) ?_
  exact ⟨b1, rfl, N6, f8_K, n0_b1, sz_b1, P6_0, P6_1, P6_2⟩
theorem d27_0 : decode jdk_49_method_2_code 0 = .ok (.aload_n 0, 1) := by decide +kernel
theorem d27_1 : decode jdk_49_method_2_code 1 = .ok (.getfield 25, 3) := by decide +kernel
theorem d27_4 : decode jdk_49_method_2_code 4 = .ok (.aload_n 0, 1) := by decide +kernel
theorem d27_5 : decode jdk_49_method_2_code 5 = .ok (.getfield 1, 3) := by decide +kernel
theorem d27_8 : decode jdk_49_method_2_code 8 = .ok (.getfield 28, 3) := by decide +kernel
theorem d27_11 : decode jdk_49_method_2_code 11 = .ok (.if_icmp .eq 7, 3) := by decide +kernel
theorem d27_18 : decode jdk_49_method_2_code 18 = .ok (.iconst 0, 1) := by decide +kernel
theorem d27_19 : decode jdk_49_method_2_code 19 = .ok (.ireturn, 1) := by decide +kernel
theorem ef_rm_hn (m : MethodId) (x0 : Addr) : entryFrame m #[(.ref x0)] 1 = mkF m 0 #[.val (.ref x0)] [] := by first | (simp [entryFrame, mkF, argsToLocals, Value.category]; done) | rfl
def Q_hn (Z : State)  (h0 : Heap) (n0 : Nat) (v : Option Value) (h : Heap) (L : List Loc) : Prop := v = some (.int (0 : Int32)) ∧ Fr n0 L ∧ h = h0
set_option maxRecDepth 65536 in
set_option maxHeartbeats 40000000 in
theorem rm_hn (l : Launch) (Z : State) (a0 : Array Value) (hw : ∀ d ∈ tables_1, d.before a0 Z = true) (ws : List Jvm.Cond) (a : Addr) (a1 : Addr) (h0 : Heap) (n0 : Nat) (Z0 : n0 ≤ h0.size) (E_a : Exa Z h0 a "java/util/ArrayList$Itr") (F_this_0_a : Fld Z h0 a "java/util/ArrayList$Itr" "this$0" "Ljava/util/ArrayList;" (.ref a1)) (F_cursor_a : Fld Z h0 a "java/util/ArrayList$Itr" "cursor" "I" (.int (0 : Int32))) (F_size_a1 : Fld Z h0 a1 "java/util/ArrayList" "size" "I" (.int (0 : Int32))) :
    MetFree l (⟨"java/util/ArrayList$Itr", "hasNext", "()Z"⟩ : MethodName) (head1 (Jvm.Cond.code (⟨"java/util/ArrayList$Itr", "hasNext", "()Z"⟩ : MethodName) jdk_49_method_2_code 1 (some .boolean) :: ws) ({ frames := 0, cells := 0, slots := 0, locals := 0 } : Room)) (fun av' U => av' = #[(.ref a)] ∧ Z.Warmed39 U.vm ∧ U.heap = h0) (fun _ _ _ _ _ => True) (fun _ U o U' => ∃ v L, o = .returned v ∧ Q_hn Z  h0 n0 v U'.heap L ∧ FrameEnd U o U' L ({ frames := 0, cells := 0, slots := 0, locals := 0 } : Room).cells ({ frames := 0, cells := 0, slots := 0, locals := 0 } : Room).slots) := by
  refine MetFree.of_bodySF (plainFor_of_name pn_java_util_ArrayList_Itr) hisR ?_
  intro p e s m args below meth c s₁ Bd hml0 hP hK
  obtain ⟨rfl, hZ, hh⟩ := hP
  have hx := Bd.exec
  have hby := Bd.bytes
  have hlk := Bd.notSynchronized
  have hml : c.maxLocals = 1 := hml0
  have hown : s.vm.findClass "java/util/ArrayList$Itr" = some m.cls := findClass_of_methodNamed Bd.named
  have hnm := (name_of_methodNamed Bd.named Bd.method).1
  have X0 : Stand p l e ({ frames := 0, cells := 0, slots := 0, locals := 0 } : Room) s m #[(.ref a)] below meth c s₁ [] 0 0 := Stand.of_body Bd
  have e0 : s₁.heap = h0 := by rw [← hh, Bd.state]; rfl
  have N0 := Fr.nil n0
  show Go p e below (Kq s (Q_hn Z  h0 n0) ({ frames := 0, cells := 0, slots := 0, locals := 0 } : Room).cells ({ frames := 0, cells := 0, slots := 0, locals := 0 } : Room).slots) _
  refine go (fun t kt => castTop (ef_rm_hn m a) kt) ?_
  show Go p e below _ (s₁.setTop (mkF m 0 #[.val (.ref a)] []))
  refine go (fun t kt' => by refine XS.aloadN X0.here hx rfl (hb hby d27_0) rfl rfl ?_; exact kt') ?_
  show Go p e below _ (s₁.setTop (mkF m 1 #[.val (.ref a)] [(.ref a)]))
  obtain ⟨T1, X1, e1, st1⟩ := getF X0 hx hZ hown (host := "") (Or.inl (hw _ (List.mem_of_getElem? (i := 219) rfl))) Via.refl e0 F_cursor_a (g := (mkF m 1 #[.val (.ref a)] [(.ref a)])) rfl rfl (hb hby d27_1)
  refine go st1 ?_
  show Go p e below _ (T1.setTop (mkF m 4 #[.val (.ref a)] [(.int (0 : Int32))]))
  refine go (fun t kt' => by refine XS.aloadN X1.here hx rfl (hb hby d27_4) rfl rfl ?_; exact kt') ?_
  show Go p e below _ (T1.setTop (mkF m 5 #[.val (.ref a)] [(.ref a), (.int (0 : Int32))]))
  obtain ⟨T2, X2, e2, st2⟩ := getF X1 hx hZ hown (host := "") (Or.inl (hw _ (List.mem_of_getElem? (i := 201) rfl))) Via.refl e1 F_this_0_a (g := (mkF m 5 #[.val (.ref a)] [(.ref a), (.int (0 : Int32))])) rfl rfl (hb hby d27_5)
  refine go st2 ?_
  show Go p e below _ (T2.setTop (mkF m 8 #[.val (.ref a)] [(.ref a1), (.int (0 : Int32))]))
  obtain ⟨T3, X3, e3, st3⟩ := getF X2 hx hZ hown (Or.inr (hw _ (List.mem_of_getElem? (i := 221) rfl))) Via.refl e2 F_size_a1 (g := (mkF m 8 #[.val (.ref a)] [(.ref a1), (.int (0 : Int32))])) rfl rfl (hb hby d27_8)
  refine go st3 ?_
  show Go p e below _ (T3.setTop (mkF m 11 #[.val (.ref a)] [(.int (0 : Int32)), (.int (0 : Int32))]))
  have c11_4 : (0 : Int32) = (0 : Int32) := by decide
  refine go (fun t kt' => by refine XS.icmpYes X3.here hx rfl (pc0 := 11) (pc' := 18) rfl (hb hby d27_11) rfl (teq c11_4).1 (by decide) (by decide) ?_; exact kt') ?_
  show Go p e below _ (T3.setTop (mkF m 18 #[.val (.ref a)] []))
  refine go (fun t kt' => by refine XS.iconst X3.here hx rfl (hb hby d27_18) ?_; exact kt') ?_
  show Go p e below _ (T3.setTop (mkF m 19 #[.val (.ref a)] [(.int (0 : Int32))]))
  refine goOut X3 (fun h => by rw [Bd.returns] at h; cases h) hlk (fun fs hr => retN X3 hx (t := .boolean) Bd.returns (by simp) (hb hby d27_19) hr) (by decide) (by decide) ?_
  rw [e3]
  exact ⟨rfl, N0, rfl⟩
theorem d24_0 : decode prog_74_method_2_code 0 = .ok (.new 26, 3) := by decide +kernel
theorem d24_3 : decode prog_74_method_2_code 3 = .ok (.dup, 1) := by decide +kernel
theorem d24_4 : decode prog_74_method_2_code 4 = .ok (.invokespecial 28, 3) := by decide +kernel
theorem d24_7 : decode prog_74_method_2_code 7 = .ok (.astore 4, 2) := by decide +kernel
theorem d24_9 : decode prog_74_method_2_code 9 = .ok (.aload_n 2, 1) := by decide +kernel
theorem d24_10 : decode prog_74_method_2_code 10 = .ok (.invokeinterface 29 1, 5) := by decide +kernel
theorem pd_11 : parseMethodDescriptor "()Ljava/util/Iterator;" = some ⟨[], some (.object "java/util/Iterator")⟩ := by decide +kernel
theorem d24_15 : decode prog_74_method_2_code 15 = .ok (.astore 5, 2) := by decide +kernel
theorem d24_17 : decode prog_74_method_2_code 17 = .ok (.aload 5, 2) := by decide +kernel
theorem d24_19 : decode prog_74_method_2_code 19 = .ok (.invokeinterface 33 1, 5) := by decide +kernel
theorem d24_24 : decode prog_74_method_2_code 24 = .ok (.ifCond .eq 43, 3) := by decide +kernel
theorem d24_67 : decode prog_74_method_2_code 67 = .ok (.new 14, 3) := by decide +kernel
theorem d24_70 : decode prog_74_method_2_code 70 = .ok (.dup, 1) := by decide +kernel
theorem d24_71 : decode prog_74_method_2_code 71 = .ok (.iconst 1, 1) := by decide +kernel
theorem d24_72 : decode prog_74_method_2_code 72 = .ok (.iconst 1, 1) := by decide +kernel
theorem d24_73 : decode prog_74_method_2_code 73 = .ok (.new 57, 3) := by decide +kernel
theorem d24_76 : decode prog_74_method_2_code 76 = .ok (.dup, 1) := by decide +kernel
theorem d24_77 : decode prog_74_method_2_code 77 = .ok (.iconst 1, 1) := by decide +kernel
theorem d24_78 : decode prog_74_method_2_code 78 = .ok (.iload_n 0, 1) := by decide +kernel
theorem d24_79 : decode prog_74_method_2_code 79 = .ok (.aload_n 1, 1) := by decide +kernel
theorem d24_80 : decode prog_74_method_2_code 80 = .ok (.aload 4, 2) := by decide +kernel
theorem d24_82 : decode prog_74_method_2_code 82 = .ok (.invokespecial 59, 3) := by decide +kernel
theorem d24_85 : decode prog_74_method_2_code 85 = .ok (.invokestatic 62, 3) := by decide +kernel
theorem d24_88 : decode prog_74_method_2_code 88 = .ok (.invokespecial 66, 3) := by decide +kernel
theorem d24_91 : decode prog_74_method_2_code 91 = .ok (.areturn, 1) := by decide +kernel
theorem ef_rm_of (m : MethodId) (x0 : Int32) (x1 : Addr) (x2 : Addr) (x3 : Int32) : entryFrame m #[(.int x0), (.ref x1), (.ref x2), (.int x3)] 7 = mkF m 0 #[.val (.int x0), .val (.ref x1), .val (.ref x2), .val (.int x3), .unset, .unset, .unset] [] := by first | (simp [entryFrame, mkF, argsToLocals, Value.category]; done) | rfl
def Q_of (Z : State)  (h0 : Heap) (n0 : Nat) (v : Option Value) (h : Heap) (L : List Loc) : Prop := ∃ b : Addr, v = some (.ref b) ∧ Fr n0 L ∧ Keep h0 h [] ∧ n0 ≤ b ∧ h0.size ≤ b ∧ Exa Z h b "org/keymoot/SecurityAssociation" ∧ Fld Z h b "org/keymoot/SecurityAssociation" "doi" "I" (.int (1 : Int32)) ∧ Fld Z h b "org/keymoot/SecurityAssociation" "situation" "I" (.int (1 : Int32))
set_option maxRecDepth 65536 in
set_option maxHeartbeats 40000000 in
theorem rm_of (l : Launch) (Z : State) (a0 : Array Value) (hw : ∀ d ∈ tables_1, d.before a0 Z = true) (ws : List Jvm.Cond) (p0 : Int32) (a1 : Addr) (a2 : Addr) (p3 : Int32) (dc el em ea : Addr) (N : Nat) (fv : Nat → Int32) (h0 : Heap) (n0 : Nat) (Z0 : n0 ≤ h0.size) (E_a2 : Exa Z h0 a2 "java/util/ArrayList") (F_modCount_a2 : Fld Z h0 a2 "java/util/AbstractList" "modCount" "I" (.int (0 : Int32))) (F_size_a2 : Fld Z h0 a2 "java/util/ArrayList" "size" "I" (.int (0 : Int32))) (V_a1 : IA Z h0 a1 .byte N fv) (hN : N ≤ 4) (HS : own_sets Z dc el em ea) (OO : Old Z n0 h0) :
    MetFree l (⟨"org/keymoot/SecurityAssociation", "offer", "(I[BLjava/util/List;I)Lorg/keymoot/SecurityAssociation;"⟩ : MethodName) (head1 (Jvm.Cond.code (⟨"org/keymoot/SecurityAssociation", "offer", "(I[BLjava/util/List;I)Lorg/keymoot/SecurityAssociation;"⟩ : MethodName) prog_74_method_2_code 7 (some (.object "org/keymoot/SecurityAssociation")) :: ws) ({ frames := 6, cells := 5, slots := 16, locals := 78 } : Room)) (fun av' U => av' = #[(.int p0), (.ref a1), (.ref a2), (.int p3)] ∧ Z.Warmed39 U.vm ∧ U.heap = h0) (fun _ _ _ _ _ => True) (fun _ U o U' => ∃ v L, o = .returned v ∧ Q_of Z  h0 n0 v U'.heap L ∧ FrameEnd U o U' L ({ frames := 6, cells := 5, slots := 16, locals := 78 } : Room).cells ({ frames := 6, cells := 5, slots := 16, locals := 78 } : Room).slots) := by
  refine MetFree.of_bodySF (plainFor_of_name pn_org_keymoot_SecurityAssociation) hisR ?_
  intro p e s m args below meth c s₁ Bd hml0 hP hK
  obtain ⟨rfl, hZ, hh⟩ := hP
  have hx := Bd.exec
  have hby := Bd.bytes
  have hlk := Bd.notSynchronized
  have hml : c.maxLocals = 7 := hml0
  have hown : s.vm.findClass "org/keymoot/SecurityAssociation" = some m.cls := findClass_of_methodNamed Bd.named
  have hnm := (name_of_methodNamed Bd.named Bd.method).1
  have X0 : Stand p l e ({ frames := 6, cells := 5, slots := 16, locals := 78 } : Room) s m #[(.int p0), (.ref a1), (.ref a2), (.int p3)] below meth c s₁ [] 0 0 := Stand.of_body Bd
  have e0 : s₁.heap = h0 := by rw [← hh, Bd.state]; rfl
  have N0 := Fr.nil n0
  show Go p e below (Kq s (Q_of Z  h0 n0) ({ frames := 6, cells := 5, slots := 16, locals := 78 } : Room).cells ({ frames := 6, cells := 5, slots := 16, locals := 78 } : Room).slots) _
  refine go (fun t kt => castTop (ef_rm_of m p0 a1 a2 p3) kt) ?_
  have HS0 := HS
  obtain ⟨S_dc, S_el, S_em, E_el, F_el, cE, A_el, Z_el⟩ := HS0
  have K0 := Keep.refl h0 []
  show Go p e below _ (s₁.setTop (mkF m 0 #[.val (.int p0), .val (.ref a1), .val (.ref a2), .val (.int p3), .unset, .unset, .unset] []))
  obtain ⟨T1, h1, X1, e1, E1, A1, D1, -, st1⟩ := newO X0 hx hZ hown (hw _ (List.mem_of_getElem? (i := 183) rfl)) (hw _ (List.mem_of_getElem? (i := 4) rfl)) (hw _ (List.mem_of_getElem? (i := 5) rfl)) e0 (g := (mkF m 0 #[.val (.int p0), .val (.ref a1), .val (.ref a2), .val (.int p3), .unset, .unset, .unset] [])) rfl (hb hby d24_0) (by decide) (by decide)
  obtain ⟨b1, g1⟩ : ∃ z, z = h0.size := ⟨_, rfl⟩
  have n0_b1 : n0 ≤ b1 := Nat.le_trans Z0 (Nat.le_of_eq g1.symm)
  have sz_b1 : h0.size ≤ b1 := Nat.le_trans K0.1 (Nat.le_of_eq g1.symm)
  have ne1_a2_b1 : a2 ≠ b1 := Nat.ne_of_lt (Nat.lt_of_lt_of_le E_a2.lt (Nat.le_of_eq g1.symm))
  have ne1_a1_b1 : a1 ≠ b1 := Nat.ne_of_lt (Nat.lt_of_lt_of_le V_a1.lt (Nat.le_of_eq g1.symm))
  rw [← g1] at A1 D1 st1
  have f2_Z := Nat.le_trans Z0 E1.1
  have f3_O := OO.ext E1
  have f4_K := K0.ext E1
  have f5_E_a2 := E_a2.ext E1
  have f6_F_a2_modCount := F_modCount_a2.ext E1
  have f7_F_a2_size := F_size_a2.ext E1
  have f8_A_a1 := V_a1.ext E1
  have F1_modCount : Fld Z h1 b1 "java/util/AbstractList" "modCount" "I" (.int (0 : Int32)) := D1 (Or.inl (hw _ (List.mem_of_getElem? (i := 25) rfl))) (ty := .int) (by decide)
  have F1_elementData : Fld Z h1 b1 "java/util/ArrayList" "elementData" "[Ljava/lang/Object;" .null := D1 (Or.inl (hw _ (List.mem_of_getElem? (i := 28) rfl))) (ty := (.array (.object "java/lang/Object"))) (by decide)
  have F1_size : Fld Z h1 b1 "java/util/ArrayList" "size" "I" (.int (0 : Int32)) := D1 (Or.inl (hw _ (List.mem_of_getElem? (i := 62) rfl))) (ty := .int) (by decide)
  refine go st1 ?_
  show Go p e below _ (T1.setTop (mkF m 3 #[.val (.int p0), .val (.ref a1), .val (.ref a2), .val (.int p3), .unset, .unset, .unset] [(.ref b1)]))
  refine go (fun t kt' => by refine XS.dup X1.here hx rfl (hb hby d24_3) rfl rfl ?_; exact kt') ?_
  show Go p e below _ (T1.setTop (mkF m 4 #[.val (.int p0), .val (.ref a1), .val (.ref a2), .val (.int p3), .unset, .unset, .unset] [(.ref b1), (.ref b1)]))
  obtain ⟨_, _, ⟨T9, L9, k9, n9⟩, -, X9, ⟨Lc9, hQ9, l9, y9, z9⟩, st9⟩ := X1.specialBack hx (y := (⟨"java/util/ArrayList", "<init>", "()V"⟩ : MethodName)) rfl hown (mvT hZ (hw _ (List.mem_of_getElem? (i := 184) rfl))) (mvT hZ (hw _ (List.mem_of_getElem? (i := 7) rfl))) (mvT hZ (hw _ (List.mem_of_getElem? (i := 8) rfl))) (by decide) (backOf (W := 1) (rm_al0 l Z a0 hw [] b1 dc el em ea  h1 n0 f2_Z A1 n0_b1 F1_modCount F1_elementData F1_size HS f3_O) hZ (hw _ (List.mem_of_getElem? (i := 8) rfl)) (hw _ (List.mem_of_getElem? (i := 5) rfl)) (by decide) (by decide)) (g := (mkF m 4 #[.val (.int p0), .val (.ref a1), .val (.ref a2), .val (.int p3), .unset, .unset, .unset] [(.ref b1), (.ref b1)])) rfl (by rw [hml]; rfl) (Steps.refl _) (a := b1) (argsL := []) (rest := [(.ref b1)]) (lenOf pd_0 rfl) rfl (by show 2 * 0 + _ ≤ _; exact Nat.le_of_eq rfl) (hb hby d24_4) (fun _ _ => ⟨rfl, e1, (by decide : 1 + 0 ≤ _), (by decide : 3 + 0 ≤ _)⟩)
  dsimp only [Pt.U, Pt.locs, Pt.cells, Pt.slots] at X9 l9 y9 z9 st9 hQ9
  rw [l9, y9, z9] at X9
  obtain ⟨rfl, N9q, K9, P9_0, P9_1, P9_2, P9_3⟩ := hQ9
  have N9 := Fr.app N0 N9q
  have f10_Z := Nat.le_trans f2_Z K9.1
  have f11_O := f3_O.keep K9 (allS n0_b1 all0)
  have f12_K := f4_K.trans K9 (allS (Or.inr sz_b1) all0)
  have f13_E_a2 := f5_E_a2.keep K9
  have f14_F_a2_modCount := f6_F_a2_modCount.keep K9 (ninS ne1_a2_b1 nin0)
  have f15_F_a2_size := f7_F_a2_size.keep K9 (ninS ne1_a2_b1 nin0)
  have f16_A_a1 := f8_A_a1.keep K9 (ninS ne1_a1_b1 nin0)
  refine go (fun t kt => st9.trans kt) ?_
  show Go p e below _ (T9.setTop (mkF m 7 #[.val (.int p0), .val (.ref a1), .val (.ref a2), .val (.int p3), .unset, .unset, .unset] [(.ref b1)]))
  refine go (fun t kt' => by refine XS.astore X9.here hx rfl (hb hby d24_7) rfl rfl (l' := #[.val (.int p0), .val (.ref a1), .val (.ref a2), .val (.int p3), .val (.ref b1), .unset, .unset]) rfl ?_; exact kt') ?_
  show Go p e below _ (T9.setTop (mkF m 9 #[.val (.int p0), .val (.ref a1), .val (.ref a2), .val (.int p3), .val (.ref b1), .unset, .unset] []))
  refine go (fun t kt' => by refine XS.aloadN X9.here hx rfl (hb hby d24_9) rfl rfl ?_; exact kt') ?_
  show Go p e below _ (T9.setTop (mkF m 10 #[.val (.int p0), .val (.ref a1), .val (.ref a2), .val (.int p3), .val (.ref b1), .unset, .unset] [(.ref a2)]))
  obtain ⟨cq17, kq17, q17a, q17b, q17c⟩ := isOf hZ rfl f13_E_a2
  obtain ⟨_, _, ⟨T17, L17, k17, n17⟩, -, X17, ⟨Lc17, hQ17, l17, y17, z17⟩, st17⟩ := X9.interfaceBack hx (xi := (⟨"java/util/List", "iterator", "()Ljava/util/Iterator;"⟩ : MethodName)) (y := (⟨"java/util/ArrayList", "iterator", "()Ljava/util/Iterator;"⟩ : MethodName)) hown (mvT hZ (hw _ (List.mem_of_getElem? (i := 185) rfl))) (mvT hZ (hw _ (List.mem_of_getElem? (i := 186) rfl))) (mvT hZ (hw _ (List.mem_of_getElem? (i := 187) rfl))) (mvT hZ (hw _ (List.mem_of_getElem? (i := 188) rfl))) (mvT hZ (hw _ (List.mem_of_getElem? (i := 189) rfl))) (mvT hZ (hw _ (List.mem_of_getElem? (i := 190) rfl))) (mvT hZ (hw _ (List.mem_of_getElem? (i := 191) rfl))) (mvT hZ (hw _ (List.mem_of_getElem? (i := 192) rfl))) (by decide) (backOf (W := 0) (rm_it l Z a0 hw [] a2 T9.heap n0 f10_Z f13_E_a2 f14_F_a2_modCount) hZ (hw _ (List.mem_of_getElem? (i := 193) rfl)) (hw _ (List.mem_of_getElem? (i := 5) rfl)) (by decide) (by decide)) q17a q17b q17c (g := (mkF m 10 #[.val (.int p0), .val (.ref a1), .val (.ref a2), .val (.int p3), .val (.ref b1), .unset, .unset] [(.ref a2)])) rfl (by rw [hml]; rfl) (Steps.refl _) (argsL := []) (rest := []) (lenOf pd_11 rfl) rfl (by show 2 * 0 + _ ≤ _; exact Nat.le_of_eq rfl) (hb hby d24_10) (fun _ _ => ⟨rfl, rfl, (by decide : 1 + 1 ≤ _), (by decide : 3 + 4 ≤ _)⟩)
  dsimp only [Pt.U, Pt.locs, Pt.cells, Pt.slots] at X17 l17 y17 z17 st17 hQ17
  rw [l17, y17, z17] at X17
  obtain ⟨r17, rfl, N17q, K17, n0_r17, sq17, E17_, P17_0, P17_1⟩ := hQ17
  have N17 := Fr.app N9 N17q
  have ne17_a2 : a2 ≠ r17 := Nat.ne_of_lt (Nat.lt_of_lt_of_le f13_E_a2.lt sq17)
  have ne17_a1 : a1 ≠ r17 := Nat.ne_of_lt (Nat.lt_of_lt_of_le f16_A_a1.lt sq17)
  have ne17_b1 : b1 ≠ r17 := Nat.ne_of_lt (Nat.lt_of_lt_of_le P9_0.lt sq17)
  have sz_r17 : h0.size ≤ r17 := Nat.le_trans f12_K.1 sq17
  have f18_Z := Nat.le_trans f10_Z K17.1
  have f19_O := f11_O.keep K17 all0
  have f20_K := f12_K.trans K17 all0
  have f21_E_a2 := f13_E_a2.keep K17
  have f22_F_a2_modCount := f14_F_a2_modCount.keep K17 nin0
  have f23_F_a2_size := f15_F_a2_size.keep K17 nin0
  have f24_A_a1 := f16_A_a1.keep K17 nin0
  have f25_E_b1 := P9_0.keep K17
  have f26_F_b1_modCount := P9_1.keep K17 nin0
  have f27_F_b1_elementData := P9_2.keep K17 nin0
  have f28_F_b1_size := P9_3.keep K17 nin0
  refine go (fun t kt => st17.trans kt) ?_
  show Go p e below _ (T17.setTop (mkF m 15 #[.val (.int p0), .val (.ref a1), .val (.ref a2), .val (.int p3), .val (.ref b1), .unset, .unset] [(.ref r17)]))
  refine go (fun t kt' => by refine XS.astore X17.here hx rfl (hb hby d24_15) rfl rfl (l' := #[.val (.int p0), .val (.ref a1), .val (.ref a2), .val (.int p3), .val (.ref b1), .val (.ref r17), .unset]) rfl ?_; exact kt') ?_
  show Go p e below _ (T17.setTop (mkF m 17 #[.val (.int p0), .val (.ref a1), .val (.ref a2), .val (.int p3), .val (.ref b1), .val (.ref r17), .unset] []))
  refine go (fun t kt' => by refine XS.aload X17.here hx rfl (hb hby d24_17) rfl rfl ?_; exact kt') ?_
  show Go p e below _ (T17.setTop (mkF m 19 #[.val (.int p0), .val (.ref a1), .val (.ref a2), .val (.int p3), .val (.ref b1), .val (.ref r17), .unset] [(.ref r17)]))
  obtain ⟨cq29, kq29, q29a, q29b, q29c⟩ := isOf hZ rfl E17_
  obtain ⟨_, _, ⟨T29, L29, k29, n29⟩, -, X29, ⟨Lc29, hQ29, l29, y29, z29⟩, st29⟩ := X17.interfaceBack hx (xi := (⟨"java/util/Iterator", "hasNext", "()Z"⟩ : MethodName)) (y := (⟨"java/util/ArrayList$Itr", "hasNext", "()Z"⟩ : MethodName)) hown (mvT hZ (hw _ (List.mem_of_getElem? (i := 210) rfl))) (mvT hZ (hw _ (List.mem_of_getElem? (i := 211) rfl))) (mvT hZ (hw _ (List.mem_of_getElem? (i := 212) rfl))) (mvT hZ (hw _ (List.mem_of_getElem? (i := 213) rfl))) (mvT hZ (hw _ (List.mem_of_getElem? (i := 214) rfl))) (mvT hZ (hw _ (List.mem_of_getElem? (i := 215) rfl))) (mvT hZ (hw _ (List.mem_of_getElem? (i := 216) rfl))) (mvT hZ (hw _ (List.mem_of_getElem? (i := 217) rfl))) (by decide) (backOf (W := 0) (rm_hn l Z a0 hw [] r17 a2 T17.heap n0 f18_Z E17_ P17_0 P17_1 f23_F_a2_size) hZ (hw _ (List.mem_of_getElem? (i := 218) rfl)) (hw _ (List.mem_of_getElem? (i := 196) rfl)) (by decide) (by decide)) q29a q29b q29c (g := (mkF m 19 #[.val (.int p0), .val (.ref a1), .val (.ref a2), .val (.int p3), .val (.ref b1), .val (.ref r17), .unset] [(.ref r17)])) rfl (by rw [hml]; rfl) (Steps.refl _) (argsL := []) (rest := []) (lenOf pd_1 rfl) rfl (by show 2 * 0 + _ ≤ _; exact Nat.le_of_eq rfl) (hb hby d24_19) (fun _ _ => ⟨rfl, rfl, (by decide : 2 + 0 ≤ _), (by decide : 7 + 0 ≤ _)⟩)
  dsimp only [Pt.U, Pt.locs, Pt.cells, Pt.slots] at X29 l29 y29 z29 st29 hQ29
  rw [l29, y29, z29] at X29
  obtain ⟨rfl, N29q, e29⟩ := hQ29
  have N29 := Fr.app N17 N29q
  refine go (fun t kt => st29.trans kt) ?_
  show Go p e below _ (T29.setTop (mkF m 24 #[.val (.int p0), .val (.ref a1), .val (.ref a2), .val (.int p3), .val (.ref b1), .val (.ref r17), .unset] [(.int (0 : Int32))]))
  have c24_30 : (0 : Int32) = (0 : Int32) := by decide
  refine go (fun t kt' => by refine XS.ifYes X29.here hx rfl (pc0 := 24) (pc' := 67) rfl (hb hby d24_24) rfl ((if0 _ _).trans (teq c24_30).1) (by decide) (by decide) ?_; exact kt') ?_
  show Go p e below _ (T29.setTop (mkF m 67 #[.val (.int p0), .val (.ref a1), .val (.ref a2), .val (.int p3), .val (.ref b1), .val (.ref r17), .unset] []))
  obtain ⟨T31, h31, X31, e31, E31, A31, D31, -, st31⟩ := newO X29 hx hZ hown (hw _ (List.mem_of_getElem? (i := 126) rfl)) (hw _ (List.mem_of_getElem? (i := 1) rfl)) (hw _ (List.mem_of_getElem? (i := 2) rfl)) e29 (g := (mkF m 67 #[.val (.int p0), .val (.ref a1), .val (.ref a2), .val (.int p3), .val (.ref b1), .val (.ref r17), .unset] [])) rfl (hb hby d24_67) (by decide) (by decide)
  obtain ⟨b31, g31⟩ : ∃ z, z = T17.heap.size := ⟨_, rfl⟩
  have n0_b31 : n0 ≤ b31 := Nat.le_trans f18_Z (Nat.le_of_eq g31.symm)
  have sz_b31 : h0.size ≤ b31 := Nat.le_trans f20_K.1 (Nat.le_of_eq g31.symm)
  have ne31_a2_b31 : a2 ≠ b31 := Nat.ne_of_lt (Nat.lt_of_lt_of_le f21_E_a2.lt (Nat.le_of_eq g31.symm))
  have ne31_a1_b31 : a1 ≠ b31 := Nat.ne_of_lt (Nat.lt_of_lt_of_le f24_A_a1.lt (Nat.le_of_eq g31.symm))
  have ne31_b1_b31 : b1 ≠ b31 := Nat.ne_of_lt (Nat.lt_of_lt_of_le f25_E_b1.lt (Nat.le_of_eq g31.symm))
  have ne31_r17_b31 : r17 ≠ b31 := Nat.ne_of_lt (Nat.lt_of_lt_of_le E17_.lt (Nat.le_of_eq g31.symm))
  rw [← g31] at A31 D31 st31
  have f32_Z := Nat.le_trans f18_Z E31.1
  have f33_O := f19_O.ext E31
  have f34_K := f20_K.ext E31
  have f35_E_a2 := f21_E_a2.ext E31
  have f36_F_a2_modCount := f22_F_a2_modCount.ext E31
  have f37_F_a2_size := f23_F_a2_size.ext E31
  have f38_A_a1 := f24_A_a1.ext E31
  have f39_E_b1 := f25_E_b1.ext E31
  have f40_F_b1_modCount := f26_F_b1_modCount.ext E31
  have f41_F_b1_elementData := f27_F_b1_elementData.ext E31
  have f42_F_b1_size := f28_F_b1_size.ext E31
  have f43_E_r17 := E17_.ext E31
  have f44_F_r17_this_0 := P17_0.ext E31
  have f45_F_r17_cursor := P17_1.ext E31
  have F31_doi : Fld Z h31 b31 "org/keymoot/SecurityAssociation" "doi" "I" (.int (0 : Int32)) := D31 (Or.inr (hw _ (List.mem_of_getElem? (i := 68) rfl))) (ty := .int) (by decide)
  have F31_situation : Fld Z h31 b31 "org/keymoot/SecurityAssociation" "situation" "I" (.int (0 : Int32)) := D31 (Or.inr (hw _ (List.mem_of_getElem? (i := 70) rfl))) (ty := .int) (by decide)
  have F31_proposals : Fld Z h31 b31 "org/keymoot/SecurityAssociation" "proposals" "Ljava/util/List;" .null := D31 (Or.inr (hw _ (List.mem_of_getElem? (i := 72) rfl))) (ty := (.object "java/util/List")) (by decide)
  refine go st31 ?_
  show Go p e below _ (T31.setTop (mkF m 70 #[.val (.int p0), .val (.ref a1), .val (.ref a2), .val (.int p3), .val (.ref b1), .val (.ref r17), .unset] [(.ref b31)]))
  refine go (fun t kt' => by refine XS.dup X31.here hx rfl (hb hby d24_70) rfl rfl ?_; exact kt') ?_
  show Go p e below _ (T31.setTop (mkF m 71 #[.val (.int p0), .val (.ref a1), .val (.ref a2), .val (.int p3), .val (.ref b1), .val (.ref r17), .unset] [(.ref b31), (.ref b31)]))
  refine go (fun t kt' => by refine XS.iconst X31.here hx rfl (hb hby d24_71) ?_; exact kt') ?_
  show Go p e below _ (T31.setTop (mkF m 72 #[.val (.int p0), .val (.ref a1), .val (.ref a2), .val (.int p3), .val (.ref b1), .val (.ref r17), .unset] [(.int (1 : Int32)), (.ref b31), (.ref b31)]))
  refine go (fun t kt' => by refine XS.iconst X31.here hx rfl (hb hby d24_72) ?_; exact kt') ?_
  show Go p e below _ (T31.setTop (mkF m 73 #[.val (.int p0), .val (.ref a1), .val (.ref a2), .val (.int p3), .val (.ref b1), .val (.ref r17), .unset] [(.int (1 : Int32)), (.int (1 : Int32)), (.ref b31), (.ref b31)]))
  obtain ⟨T46, h46, X46, e46, E46, A46, D46, -, st46⟩ := newO X31 hx hZ hown (hw _ (List.mem_of_getElem? (i := 127) rfl)) (hw _ (List.mem_of_getElem? (i := 79) rfl)) (hw _ (List.mem_of_getElem? (i := 80) rfl)) e31 (g := (mkF m 73 #[.val (.int p0), .val (.ref a1), .val (.ref a2), .val (.int p3), .val (.ref b1), .val (.ref r17), .unset] [(.int (1 : Int32)), (.int (1 : Int32)), (.ref b31), (.ref b31)])) rfl (hb hby d24_73) (by decide) (by decide)
  obtain ⟨b46, g46⟩ : ∃ z, z = h31.size := ⟨_, rfl⟩
  have n0_b46 : n0 ≤ b46 := Nat.le_trans f32_Z (Nat.le_of_eq g46.symm)
  have sz_b46 : h0.size ≤ b46 := Nat.le_trans f34_K.1 (Nat.le_of_eq g46.symm)
  have ne46_a2_b46 : a2 ≠ b46 := Nat.ne_of_lt (Nat.lt_of_lt_of_le f35_E_a2.lt (Nat.le_of_eq g46.symm))
  have ne46_a1_b46 : a1 ≠ b46 := Nat.ne_of_lt (Nat.lt_of_lt_of_le f38_A_a1.lt (Nat.le_of_eq g46.symm))
  have ne46_b1_b46 : b1 ≠ b46 := Nat.ne_of_lt (Nat.lt_of_lt_of_le f39_E_b1.lt (Nat.le_of_eq g46.symm))
  have ne46_r17_b46 : r17 ≠ b46 := Nat.ne_of_lt (Nat.lt_of_lt_of_le f43_E_r17.lt (Nat.le_of_eq g46.symm))
  have ne46_b31_b46 : b31 ≠ b46 := Nat.ne_of_lt (Nat.lt_of_lt_of_le A31.lt (Nat.le_of_eq g46.symm))
  rw [← g46] at A46 D46 st46
  have f47_Z := Nat.le_trans f32_Z E46.1
  have f48_O := f33_O.ext E46
  have f49_K := f34_K.ext E46
  have f50_E_a2 := f35_E_a2.ext E46
  have f51_F_a2_modCount := f36_F_a2_modCount.ext E46
  have f52_F_a2_size := f37_F_a2_size.ext E46
  have f53_A_a1 := f38_A_a1.ext E46
  have f54_E_b1 := f39_E_b1.ext E46
  have f55_F_b1_modCount := f40_F_b1_modCount.ext E46
  have f56_F_b1_elementData := f41_F_b1_elementData.ext E46
  have f57_F_b1_size := f42_F_b1_size.ext E46
  have f58_E_r17 := f43_E_r17.ext E46
  have f59_F_r17_this_0 := f44_F_r17_this_0.ext E46
  have f60_F_r17_cursor := f45_F_r17_cursor.ext E46
  have f61_E_b31 := A31.ext E46
  have f62_F_b31_doi := F31_doi.ext E46
  have f63_F_b31_situation := F31_situation.ext E46
  have f64_F_b31_proposals := F31_proposals.ext E46
  have F46_number : Fld Z h46 b46 "org/keymoot/Proposal" "number" "I" (.int (0 : Int32)) := D46 (Or.inr (hw _ (List.mem_of_getElem? (i := 100) rfl))) (ty := .int) (by decide)
  have F46_protocol : Fld Z h46 b46 "org/keymoot/Proposal" "protocol" "I" (.int (0 : Int32)) := D46 (Or.inr (hw _ (List.mem_of_getElem? (i := 102) rfl))) (ty := .int) (by decide)
  have F46_spi : Fld Z h46 b46 "org/keymoot/Proposal" "spi" "[B" .null := D46 (Or.inr (hw _ (List.mem_of_getElem? (i := 104) rfl))) (ty := (.array .byte)) (by decide)
  have F46_transforms : Fld Z h46 b46 "org/keymoot/Proposal" "transforms" "Ljava/util/List;" .null := D46 (Or.inr (hw _ (List.mem_of_getElem? (i := 106) rfl))) (ty := (.object "java/util/List")) (by decide)
  refine go st46 ?_
  show Go p e below _ (T46.setTop (mkF m 76 #[.val (.int p0), .val (.ref a1), .val (.ref a2), .val (.int p3), .val (.ref b1), .val (.ref r17), .unset] [(.ref b46), (.int (1 : Int32)), (.int (1 : Int32)), (.ref b31), (.ref b31)]))
  refine go (fun t kt' => by refine XS.dup X46.here hx rfl (hb hby d24_76) rfl rfl ?_; exact kt') ?_
  show Go p e below _ (T46.setTop (mkF m 77 #[.val (.int p0), .val (.ref a1), .val (.ref a2), .val (.int p3), .val (.ref b1), .val (.ref r17), .unset] [(.ref b46), (.ref b46), (.int (1 : Int32)), (.int (1 : Int32)), (.ref b31), (.ref b31)]))
  refine go (fun t kt' => by refine XS.iconst X46.here hx rfl (hb hby d24_77) ?_; exact kt') ?_
  show Go p e below _ (T46.setTop (mkF m 78 #[.val (.int p0), .val (.ref a1), .val (.ref a2), .val (.int p3), .val (.ref b1), .val (.ref r17), .unset] [(.int (1 : Int32)), (.ref b46), (.ref b46), (.int (1 : Int32)), (.int (1 : Int32)), (.ref b31), (.ref b31)]))
  refine go (fun t kt' => by refine XS.iloadN X46.here hx rfl (hb hby d24_78) rfl ?_; exact kt') ?_
  show Go p e below _ (T46.setTop (mkF m 79 #[.val (.int p0), .val (.ref a1), .val (.ref a2), .val (.int p3), .val (.ref b1), .val (.ref r17), .unset] [(.int p0), (.int (1 : Int32)), (.ref b46), (.ref b46), (.int (1 : Int32)), (.int (1 : Int32)), (.ref b31), (.ref b31)]))
  refine go (fun t kt' => by refine XS.aloadN X46.here hx rfl (hb hby d24_79) rfl rfl ?_; exact kt') ?_
  show Go p e below _ (T46.setTop (mkF m 80 #[.val (.int p0), .val (.ref a1), .val (.ref a2), .val (.int p3), .val (.ref b1), .val (.ref r17), .unset] [(.ref a1), (.int p0), (.int (1 : Int32)), (.ref b46), (.ref b46), (.int (1 : Int32)), (.int (1 : Int32)), (.ref b31), (.ref b31)]))
  refine go (fun t kt' => by refine XS.aload X46.here hx rfl (hb hby d24_80) rfl rfl ?_; exact kt') ?_
  show Go p e below _ (T46.setTop (mkF m 82 #[.val (.int p0), .val (.ref a1), .val (.ref a2), .val (.int p3), .val (.ref b1), .val (.ref r17), .unset] [(.ref b1), (.ref a1), (.int p0), (.int (1 : Int32)), (.ref b46), (.ref b46), (.int (1 : Int32)), (.int (1 : Int32)), (.ref b31), (.ref b31)]))
  obtain ⟨_, _, ⟨T65, L65, k65, n65⟩, -, X65, ⟨Lc65, hQ65, l65, y65, z65⟩, st65⟩ := X46.specialBack hx (y := (⟨"org/keymoot/Proposal", "<init>", "(II[BLjava/util/List;)V"⟩ : MethodName)) rfl hown (mvT hZ (hw _ (List.mem_of_getElem? (i := 171) rfl))) (mvT hZ (hw _ (List.mem_of_getElem? (i := 83) rfl))) (mvT hZ (hw _ (List.mem_of_getElem? (i := 84) rfl))) (by decide) (backOf (W := 5) (rm_piA l Z a0 hw [] b46 (1 : Int32) p0 a1 b1 dc el em ea N fv h46 n0 f47_Z A46 n0_b46 F46_number F46_protocol F46_spi F46_transforms f54_E_b1 f57_F_b1_size ne46_b1_b46 f53_A_a1 hN ne46_a1_b46 HS f48_O) hZ (hw _ (List.mem_of_getElem? (i := 84) rfl)) (hw _ (List.mem_of_getElem? (i := 80) rfl)) (by decide) (by decide)) (g := (mkF m 82 #[.val (.int p0), .val (.ref a1), .val (.ref a2), .val (.int p3), .val (.ref b1), .val (.ref r17), .unset] [(.ref b1), (.ref a1), (.int p0), (.int (1 : Int32)), (.ref b46), (.ref b46), (.int (1 : Int32)), (.int (1 : Int32)), (.ref b31), (.ref b31)])) rfl (by rw [hml]; rfl) (Steps.refl _) (a := b46) (argsL := [(.int (1 : Int32)), (.int p0), (.ref a1), (.ref b1)]) (rest := [(.ref b46), (.int (1 : Int32)), (.int (1 : Int32)), (.ref b31), (.ref b31)]) (lenOf pd_8 rfl) rfl (by show 2 * 0 + _ ≤ _; exact Nat.le_of_eq rfl) (hb hby d24_82) (fun _ _ => ⟨rfl, e46, (by decide : 4 + 0 ≤ _), (by decide : 14 + 0 ≤ _)⟩)
  dsimp only [Pt.U, Pt.locs, Pt.cells, Pt.slots] at X65 l65 y65 z65 st65 hQ65
  rw [l65, y65, z65] at X65
  obtain ⟨rfl, N65q, K65, P65_0, P65_1, P65_2⟩ := hQ65
  have N65 := Fr.app N29 N65q
  have f66_Z := Nat.le_trans f47_Z K65.1
  have f67_O := f48_O.keep K65 (allS n0_b46 all0)
  have f68_K := f49_K.trans K65 (allS (Or.inr sz_b46) all0)
  have f69_E_a2 := f50_E_a2.keep K65
  have f70_F_a2_modCount := f51_F_a2_modCount.keep K65 (ninS ne46_a2_b46 nin0)
  have f71_F_a2_size := f52_F_a2_size.keep K65 (ninS ne46_a2_b46 nin0)
  have f72_A_a1 := f53_A_a1.keep K65 (ninS ne46_a1_b46 nin0)
  have f73_E_b1 := f54_E_b1.keep K65
  have f74_F_b1_modCount := f55_F_b1_modCount.keep K65 (ninS ne46_b1_b46 nin0)
  have f75_F_b1_elementData := f56_F_b1_elementData.keep K65 (ninS ne46_b1_b46 nin0)
  have f76_F_b1_size := f57_F_b1_size.keep K65 (ninS ne46_b1_b46 nin0)
  have f77_E_r17 := f58_E_r17.keep K65
  have f78_F_r17_this_0 := f59_F_r17_this_0.keep K65 (ninS ne46_r17_b46 nin0)
  have f79_F_r17_cursor := f60_F_r17_cursor.keep K65 (ninS ne46_r17_b46 nin0)
  have f80_E_b31 := f61_E_b31.keep K65
  have f81_F_b31_doi := f62_F_b31_doi.keep K65 (ninS ne46_b31_b46 nin0)
  have f82_F_b31_situation := f63_F_b31_situation.keep K65 (ninS ne46_b31_b46 nin0)
  have f83_F_b31_proposals := f64_F_b31_proposals.keep K65 (ninS ne46_b31_b46 nin0)
  refine go (fun t kt => st65.trans kt) ?_
  show Go p e below _ (T65.setTop (mkF m 85 #[.val (.int p0), .val (.ref a1), .val (.ref a2), .val (.int p3), .val (.ref b1), .val (.ref r17), .unset] [(.ref b46), (.int (1 : Int32)), (.int (1 : Int32)), (.ref b31), (.ref b31)]))
  obtain ⟨_, _, ⟨T84, L84, k84, n84⟩, -, X84, ⟨Lc84, hQ84, l84, y84, z84⟩, st84⟩ := Jvm.LawKit.callS X65 hx (y := (⟨"java/util/List", "of", "(Ljava/lang/Object;)Ljava/util/List;"⟩ : MethodName)) hown (mvT hZ (hw _ (List.mem_of_getElem? (i := 138) rfl))) (mvT hZ (hw _ (List.mem_of_getElem? (i := 139) rfl))) (mvT hZ (hw _ (List.mem_of_getElem? (i := 40) rfl))) (mvT hZ (hw _ (List.mem_of_getElem? (i := 140) rfl))) (by decide) (backOf (W := 4) (rm_o1 l Z a0 hw [] b46 dc el em ea T65.heap n0 f66_Z HS f67_O) hZ (hw _ (List.mem_of_getElem? (i := 140) rfl)) (hw _ (List.mem_of_getElem? (i := 40) rfl)) (by decide) (by decide)) (g := (mkF m 85 #[.val (.int p0), .val (.ref a1), .val (.ref a2), .val (.int p3), .val (.ref b1), .val (.ref r17), .unset] [(.ref b46), (.int (1 : Int32)), (.int (1 : Int32)), (.ref b31), (.ref b31)])) rfl (by rw [hml]; rfl) (argsL := [(.ref b46)]) (rest := [(.int (1 : Int32)), (.int (1 : Int32)), (.ref b31), (.ref b31)]) (lenOf pd_7 rfl) rfl (by show 2 * 0 + _ ≤ _; exact Nat.le_of_eq rfl) (hb hby d24_85) (fun _ _ => ⟨rfl, rfl, (by decide : 4 + 1 ≤ _), (by decide : 14 + 2 ≤ _)⟩)
  dsimp only [Pt.U, Pt.locs, Pt.cells, Pt.slots] at X84 l84 y84 z84 st84 hQ84
  rw [l84, y84, z84] at X84
  obtain ⟨r84, rfl, N84q, K84, n0_r84, sq84, E84_, P84_0⟩ := hQ84
  have N84 := Fr.app N65 N84q
  have ne84_a2 : a2 ≠ r84 := Nat.ne_of_lt (Nat.lt_of_lt_of_le f69_E_a2.lt sq84)
  have ne84_a1 : a1 ≠ r84 := Nat.ne_of_lt (Nat.lt_of_lt_of_le f72_A_a1.lt sq84)
  have ne84_b1 : b1 ≠ r84 := Nat.ne_of_lt (Nat.lt_of_lt_of_le f73_E_b1.lt sq84)
  have ne84_r17 : r17 ≠ r84 := Nat.ne_of_lt (Nat.lt_of_lt_of_le f77_E_r17.lt sq84)
  have ne84_b31 : b31 ≠ r84 := Nat.ne_of_lt (Nat.lt_of_lt_of_le f80_E_b31.lt sq84)
  have ne84_b46 : b46 ≠ r84 := Nat.ne_of_lt (Nat.lt_of_lt_of_le P65_0.lt sq84)
  have sz_r84 : h0.size ≤ r84 := Nat.le_trans f68_K.1 sq84
  have f85_Z := Nat.le_trans f66_Z K84.1
  have f86_O := f67_O.keep K84 all0
  have f87_K := f68_K.trans K84 all0
  have f88_E_a2 := f69_E_a2.keep K84
  have f89_F_a2_modCount := f70_F_a2_modCount.keep K84 nin0
  have f90_F_a2_size := f71_F_a2_size.keep K84 nin0
  have f91_A_a1 := f72_A_a1.keep K84 nin0
  have f92_E_b1 := f73_E_b1.keep K84
  have f93_F_b1_modCount := f74_F_b1_modCount.keep K84 nin0
  have f94_F_b1_elementData := f75_F_b1_elementData.keep K84 nin0
  have f95_F_b1_size := f76_F_b1_size.keep K84 nin0
  have f96_E_r17 := f77_E_r17.keep K84
  have f97_F_r17_this_0 := f78_F_r17_this_0.keep K84 nin0
  have f98_F_r17_cursor := f79_F_r17_cursor.keep K84 nin0
  have f99_E_b31 := f80_E_b31.keep K84
  have f100_F_b31_doi := f81_F_b31_doi.keep K84 nin0
  have f101_F_b31_situation := f82_F_b31_situation.keep K84 nin0
  have f102_F_b31_proposals := f83_F_b31_proposals.keep K84 nin0
  have f103_E_b46 := P65_0.keep K84
  have f104_F_b46_number := P65_1.keep K84 nin0
  have f105_F_b46_protocol := P65_2.keep K84 nin0
  refine go st84 ?_
  show Go p e below _ (T84.setTop (mkF m 88 #[.val (.int p0), .val (.ref a1), .val (.ref a2), .val (.int p3), .val (.ref b1), .val (.ref r17), .unset] [(.ref r84), (.int (1 : Int32)), (.int (1 : Int32)), (.ref b31), (.ref b31)]))
  obtain ⟨_, _, ⟨T106, L106, k106, n106⟩, -, X106, ⟨Lc106, hQ106, l106, y106, z106⟩, st106⟩ := X84.specialBack hx (y := (⟨"org/keymoot/SecurityAssociation", "<init>", "(IILjava/util/List;)V"⟩ : MethodName)) rfl hown (mvT hZ (hw _ (List.mem_of_getElem? (i := 179) rfl))) (mvT hZ (hw _ (List.mem_of_getElem? (i := 30) rfl))) (mvT hZ (hw _ (List.mem_of_getElem? (i := 31) rfl))) (by decide) (backOf (W := 1) (rm_saB l Z a0 hw [] b31 (1 : Int32) (1 : Int32) r84 dc el em ea T84.heap n0 f85_Z f99_E_b31 n0_b31 f100_F_b31_doi f101_F_b31_situation f102_F_b31_proposals E84_ P84_0 (Ne.symm ne84_b31) HS f86_O) hZ (hw _ (List.mem_of_getElem? (i := 31) rfl)) (hw _ (List.mem_of_getElem? (i := 2) rfl)) (by decide) (by decide)) (g := (mkF m 88 #[.val (.int p0), .val (.ref a1), .val (.ref a2), .val (.int p3), .val (.ref b1), .val (.ref r17), .unset] [(.ref r84), (.int (1 : Int32)), (.int (1 : Int32)), (.ref b31), (.ref b31)])) rfl (by rw [hml]; rfl) (Steps.refl _) (a := b31) (argsL := [(.int (1 : Int32)), (.int (1 : Int32)), (.ref r84)]) (rest := [(.ref b31)]) (lenOf pd_9 rfl) rfl (by show 2 * 0 + _ ≤ _; exact Nat.le_of_eq rfl) (hb hby d24_88) (fun _ _ => ⟨rfl, rfl, (by decide : 5 + 0 ≤ _), (by decide : 16 + 0 ≤ _)⟩)
  dsimp only [Pt.U, Pt.locs, Pt.cells, Pt.slots] at X106 l106 y106 z106 st106 hQ106
  rw [l106, y106, z106] at X106
  obtain ⟨rfl, N106q, K106, P106_0, P106_1, P106_2⟩ := hQ106
  have N106 := Fr.app N84 N106q
  have f107_Z := Nat.le_trans f85_Z K106.1
  have f108_O := f86_O.keep K106 (allS n0_b31 all0)
  have f109_K := f87_K.trans K106 (allS (Or.inr sz_b31) all0)
  have f110_E_a2 := f88_E_a2.keep K106
  have f111_F_a2_modCount := f89_F_a2_modCount.keep K106 (ninS ne31_a2_b31 nin0)
  have f112_F_a2_size := f90_F_a2_size.keep K106 (ninS ne31_a2_b31 nin0)
  have f113_A_a1 := f91_A_a1.keep K106 (ninS ne31_a1_b31 nin0)
  have f114_E_b1 := f92_E_b1.keep K106
  have f115_F_b1_modCount := f93_F_b1_modCount.keep K106 (ninS ne31_b1_b31 nin0)
  have f116_F_b1_elementData := f94_F_b1_elementData.keep K106 (ninS ne31_b1_b31 nin0)
  have f117_F_b1_size := f95_F_b1_size.keep K106 (ninS ne31_b1_b31 nin0)
  have f118_E_r17 := f96_E_r17.keep K106
  have f119_F_r17_this_0 := f97_F_r17_this_0.keep K106 (ninS ne31_r17_b31 nin0)
  have f120_F_r17_cursor := f98_F_r17_cursor.keep K106 (ninS ne31_r17_b31 nin0)
  have f121_E_b46 := f103_E_b46.keep K106
  have f122_F_b46_number := f104_F_b46_number.keep K106 (ninS (Ne.symm ne46_b31_b46) nin0)
  have f123_F_b46_protocol := f105_F_b46_protocol.keep K106 (ninS (Ne.symm ne46_b31_b46) nin0)
  have f124_E_r84 := E84_.keep K106
  have f125_F_r84_e1 := P84_0.keep K106 (ninS (Ne.symm ne84_b31) nin0)
  refine go (fun t kt => st106.trans kt) ?_
  show Go p e below _ (T106.setTop (mkF m 91 #[.val (.int p0), .val (.ref a1), .val (.ref a2), .val (.int p3), .val (.ref b1), .val (.ref r17), .unset] [(.ref b31)]))
  refine goOut X106 (fun h => by rw [Bd.returns] at h; cases h) hlk (fun fs hr => retOut X106 hx Bd.returns rfl (Or.inr (Or.inr (Or.inr (Or.inr ⟨rfl, rfl, rfl⟩)))) (hb hby d24_91) hr) (by decide) (by decide) ?_
  exact ⟨b31, rfl, N106, f109_K, n0_b31, sz_b31, P106_0, P106_1, P106_2⟩
theorem pd_12 : parseMethodDescriptor "(Lorg/keymoot/Proposal;[BLorg/keymoot/Transform;)Lorg/keymoot/SecurityAssociation;" = some ⟨[(.object "org/keymoot/Proposal"), (.array .byte), (.object "org/keymoot/Transform")], some (.object "org/keymoot/SecurityAssociation")⟩ := by decide +kernel
theorem pd_13 : parseMethodDescriptor "(I[BLjava/util/List;I)Lorg/keymoot/SecurityAssociation;" = some ⟨[.int, (.array .byte), (.object "java/util/List"), .int], some (.object "org/keymoot/SecurityAssociation")⟩ := by decide +kernel
theorem pn_org_keymoot_SecurityAssociationIsIpsecIdentityOnlyPinLaw : plainName "org/keymoot/SecurityAssociationIsIpsecIdentityOnlyPinLaw" = true := by first | (simp [plainName, overriddenIn]; done) | decide +kernel
theorem ef_rm0 (m : MethodId) (x0 : Int32) (x1 : Int32) (x2 : Int32) (x3 : Int32) : entryFrame m #[(.int x0), (.int x1), (.int x2), (.int x3)] maxLocals = mkF m 0 #[.val (.int x0), .val (.int x1), .val (.int x2), .val (.int x3), .unset, .unset, .unset, .unset, .unset, .unset, .unset, .unset, .unset] [] := by first | (simp [entryFrame, mkF, argsToLocals, Value.category, maxLocals]; done) | rfl
def Q0 (Z : State) (h0 : Heap) (n0 : Nat) (v : Option Value) (h : Heap) (L : List Loc) : Prop := v = some (.int 1) ∧ Fr n0 L
set_option maxRecDepth 65536 in
set_option maxHeartbeats 40000000 in
theorem rm0 (l : Launch) (Z : State) (a0 : Array Value) (hw : ∀ d ∈ tables_1, d.before a0 Z = true) (ws : List Jvm.Cond) (p0 : Int32) (p1 : Int32) (p2 : Int32) (p3 : Int32) (dc el em ea : Addr) (h0 : Heap) (n0 : Nat) (Z0 : n0 ≤ h0.size) (HS : own_sets Z dc el em ea) (OO : Old Z n0 h0) :
    MetFree l x (head1 (Jvm.Cond.code x code maxLocals ret :: ws) room_1) (fun av' U => av' = #[(.int p0), (.int p1), (.int p2), (.int p3)] ∧ Z.Warmed39 U.vm ∧ U.heap = h0) (fun _ _ _ _ _ => True) (fun _ U o U' => ∃ v L, o = .returned v ∧ Q0 Z  h0 n0 v U'.heap L ∧ FrameEnd U o U' L room_1.cells room_1.slots) := by
  refine MetFree.of_bodySF (plainFor_of_name pn_org_keymoot_SecurityAssociationIsIpsecIdentityOnlyPinLaw) hisR ?_
  intro p e s m args below meth c s₁ Bd hml0 hP hK
  obtain ⟨rfl, hZ, hh⟩ := hP
  have hx := Bd.exec
  have hby := Bd.bytes
  have hlk := Bd.notSynchronized
  have hml : c.maxLocals = 13 := hml0
  have hown : s.vm.findClass "org/keymoot/SecurityAssociationIsIpsecIdentityOnlyPinLaw" = some m.cls := findClass_of_methodNamed Bd.named
  have hnm := (name_of_methodNamed Bd.named Bd.method).1
  have X0 : Stand p l e room_1 s m #[(.int p0), (.int p1), (.int p2), (.int p3)] below meth c s₁ [] 0 0 := Stand.of_body Bd
  have e0 : s₁.heap = h0 := by rw [← hh, Bd.state]; rfl
  have N0 := Fr.nil n0
  show Go p e below (Kq s (Q0 Z  h0 n0) room_1.cells room_1.slots) _
  refine go (fun t kt => castTop (ef_rm0 m p0 p1 p2 p3) kt) ?_
  have HS0 := HS
  obtain ⟨S_dc, S_el, S_em, E_el, F_el, cE, A_el, Z_el⟩ := HS0
  show Go p e below _ (s₁.setTop (mkF m 0 #[.val (.int p0), .val (.int p1), .val (.int p2), .val (.int p3), .unset, .unset, .unset, .unset, .unset, .unset, .unset, .unset, .unset] []))
  refine go (fun t kt' => by refine XS.iloadN X0.here hx rfl (hb hby at_0) rfl ?_; exact kt') ?_
  show Go p e below _ (s₁.setTop (mkF m 1 #[.val (.int p0), .val (.int p1), .val (.int p2), .val (.int p3), .unset, .unset, .unset, .unset, .unset, .unset, .unset, .unset, .unset] [(.int p2)]))
  refine go (fun t kt' => by refine XS.iconst X0.here hx rfl (hb hby at_1) ?_; exact kt') ?_
  show Go p e below _ (s₁.setTop (mkF m 2 #[.val (.int p0), .val (.int p1), .val (.int p2), .val (.int p3), .unset, .unset, .unset, .unset, .unset, .unset, .unset, .unset, .unset] [(.int (1 : Int32)), (.int p2)]))
  refine go (fun t kt' => by refine XS.iand X0.here hx rfl (hb hby at_2) rfl ?_; exact kt') ?_
  show Go p e below _ (s₁.setTop (mkF m 3 #[.val (.int p0), .val (.int p1), .val (.int p2), .val (.int p3), .unset, .unset, .unset, .unset, .unset, .unset, .unset, .unset, .unset] [(.int (p2 &&& (1 : Int32)))]))
  have J11_1 : ∀ di : Int32, Go p e below (Kq s (Q0 Z  h0 n0) room_1.cells room_1.slots) (s₁.setTop (mkF m 11 #[.val (.int p0), .val (.int p1), .val (.int p2), .val (.int p3), .unset, .unset, .unset, .unset, .unset, .unset, .unset, .unset, .unset] [(.int di)])) := by
    intro di
    show Go p e below _ (s₁.setTop (mkF m 11 #[.val (.int p0), .val (.int p1), .val (.int p2), .val (.int p3), .unset, .unset, .unset, .unset, .unset, .unset, .unset, .unset, .unset] [(.int di)]))
    refine go (fun t kt' => by refine XS.istore X0.here hx rfl (hb hby at_11) rfl (l' := #[.val (.int p0), .val (.int p1), .val (.int p2), .val (.int p3), .val (.int di), .unset, .unset, .unset, .unset, .unset, .unset, .unset, .unset]) rfl ?_; exact kt') ?_
    show Go p e below _ (s₁.setTop (mkF m 13 #[.val (.int p0), .val (.int p1), .val (.int p2), .val (.int p3), .val (.int di), .unset, .unset, .unset, .unset, .unset, .unset, .unset, .unset] []))
    refine go (fun t kt' => by refine XS.iloadN X0.here hx rfl (hb hby at_13) rfl ?_; exact kt') ?_
    show Go p e below _ (s₁.setTop (mkF m 14 #[.val (.int p0), .val (.int p1), .val (.int p2), .val (.int p3), .val (.int di), .unset, .unset, .unset, .unset, .unset, .unset, .unset, .unset] [(.int p2)]))
    refine go (fun t kt' => by refine XS.iconst X0.here hx rfl (hb hby at_14) ?_; exact kt') ?_
    show Go p e below _ (s₁.setTop (mkF m 15 #[.val (.int p0), .val (.int p1), .val (.int p2), .val (.int p3), .val (.int di), .unset, .unset, .unset, .unset, .unset, .unset, .unset, .unset] [(.int (2 : Int32)), (.int p2)]))
    refine go (fun t kt' => by refine XS.iand X0.here hx rfl (hb hby at_15) rfl ?_; exact kt') ?_
    show Go p e below _ (s₁.setTop (mkF m 16 #[.val (.int p0), .val (.int p1), .val (.int p2), .val (.int p3), .val (.int di), .unset, .unset, .unset, .unset, .unset, .unset, .unset, .unset] [(.int (p2 &&& (2 : Int32)))]))
    have J24_2 : ∀ si : Int32, Go p e below (Kq s (Q0 Z  h0 n0) room_1.cells room_1.slots) (s₁.setTop (mkF m 24 #[.val (.int p0), .val (.int p1), .val (.int p2), .val (.int p3), .val (.int di), .unset, .unset, .unset, .unset, .unset, .unset, .unset, .unset] [(.int si)])) := by
      intro si
      show Go p e below _ (s₁.setTop (mkF m 24 #[.val (.int p0), .val (.int p1), .val (.int p2), .val (.int p3), .val (.int di), .unset, .unset, .unset, .unset, .unset, .unset, .unset, .unset] [(.int si)]))
      refine go (fun t kt' => by refine XS.istore X0.here hx rfl (hb hby at_24) rfl (l' := #[.val (.int p0), .val (.int p1), .val (.int p2), .val (.int p3), .val (.int di), .val (.int si), .unset, .unset, .unset, .unset, .unset, .unset, .unset]) rfl ?_; exact kt') ?_
      show Go p e below _ (s₁.setTop (mkF m 26 #[.val (.int p0), .val (.int p1), .val (.int p2), .val (.int p3), .val (.int di), .val (.int si), .unset, .unset, .unset, .unset, .unset, .unset, .unset] []))
      refine go (fun t kt' => by refine XS.iload X0.here hx rfl (hb hby at_26) rfl ?_; exact kt') ?_
      show Go p e below _ (s₁.setTop (mkF m 28 #[.val (.int p0), .val (.int p1), .val (.int p2), .val (.int p3), .val (.int di), .val (.int si), .unset, .unset, .unset, .unset, .unset, .unset, .unset] [(.int di)]))
      refine go (fun t kt' => by refine XS.iconst X0.here hx rfl (hb hby at_28) ?_; exact kt') ?_
      show Go p e below _ (s₁.setTop (mkF m 29 #[.val (.int p0), .val (.int p1), .val (.int p2), .val (.int p3), .val (.int di), .val (.int si), .unset, .unset, .unset, .unset, .unset, .unset, .unset] [(.int (1 : Int32)), (.int di)]))
      have J43_3 : ∀ ex : Int32, (ex = own_ip di si) → Go p e below (Kq s (Q0 Z  h0 n0) room_1.cells room_1.slots) (s₁.setTop (mkF m 43 #[.val (.int p0), .val (.int p1), .val (.int p2), .val (.int p3), .val (.int di), .val (.int si), .unset, .unset, .unset, .unset, .unset, .unset, .unset] [(.int ex)])) := by
        intro ex hex
        show Go p e below _ (s₁.setTop (mkF m 43 #[.val (.int p0), .val (.int p1), .val (.int p2), .val (.int p3), .val (.int di), .val (.int si), .unset, .unset, .unset, .unset, .unset, .unset, .unset] [(.int ex)]))
        refine go (fun t kt' => by refine XS.istore X0.here hx rfl (hb hby at_43) rfl (l' := #[.val (.int p0), .val (.int p1), .val (.int p2), .val (.int p3), .val (.int di), .val (.int si), .val (.int ex), .unset, .unset, .unset, .unset, .unset, .unset]) rfl ?_; exact kt') ?_
        show Go p e below _ (s₁.setTop (mkF m 45 #[.val (.int p0), .val (.int p1), .val (.int p2), .val (.int p3), .val (.int di), .val (.int si), .val (.int ex), .unset, .unset, .unset, .unset, .unset, .unset] []))
        obtain ⟨T4, h4, X4, e4, E4, A4, D4, -, st4⟩ := newO X0 hx hZ hown (hw _ (List.mem_of_getElem? (i := 0) rfl)) (hw _ (List.mem_of_getElem? (i := 1) rfl)) (hw _ (List.mem_of_getElem? (i := 2) rfl)) e0 (g := (mkF m 45 #[.val (.int p0), .val (.int p1), .val (.int p2), .val (.int p3), .val (.int di), .val (.int si), .val (.int ex), .unset, .unset, .unset, .unset, .unset, .unset] [])) rfl (hb hby at_45) (by decide) (by decide)
        obtain ⟨b4, g4⟩ : ∃ z, z = h0.size := ⟨_, rfl⟩
        have n0_b4 : n0 ≤ b4 := Nat.le_trans Z0 (Nat.le_of_eq g4.symm)
        rw [← g4] at A4 D4 st4
        have f5_Z := Nat.le_trans Z0 E4.1
        have f6_O := OO.ext E4
        have F4_doi : Fld Z h4 b4 "org/keymoot/SecurityAssociation" "doi" "I" (.int (0 : Int32)) := D4 (Or.inr (hw _ (List.mem_of_getElem? (i := 68) rfl))) (ty := .int) (by decide)
        have F4_situation : Fld Z h4 b4 "org/keymoot/SecurityAssociation" "situation" "I" (.int (0 : Int32)) := D4 (Or.inr (hw _ (List.mem_of_getElem? (i := 70) rfl))) (ty := .int) (by decide)
        have F4_proposals : Fld Z h4 b4 "org/keymoot/SecurityAssociation" "proposals" "Ljava/util/List;" .null := D4 (Or.inr (hw _ (List.mem_of_getElem? (i := 72) rfl))) (ty := (.object "java/util/List")) (by decide)
        refine go st4 ?_
        show Go p e below _ (T4.setTop (mkF m 48 #[.val (.int p0), .val (.int p1), .val (.int p2), .val (.int p3), .val (.int di), .val (.int si), .val (.int ex), .unset, .unset, .unset, .unset, .unset, .unset] [(.ref b4)]))
        refine go (fun t kt' => by refine XS.dup X4.here hx rfl (hb hby at_48) rfl rfl ?_; exact kt') ?_
        show Go p e below _ (T4.setTop (mkF m 49 #[.val (.int p0), .val (.int p1), .val (.int p2), .val (.int p3), .val (.int di), .val (.int si), .val (.int ex), .unset, .unset, .unset, .unset, .unset, .unset] [(.ref b4), (.ref b4)]))
        refine go (fun t kt' => by refine XS.iload X4.here hx rfl (hb hby at_49) rfl ?_; exact kt') ?_
        show Go p e below _ (T4.setTop (mkF m 51 #[.val (.int p0), .val (.int p1), .val (.int p2), .val (.int p3), .val (.int di), .val (.int si), .val (.int ex), .unset, .unset, .unset, .unset, .unset, .unset] [(.int di), (.ref b4), (.ref b4)]))
        refine go (fun t kt' => by refine XS.iload X4.here hx rfl (hb hby at_51) rfl ?_; exact kt') ?_
        show Go p e below _ (T4.setTop (mkF m 53 #[.val (.int p0), .val (.int p1), .val (.int p2), .val (.int p3), .val (.int di), .val (.int si), .val (.int ex), .unset, .unset, .unset, .unset, .unset, .unset] [(.int si), (.int di), (.ref b4), (.ref b4)]))
        obtain ⟨T7, h7, X7, e7, E7, A7, D7, -, st7⟩ := newO X4 hx hZ hown (hw _ (List.mem_of_getElem? (i := 3) rfl)) (hw _ (List.mem_of_getElem? (i := 4) rfl)) (hw _ (List.mem_of_getElem? (i := 5) rfl)) e4 (g := (mkF m 53 #[.val (.int p0), .val (.int p1), .val (.int p2), .val (.int p3), .val (.int di), .val (.int si), .val (.int ex), .unset, .unset, .unset, .unset, .unset, .unset] [(.int si), (.int di), (.ref b4), (.ref b4)])) rfl (hb hby at_53) (by decide) (by decide)
        obtain ⟨b7, g7⟩ : ∃ z, z = h4.size := ⟨_, rfl⟩
        have n0_b7 : n0 ≤ b7 := Nat.le_trans f5_Z (Nat.le_of_eq g7.symm)
        have ne7_b4_b7 : b4 ≠ b7 := Nat.ne_of_lt (Nat.lt_of_lt_of_le A4.lt (Nat.le_of_eq g7.symm))
        rw [← g7] at A7 D7 st7
        have f8_Z := Nat.le_trans f5_Z E7.1
        have f9_O := f6_O.ext E7
        have f10_E_b4 := A4.ext E7
        have f11_F_b4_doi := F4_doi.ext E7
        have f12_F_b4_situation := F4_situation.ext E7
        have f13_F_b4_proposals := F4_proposals.ext E7
        have F7_modCount : Fld Z h7 b7 "java/util/AbstractList" "modCount" "I" (.int (0 : Int32)) := D7 (Or.inl (hw _ (List.mem_of_getElem? (i := 25) rfl))) (ty := .int) (by decide)
        have F7_elementData : Fld Z h7 b7 "java/util/ArrayList" "elementData" "[Ljava/lang/Object;" .null := D7 (Or.inl (hw _ (List.mem_of_getElem? (i := 28) rfl))) (ty := (.array (.object "java/lang/Object"))) (by decide)
        have F7_size : Fld Z h7 b7 "java/util/ArrayList" "size" "I" (.int (0 : Int32)) := D7 (Or.inl (hw _ (List.mem_of_getElem? (i := 62) rfl))) (ty := .int) (by decide)
        refine go st7 ?_
        show Go p e below _ (T7.setTop (mkF m 56 #[.val (.int p0), .val (.int p1), .val (.int p2), .val (.int p3), .val (.int di), .val (.int si), .val (.int ex), .unset, .unset, .unset, .unset, .unset, .unset] [(.ref b7), (.int si), (.int di), (.ref b4), (.ref b4)]))
        refine go (fun t kt' => by refine XS.dup X7.here hx rfl (hb hby at_56) rfl rfl ?_; exact kt') ?_
        show Go p e below _ (T7.setTop (mkF m 57 #[.val (.int p0), .val (.int p1), .val (.int p2), .val (.int p3), .val (.int di), .val (.int si), .val (.int ex), .unset, .unset, .unset, .unset, .unset, .unset] [(.ref b7), (.ref b7), (.int si), (.int di), (.ref b4), (.ref b4)]))
        obtain ⟨_, _, ⟨T14, L14, k14, n14⟩, -, X14, ⟨Lc14, hQ14, l14, y14, z14⟩, st14⟩ := X7.specialBack hx (y := (⟨"java/util/ArrayList", "<init>", "()V"⟩ : MethodName)) rfl hown (mvT hZ (hw _ (List.mem_of_getElem? (i := 6) rfl))) (mvT hZ (hw _ (List.mem_of_getElem? (i := 7) rfl))) (mvT hZ (hw _ (List.mem_of_getElem? (i := 8) rfl))) (by decide) (backOf (W := 5) (rm_al0 l Z a0 hw [] b7 dc el em ea  h7 n0 f8_Z A7 n0_b7 F7_modCount F7_elementData F7_size HS f9_O) hZ (hw _ (List.mem_of_getElem? (i := 8) rfl)) (hw _ (List.mem_of_getElem? (i := 5) rfl)) (by decide) (by decide)) (g := (mkF m 57 #[.val (.int p0), .val (.int p1), .val (.int p2), .val (.int p3), .val (.int di), .val (.int si), .val (.int ex), .unset, .unset, .unset, .unset, .unset, .unset] [(.ref b7), (.ref b7), (.int si), (.int di), (.ref b4), (.ref b4)])) rfl (by rw [hml]; rfl) (Steps.refl _) (a := b7) (argsL := []) (rest := [(.ref b7), (.int si), (.int di), (.ref b4), (.ref b4)]) (lenOf pd_0 rfl) rfl (by show 2 * 0 + _ ≤ _; exact Nat.le_of_eq rfl) (hb hby at_57) (fun _ _ => ⟨rfl, e7, (by decide : 2 + 0 ≤ _), (by decide : 6 + 0 ≤ _)⟩)
        dsimp only [Pt.U, Pt.locs, Pt.cells, Pt.slots] at X14 l14 y14 z14 st14 hQ14
        rw [l14, y14, z14] at X14
        obtain ⟨rfl, N14q, K14, P14_0, P14_1, P14_2, P14_3⟩ := hQ14
        have N14 := Fr.app N0 N14q
        have f15_Z := Nat.le_trans f8_Z K14.1
        have f16_O := f9_O.keep K14 (allS n0_b7 all0)
        have f17_E_b4 := f10_E_b4.keep K14
        have f18_F_b4_doi := f11_F_b4_doi.keep K14 (ninS ne7_b4_b7 nin0)
        have f19_F_b4_situation := f12_F_b4_situation.keep K14 (ninS ne7_b4_b7 nin0)
        have f20_F_b4_proposals := f13_F_b4_proposals.keep K14 (ninS ne7_b4_b7 nin0)
        refine go (fun t kt => st14.trans kt) ?_
        show Go p e below _ (T14.setTop (mkF m 60 #[.val (.int p0), .val (.int p1), .val (.int p2), .val (.int p3), .val (.int di), .val (.int si), .val (.int ex), .unset, .unset, .unset, .unset, .unset, .unset] [(.ref b7), (.int si), (.int di), (.ref b4), (.ref b4)]))
        obtain ⟨_, _, ⟨T21, L21, k21, n21⟩, -, X21, ⟨Lc21, hQ21, l21, y21, z21⟩, st21⟩ := X14.specialBack hx (y := (⟨"org/keymoot/SecurityAssociation", "<init>", "(IILjava/util/List;)V"⟩ : MethodName)) rfl hown (mvT hZ (hw _ (List.mem_of_getElem? (i := 29) rfl))) (mvT hZ (hw _ (List.mem_of_getElem? (i := 30) rfl))) (mvT hZ (hw _ (List.mem_of_getElem? (i := 31) rfl))) (by decide) (backOf (W := 1) (rm_saA l Z a0 hw [] b4 di si b7 dc el em ea T14.heap n0 f15_Z f17_E_b4 n0_b4 f18_F_b4_doi f19_F_b4_situation f20_F_b4_proposals P14_0 P14_3 (Ne.symm ne7_b4_b7) HS f16_O) hZ (hw _ (List.mem_of_getElem? (i := 31) rfl)) (hw _ (List.mem_of_getElem? (i := 2) rfl)) (by decide) (by decide)) (g := (mkF m 60 #[.val (.int p0), .val (.int p1), .val (.int p2), .val (.int p3), .val (.int di), .val (.int si), .val (.int ex), .unset, .unset, .unset, .unset, .unset, .unset] [(.ref b7), (.int si), (.int di), (.ref b4), (.ref b4)])) rfl (by rw [hml]; rfl) (Steps.refl _) (a := b4) (argsL := [(.int di), (.int si), (.ref b7)]) (rest := [(.ref b4)]) (lenOf pd_9 rfl) rfl (by show 2 * 0 + _ ≤ _; exact Nat.le_of_eq rfl) (hb hby at_60) (fun _ _ => ⟨rfl, rfl, (by decide : 2 + 0 ≤ _), (by decide : 6 + 0 ≤ _)⟩)
        dsimp only [Pt.U, Pt.locs, Pt.cells, Pt.slots] at X21 l21 y21 z21 st21 hQ21
        rw [l21, y21, z21] at X21
        obtain ⟨rfl, N21q, K21, P21_0, P21_1, P21_2⟩ := hQ21
        have N21 := Fr.app N14 N21q
        have f22_Z := Nat.le_trans f15_Z K21.1
        have f23_O := f16_O.keep K21 (allS n0_b4 all0)
        have f24_E_b7 := P14_0.keep K21
        have f25_F_b7_modCount := P14_1.keep K21 (ninS (Ne.symm ne7_b4_b7) nin0)
        have f26_F_b7_elementData := P14_2.keep K21 (ninS (Ne.symm ne7_b4_b7) nin0)
        have f27_F_b7_size := P14_3.keep K21 (ninS (Ne.symm ne7_b4_b7) nin0)
        refine go (fun t kt => st21.trans kt) ?_
        show Go p e below _ (T21.setTop (mkF m 63 #[.val (.int p0), .val (.int p1), .val (.int p2), .val (.int p3), .val (.int di), .val (.int si), .val (.int ex), .unset, .unset, .unset, .unset, .unset, .unset] [(.ref b4)]))
        refine go (fun t kt' => by refine XS.astore X21.here hx rfl (hb hby at_63) rfl rfl (l' := #[.val (.int p0), .val (.int p1), .val (.int p2), .val (.int p3), .val (.int di), .val (.int si), .val (.int ex), .val (.ref b4), .unset, .unset, .unset, .unset, .unset]) rfl ?_; exact kt') ?_
        show Go p e below _ (T21.setTop (mkF m 65 #[.val (.int p0), .val (.int p1), .val (.int p2), .val (.int p3), .val (.int di), .val (.int si), .val (.int ex), .val (.ref b4), .unset, .unset, .unset, .unset, .unset] []))
        refine go (fun t kt' => by refine XS.aload X21.here hx rfl (hb hby at_65) rfl rfl ?_; exact kt') ?_
        show Go p e below _ (T21.setTop (mkF m 67 #[.val (.int p0), .val (.int p1), .val (.int p2), .val (.int p3), .val (.int di), .val (.int si), .val (.int ex), .val (.ref b4), .unset, .unset, .unset, .unset, .unset] [(.ref b4)]))
        obtain ⟨cq28, kq28, q28a, q28b, q28c⟩ := isOf hZ rfl P21_0
        obtain ⟨_, _, ⟨T28, L28, k28, n28⟩, -, X28, ⟨Lc28, hQ28, l28, y28, z28⟩, st28⟩ := X21.virtualBack hx (y := (⟨"org/keymoot/SecurityAssociation", "isIpsecIdentityOnly", "()Z"⟩ : MethodName)) (z := (⟨"org/keymoot/SecurityAssociation", "isIpsecIdentityOnly", "()Z"⟩ : MethodName)) hown (mvT hZ (hw _ (List.mem_of_getElem? (i := 73) rfl))) (mvT hZ (hw _ (List.mem_of_getElem? (i := 74) rfl))) (notFace_of_selects (args := #[]) (mvT hZ (hw _ (List.mem_of_getElem? (i := 76) rfl)))) (mvT hZ (hw _ (List.mem_of_getElem? (i := 76) rfl))) (mvT hZ (hw _ (List.mem_of_getElem? (i := 75) rfl))) (by decide) (backOf (W := 0) (rm_ip l Z a0 hw [] b4 di si T21.heap n0 f22_Z P21_0 P21_1 P21_2) hZ (hw _ (List.mem_of_getElem? (i := 77) rfl)) (hw _ (List.mem_of_getElem? (i := 2) rfl)) (by decide) (by decide)) q28a q28c (g := (mkF m 67 #[.val (.int p0), .val (.int p1), .val (.int p2), .val (.int p3), .val (.int di), .val (.int si), .val (.int ex), .val (.ref b4), .unset, .unset, .unset, .unset, .unset] [(.ref b4)])) rfl (by rw [hml]; rfl) (Steps.refl _) (argsL := []) (rest := []) (lenOf pd_1 rfl) rfl (by show 2 * 0 + _ ≤ _; exact Nat.le_of_eq rfl) (hb hby at_67) (fun _ _ => ⟨rfl, rfl, (by decide : 2 + 0 ≤ _), (by decide : 6 + 0 ≤ _)⟩)
        dsimp only [Pt.U, Pt.locs, Pt.cells, Pt.slots] at X28 l28 y28 z28 st28 hQ28
        rw [l28, y28, z28] at X28
        obtain ⟨rfl, N28q, e28⟩ := hQ28
        have N28 := Fr.app N21 N28q
        refine go (fun t kt => st28.trans kt) ?_
        show Go p e below _ (T28.setTop (mkF m 70 #[.val (.int p0), .val (.int p1), .val (.int p2), .val (.int p3), .val (.int di), .val (.int si), .val (.int ex), .val (.ref b4), .unset, .unset, .unset, .unset, .unset] [(.int (own_ip di si))]))
        refine go (fun t kt' => by refine XS.istore X28.here hx rfl (hb hby at_70) rfl (l' := #[.val (.int p0), .val (.int p1), .val (.int p2), .val (.int p3), .val (.int di), .val (.int si), .val (.int ex), .val (.ref b4), .val (.int (own_ip di si)), .unset, .unset, .unset, .unset]) rfl ?_; exact kt') ?_
        show Go p e below _ (T28.setTop (mkF m 72 #[.val (.int p0), .val (.int p1), .val (.int p2), .val (.int p3), .val (.int di), .val (.int si), .val (.int ex), .val (.ref b4), .val (.int (own_ip di si)), .unset, .unset, .unset, .unset] []))
        obtain ⟨T29, h29, X29, e29, E29, A29, D29, -, st29⟩ := newO X28 hx hZ hown (hw _ (List.mem_of_getElem? (i := 78) rfl)) (hw _ (List.mem_of_getElem? (i := 79) rfl)) (hw _ (List.mem_of_getElem? (i := 80) rfl)) e28 (g := (mkF m 72 #[.val (.int p0), .val (.int p1), .val (.int p2), .val (.int p3), .val (.int di), .val (.int si), .val (.int ex), .val (.ref b4), .val (.int (own_ip di si)), .unset, .unset, .unset, .unset] [])) rfl (hb hby at_72) (by decide) (by decide)
        obtain ⟨b29, g29⟩ : ∃ z, z = T21.heap.size := ⟨_, rfl⟩
        have n0_b29 : n0 ≤ b29 := Nat.le_trans f22_Z (Nat.le_of_eq g29.symm)
        have ne29_b7_b29 : b7 ≠ b29 := Nat.ne_of_lt (Nat.lt_of_lt_of_le f24_E_b7.lt (Nat.le_of_eq g29.symm))
        have ne29_b4_b29 : b4 ≠ b29 := Nat.ne_of_lt (Nat.lt_of_lt_of_le P21_0.lt (Nat.le_of_eq g29.symm))
        rw [← g29] at A29 D29 st29
        have f30_Z := Nat.le_trans f22_Z E29.1
        have f31_O := f23_O.ext E29
        have f32_E_b7 := f24_E_b7.ext E29
        have f33_F_b7_modCount := f25_F_b7_modCount.ext E29
        have f34_F_b7_elementData := f26_F_b7_elementData.ext E29
        have f35_F_b7_size := f27_F_b7_size.ext E29
        have f36_E_b4 := P21_0.ext E29
        have f37_F_b4_doi := P21_1.ext E29
        have f38_F_b4_situation := P21_2.ext E29
        have F29_number : Fld Z h29 b29 "org/keymoot/Proposal" "number" "I" (.int (0 : Int32)) := D29 (Or.inr (hw _ (List.mem_of_getElem? (i := 100) rfl))) (ty := .int) (by decide)
        have F29_protocol : Fld Z h29 b29 "org/keymoot/Proposal" "protocol" "I" (.int (0 : Int32)) := D29 (Or.inr (hw _ (List.mem_of_getElem? (i := 102) rfl))) (ty := .int) (by decide)
        have F29_spi : Fld Z h29 b29 "org/keymoot/Proposal" "spi" "[B" .null := D29 (Or.inr (hw _ (List.mem_of_getElem? (i := 104) rfl))) (ty := (.array .byte)) (by decide)
        have F29_transforms : Fld Z h29 b29 "org/keymoot/Proposal" "transforms" "Ljava/util/List;" .null := D29 (Or.inr (hw _ (List.mem_of_getElem? (i := 106) rfl))) (ty := (.object "java/util/List")) (by decide)
        refine go st29 ?_
        show Go p e below _ (T29.setTop (mkF m 75 #[.val (.int p0), .val (.int p1), .val (.int p2), .val (.int p3), .val (.int di), .val (.int si), .val (.int ex), .val (.ref b4), .val (.int (own_ip di si)), .unset, .unset, .unset, .unset] [(.ref b29)]))
        refine go (fun t kt' => by refine XS.dup X29.here hx rfl (hb hby at_75) rfl rfl ?_; exact kt') ?_
        show Go p e below _ (T29.setTop (mkF m 76 #[.val (.int p0), .val (.int p1), .val (.int p2), .val (.int p3), .val (.int di), .val (.int si), .val (.int ex), .val (.ref b4), .val (.int (own_ip di si)), .unset, .unset, .unset, .unset] [(.ref b29), (.ref b29)]))
        refine go (fun t kt' => by refine XS.iconst X29.here hx rfl (hb hby at_76) ?_; exact kt') ?_
        show Go p e below _ (T29.setTop (mkF m 77 #[.val (.int p0), .val (.int p1), .val (.int p2), .val (.int p3), .val (.int di), .val (.int si), .val (.int ex), .val (.ref b4), .val (.int (own_ip di si)), .unset, .unset, .unset, .unset] [(.int (1 : Int32)), (.ref b29), (.ref b29)]))
        refine go (fun t kt' => by refine XS.iloadN X29.here hx rfl (hb hby at_77) rfl ?_; exact kt') ?_
        show Go p e below _ (T29.setTop (mkF m 78 #[.val (.int p0), .val (.int p1), .val (.int p2), .val (.int p3), .val (.int di), .val (.int si), .val (.int ex), .val (.ref b4), .val (.int (own_ip di si)), .unset, .unset, .unset, .unset] [(.int p3), (.int (1 : Int32)), (.ref b29), (.ref b29)]))
        refine go (fun t kt' => by refine XS.iconst X29.here hx rfl (hb hby at_78) ?_; exact kt') ?_
        show Go p e below _ (T29.setTop (mkF m 79 #[.val (.int p0), .val (.int p1), .val (.int p2), .val (.int p3), .val (.int di), .val (.int si), .val (.int ex), .val (.ref b4), .val (.int (own_ip di si)), .unset, .unset, .unset, .unset] [(.int (0 : Int32)), (.int p3), (.int (1 : Int32)), (.ref b29), (.ref b29)]))
        obtain ⟨T39, h39, k39, X39, e39, E39, A39, st39⟩ := newP X29 hx hZ (hw _ (List.mem_of_getElem? (i := 81) rfl)) e29 (g := (mkF m 79 #[.val (.int p0), .val (.int p1), .val (.int p2), .val (.int p3), .val (.int di), .val (.int si), .val (.int ex), .val (.ref b4), .val (.int (own_ip di si)), .unset, .unset, .unset, .unset] [(.int (0 : Int32)), (.int p3), (.int (1 : Int32)), (.ref b29), (.ref b29)])) rfl (hb hby at_79) rfl (by decide) (cap := 0) (by decide) (by decide) (by decide) (by decide)
        obtain ⟨b39, g39⟩ : ∃ z, z = h29.size := ⟨_, rfl⟩
        have n0_b39 : n0 ≤ b39 := Nat.le_trans f30_Z (Nat.le_of_eq g39.symm)
        have ne39_b7_b39 : b7 ≠ b39 := Nat.ne_of_lt (Nat.lt_of_lt_of_le f32_E_b7.lt (Nat.le_of_eq g39.symm))
        have ne39_b4_b39 : b4 ≠ b39 := Nat.ne_of_lt (Nat.lt_of_lt_of_le f36_E_b4.lt (Nat.le_of_eq g39.symm))
        have ne39_b29_b39 : b29 ≠ b39 := Nat.ne_of_lt (Nat.lt_of_lt_of_le A29.lt (Nat.le_of_eq g39.symm))
        rw [← g39] at A39 st39
        have f40_Z := Nat.le_trans f30_Z E39.1
        have f41_O := f31_O.ext E39
        have f42_E_b7 := f32_E_b7.ext E39
        have f43_F_b7_modCount := f33_F_b7_modCount.ext E39
        have f44_F_b7_elementData := f34_F_b7_elementData.ext E39
        have f45_F_b7_size := f35_F_b7_size.ext E39
        have f46_E_b4 := f36_E_b4.ext E39
        have f47_F_b4_doi := f37_F_b4_doi.ext E39
        have f48_F_b4_situation := f38_F_b4_situation.ext E39
        have f49_E_b29 := A29.ext E39
        have f50_F_b29_number := F29_number.ext E39
        have f51_F_b29_protocol := F29_protocol.ext E39
        have f52_F_b29_spi := F29_spi.ext E39
        have f53_F_b29_transforms := F29_transforms.ext E39
        have V39 : IA Z h39 b39 .byte 0 (fun _ => 0) := IA.new A39 rfl rfl
        refine go st39 ?_
        show Go p e below _ (T39.setTop (mkF m 81 #[.val (.int p0), .val (.int p1), .val (.int p2), .val (.int p3), .val (.int di), .val (.int si), .val (.int ex), .val (.ref b4), .val (.int (own_ip di si)), .unset, .unset, .unset, .unset] [(.ref b39), (.int p3), (.int (1 : Int32)), (.ref b29), (.ref b29)]))
        obtain ⟨T54, h54, X54, e54, E54, A54, D54, -, st54⟩ := newO X39 hx hZ hown (hw _ (List.mem_of_getElem? (i := 3) rfl)) (hw _ (List.mem_of_getElem? (i := 4) rfl)) (hw _ (List.mem_of_getElem? (i := 5) rfl)) e39 (g := (mkF m 81 #[.val (.int p0), .val (.int p1), .val (.int p2), .val (.int p3), .val (.int di), .val (.int si), .val (.int ex), .val (.ref b4), .val (.int (own_ip di si)), .unset, .unset, .unset, .unset] [(.ref b39), (.int p3), (.int (1 : Int32)), (.ref b29), (.ref b29)])) rfl (hb hby at_81) (by decide) (by decide)
        obtain ⟨b54, g54⟩ : ∃ z, z = h39.size := ⟨_, rfl⟩
        have n0_b54 : n0 ≤ b54 := Nat.le_trans f40_Z (Nat.le_of_eq g54.symm)
        have ne54_b7_b54 : b7 ≠ b54 := Nat.ne_of_lt (Nat.lt_of_lt_of_le f42_E_b7.lt (Nat.le_of_eq g54.symm))
        have ne54_b4_b54 : b4 ≠ b54 := Nat.ne_of_lt (Nat.lt_of_lt_of_le f46_E_b4.lt (Nat.le_of_eq g54.symm))
        have ne54_b29_b54 : b29 ≠ b54 := Nat.ne_of_lt (Nat.lt_of_lt_of_le f49_E_b29.lt (Nat.le_of_eq g54.symm))
        have ne54_b39_b54 : b39 ≠ b54 := Nat.ne_of_lt (Nat.lt_of_lt_of_le V39.lt (Nat.le_of_eq g54.symm))
        rw [← g54] at A54 D54 st54
        have f55_Z := Nat.le_trans f40_Z E54.1
        have f56_O := f41_O.ext E54
        have f57_E_b7 := f42_E_b7.ext E54
        have f58_F_b7_modCount := f43_F_b7_modCount.ext E54
        have f59_F_b7_elementData := f44_F_b7_elementData.ext E54
        have f60_F_b7_size := f45_F_b7_size.ext E54
        have f61_E_b4 := f46_E_b4.ext E54
        have f62_F_b4_doi := f47_F_b4_doi.ext E54
        have f63_F_b4_situation := f48_F_b4_situation.ext E54
        have f64_E_b29 := f49_E_b29.ext E54
        have f65_F_b29_number := f50_F_b29_number.ext E54
        have f66_F_b29_protocol := f51_F_b29_protocol.ext E54
        have f67_F_b29_spi := f52_F_b29_spi.ext E54
        have f68_F_b29_transforms := f53_F_b29_transforms.ext E54
        have f69_A_b39 := V39.ext E54
        have F54_modCount : Fld Z h54 b54 "java/util/AbstractList" "modCount" "I" (.int (0 : Int32)) := D54 (Or.inl (hw _ (List.mem_of_getElem? (i := 25) rfl))) (ty := .int) (by decide)
        have F54_elementData : Fld Z h54 b54 "java/util/ArrayList" "elementData" "[Ljava/lang/Object;" .null := D54 (Or.inl (hw _ (List.mem_of_getElem? (i := 28) rfl))) (ty := (.array (.object "java/lang/Object"))) (by decide)
        have F54_size : Fld Z h54 b54 "java/util/ArrayList" "size" "I" (.int (0 : Int32)) := D54 (Or.inl (hw _ (List.mem_of_getElem? (i := 62) rfl))) (ty := .int) (by decide)
        refine go st54 ?_
        show Go p e below _ (T54.setTop (mkF m 84 #[.val (.int p0), .val (.int p1), .val (.int p2), .val (.int p3), .val (.int di), .val (.int si), .val (.int ex), .val (.ref b4), .val (.int (own_ip di si)), .unset, .unset, .unset, .unset] [(.ref b54), (.ref b39), (.int p3), (.int (1 : Int32)), (.ref b29), (.ref b29)]))
        refine go (fun t kt' => by refine XS.dup X54.here hx rfl (hb hby at_84) rfl rfl ?_; exact kt') ?_
        show Go p e below _ (T54.setTop (mkF m 85 #[.val (.int p0), .val (.int p1), .val (.int p2), .val (.int p3), .val (.int di), .val (.int si), .val (.int ex), .val (.ref b4), .val (.int (own_ip di si)), .unset, .unset, .unset, .unset] [(.ref b54), (.ref b54), (.ref b39), (.int p3), (.int (1 : Int32)), (.ref b29), (.ref b29)]))
        obtain ⟨_, _, ⟨T70, L70, k70, n70⟩, -, X70, ⟨Lc70, hQ70, l70, y70, z70⟩, st70⟩ := X54.specialBack hx (y := (⟨"java/util/ArrayList", "<init>", "()V"⟩ : MethodName)) rfl hown (mvT hZ (hw _ (List.mem_of_getElem? (i := 6) rfl))) (mvT hZ (hw _ (List.mem_of_getElem? (i := 7) rfl))) (mvT hZ (hw _ (List.mem_of_getElem? (i := 8) rfl))) (by decide) (backOf (W := 6) (rm_al0 l Z a0 hw [] b54 dc el em ea  h54 n0 f55_Z A54 n0_b54 F54_modCount F54_elementData F54_size HS f56_O) hZ (hw _ (List.mem_of_getElem? (i := 8) rfl)) (hw _ (List.mem_of_getElem? (i := 5) rfl)) (by decide) (by decide)) (g := (mkF m 85 #[.val (.int p0), .val (.int p1), .val (.int p2), .val (.int p3), .val (.int di), .val (.int si), .val (.int ex), .val (.ref b4), .val (.int (own_ip di si)), .unset, .unset, .unset, .unset] [(.ref b54), (.ref b54), (.ref b39), (.int p3), (.int (1 : Int32)), (.ref b29), (.ref b29)])) rfl (by rw [hml]; rfl) (Steps.refl _) (a := b54) (argsL := []) (rest := [(.ref b54), (.ref b39), (.int p3), (.int (1 : Int32)), (.ref b29), (.ref b29)]) (lenOf pd_0 rfl) rfl (by show 2 * 0 + _ ≤ _; exact Nat.le_of_eq rfl) (hb hby at_85) (fun _ _ => ⟨rfl, e54, (by decide : 5 + 0 ≤ _), (by decide : 13 + 0 ≤ _)⟩)
        dsimp only [Pt.U, Pt.locs, Pt.cells, Pt.slots] at X70 l70 y70 z70 st70 hQ70
        rw [l70, y70, z70] at X70
        obtain ⟨rfl, N70q, K70, P70_0, P70_1, P70_2, P70_3⟩ := hQ70
        have N70 := Fr.app N28 N70q
        have f71_Z := Nat.le_trans f55_Z K70.1
        have f72_O := f56_O.keep K70 (allS n0_b54 all0)
        have f73_E_b7 := f57_E_b7.keep K70
        have f74_F_b7_modCount := f58_F_b7_modCount.keep K70 (ninS ne54_b7_b54 nin0)
        have f75_F_b7_elementData := f59_F_b7_elementData.keep K70 (ninS ne54_b7_b54 nin0)
        have f76_F_b7_size := f60_F_b7_size.keep K70 (ninS ne54_b7_b54 nin0)
        have f77_E_b4 := f61_E_b4.keep K70
        have f78_F_b4_doi := f62_F_b4_doi.keep K70 (ninS ne54_b4_b54 nin0)
        have f79_F_b4_situation := f63_F_b4_situation.keep K70 (ninS ne54_b4_b54 nin0)
        have f80_E_b29 := f64_E_b29.keep K70
        have f81_F_b29_number := f65_F_b29_number.keep K70 (ninS ne54_b29_b54 nin0)
        have f82_F_b29_protocol := f66_F_b29_protocol.keep K70 (ninS ne54_b29_b54 nin0)
        have f83_F_b29_spi := f67_F_b29_spi.keep K70 (ninS ne54_b29_b54 nin0)
        have f84_F_b29_transforms := f68_F_b29_transforms.keep K70 (ninS ne54_b29_b54 nin0)
        have f85_A_b39 := f69_A_b39.keep K70 (ninS ne54_b39_b54 nin0)
        refine go (fun t kt => st70.trans kt) ?_
        show Go p e below _ (T70.setTop (mkF m 88 #[.val (.int p0), .val (.int p1), .val (.int p2), .val (.int p3), .val (.int di), .val (.int si), .val (.int ex), .val (.ref b4), .val (.int (own_ip di si)), .unset, .unset, .unset, .unset] [(.ref b54), (.ref b39), (.int p3), (.int (1 : Int32)), (.ref b29), (.ref b29)]))
        obtain ⟨_, _, ⟨T86, L86, k86, n86⟩, -, X86, ⟨Lc86, hQ86, l86, y86, z86⟩, st86⟩ := X70.specialBack hx (y := (⟨"org/keymoot/Proposal", "<init>", "(II[BLjava/util/List;)V"⟩ : MethodName)) rfl hown (mvT hZ (hw _ (List.mem_of_getElem? (i := 82) rfl))) (mvT hZ (hw _ (List.mem_of_getElem? (i := 83) rfl))) (mvT hZ (hw _ (List.mem_of_getElem? (i := 84) rfl))) (by decide) (backOf (W := 1) (rm_piA l Z a0 hw [] b29 (1 : Int32) p3 b39 b54 dc el em ea 0 (fun _ => (0 : Int32)) T70.heap n0 f71_Z f80_E_b29 n0_b29 f81_F_b29_number f82_F_b29_protocol f83_F_b29_spi f84_F_b29_transforms P70_0 P70_3 (Ne.symm ne54_b29_b54) f85_A_b39 (by decide) (Ne.symm ne39_b29_b39) HS f72_O) hZ (hw _ (List.mem_of_getElem? (i := 84) rfl)) (hw _ (List.mem_of_getElem? (i := 80) rfl)) (by decide) (by decide)) (g := (mkF m 88 #[.val (.int p0), .val (.int p1), .val (.int p2), .val (.int p3), .val (.int di), .val (.int si), .val (.int ex), .val (.ref b4), .val (.int (own_ip di si)), .unset, .unset, .unset, .unset] [(.ref b54), (.ref b39), (.int p3), (.int (1 : Int32)), (.ref b29), (.ref b29)])) rfl (by rw [hml]; rfl) (Steps.refl _) (a := b29) (argsL := [(.int (1 : Int32)), (.int p3), (.ref b39), (.ref b54)]) (rest := [(.ref b29)]) (lenOf pd_8 rfl) rfl (by show 2 * 0 + _ ≤ _; exact Nat.le_of_eq rfl) (hb hby at_88) (fun _ _ => ⟨rfl, rfl, (by decide : 5 + 0 ≤ _), (by decide : 13 + 0 ≤ _)⟩)
        dsimp only [Pt.U, Pt.locs, Pt.cells, Pt.slots] at X86 l86 y86 z86 st86 hQ86
        rw [l86, y86, z86] at X86
        obtain ⟨rfl, N86q, K86, P86_0, P86_1, P86_2⟩ := hQ86
        have N86 := Fr.app N70 N86q
        have f87_Z := Nat.le_trans f71_Z K86.1
        have f88_O := f72_O.keep K86 (allS n0_b29 all0)
        have f89_E_b7 := f73_E_b7.keep K86
        have f90_F_b7_modCount := f74_F_b7_modCount.keep K86 (ninS ne29_b7_b29 nin0)
        have f91_F_b7_elementData := f75_F_b7_elementData.keep K86 (ninS ne29_b7_b29 nin0)
        have f92_F_b7_size := f76_F_b7_size.keep K86 (ninS ne29_b7_b29 nin0)
        have f93_E_b4 := f77_E_b4.keep K86
        have f94_F_b4_doi := f78_F_b4_doi.keep K86 (ninS ne29_b4_b29 nin0)
        have f95_F_b4_situation := f79_F_b4_situation.keep K86 (ninS ne29_b4_b29 nin0)
        have f96_A_b39 := f85_A_b39.keep K86 (ninS (Ne.symm ne39_b29_b39) nin0)
        have f97_E_b54 := P70_0.keep K86
        have f98_F_b54_modCount := P70_1.keep K86 (ninS (Ne.symm ne54_b29_b54) nin0)
        have f99_F_b54_elementData := P70_2.keep K86 (ninS (Ne.symm ne54_b29_b54) nin0)
        have f100_F_b54_size := P70_3.keep K86 (ninS (Ne.symm ne54_b29_b54) nin0)
        refine go (fun t kt => st86.trans kt) ?_
        show Go p e below _ (T86.setTop (mkF m 91 #[.val (.int p0), .val (.int p1), .val (.int p2), .val (.int p3), .val (.int di), .val (.int si), .val (.int ex), .val (.ref b4), .val (.int (own_ip di si)), .unset, .unset, .unset, .unset] [(.ref b29)]))
        refine go (fun t kt' => by refine XS.astore X86.here hx rfl (hb hby at_91) rfl rfl (l' := #[.val (.int p0), .val (.int p1), .val (.int p2), .val (.int p3), .val (.int di), .val (.int si), .val (.int ex), .val (.ref b4), .val (.int (own_ip di si)), .val (.ref b29), .unset, .unset, .unset]) rfl ?_; exact kt') ?_
        show Go p e below _ (T86.setTop (mkF m 93 #[.val (.int p0), .val (.int p1), .val (.int p2), .val (.int p3), .val (.int di), .val (.int si), .val (.int ex), .val (.ref b4), .val (.int (own_ip di si)), .val (.ref b29), .unset, .unset, .unset] []))
        obtain ⟨T101, h101, X101, e101, E101, A101, D101, -, st101⟩ := newO X86 hx hZ hown (hw _ (List.mem_of_getElem? (i := 107) rfl)) (hw _ (List.mem_of_getElem? (i := 108) rfl)) (hw _ (List.mem_of_getElem? (i := 109) rfl)) rfl (g := (mkF m 93 #[.val (.int p0), .val (.int p1), .val (.int p2), .val (.int p3), .val (.int di), .val (.int si), .val (.int ex), .val (.ref b4), .val (.int (own_ip di si)), .val (.ref b29), .unset, .unset, .unset] [])) rfl (hb hby at_93) (by decide) (by decide)
        obtain ⟨b101, g101⟩ : ∃ z, z = T86.heap.size := ⟨_, rfl⟩
        have n0_b101 : n0 ≤ b101 := Nat.le_trans f87_Z (Nat.le_of_eq g101.symm)
        have ne101_b7_b101 : b7 ≠ b101 := Nat.ne_of_lt (Nat.lt_of_lt_of_le f89_E_b7.lt (Nat.le_of_eq g101.symm))
        have ne101_b4_b101 : b4 ≠ b101 := Nat.ne_of_lt (Nat.lt_of_lt_of_le f93_E_b4.lt (Nat.le_of_eq g101.symm))
        have ne101_b39_b101 : b39 ≠ b101 := Nat.ne_of_lt (Nat.lt_of_lt_of_le f96_A_b39.lt (Nat.le_of_eq g101.symm))
        have ne101_b54_b101 : b54 ≠ b101 := Nat.ne_of_lt (Nat.lt_of_lt_of_le f97_E_b54.lt (Nat.le_of_eq g101.symm))
        have ne101_b29_b101 : b29 ≠ b101 := Nat.ne_of_lt (Nat.lt_of_lt_of_le P86_0.lt (Nat.le_of_eq g101.symm))
        rw [← g101] at A101 D101 st101
        have f102_Z := Nat.le_trans f87_Z E101.1
        have f103_O := f88_O.ext E101
        have f104_E_b7 := f89_E_b7.ext E101
        have f105_F_b7_modCount := f90_F_b7_modCount.ext E101
        have f106_F_b7_elementData := f91_F_b7_elementData.ext E101
        have f107_F_b7_size := f92_F_b7_size.ext E101
        have f108_E_b4 := f93_E_b4.ext E101
        have f109_F_b4_doi := f94_F_b4_doi.ext E101
        have f110_F_b4_situation := f95_F_b4_situation.ext E101
        have f111_A_b39 := f96_A_b39.ext E101
        have f112_E_b54 := f97_E_b54.ext E101
        have f113_F_b54_modCount := f98_F_b54_modCount.ext E101
        have f114_F_b54_elementData := f99_F_b54_elementData.ext E101
        have f115_F_b54_size := f100_F_b54_size.ext E101
        have f116_E_b29 := P86_0.ext E101
        have f117_F_b29_number := P86_1.ext E101
        have f118_F_b29_protocol := P86_2.ext E101
        have F101_number : Fld Z h101 b101 "org/keymoot/Transform" "number" "I" (.int (0 : Int32)) := D101 (Or.inr (hw _ (List.mem_of_getElem? (i := 116) rfl))) (ty := .int) (by decide)
        have F101_id : Fld Z h101 b101 "org/keymoot/Transform" "id" "I" (.int (0 : Int32)) := D101 (Or.inr (hw _ (List.mem_of_getElem? (i := 118) rfl))) (ty := .int) (by decide)
        have F101_attributes : Fld Z h101 b101 "org/keymoot/Transform" "attributes" "Ljava/util/List;" .null := D101 (Or.inr (hw _ (List.mem_of_getElem? (i := 120) rfl))) (ty := (.object "java/util/List")) (by decide)
        refine go st101 ?_
        show Go p e below _ (T101.setTop (mkF m 96 #[.val (.int p0), .val (.int p1), .val (.int p2), .val (.int p3), .val (.int di), .val (.int si), .val (.int ex), .val (.ref b4), .val (.int (own_ip di si)), .val (.ref b29), .unset, .unset, .unset] [(.ref b101)]))
        refine go (fun t kt' => by refine XS.dup X101.here hx rfl (hb hby at_96) rfl rfl ?_; exact kt') ?_
        show Go p e below _ (T101.setTop (mkF m 97 #[.val (.int p0), .val (.int p1), .val (.int p2), .val (.int p3), .val (.int di), .val (.int si), .val (.int ex), .val (.ref b4), .val (.int (own_ip di si)), .val (.ref b29), .unset, .unset, .unset] [(.ref b101), (.ref b101)]))
        refine go (fun t kt' => by refine XS.iconst X101.here hx rfl (hb hby at_97) ?_; exact kt') ?_
        show Go p e below _ (T101.setTop (mkF m 98 #[.val (.int p0), .val (.int p1), .val (.int p2), .val (.int p3), .val (.int di), .val (.int si), .val (.int ex), .val (.ref b4), .val (.int (own_ip di si)), .val (.ref b29), .unset, .unset, .unset] [(.int (1 : Int32)), (.ref b101), (.ref b101)]))
        refine go (fun t kt' => by refine XS.iconst X101.here hx rfl (hb hby at_98) ?_; exact kt') ?_
        show Go p e below _ (T101.setTop (mkF m 99 #[.val (.int p0), .val (.int p1), .val (.int p2), .val (.int p3), .val (.int di), .val (.int si), .val (.int ex), .val (.ref b4), .val (.int (own_ip di si)), .val (.ref b29), .unset, .unset, .unset] [(.int (1 : Int32)), (.int (1 : Int32)), (.ref b101), (.ref b101)]))
        obtain ⟨T119, h119, X119, e119, E119, A119, D119, -, st119⟩ := newO X101 hx hZ hown (hw _ (List.mem_of_getElem? (i := 3) rfl)) (hw _ (List.mem_of_getElem? (i := 4) rfl)) (hw _ (List.mem_of_getElem? (i := 5) rfl)) e101 (g := (mkF m 99 #[.val (.int p0), .val (.int p1), .val (.int p2), .val (.int p3), .val (.int di), .val (.int si), .val (.int ex), .val (.ref b4), .val (.int (own_ip di si)), .val (.ref b29), .unset, .unset, .unset] [(.int (1 : Int32)), (.int (1 : Int32)), (.ref b101), (.ref b101)])) rfl (hb hby at_99) (by decide) (by decide)
        obtain ⟨b119, g119⟩ : ∃ z, z = h101.size := ⟨_, rfl⟩
        have n0_b119 : n0 ≤ b119 := Nat.le_trans f102_Z (Nat.le_of_eq g119.symm)
        have ne119_b7_b119 : b7 ≠ b119 := Nat.ne_of_lt (Nat.lt_of_lt_of_le f104_E_b7.lt (Nat.le_of_eq g119.symm))
        have ne119_b4_b119 : b4 ≠ b119 := Nat.ne_of_lt (Nat.lt_of_lt_of_le f108_E_b4.lt (Nat.le_of_eq g119.symm))
        have ne119_b39_b119 : b39 ≠ b119 := Nat.ne_of_lt (Nat.lt_of_lt_of_le f111_A_b39.lt (Nat.le_of_eq g119.symm))
        have ne119_b54_b119 : b54 ≠ b119 := Nat.ne_of_lt (Nat.lt_of_lt_of_le f112_E_b54.lt (Nat.le_of_eq g119.symm))
        have ne119_b29_b119 : b29 ≠ b119 := Nat.ne_of_lt (Nat.lt_of_lt_of_le f116_E_b29.lt (Nat.le_of_eq g119.symm))
        have ne119_b101_b119 : b101 ≠ b119 := Nat.ne_of_lt (Nat.lt_of_lt_of_le A101.lt (Nat.le_of_eq g119.symm))
        rw [← g119] at A119 D119 st119
        have f120_Z := Nat.le_trans f102_Z E119.1
        have f121_O := f103_O.ext E119
        have f122_E_b7 := f104_E_b7.ext E119
        have f123_F_b7_modCount := f105_F_b7_modCount.ext E119
        have f124_F_b7_elementData := f106_F_b7_elementData.ext E119
        have f125_F_b7_size := f107_F_b7_size.ext E119
        have f126_E_b4 := f108_E_b4.ext E119
        have f127_F_b4_doi := f109_F_b4_doi.ext E119
        have f128_F_b4_situation := f110_F_b4_situation.ext E119
        have f129_A_b39 := f111_A_b39.ext E119
        have f130_E_b54 := f112_E_b54.ext E119
        have f131_F_b54_modCount := f113_F_b54_modCount.ext E119
        have f132_F_b54_elementData := f114_F_b54_elementData.ext E119
        have f133_F_b54_size := f115_F_b54_size.ext E119
        have f134_E_b29 := f116_E_b29.ext E119
        have f135_F_b29_number := f117_F_b29_number.ext E119
        have f136_F_b29_protocol := f118_F_b29_protocol.ext E119
        have f137_E_b101 := A101.ext E119
        have f138_F_b101_number := F101_number.ext E119
        have f139_F_b101_id := F101_id.ext E119
        have f140_F_b101_attributes := F101_attributes.ext E119
        have F119_modCount : Fld Z h119 b119 "java/util/AbstractList" "modCount" "I" (.int (0 : Int32)) := D119 (Or.inl (hw _ (List.mem_of_getElem? (i := 25) rfl))) (ty := .int) (by decide)
        have F119_elementData : Fld Z h119 b119 "java/util/ArrayList" "elementData" "[Ljava/lang/Object;" .null := D119 (Or.inl (hw _ (List.mem_of_getElem? (i := 28) rfl))) (ty := (.array (.object "java/lang/Object"))) (by decide)
        have F119_size : Fld Z h119 b119 "java/util/ArrayList" "size" "I" (.int (0 : Int32)) := D119 (Or.inl (hw _ (List.mem_of_getElem? (i := 62) rfl))) (ty := .int) (by decide)
        refine go st119 ?_
        show Go p e below _ (T119.setTop (mkF m 102 #[.val (.int p0), .val (.int p1), .val (.int p2), .val (.int p3), .val (.int di), .val (.int si), .val (.int ex), .val (.ref b4), .val (.int (own_ip di si)), .val (.ref b29), .unset, .unset, .unset] [(.ref b119), (.int (1 : Int32)), (.int (1 : Int32)), (.ref b101), (.ref b101)]))
        refine go (fun t kt' => by refine XS.dup X119.here hx rfl (hb hby at_102) rfl rfl ?_; exact kt') ?_
        show Go p e below _ (T119.setTop (mkF m 103 #[.val (.int p0), .val (.int p1), .val (.int p2), .val (.int p3), .val (.int di), .val (.int si), .val (.int ex), .val (.ref b4), .val (.int (own_ip di si)), .val (.ref b29), .unset, .unset, .unset] [(.ref b119), (.ref b119), (.int (1 : Int32)), (.int (1 : Int32)), (.ref b101), (.ref b101)]))
        obtain ⟨_, _, ⟨T141, L141, k141, n141⟩, -, X141, ⟨Lc141, hQ141, l141, y141, z141⟩, st141⟩ := X119.specialBack hx (y := (⟨"java/util/ArrayList", "<init>", "()V"⟩ : MethodName)) rfl hown (mvT hZ (hw _ (List.mem_of_getElem? (i := 6) rfl))) (mvT hZ (hw _ (List.mem_of_getElem? (i := 7) rfl))) (mvT hZ (hw _ (List.mem_of_getElem? (i := 8) rfl))) (by decide) (backOf (W := 5) (rm_al0 l Z a0 hw [] b119 dc el em ea  h119 n0 f120_Z A119 n0_b119 F119_modCount F119_elementData F119_size HS f121_O) hZ (hw _ (List.mem_of_getElem? (i := 8) rfl)) (hw _ (List.mem_of_getElem? (i := 5) rfl)) (by decide) (by decide)) (g := (mkF m 103 #[.val (.int p0), .val (.int p1), .val (.int p2), .val (.int p3), .val (.int di), .val (.int si), .val (.int ex), .val (.ref b4), .val (.int (own_ip di si)), .val (.ref b29), .unset, .unset, .unset] [(.ref b119), (.ref b119), (.int (1 : Int32)), (.int (1 : Int32)), (.ref b101), (.ref b101)])) rfl (by rw [hml]; rfl) (Steps.refl _) (a := b119) (argsL := []) (rest := [(.ref b119), (.int (1 : Int32)), (.int (1 : Int32)), (.ref b101), (.ref b101)]) (lenOf pd_0 rfl) rfl (by show 2 * 0 + _ ≤ _; exact Nat.le_of_eq rfl) (hb hby at_103) (fun _ _ => ⟨rfl, e119, (by decide : 7 + 0 ≤ _), (by decide : 19 + 0 ≤ _)⟩)
        dsimp only [Pt.U, Pt.locs, Pt.cells, Pt.slots] at X141 l141 y141 z141 st141 hQ141
        rw [l141, y141, z141] at X141
        obtain ⟨rfl, N141q, K141, P141_0, P141_1, P141_2, P141_3⟩ := hQ141
        have N141 := Fr.app N86 N141q
        have f142_Z := Nat.le_trans f120_Z K141.1
        have f143_O := f121_O.keep K141 (allS n0_b119 all0)
        have f144_E_b7 := f122_E_b7.keep K141
        have f145_F_b7_modCount := f123_F_b7_modCount.keep K141 (ninS ne119_b7_b119 nin0)
        have f146_F_b7_elementData := f124_F_b7_elementData.keep K141 (ninS ne119_b7_b119 nin0)
        have f147_F_b7_size := f125_F_b7_size.keep K141 (ninS ne119_b7_b119 nin0)
        have f148_E_b4 := f126_E_b4.keep K141
        have f149_F_b4_doi := f127_F_b4_doi.keep K141 (ninS ne119_b4_b119 nin0)
        have f150_F_b4_situation := f128_F_b4_situation.keep K141 (ninS ne119_b4_b119 nin0)
        have f151_A_b39 := f129_A_b39.keep K141 (ninS ne119_b39_b119 nin0)
        have f152_E_b54 := f130_E_b54.keep K141
        have f153_F_b54_modCount := f131_F_b54_modCount.keep K141 (ninS ne119_b54_b119 nin0)
        have f154_F_b54_elementData := f132_F_b54_elementData.keep K141 (ninS ne119_b54_b119 nin0)
        have f155_F_b54_size := f133_F_b54_size.keep K141 (ninS ne119_b54_b119 nin0)
        have f156_E_b29 := f134_E_b29.keep K141
        have f157_F_b29_number := f135_F_b29_number.keep K141 (ninS ne119_b29_b119 nin0)
        have f158_F_b29_protocol := f136_F_b29_protocol.keep K141 (ninS ne119_b29_b119 nin0)
        have f159_E_b101 := f137_E_b101.keep K141
        have f160_F_b101_number := f138_F_b101_number.keep K141 (ninS ne119_b101_b119 nin0)
        have f161_F_b101_id := f139_F_b101_id.keep K141 (ninS ne119_b101_b119 nin0)
        have f162_F_b101_attributes := f140_F_b101_attributes.keep K141 (ninS ne119_b101_b119 nin0)
        refine go (fun t kt => st141.trans kt) ?_
        show Go p e below _ (T141.setTop (mkF m 106 #[.val (.int p0), .val (.int p1), .val (.int p2), .val (.int p3), .val (.int di), .val (.int si), .val (.int ex), .val (.ref b4), .val (.int (own_ip di si)), .val (.ref b29), .unset, .unset, .unset] [(.ref b119), (.int (1 : Int32)), (.int (1 : Int32)), (.ref b101), (.ref b101)]))
        obtain ⟨_, _, ⟨T163, L163, k163, n163⟩, -, X163, ⟨Lc163, hQ163, l163, y163, z163⟩, st163⟩ := X141.specialBack hx (y := (⟨"org/keymoot/Transform", "<init>", "(IILjava/util/List;)V"⟩ : MethodName)) rfl hown (mvT hZ (hw _ (List.mem_of_getElem? (i := 110) rfl))) (mvT hZ (hw _ (List.mem_of_getElem? (i := 111) rfl))) (mvT hZ (hw _ (List.mem_of_getElem? (i := 112) rfl))) (by decide) (backOf (W := 1) (rm_ti l Z a0 hw [] b101 (1 : Int32) (1 : Int32) b119 dc el em ea T141.heap n0 f142_Z f159_E_b101 n0_b101 f160_F_b101_number f161_F_b101_id f162_F_b101_attributes P141_0 P141_3 (Ne.symm ne119_b101_b119) HS f143_O) hZ (hw _ (List.mem_of_getElem? (i := 112) rfl)) (hw _ (List.mem_of_getElem? (i := 109) rfl)) (by decide) (by decide)) (g := (mkF m 106 #[.val (.int p0), .val (.int p1), .val (.int p2), .val (.int p3), .val (.int di), .val (.int si), .val (.int ex), .val (.ref b4), .val (.int (own_ip di si)), .val (.ref b29), .unset, .unset, .unset] [(.ref b119), (.int (1 : Int32)), (.int (1 : Int32)), (.ref b101), (.ref b101)])) rfl (by rw [hml]; rfl) (Steps.refl _) (a := b101) (argsL := [(.int (1 : Int32)), (.int (1 : Int32)), (.ref b119)]) (rest := [(.ref b101)]) (lenOf pd_9 rfl) rfl (by show 2 * 0 + _ ≤ _; exact Nat.le_of_eq rfl) (hb hby at_106) (fun _ _ => ⟨rfl, rfl, (by decide : 7 + 0 ≤ _), (by decide : 19 + 0 ≤ _)⟩)
        dsimp only [Pt.U, Pt.locs, Pt.cells, Pt.slots] at X163 l163 y163 z163 st163 hQ163
        rw [l163, y163, z163] at X163
        obtain ⟨rfl, N163q, K163, P163_0, P163_1⟩ := hQ163
        have N163 := Fr.app N141 N163q
        have f164_Z := Nat.le_trans f142_Z K163.1
        have f165_O := f143_O.keep K163 (allS n0_b101 all0)
        have f166_E_b7 := f144_E_b7.keep K163
        have f167_F_b7_modCount := f145_F_b7_modCount.keep K163 (ninS ne101_b7_b101 nin0)
        have f168_F_b7_elementData := f146_F_b7_elementData.keep K163 (ninS ne101_b7_b101 nin0)
        have f169_F_b7_size := f147_F_b7_size.keep K163 (ninS ne101_b7_b101 nin0)
        have f170_E_b4 := f148_E_b4.keep K163
        have f171_F_b4_doi := f149_F_b4_doi.keep K163 (ninS ne101_b4_b101 nin0)
        have f172_F_b4_situation := f150_F_b4_situation.keep K163 (ninS ne101_b4_b101 nin0)
        have f173_A_b39 := f151_A_b39.keep K163 (ninS ne101_b39_b101 nin0)
        have f174_E_b54 := f152_E_b54.keep K163
        have f175_F_b54_modCount := f153_F_b54_modCount.keep K163 (ninS ne101_b54_b101 nin0)
        have f176_F_b54_elementData := f154_F_b54_elementData.keep K163 (ninS ne101_b54_b101 nin0)
        have f177_F_b54_size := f155_F_b54_size.keep K163 (ninS ne101_b54_b101 nin0)
        have f178_E_b29 := f156_E_b29.keep K163
        have f179_F_b29_number := f157_F_b29_number.keep K163 (ninS ne101_b29_b101 nin0)
        have f180_F_b29_protocol := f158_F_b29_protocol.keep K163 (ninS ne101_b29_b101 nin0)
        have f181_E_b119 := P141_0.keep K163
        have f182_F_b119_modCount := P141_1.keep K163 (ninS (Ne.symm ne119_b101_b119) nin0)
        have f183_F_b119_elementData := P141_2.keep K163 (ninS (Ne.symm ne119_b101_b119) nin0)
        have f184_F_b119_size := P141_3.keep K163 (ninS (Ne.symm ne119_b101_b119) nin0)
        refine go (fun t kt => st163.trans kt) ?_
        show Go p e below _ (T163.setTop (mkF m 109 #[.val (.int p0), .val (.int p1), .val (.int p2), .val (.int p3), .val (.int di), .val (.int si), .val (.int ex), .val (.ref b4), .val (.int (own_ip di si)), .val (.ref b29), .unset, .unset, .unset] [(.ref b101)]))
        refine go (fun t kt' => by refine XS.astore X163.here hx rfl (hb hby at_109) rfl rfl (l' := #[.val (.int p0), .val (.int p1), .val (.int p2), .val (.int p3), .val (.int di), .val (.int si), .val (.int ex), .val (.ref b4), .val (.int (own_ip di si)), .val (.ref b29), .val (.ref b101), .unset, .unset]) rfl ?_; exact kt') ?_
        show Go p e below _ (T163.setTop (mkF m 111 #[.val (.int p0), .val (.int p1), .val (.int p2), .val (.int p3), .val (.int di), .val (.int si), .val (.int ex), .val (.ref b4), .val (.int (own_ip di si)), .val (.ref b29), .val (.ref b101), .unset, .unset] []))
        refine go (fun t kt' => by refine XS.aload X163.here hx rfl (hb hby at_111) rfl rfl ?_; exact kt') ?_
        show Go p e below _ (T163.setTop (mkF m 113 #[.val (.int p0), .val (.int p1), .val (.int p2), .val (.int p3), .val (.int di), .val (.int si), .val (.int ex), .val (.ref b4), .val (.int (own_ip di si)), .val (.ref b29), .val (.ref b101), .unset, .unset] [(.ref b4)]))
        refine go (fun t kt' => by refine XS.aload X163.here hx rfl (hb hby at_113) rfl rfl ?_; exact kt') ?_
        show Go p e below _ (T163.setTop (mkF m 115 #[.val (.int p0), .val (.int p1), .val (.int p2), .val (.int p3), .val (.int di), .val (.int si), .val (.int ex), .val (.ref b4), .val (.int (own_ip di si)), .val (.ref b29), .val (.ref b101), .unset, .unset] [(.ref b29), (.ref b4)]))
        refine go (fun t kt' => by refine XS.iconst X163.here hx rfl (hb hby at_115) ?_; exact kt') ?_
        show Go p e below _ (T163.setTop (mkF m 116 #[.val (.int p0), .val (.int p1), .val (.int p2), .val (.int p3), .val (.int di), .val (.int si), .val (.int ex), .val (.ref b4), .val (.int (own_ip di si)), .val (.ref b29), .val (.ref b101), .unset, .unset] [(.int (4 : Int32)), (.ref b29), (.ref b4)]))
        obtain ⟨T185, h185, k185, X185, e185, E185, A185, st185⟩ := newP X163 hx hZ (hw _ (List.mem_of_getElem? (i := 81) rfl)) rfl (g := (mkF m 116 #[.val (.int p0), .val (.int p1), .val (.int p2), .val (.int p3), .val (.int di), .val (.int si), .val (.int ex), .val (.ref b4), .val (.int (own_ip di si)), .val (.ref b29), .val (.ref b101), .unset, .unset] [(.int (4 : Int32)), (.ref b29), (.ref b4)])) rfl (hb hby at_116) rfl (by decide) (cap := 4) (by decide) (by decide) (by decide) (by decide)
        obtain ⟨b185, g185⟩ : ∃ z, z = T163.heap.size := ⟨_, rfl⟩
        have n0_b185 : n0 ≤ b185 := Nat.le_trans f164_Z (Nat.le_of_eq g185.symm)
        have ne185_b7_b185 : b7 ≠ b185 := Nat.ne_of_lt (Nat.lt_of_lt_of_le f166_E_b7.lt (Nat.le_of_eq g185.symm))
        have ne185_b4_b185 : b4 ≠ b185 := Nat.ne_of_lt (Nat.lt_of_lt_of_le f170_E_b4.lt (Nat.le_of_eq g185.symm))
        have ne185_b39_b185 : b39 ≠ b185 := Nat.ne_of_lt (Nat.lt_of_lt_of_le f173_A_b39.lt (Nat.le_of_eq g185.symm))
        have ne185_b54_b185 : b54 ≠ b185 := Nat.ne_of_lt (Nat.lt_of_lt_of_le f174_E_b54.lt (Nat.le_of_eq g185.symm))
        have ne185_b29_b185 : b29 ≠ b185 := Nat.ne_of_lt (Nat.lt_of_lt_of_le f178_E_b29.lt (Nat.le_of_eq g185.symm))
        have ne185_b119_b185 : b119 ≠ b185 := Nat.ne_of_lt (Nat.lt_of_lt_of_le f181_E_b119.lt (Nat.le_of_eq g185.symm))
        have ne185_b101_b185 : b101 ≠ b185 := Nat.ne_of_lt (Nat.lt_of_lt_of_le P163_0.lt (Nat.le_of_eq g185.symm))
        rw [← g185] at A185 st185
        have f186_Z := Nat.le_trans f164_Z E185.1
        have f187_O := f165_O.ext E185
        have f188_E_b7 := f166_E_b7.ext E185
        have f189_F_b7_modCount := f167_F_b7_modCount.ext E185
        have f190_F_b7_elementData := f168_F_b7_elementData.ext E185
        have f191_F_b7_size := f169_F_b7_size.ext E185
        have f192_E_b4 := f170_E_b4.ext E185
        have f193_F_b4_doi := f171_F_b4_doi.ext E185
        have f194_F_b4_situation := f172_F_b4_situation.ext E185
        have f195_A_b39 := f173_A_b39.ext E185
        have f196_E_b54 := f174_E_b54.ext E185
        have f197_F_b54_modCount := f175_F_b54_modCount.ext E185
        have f198_F_b54_elementData := f176_F_b54_elementData.ext E185
        have f199_F_b54_size := f177_F_b54_size.ext E185
        have f200_E_b29 := f178_E_b29.ext E185
        have f201_F_b29_number := f179_F_b29_number.ext E185
        have f202_F_b29_protocol := f180_F_b29_protocol.ext E185
        have f203_E_b119 := f181_E_b119.ext E185
        have f204_F_b119_modCount := f182_F_b119_modCount.ext E185
        have f205_F_b119_elementData := f183_F_b119_elementData.ext E185
        have f206_F_b119_size := f184_F_b119_size.ext E185
        have f207_E_b101 := P163_0.ext E185
        have f208_F_b101_number := P163_1.ext E185
        have V185 : IA Z h185 b185 .byte 4 (fun _ => 0) := IA.new A185 rfl rfl
        refine go st185 ?_
        show Go p e below _ (T185.setTop (mkF m 118 #[.val (.int p0), .val (.int p1), .val (.int p2), .val (.int p3), .val (.int di), .val (.int si), .val (.int ex), .val (.ref b4), .val (.int (own_ip di si)), .val (.ref b29), .val (.ref b101), .unset, .unset] [(.ref b185), (.ref b29), (.ref b4)]))
        refine go (fun t kt' => by refine XS.aload X185.here hx rfl (hb hby at_118) rfl rfl ?_; exact kt') ?_
        show Go p e below _ (T185.setTop (mkF m 120 #[.val (.int p0), .val (.int p1), .val (.int p2), .val (.int p3), .val (.int di), .val (.int si), .val (.int ex), .val (.ref b4), .val (.int (own_ip di si)), .val (.ref b29), .val (.ref b101), .unset, .unset] [(.ref b101), (.ref b185), (.ref b29), (.ref b4)]))
        obtain ⟨cq209, kq209, q209a, q209b, q209c⟩ := isOf hZ e185 f192_E_b4
        obtain ⟨_, _, ⟨T209, L209, k209, n209⟩, -, X209, ⟨Lc209, hQ209, l209, y209, z209⟩, st209⟩ := X185.virtualBack hx (y := (⟨"org/keymoot/SecurityAssociation", "answer", "(Lorg/keymoot/Proposal;[BLorg/keymoot/Transform;)Lorg/keymoot/SecurityAssociation;"⟩ : MethodName)) (z := (⟨"org/keymoot/SecurityAssociation", "answer", "(Lorg/keymoot/Proposal;[BLorg/keymoot/Transform;)Lorg/keymoot/SecurityAssociation;"⟩ : MethodName)) hown (mvT hZ (hw _ (List.mem_of_getElem? (i := 121) rfl))) (mvT hZ (hw _ (List.mem_of_getElem? (i := 122) rfl))) (notFace_of_selects (args := #[]) (mvT hZ (hw _ (List.mem_of_getElem? (i := 124) rfl)))) (mvT hZ (hw _ (List.mem_of_getElem? (i := 124) rfl))) (mvT hZ (hw _ (List.mem_of_getElem? (i := 123) rfl))) (by decide) (backOf (W := 0) (rm_an l Z a0 hw [] b4 b29 b185 b101 dc el em ea di si (1 : Int32) p3 4 (fun _ => (0 : Int32)) h185 n0 f186_Z f192_E_b4 f193_F_b4_doi f194_F_b4_situation f200_E_b29 f201_F_b29_number f202_F_b29_protocol V185 (by decide) HS f187_O) hZ (hw _ (List.mem_of_getElem? (i := 125) rfl)) (hw _ (List.mem_of_getElem? (i := 2) rfl)) (by decide) (by decide)) q209a q209c (g := (mkF m 120 #[.val (.int p0), .val (.int p1), .val (.int p2), .val (.int p3), .val (.int di), .val (.int si), .val (.int ex), .val (.ref b4), .val (.int (own_ip di si)), .val (.ref b29), .val (.ref b101), .unset, .unset] [(.ref b101), (.ref b185), (.ref b29), (.ref b4)])) rfl (by rw [hml]; rfl) (Steps.refl _) (argsL := [(.ref b29), (.ref b185), (.ref b101)]) (rest := []) (lenOf pd_12 rfl) rfl (by show 2 * 0 + _ ≤ _; exact Nat.le_of_eq rfl) (hb hby at_120) (fun _ _ => ⟨rfl, e185, (by decide : 8 + 4 ≤ _), (by decide : 23 + 11 ≤ _)⟩)
        dsimp only [Pt.U, Pt.locs, Pt.cells, Pt.slots] at X209 l209 y209 z209 st209 hQ209
        rw [l209, y209, z209] at X209
        obtain ⟨r209, rfl, N209q, K209, n0_r209, sq209, E209_, P209_0, P209_1⟩ := hQ209
        have N209 := Fr.app N163 N209q
        have ne209_b7 : b7 ≠ r209 := Nat.ne_of_lt (Nat.lt_of_lt_of_le f188_E_b7.lt sq209)
        have ne209_b4 : b4 ≠ r209 := Nat.ne_of_lt (Nat.lt_of_lt_of_le f192_E_b4.lt sq209)
        have ne209_b39 : b39 ≠ r209 := Nat.ne_of_lt (Nat.lt_of_lt_of_le f195_A_b39.lt sq209)
        have ne209_b54 : b54 ≠ r209 := Nat.ne_of_lt (Nat.lt_of_lt_of_le f196_E_b54.lt sq209)
        have ne209_b29 : b29 ≠ r209 := Nat.ne_of_lt (Nat.lt_of_lt_of_le f200_E_b29.lt sq209)
        have ne209_b119 : b119 ≠ r209 := Nat.ne_of_lt (Nat.lt_of_lt_of_le f203_E_b119.lt sq209)
        have ne209_b101 : b101 ≠ r209 := Nat.ne_of_lt (Nat.lt_of_lt_of_le f207_E_b101.lt sq209)
        have ne209_b185 : b185 ≠ r209 := Nat.ne_of_lt (Nat.lt_of_lt_of_le V185.lt sq209)
        have f210_Z := Nat.le_trans f186_Z K209.1
        have f211_O := f187_O.keep K209 all0
        have f212_E_b7 := f188_E_b7.keep K209
        have f213_F_b7_modCount := f189_F_b7_modCount.keep K209 nin0
        have f214_F_b7_elementData := f190_F_b7_elementData.keep K209 nin0
        have f215_F_b7_size := f191_F_b7_size.keep K209 nin0
        have f216_E_b4 := f192_E_b4.keep K209
        have f217_F_b4_doi := f193_F_b4_doi.keep K209 nin0
        have f218_F_b4_situation := f194_F_b4_situation.keep K209 nin0
        have f219_A_b39 := f195_A_b39.keep K209 nin0
        have f220_E_b54 := f196_E_b54.keep K209
        have f221_F_b54_modCount := f197_F_b54_modCount.keep K209 nin0
        have f222_F_b54_elementData := f198_F_b54_elementData.keep K209 nin0
        have f223_F_b54_size := f199_F_b54_size.keep K209 nin0
        have f224_E_b29 := f200_E_b29.keep K209
        have f225_F_b29_number := f201_F_b29_number.keep K209 nin0
        have f226_F_b29_protocol := f202_F_b29_protocol.keep K209 nin0
        have f227_E_b119 := f203_E_b119.keep K209
        have f228_F_b119_modCount := f204_F_b119_modCount.keep K209 nin0
        have f229_F_b119_elementData := f205_F_b119_elementData.keep K209 nin0
        have f230_F_b119_size := f206_F_b119_size.keep K209 nin0
        have f231_E_b101 := f207_E_b101.keep K209
        have f232_F_b101_number := f208_F_b101_number.keep K209 nin0
        have f233_A_b185 := V185.keep K209 nin0
        refine go (fun t kt => st209.trans kt) ?_
        show Go p e below _ (T209.setTop (mkF m 123 #[.val (.int p0), .val (.int p1), .val (.int p2), .val (.int p3), .val (.int di), .val (.int si), .val (.int ex), .val (.ref b4), .val (.int (own_ip di si)), .val (.ref b29), .val (.ref b101), .unset, .unset] [(.ref r209)]))
        refine go (fun t kt' => by refine XS.astore X209.here hx rfl (hb hby at_123) rfl rfl (l' := #[.val (.int p0), .val (.int p1), .val (.int p2), .val (.int p3), .val (.int di), .val (.int si), .val (.int ex), .val (.ref b4), .val (.int (own_ip di si)), .val (.ref b29), .val (.ref b101), .val (.ref r209), .unset]) rfl ?_; exact kt') ?_
        show Go p e below _ (T209.setTop (mkF m 125 #[.val (.int p0), .val (.int p1), .val (.int p2), .val (.int p3), .val (.int di), .val (.int si), .val (.int ex), .val (.ref b4), .val (.int (own_ip di si)), .val (.ref b29), .val (.ref b101), .val (.ref r209), .unset] []))
        refine go (fun t kt' => by refine XS.iloadN X209.here hx rfl (hb hby at_125) rfl ?_; exact kt') ?_
        show Go p e below _ (T209.setTop (mkF m 126 #[.val (.int p0), .val (.int p1), .val (.int p2), .val (.int p3), .val (.int di), .val (.int si), .val (.int ex), .val (.ref b4), .val (.int (own_ip di si)), .val (.ref b29), .val (.ref b101), .val (.ref r209), .unset] [(.int p3)]))
        refine go (fun t kt' => by refine XS.iconst X209.here hx rfl (hb hby at_126) ?_; exact kt') ?_
        show Go p e below _ (T209.setTop (mkF m 127 #[.val (.int p0), .val (.int p1), .val (.int p2), .val (.int p3), .val (.int di), .val (.int si), .val (.int ex), .val (.ref b4), .val (.int (own_ip di si)), .val (.ref b29), .val (.ref b101), .val (.ref r209), .unset] [(.int (4 : Int32)), (.int p3)]))
        obtain ⟨T234, h234, k234, X234, e234, E234, A234, st234⟩ := newP X209 hx hZ (hw _ (List.mem_of_getElem? (i := 81) rfl)) rfl (g := (mkF m 127 #[.val (.int p0), .val (.int p1), .val (.int p2), .val (.int p3), .val (.int di), .val (.int si), .val (.int ex), .val (.ref b4), .val (.int (own_ip di si)), .val (.ref b29), .val (.ref b101), .val (.ref r209), .unset] [(.int (4 : Int32)), (.int p3)])) rfl (hb hby at_127) rfl (by decide) (cap := 4) (by decide) (by decide) (by decide) (by decide)
        obtain ⟨b234, g234⟩ : ∃ z, z = T209.heap.size := ⟨_, rfl⟩
        have n0_b234 : n0 ≤ b234 := Nat.le_trans f210_Z (Nat.le_of_eq g234.symm)
        have ne234_b7_b234 : b7 ≠ b234 := Nat.ne_of_lt (Nat.lt_of_lt_of_le f212_E_b7.lt (Nat.le_of_eq g234.symm))
        have ne234_b4_b234 : b4 ≠ b234 := Nat.ne_of_lt (Nat.lt_of_lt_of_le f216_E_b4.lt (Nat.le_of_eq g234.symm))
        have ne234_b39_b234 : b39 ≠ b234 := Nat.ne_of_lt (Nat.lt_of_lt_of_le f219_A_b39.lt (Nat.le_of_eq g234.symm))
        have ne234_b54_b234 : b54 ≠ b234 := Nat.ne_of_lt (Nat.lt_of_lt_of_le f220_E_b54.lt (Nat.le_of_eq g234.symm))
        have ne234_b29_b234 : b29 ≠ b234 := Nat.ne_of_lt (Nat.lt_of_lt_of_le f224_E_b29.lt (Nat.le_of_eq g234.symm))
        have ne234_b119_b234 : b119 ≠ b234 := Nat.ne_of_lt (Nat.lt_of_lt_of_le f227_E_b119.lt (Nat.le_of_eq g234.symm))
        have ne234_b101_b234 : b101 ≠ b234 := Nat.ne_of_lt (Nat.lt_of_lt_of_le f231_E_b101.lt (Nat.le_of_eq g234.symm))
        have ne234_b185_b234 : b185 ≠ b234 := Nat.ne_of_lt (Nat.lt_of_lt_of_le f233_A_b185.lt (Nat.le_of_eq g234.symm))
        have ne234_r209_b234 : r209 ≠ b234 := Nat.ne_of_lt (Nat.lt_of_lt_of_le E209_.lt (Nat.le_of_eq g234.symm))
        rw [← g234] at A234 st234
        have f235_Z := Nat.le_trans f210_Z E234.1
        have f236_O := f211_O.ext E234
        have f237_E_b7 := f212_E_b7.ext E234
        have f238_F_b7_modCount := f213_F_b7_modCount.ext E234
        have f239_F_b7_elementData := f214_F_b7_elementData.ext E234
        have f240_F_b7_size := f215_F_b7_size.ext E234
        have f241_E_b4 := f216_E_b4.ext E234
        have f242_F_b4_doi := f217_F_b4_doi.ext E234
        have f243_F_b4_situation := f218_F_b4_situation.ext E234
        have f244_A_b39 := f219_A_b39.ext E234
        have f245_E_b54 := f220_E_b54.ext E234
        have f246_F_b54_modCount := f221_F_b54_modCount.ext E234
        have f247_F_b54_elementData := f222_F_b54_elementData.ext E234
        have f248_F_b54_size := f223_F_b54_size.ext E234
        have f249_E_b29 := f224_E_b29.ext E234
        have f250_F_b29_number := f225_F_b29_number.ext E234
        have f251_F_b29_protocol := f226_F_b29_protocol.ext E234
        have f252_E_b119 := f227_E_b119.ext E234
        have f253_F_b119_modCount := f228_F_b119_modCount.ext E234
        have f254_F_b119_elementData := f229_F_b119_elementData.ext E234
        have f255_F_b119_size := f230_F_b119_size.ext E234
        have f256_E_b101 := f231_E_b101.ext E234
        have f257_F_b101_number := f232_F_b101_number.ext E234
        have f258_A_b185 := f233_A_b185.ext E234
        have f259_E_r209 := E209_.ext E234
        have f260_F_r209_doi := P209_0.ext E234
        have f261_F_r209_situation := P209_1.ext E234
        have V234 : IA Z h234 b234 .byte 4 (fun _ => 0) := IA.new A234 rfl rfl
        refine go st234 ?_
        show Go p e below _ (T234.setTop (mkF m 129 #[.val (.int p0), .val (.int p1), .val (.int p2), .val (.int p3), .val (.int di), .val (.int si), .val (.int ex), .val (.ref b4), .val (.int (own_ip di si)), .val (.ref b29), .val (.ref b101), .val (.ref r209), .unset] [(.ref b234), (.int p3)]))
        obtain ⟨T262, h262, X262, e262, E262, A262, D262, -, st262⟩ := newO X234 hx hZ hown (hw _ (List.mem_of_getElem? (i := 3) rfl)) (hw _ (List.mem_of_getElem? (i := 4) rfl)) (hw _ (List.mem_of_getElem? (i := 5) rfl)) e234 (g := (mkF m 129 #[.val (.int p0), .val (.int p1), .val (.int p2), .val (.int p3), .val (.int di), .val (.int si), .val (.int ex), .val (.ref b4), .val (.int (own_ip di si)), .val (.ref b29), .val (.ref b101), .val (.ref r209), .unset] [(.ref b234), (.int p3)])) rfl (hb hby at_129) (by decide) (by decide)
        obtain ⟨b262, g262⟩ : ∃ z, z = h234.size := ⟨_, rfl⟩
        have n0_b262 : n0 ≤ b262 := Nat.le_trans f235_Z (Nat.le_of_eq g262.symm)
        have ne262_b7_b262 : b7 ≠ b262 := Nat.ne_of_lt (Nat.lt_of_lt_of_le f237_E_b7.lt (Nat.le_of_eq g262.symm))
        have ne262_b4_b262 : b4 ≠ b262 := Nat.ne_of_lt (Nat.lt_of_lt_of_le f241_E_b4.lt (Nat.le_of_eq g262.symm))
        have ne262_b39_b262 : b39 ≠ b262 := Nat.ne_of_lt (Nat.lt_of_lt_of_le f244_A_b39.lt (Nat.le_of_eq g262.symm))
        have ne262_b54_b262 : b54 ≠ b262 := Nat.ne_of_lt (Nat.lt_of_lt_of_le f245_E_b54.lt (Nat.le_of_eq g262.symm))
        have ne262_b29_b262 : b29 ≠ b262 := Nat.ne_of_lt (Nat.lt_of_lt_of_le f249_E_b29.lt (Nat.le_of_eq g262.symm))
        have ne262_b119_b262 : b119 ≠ b262 := Nat.ne_of_lt (Nat.lt_of_lt_of_le f252_E_b119.lt (Nat.le_of_eq g262.symm))
        have ne262_b101_b262 : b101 ≠ b262 := Nat.ne_of_lt (Nat.lt_of_lt_of_le f256_E_b101.lt (Nat.le_of_eq g262.symm))
        have ne262_b185_b262 : b185 ≠ b262 := Nat.ne_of_lt (Nat.lt_of_lt_of_le f258_A_b185.lt (Nat.le_of_eq g262.symm))
        have ne262_r209_b262 : r209 ≠ b262 := Nat.ne_of_lt (Nat.lt_of_lt_of_le f259_E_r209.lt (Nat.le_of_eq g262.symm))
        have ne262_b234_b262 : b234 ≠ b262 := Nat.ne_of_lt (Nat.lt_of_lt_of_le V234.lt (Nat.le_of_eq g262.symm))
        rw [← g262] at A262 D262 st262
        have f263_Z := Nat.le_trans f235_Z E262.1
        have f264_O := f236_O.ext E262
        have f265_E_b7 := f237_E_b7.ext E262
        have f266_F_b7_modCount := f238_F_b7_modCount.ext E262
        have f267_F_b7_elementData := f239_F_b7_elementData.ext E262
        have f268_F_b7_size := f240_F_b7_size.ext E262
        have f269_E_b4 := f241_E_b4.ext E262
        have f270_F_b4_doi := f242_F_b4_doi.ext E262
        have f271_F_b4_situation := f243_F_b4_situation.ext E262
        have f272_A_b39 := f244_A_b39.ext E262
        have f273_E_b54 := f245_E_b54.ext E262
        have f274_F_b54_modCount := f246_F_b54_modCount.ext E262
        have f275_F_b54_elementData := f247_F_b54_elementData.ext E262
        have f276_F_b54_size := f248_F_b54_size.ext E262
        have f277_E_b29 := f249_E_b29.ext E262
        have f278_F_b29_number := f250_F_b29_number.ext E262
        have f279_F_b29_protocol := f251_F_b29_protocol.ext E262
        have f280_E_b119 := f252_E_b119.ext E262
        have f281_F_b119_modCount := f253_F_b119_modCount.ext E262
        have f282_F_b119_elementData := f254_F_b119_elementData.ext E262
        have f283_F_b119_size := f255_F_b119_size.ext E262
        have f284_E_b101 := f256_E_b101.ext E262
        have f285_F_b101_number := f257_F_b101_number.ext E262
        have f286_A_b185 := f258_A_b185.ext E262
        have f287_E_r209 := f259_E_r209.ext E262
        have f288_F_r209_doi := f260_F_r209_doi.ext E262
        have f289_F_r209_situation := f261_F_r209_situation.ext E262
        have f290_A_b234 := V234.ext E262
        have F262_modCount : Fld Z h262 b262 "java/util/AbstractList" "modCount" "I" (.int (0 : Int32)) := D262 (Or.inl (hw _ (List.mem_of_getElem? (i := 25) rfl))) (ty := .int) (by decide)
        have F262_elementData : Fld Z h262 b262 "java/util/ArrayList" "elementData" "[Ljava/lang/Object;" .null := D262 (Or.inl (hw _ (List.mem_of_getElem? (i := 28) rfl))) (ty := (.array (.object "java/lang/Object"))) (by decide)
        have F262_size : Fld Z h262 b262 "java/util/ArrayList" "size" "I" (.int (0 : Int32)) := D262 (Or.inl (hw _ (List.mem_of_getElem? (i := 62) rfl))) (ty := .int) (by decide)
        refine go st262 ?_
        show Go p e below _ (T262.setTop (mkF m 132 #[.val (.int p0), .val (.int p1), .val (.int p2), .val (.int p3), .val (.int di), .val (.int si), .val (.int ex), .val (.ref b4), .val (.int (own_ip di si)), .val (.ref b29), .val (.ref b101), .val (.ref r209), .unset] [(.ref b262), (.ref b234), (.int p3)]))
        refine go (fun t kt' => by refine XS.dup X262.here hx rfl (hb hby at_132) rfl rfl ?_; exact kt') ?_
        show Go p e below _ (T262.setTop (mkF m 133 #[.val (.int p0), .val (.int p1), .val (.int p2), .val (.int p3), .val (.int di), .val (.int si), .val (.int ex), .val (.ref b4), .val (.int (own_ip di si)), .val (.ref b29), .val (.ref b101), .val (.ref r209), .unset] [(.ref b262), (.ref b262), (.ref b234), (.int p3)]))
        obtain ⟨_, _, ⟨T291, L291, k291, n291⟩, -, X291, ⟨Lc291, hQ291, l291, y291, z291⟩, st291⟩ := X262.specialBack hx (y := (⟨"java/util/ArrayList", "<init>", "()V"⟩ : MethodName)) rfl hown (mvT hZ (hw _ (List.mem_of_getElem? (i := 6) rfl))) (mvT hZ (hw _ (List.mem_of_getElem? (i := 7) rfl))) (mvT hZ (hw _ (List.mem_of_getElem? (i := 8) rfl))) (by decide) (backOf (W := 3) (rm_al0 l Z a0 hw [] b262 dc el em ea  h262 n0 f263_Z A262 n0_b262 F262_modCount F262_elementData F262_size HS f264_O) hZ (hw _ (List.mem_of_getElem? (i := 8) rfl)) (hw _ (List.mem_of_getElem? (i := 5) rfl)) (by decide) (by decide)) (g := (mkF m 133 #[.val (.int p0), .val (.int p1), .val (.int p2), .val (.int p3), .val (.int di), .val (.int si), .val (.int ex), .val (.ref b4), .val (.int (own_ip di si)), .val (.ref b29), .val (.ref b101), .val (.ref r209), .unset] [(.ref b262), (.ref b262), (.ref b234), (.int p3)])) rfl (by rw [hml]; rfl) (Steps.refl _) (a := b262) (argsL := []) (rest := [(.ref b262), (.ref b234), (.int p3)]) (lenOf pd_0 rfl) rfl (by show 2 * 0 + _ ≤ _; exact Nat.le_of_eq rfl) (hb hby at_133) (fun _ _ => ⟨rfl, e262, (by decide : 14 + 0 ≤ _), (by decide : 41 + 0 ≤ _)⟩)
        dsimp only [Pt.U, Pt.locs, Pt.cells, Pt.slots] at X291 l291 y291 z291 st291 hQ291
        rw [l291, y291, z291] at X291
        obtain ⟨rfl, N291q, K291, P291_0, P291_1, P291_2, P291_3⟩ := hQ291
        have N291 := Fr.app N209 N291q
        have f292_Z := Nat.le_trans f263_Z K291.1
        have f293_O := f264_O.keep K291 (allS n0_b262 all0)
        have f294_E_b7 := f265_E_b7.keep K291
        have f295_F_b7_modCount := f266_F_b7_modCount.keep K291 (ninS ne262_b7_b262 nin0)
        have f296_F_b7_elementData := f267_F_b7_elementData.keep K291 (ninS ne262_b7_b262 nin0)
        have f297_F_b7_size := f268_F_b7_size.keep K291 (ninS ne262_b7_b262 nin0)
        have f298_E_b4 := f269_E_b4.keep K291
        have f299_F_b4_doi := f270_F_b4_doi.keep K291 (ninS ne262_b4_b262 nin0)
        have f300_F_b4_situation := f271_F_b4_situation.keep K291 (ninS ne262_b4_b262 nin0)
        have f301_A_b39 := f272_A_b39.keep K291 (ninS ne262_b39_b262 nin0)
        have f302_E_b54 := f273_E_b54.keep K291
        have f303_F_b54_modCount := f274_F_b54_modCount.keep K291 (ninS ne262_b54_b262 nin0)
        have f304_F_b54_elementData := f275_F_b54_elementData.keep K291 (ninS ne262_b54_b262 nin0)
        have f305_F_b54_size := f276_F_b54_size.keep K291 (ninS ne262_b54_b262 nin0)
        have f306_E_b29 := f277_E_b29.keep K291
        have f307_F_b29_number := f278_F_b29_number.keep K291 (ninS ne262_b29_b262 nin0)
        have f308_F_b29_protocol := f279_F_b29_protocol.keep K291 (ninS ne262_b29_b262 nin0)
        have f309_E_b119 := f280_E_b119.keep K291
        have f310_F_b119_modCount := f281_F_b119_modCount.keep K291 (ninS ne262_b119_b262 nin0)
        have f311_F_b119_elementData := f282_F_b119_elementData.keep K291 (ninS ne262_b119_b262 nin0)
        have f312_F_b119_size := f283_F_b119_size.keep K291 (ninS ne262_b119_b262 nin0)
        have f313_E_b101 := f284_E_b101.keep K291
        have f314_F_b101_number := f285_F_b101_number.keep K291 (ninS ne262_b101_b262 nin0)
        have f315_A_b185 := f286_A_b185.keep K291 (ninS ne262_b185_b262 nin0)
        have f316_E_r209 := f287_E_r209.keep K291
        have f317_F_r209_doi := f288_F_r209_doi.keep K291 (ninS ne262_r209_b262 nin0)
        have f318_F_r209_situation := f289_F_r209_situation.keep K291 (ninS ne262_r209_b262 nin0)
        have f319_A_b234 := f290_A_b234.keep K291 (ninS ne262_b234_b262 nin0)
        refine go (fun t kt => st291.trans kt) ?_
        show Go p e below _ (T291.setTop (mkF m 136 #[.val (.int p0), .val (.int p1), .val (.int p2), .val (.int p3), .val (.int di), .val (.int si), .val (.int ex), .val (.ref b4), .val (.int (own_ip di si)), .val (.ref b29), .val (.ref b101), .val (.ref r209), .unset] [(.ref b262), (.ref b234), (.int p3)]))
        refine go (fun t kt' => by refine XS.sipush X291.here hx rfl (hb hby at_136) ?_; exact kt') ?_
        show Go p e below _ (T291.setTop (mkF m 139 #[.val (.int p0), .val (.int p1), .val (.int p2), .val (.int p3), .val (.int di), .val (.int si), .val (.int ex), .val (.ref b4), .val (.int (own_ip di si)), .val (.ref b29), .val (.ref b101), .val (.ref r209), .unset] [(.int (28800 : Int32)), (.ref b262), (.ref b234), (.int p3)]))
        obtain ⟨_, _, ⟨T320, L320, k320, n320⟩, -, X320, ⟨Lc320, hQ320, l320, y320, z320⟩, st320⟩ := Jvm.LawKit.callS X291 hx (y := (⟨"org/keymoot/SecurityAssociation", "offer", "(I[BLjava/util/List;I)Lorg/keymoot/SecurityAssociation;"⟩ : MethodName)) hown (mvT hZ (hw _ (List.mem_of_getElem? (i := 180) rfl))) (mvT hZ (hw _ (List.mem_of_getElem? (i := 181) rfl))) (mvT hZ (hw _ (List.mem_of_getElem? (i := 2) rfl))) (mvT hZ (hw _ (List.mem_of_getElem? (i := 182) rfl))) (by decide) (backOf (W := 0) (rm_of l Z a0 hw [] p3 b234 b262 (28800 : Int32) dc el em ea 4 (fun _ => (0 : Int32)) T291.heap n0 f292_Z P291_0 P291_1 P291_3 f319_A_b234 (by decide) HS f293_O) hZ (hw _ (List.mem_of_getElem? (i := 182) rfl)) (hw _ (List.mem_of_getElem? (i := 2) rfl)) (by decide) (by decide)) (g := (mkF m 139 #[.val (.int p0), .val (.int p1), .val (.int p2), .val (.int p3), .val (.int di), .val (.int si), .val (.int ex), .val (.ref b4), .val (.int (own_ip di si)), .val (.ref b29), .val (.ref b101), .val (.ref r209), .unset] [(.int (28800 : Int32)), (.ref b262), (.ref b234), (.int p3)])) rfl (by rw [hml]; rfl) (argsL := [(.int p3), (.ref b234), (.ref b262), (.int (28800 : Int32))]) (rest := []) (lenOf pd_13 rfl) rfl (by show 2 * 0 + _ ≤ _; exact Nat.le_of_eq rfl) (hb hby at_139) (fun _ _ => ⟨rfl, rfl, (by decide : 14 + 5 ≤ _), (by decide : 41 + 16 ≤ _)⟩)
        dsimp only [Pt.U, Pt.locs, Pt.cells, Pt.slots] at X320 l320 y320 z320 st320 hQ320
        rw [l320, y320, z320] at X320
        obtain ⟨r320, rfl, N320q, K320, n0_r320, sq320, E320_, P320_0, P320_1⟩ := hQ320
        have N320 := Fr.app N291 N320q
        have ne320_b7 : b7 ≠ r320 := Nat.ne_of_lt (Nat.lt_of_lt_of_le f294_E_b7.lt sq320)
        have ne320_b4 : b4 ≠ r320 := Nat.ne_of_lt (Nat.lt_of_lt_of_le f298_E_b4.lt sq320)
        have ne320_b39 : b39 ≠ r320 := Nat.ne_of_lt (Nat.lt_of_lt_of_le f301_A_b39.lt sq320)
        have ne320_b54 : b54 ≠ r320 := Nat.ne_of_lt (Nat.lt_of_lt_of_le f302_E_b54.lt sq320)
        have ne320_b29 : b29 ≠ r320 := Nat.ne_of_lt (Nat.lt_of_lt_of_le f306_E_b29.lt sq320)
        have ne320_b119 : b119 ≠ r320 := Nat.ne_of_lt (Nat.lt_of_lt_of_le f309_E_b119.lt sq320)
        have ne320_b101 : b101 ≠ r320 := Nat.ne_of_lt (Nat.lt_of_lt_of_le f313_E_b101.lt sq320)
        have ne320_b185 : b185 ≠ r320 := Nat.ne_of_lt (Nat.lt_of_lt_of_le f315_A_b185.lt sq320)
        have ne320_r209 : r209 ≠ r320 := Nat.ne_of_lt (Nat.lt_of_lt_of_le f316_E_r209.lt sq320)
        have ne320_b234 : b234 ≠ r320 := Nat.ne_of_lt (Nat.lt_of_lt_of_le f319_A_b234.lt sq320)
        have ne320_b262 : b262 ≠ r320 := Nat.ne_of_lt (Nat.lt_of_lt_of_le P291_0.lt sq320)
        have f321_Z := Nat.le_trans f292_Z K320.1
        have f322_O := f293_O.keep K320 all0
        have f323_E_b7 := f294_E_b7.keep K320
        have f324_F_b7_modCount := f295_F_b7_modCount.keep K320 nin0
        have f325_F_b7_elementData := f296_F_b7_elementData.keep K320 nin0
        have f326_F_b7_size := f297_F_b7_size.keep K320 nin0
        have f327_E_b4 := f298_E_b4.keep K320
        have f328_F_b4_doi := f299_F_b4_doi.keep K320 nin0
        have f329_F_b4_situation := f300_F_b4_situation.keep K320 nin0
        have f330_A_b39 := f301_A_b39.keep K320 nin0
        have f331_E_b54 := f302_E_b54.keep K320
        have f332_F_b54_modCount := f303_F_b54_modCount.keep K320 nin0
        have f333_F_b54_elementData := f304_F_b54_elementData.keep K320 nin0
        have f334_F_b54_size := f305_F_b54_size.keep K320 nin0
        have f335_E_b29 := f306_E_b29.keep K320
        have f336_F_b29_number := f307_F_b29_number.keep K320 nin0
        have f337_F_b29_protocol := f308_F_b29_protocol.keep K320 nin0
        have f338_E_b119 := f309_E_b119.keep K320
        have f339_F_b119_modCount := f310_F_b119_modCount.keep K320 nin0
        have f340_F_b119_elementData := f311_F_b119_elementData.keep K320 nin0
        have f341_F_b119_size := f312_F_b119_size.keep K320 nin0
        have f342_E_b101 := f313_E_b101.keep K320
        have f343_F_b101_number := f314_F_b101_number.keep K320 nin0
        have f344_A_b185 := f315_A_b185.keep K320 nin0
        have f345_E_r209 := f316_E_r209.keep K320
        have f346_F_r209_doi := f317_F_r209_doi.keep K320 nin0
        have f347_F_r209_situation := f318_F_r209_situation.keep K320 nin0
        have f348_A_b234 := f319_A_b234.keep K320 nin0
        have f349_E_b262 := P291_0.keep K320
        have f350_F_b262_modCount := P291_1.keep K320 nin0
        have f351_F_b262_elementData := P291_2.keep K320 nin0
        have f352_F_b262_size := P291_3.keep K320 nin0
        refine go st320 ?_
        show Go p e below _ (T320.setTop (mkF m 142 #[.val (.int p0), .val (.int p1), .val (.int p2), .val (.int p3), .val (.int di), .val (.int si), .val (.int ex), .val (.ref b4), .val (.int (own_ip di si)), .val (.ref b29), .val (.ref b101), .val (.ref r209), .unset] [(.ref r320)]))
        refine go (fun t kt' => by refine XS.astore X320.here hx rfl (hb hby at_142) rfl rfl (l' := #[.val (.int p0), .val (.int p1), .val (.int p2), .val (.int p3), .val (.int di), .val (.int si), .val (.int ex), .val (.ref b4), .val (.int (own_ip di si)), .val (.ref b29), .val (.ref b101), .val (.ref r209), .val (.ref r320)]) rfl ?_; exact kt') ?_
        show Go p e below _ (T320.setTop (mkF m 144 #[.val (.int p0), .val (.int p1), .val (.int p2), .val (.int p3), .val (.int di), .val (.int si), .val (.int ex), .val (.ref b4), .val (.int (own_ip di si)), .val (.ref b29), .val (.ref b101), .val (.ref r209), .val (.ref r320)] []))
        refine go (fun t kt' => by refine XS.iload X320.here hx rfl (hb hby at_144) rfl ?_; exact kt') ?_
        show Go p e below _ (T320.setTop (mkF m 146 #[.val (.int p0), .val (.int p1), .val (.int p2), .val (.int p3), .val (.int di), .val (.int si), .val (.int ex), .val (.ref b4), .val (.int (own_ip di si)), .val (.ref b29), .val (.ref b101), .val (.ref r209), .val (.ref r320)] [(.int (own_ip di si))]))
        refine go (fun t kt' => by refine XS.iload X320.here hx rfl (hb hby at_146) rfl ?_; exact kt') ?_
        show Go p e below _ (T320.setTop (mkF m 148 #[.val (.int p0), .val (.int p1), .val (.int p2), .val (.int p3), .val (.int di), .val (.int si), .val (.int ex), .val (.ref b4), .val (.int (own_ip di si)), .val (.ref b29), .val (.ref b101), .val (.ref r209), .val (.ref r320)] [(.int ex), (.int (own_ip di si))]))
        have c148_353 : ¬ (¬ (own_ip di si) = ex) := not_not_intro hex.symm
        refine go (fun t kt' => by refine XS.icmpNo X320.here hx rfl (hb hby at_148) rfl (teq (Decidable.not_not.mp c148_353)).2 ?_; exact kt') ?_
        show Go p e below _ (T320.setTop (mkF m 151 #[.val (.int p0), .val (.int p1), .val (.int p2), .val (.int p3), .val (.int di), .val (.int si), .val (.int ex), .val (.ref b4), .val (.int (own_ip di si)), .val (.ref b29), .val (.ref b101), .val (.ref r209), .val (.ref r320)] []))
        refine go (fun t kt' => by refine XS.aload X320.here hx rfl (hb hby at_151) rfl rfl ?_; exact kt') ?_
        show Go p e below _ (T320.setTop (mkF m 153 #[.val (.int p0), .val (.int p1), .val (.int p2), .val (.int p3), .val (.int di), .val (.int si), .val (.int ex), .val (.ref b4), .val (.int (own_ip di si)), .val (.ref b29), .val (.ref b101), .val (.ref r209), .val (.ref r320)] [(.ref r209)]))
        obtain ⟨cq354, kq354, q354a, q354b, q354c⟩ := isOf hZ rfl f345_E_r209
        obtain ⟨_, _, ⟨T354, L354, k354, n354⟩, -, X354, ⟨Lc354, hQ354, l354, y354, z354⟩, st354⟩ := X320.virtualBack hx (y := (⟨"org/keymoot/SecurityAssociation", "isIpsecIdentityOnly", "()Z"⟩ : MethodName)) (z := (⟨"org/keymoot/SecurityAssociation", "isIpsecIdentityOnly", "()Z"⟩ : MethodName)) hown (mvT hZ (hw _ (List.mem_of_getElem? (i := 73) rfl))) (mvT hZ (hw _ (List.mem_of_getElem? (i := 74) rfl))) (notFace_of_selects (args := #[]) (mvT hZ (hw _ (List.mem_of_getElem? (i := 76) rfl)))) (mvT hZ (hw _ (List.mem_of_getElem? (i := 76) rfl))) (mvT hZ (hw _ (List.mem_of_getElem? (i := 75) rfl))) (by decide) (backOf (W := 0) (rm_ip l Z a0 hw [] r209 di si T320.heap n0 f321_Z f345_E_r209 f346_F_r209_doi f347_F_r209_situation) hZ (hw _ (List.mem_of_getElem? (i := 77) rfl)) (hw _ (List.mem_of_getElem? (i := 2) rfl)) (by decide) (by decide)) q354a q354c (g := (mkF m 153 #[.val (.int p0), .val (.int p1), .val (.int p2), .val (.int p3), .val (.int di), .val (.int si), .val (.int ex), .val (.ref b4), .val (.int (own_ip di si)), .val (.ref b29), .val (.ref b101), .val (.ref r209), .val (.ref r320)] [(.ref r209)])) rfl (by rw [hml]; rfl) (Steps.refl _) (argsL := []) (rest := []) (lenOf pd_1 rfl) rfl (by show 2 * 0 + _ ≤ _; exact Nat.le_of_eq rfl) (hb hby at_153) (fun _ _ => ⟨rfl, rfl, (by decide : 19 + 0 ≤ _), (by decide : 57 + 0 ≤ _)⟩)
        dsimp only [Pt.U, Pt.locs, Pt.cells, Pt.slots] at X354 l354 y354 z354 st354 hQ354
        rw [l354, y354, z354] at X354
        obtain ⟨rfl, N354q, e354⟩ := hQ354
        have N354 := Fr.app N320 N354q
        refine go (fun t kt => st354.trans kt) ?_
        show Go p e below _ (T354.setTop (mkF m 156 #[.val (.int p0), .val (.int p1), .val (.int p2), .val (.int p3), .val (.int di), .val (.int si), .val (.int ex), .val (.ref b4), .val (.int (own_ip di si)), .val (.ref b29), .val (.ref b101), .val (.ref r209), .val (.ref r320)] [(.int (own_ip di si))]))
        refine go (fun t kt' => by refine XS.iload X354.here hx rfl (hb hby at_156) rfl ?_; exact kt') ?_
        show Go p e below _ (T354.setTop (mkF m 158 #[.val (.int p0), .val (.int p1), .val (.int p2), .val (.int p3), .val (.int di), .val (.int si), .val (.int ex), .val (.ref b4), .val (.int (own_ip di si)), .val (.ref b29), .val (.ref b101), .val (.ref r209), .val (.ref r320)] [(.int ex), (.int (own_ip di si))]))
        have c158_355 : ¬ (¬ (own_ip di si) = ex) := not_not_intro hex.symm
        refine go (fun t kt' => by refine XS.icmpNo X354.here hx rfl (hb hby at_158) rfl (teq (Decidable.not_not.mp c158_355)).2 ?_; exact kt') ?_
        show Go p e below _ (T354.setTop (mkF m 161 #[.val (.int p0), .val (.int p1), .val (.int p2), .val (.int p3), .val (.int di), .val (.int si), .val (.int ex), .val (.ref b4), .val (.int (own_ip di si)), .val (.ref b29), .val (.ref b101), .val (.ref r209), .val (.ref r320)] []))
        refine go (fun t kt' => by refine XS.aload X354.here hx rfl (hb hby at_161) rfl rfl ?_; exact kt') ?_
        show Go p e below _ (T354.setTop (mkF m 163 #[.val (.int p0), .val (.int p1), .val (.int p2), .val (.int p3), .val (.int di), .val (.int si), .val (.int ex), .val (.ref b4), .val (.int (own_ip di si)), .val (.ref b29), .val (.ref b101), .val (.ref r209), .val (.ref r320)] [(.ref r320)]))
        obtain ⟨cq356, kq356, q356a, q356b, q356c⟩ := isOf hZ e354 E320_
        obtain ⟨_, _, ⟨T356, L356, k356, n356⟩, -, X356, ⟨Lc356, hQ356, l356, y356, z356⟩, st356⟩ := X354.virtualBack hx (y := (⟨"org/keymoot/SecurityAssociation", "isIpsecIdentityOnly", "()Z"⟩ : MethodName)) (z := (⟨"org/keymoot/SecurityAssociation", "isIpsecIdentityOnly", "()Z"⟩ : MethodName)) hown (mvT hZ (hw _ (List.mem_of_getElem? (i := 73) rfl))) (mvT hZ (hw _ (List.mem_of_getElem? (i := 74) rfl))) (notFace_of_selects (args := #[]) (mvT hZ (hw _ (List.mem_of_getElem? (i := 76) rfl)))) (mvT hZ (hw _ (List.mem_of_getElem? (i := 76) rfl))) (mvT hZ (hw _ (List.mem_of_getElem? (i := 75) rfl))) (by decide) (backOf (W := 0) (rm_ip l Z a0 hw [] r320 (1 : Int32) (1 : Int32) T320.heap n0 f321_Z E320_ P320_0 P320_1) hZ (hw _ (List.mem_of_getElem? (i := 77) rfl)) (hw _ (List.mem_of_getElem? (i := 2) rfl)) (by decide) (by decide)) q356a q356c (g := (mkF m 163 #[.val (.int p0), .val (.int p1), .val (.int p2), .val (.int p3), .val (.int di), .val (.int si), .val (.int ex), .val (.ref b4), .val (.int (own_ip di si)), .val (.ref b29), .val (.ref b101), .val (.ref r209), .val (.ref r320)] [(.ref r320)])) rfl (by rw [hml]; rfl) (Steps.refl _) (argsL := []) (rest := []) (lenOf pd_1 rfl) rfl (by show 2 * 0 + _ ≤ _; exact Nat.le_of_eq rfl) (hb hby at_163) (fun _ _ => ⟨rfl, e354, (by decide : 19 + 0 ≤ _), (by decide : 57 + 0 ≤ _)⟩)
        dsimp only [Pt.U, Pt.locs, Pt.cells, Pt.slots] at X356 l356 y356 z356 st356 hQ356
        rw [l356, y356, z356] at X356
        obtain ⟨rfl, N356q, e356⟩ := hQ356
        have N356 := Fr.app N354 N356q
        refine go (fun t kt => st356.trans kt) ?_
        show Go p e below _ (T356.setTop (mkF m 166 #[.val (.int p0), .val (.int p1), .val (.int p2), .val (.int p3), .val (.int di), .val (.int si), .val (.int ex), .val (.ref b4), .val (.int (own_ip di si)), .val (.ref b29), .val (.ref b101), .val (.ref r209), .val (.ref r320)] [(.int (own_ip (1 : Int32) (1 : Int32)))]))
        have c166_357 : ¬ ((own_ip (1 : Int32) (1 : Int32)) = (0 : Int32)) := by decide
        refine go (fun t kt' => by refine XS.ifNo X356.here hx rfl (hb hby at_166) rfl ((if0 _ _).trans (feq c166_357).1) ?_; exact kt') ?_
        show Go p e below _ (T356.setTop (mkF m 169 #[.val (.int p0), .val (.int p1), .val (.int p2), .val (.int p3), .val (.int di), .val (.int si), .val (.int ex), .val (.ref b4), .val (.int (own_ip di si)), .val (.ref b29), .val (.ref b101), .val (.ref r209), .val (.ref r320)] []))
        refine go (fun t kt' => by refine XS.iconst X356.here hx rfl (hb hby at_169) ?_; exact kt') ?_
        show Go p e below _ (T356.setTop (mkF m 170 #[.val (.int p0), .val (.int p1), .val (.int p2), .val (.int p3), .val (.int di), .val (.int si), .val (.int ex), .val (.ref b4), .val (.int (own_ip di si)), .val (.ref b29), .val (.ref b101), .val (.ref r209), .val (.ref r320)] [(.int (1 : Int32))]))
        refine go (fun t kt' => by refine XS.goto X356.here hx rfl (pc0 := 170) (pc' := 174) rfl (hb hby at_170) (by decide) (by decide) ?_; exact kt') ?_
        show Go p e below _ (T356.setTop (mkF m 174 #[.val (.int p0), .val (.int p1), .val (.int p2), .val (.int p3), .val (.int di), .val (.int si), .val (.int ex), .val (.ref b4), .val (.int (own_ip di si)), .val (.ref b29), .val (.ref b101), .val (.ref r209), .val (.ref r320)] [(.int (1 : Int32))]))
        refine goOut X356 (fun h => by rw [Bd.returns] at h; cases h) hlk (fun fs hr => retN X356 hx (t := .boolean) Bd.returns (by simp) (hb hby at_174) hr) (by decide) (by decide) ?_
        rw [e356]
        exact ⟨rfl, N356⟩
      by_cases c29_358 : ¬ di = (1 : Int32)
      · skip
        refine go (fun t kt' => by refine XS.icmpYes X0.here hx rfl (pc0 := 29) (pc' := 42) rfl (hb hby at_29) rfl (feq c29_358).2 (by decide) (by decide) ?_; exact kt') ?_
        show Go p e below _ (s₁.setTop (mkF m 42 #[.val (.int p0), .val (.int p1), .val (.int p2), .val (.int p3), .val (.int di), .val (.int si), .unset, .unset, .unset, .unset, .unset, .unset, .unset] []))
        refine go (fun t kt' => by refine XS.iconst X0.here hx rfl (hb hby at_42) ?_; exact kt') ?_
        show Go p e below _ (s₁.setTop (mkF m 43 #[.val (.int p0), .val (.int p1), .val (.int p2), .val (.int p3), .val (.int di), .val (.int si), .unset, .unset, .unset, .unset, .unset, .unset, .unset] [(.int (0 : Int32))]))
        exact J43_3 _ (by simp [own_ip, c29_358])
      · skip
        refine go (fun t kt' => by refine XS.icmpNo X0.here hx rfl (hb hby at_29) rfl (teq (Decidable.not_not.mp c29_358)).2 ?_; exact kt') ?_
        show Go p e below _ (s₁.setTop (mkF m 32 #[.val (.int p0), .val (.int p1), .val (.int p2), .val (.int p3), .val (.int di), .val (.int si), .unset, .unset, .unset, .unset, .unset, .unset, .unset] []))
        refine go (fun t kt' => by refine XS.iload X0.here hx rfl (hb hby at_32) rfl ?_; exact kt') ?_
        show Go p e below _ (s₁.setTop (mkF m 34 #[.val (.int p0), .val (.int p1), .val (.int p2), .val (.int p3), .val (.int di), .val (.int si), .unset, .unset, .unset, .unset, .unset, .unset, .unset] [(.int si)]))
        refine go (fun t kt' => by refine XS.iconst X0.here hx rfl (hb hby at_34) ?_; exact kt') ?_
        show Go p e below _ (s₁.setTop (mkF m 35 #[.val (.int p0), .val (.int p1), .val (.int p2), .val (.int p3), .val (.int di), .val (.int si), .unset, .unset, .unset, .unset, .unset, .unset, .unset] [(.int (1 : Int32)), (.int si)]))
        by_cases c35_359 : ¬ si = (1 : Int32)
        · skip
          refine go (fun t kt' => by refine XS.icmpYes X0.here hx rfl (pc0 := 35) (pc' := 42) rfl (hb hby at_35) rfl (feq c35_359).2 (by decide) (by decide) ?_; exact kt') ?_
          show Go p e below _ (s₁.setTop (mkF m 42 #[.val (.int p0), .val (.int p1), .val (.int p2), .val (.int p3), .val (.int di), .val (.int si), .unset, .unset, .unset, .unset, .unset, .unset, .unset] []))
          refine go (fun t kt' => by refine XS.iconst X0.here hx rfl (hb hby at_42) ?_; exact kt') ?_
          show Go p e below _ (s₁.setTop (mkF m 43 #[.val (.int p0), .val (.int p1), .val (.int p2), .val (.int p3), .val (.int di), .val (.int si), .unset, .unset, .unset, .unset, .unset, .unset, .unset] [(.int (0 : Int32))]))
          exact J43_3 _ (by simp [own_ip, Decidable.not_not.mp c29_358, c35_359])
        · skip
          refine go (fun t kt' => by refine XS.icmpNo X0.here hx rfl (hb hby at_35) rfl (teq (Decidable.not_not.mp c35_359)).2 ?_; exact kt') ?_
          show Go p e below _ (s₁.setTop (mkF m 38 #[.val (.int p0), .val (.int p1), .val (.int p2), .val (.int p3), .val (.int di), .val (.int si), .unset, .unset, .unset, .unset, .unset, .unset, .unset] []))
          refine go (fun t kt' => by refine XS.iconst X0.here hx rfl (hb hby at_38) ?_; exact kt') ?_
          show Go p e below _ (s₁.setTop (mkF m 39 #[.val (.int p0), .val (.int p1), .val (.int p2), .val (.int p3), .val (.int di), .val (.int si), .unset, .unset, .unset, .unset, .unset, .unset, .unset] [(.int (1 : Int32))]))
          refine go (fun t kt' => by refine XS.goto X0.here hx rfl (pc0 := 39) (pc' := 43) rfl (hb hby at_39) (by decide) (by decide) ?_; exact kt') ?_
          show Go p e below _ (s₁.setTop (mkF m 43 #[.val (.int p0), .val (.int p1), .val (.int p2), .val (.int p3), .val (.int di), .val (.int si), .unset, .unset, .unset, .unset, .unset, .unset, .unset] [(.int (1 : Int32))]))
          exact J43_3 _ (by simp [own_ip, Decidable.not_not.mp c29_358, Decidable.not_not.mp c35_359])
    by_cases c16_360 : (p2 &&& (2 : Int32)) = (0 : Int32)
    · skip
      refine go (fun t kt' => by refine XS.ifYes X0.here hx rfl (pc0 := 16) (pc' := 23) rfl (hb hby at_16) rfl ((if0 _ _).trans (teq c16_360).1) (by decide) (by decide) ?_; exact kt') ?_
      show Go p e below _ (s₁.setTop (mkF m 23 #[.val (.int p0), .val (.int p1), .val (.int p2), .val (.int p3), .val (.int di), .unset, .unset, .unset, .unset, .unset, .unset, .unset, .unset] []))
      refine go (fun t kt' => by refine XS.iloadN X0.here hx rfl (hb hby at_23) rfl ?_; exact kt') ?_
      show Go p e below _ (s₁.setTop (mkF m 24 #[.val (.int p0), .val (.int p1), .val (.int p2), .val (.int p3), .val (.int di), .unset, .unset, .unset, .unset, .unset, .unset, .unset, .unset] [(.int p1)]))
      exact J24_2 _
    · skip
      refine go (fun t kt' => by refine XS.ifNo X0.here hx rfl (hb hby at_16) rfl ((if0 _ _).trans (feq c16_360).1) ?_; exact kt') ?_
      show Go p e below _ (s₁.setTop (mkF m 19 #[.val (.int p0), .val (.int p1), .val (.int p2), .val (.int p3), .val (.int di), .unset, .unset, .unset, .unset, .unset, .unset, .unset, .unset] []))
      refine go (fun t kt' => by refine XS.iconst X0.here hx rfl (hb hby at_19) ?_; exact kt') ?_
      show Go p e below _ (s₁.setTop (mkF m 20 #[.val (.int p0), .val (.int p1), .val (.int p2), .val (.int p3), .val (.int di), .unset, .unset, .unset, .unset, .unset, .unset, .unset, .unset] [(.int (1 : Int32))]))
      refine go (fun t kt' => by refine XS.goto X0.here hx rfl (pc0 := 20) (pc' := 24) rfl (hb hby at_20) (by decide) (by decide) ?_; exact kt') ?_
      show Go p e below _ (s₁.setTop (mkF m 24 #[.val (.int p0), .val (.int p1), .val (.int p2), .val (.int p3), .val (.int di), .unset, .unset, .unset, .unset, .unset, .unset, .unset, .unset] [(.int (1 : Int32))]))
      exact J24_2 _
  by_cases c3_361 : (p2 &&& (1 : Int32)) = (0 : Int32)
  · skip
    refine go (fun t kt' => by refine XS.ifYes X0.here hx rfl (pc0 := 3) (pc' := 10) rfl (hb hby at_3) rfl ((if0 _ _).trans (teq c3_361).1) (by decide) (by decide) ?_; exact kt') ?_
    show Go p e below _ (s₁.setTop (mkF m 10 #[.val (.int p0), .val (.int p1), .val (.int p2), .val (.int p3), .unset, .unset, .unset, .unset, .unset, .unset, .unset, .unset, .unset] []))
    refine go (fun t kt' => by refine XS.iloadN X0.here hx rfl (hb hby at_10) rfl ?_; exact kt') ?_
    show Go p e below _ (s₁.setTop (mkF m 11 #[.val (.int p0), .val (.int p1), .val (.int p2), .val (.int p3), .unset, .unset, .unset, .unset, .unset, .unset, .unset, .unset, .unset] [(.int p0)]))
    exact J11_1 _
  · skip
    refine go (fun t kt' => by refine XS.ifNo X0.here hx rfl (hb hby at_3) rfl ((if0 _ _).trans (feq c3_361).1) ?_; exact kt') ?_
    show Go p e below _ (s₁.setTop (mkF m 6 #[.val (.int p0), .val (.int p1), .val (.int p2), .val (.int p3), .unset, .unset, .unset, .unset, .unset, .unset, .unset, .unset, .unset] []))
    refine go (fun t kt' => by refine XS.iconst X0.here hx rfl (hb hby at_6) ?_; exact kt') ?_
    show Go p e below _ (s₁.setTop (mkF m 7 #[.val (.int p0), .val (.int p1), .val (.int p2), .val (.int p3), .unset, .unset, .unset, .unset, .unset, .unset, .unset, .unset, .unset] [(.int (1 : Int32))]))
    refine go (fun t kt' => by refine XS.goto X0.here hx rfl (pc0 := 7) (pc' := 11) rfl (hb hby at_7) (by decide) (by decide) ?_; exact kt') ?_
    show Go p e below _ (s₁.setTop (mkF m 11 #[.val (.int p0), .val (.int p1), .val (.int p2), .val (.int p3), .unset, .unset, .unset, .unset, .unset, .unset, .unset, .unset, .unset] [(.int (1 : Int32))]))
    exact J11_1 _
theorem own_len0 {t : Jvm.Term} {args : Array Value} {s : State} {a : Addr} {c : Cell} {ty : FieldType} (ev : t.eval args s none [] s = some (.ref a)) (A : Arr s s.heap a c ty) (h : (Cond.eq (Term.length t) (Term.int (0 : Int32))).value args s none s [] = some true) : c.slots.size = 0 := by
  have ha : s.arrayAt? a = some c := A.fin (Vm.Alike.refl _)
  obtain ⟨x, y, h1, h2, k1, k2⟩ := cmp_v (Or.inl h)
  by_cases q : c.slots.size < 2 ^ 31
  · have e := len_f ev ha q
    have h3 : (Cond.eq (Term.length t) (Term.int (0 : Int32))).value args s none s [] = some (decide (c.slots.size.toInt32 = 0)) := by
      simp only [Cond.value]; rw [e]; rfl
    have h4 := gotT h3 h
    have h5 := len_toInt q
    rw [h4] at h5
    have : (0 : Int32).toInt = 0 := rfl
    omega
  · simp [Term.eval, ev, ha, q] at h1
set_option maxRecDepth 65536 in
set_option maxHeartbeats 40000000 in
theorem comes_1 {Post : Tables → Env → Array Value → State → Outcome → State → Prop} (hpost : ∀ tb e args s v u, (limb_1_1.after args s (.returned v) u = true ∧ limb_1_2.after args s (.returned v) u = true ∧ True) → FrameEnd s (.returned v) u (Jvm.fieldLocs frame_1_writes args s ++ Jvm.arrayLocs frame_1_arrays args s ++ Jvm.staticLocs frame_1_statics s) 48 192 → Post tb e args s (.returned v) u) :
    ArmFor flags0 classFile x code maxLocals ret World_1 tables_1 room_1 Calls_1 rest_1 Pre_1 Post := by
  intro l hfl _ _ p e ha hc hk s m args below hf hA hF happ hP
  obtain ⟨hcalls, hrest, hpre⟩ := hP
  obtain ⟨-, -, -, hnamed, -, -, -, hat⟩ := (Spec.applies_iff hf).mp happ
  obtain ⟨hg, hn⟩ := and_e (Cond.before_iff.mp (show (Jvm.Cond.and given_1 narrow_1).before args s = true from hpre))
  obtain ⟨g1, g2⟩ := and_e hg
  obtain ⟨g3, g4⟩ := and_e g2
  obtain ⟨g5, g6⟩ := and_e g4
  obtain ⟨g7, g8⟩ := and_e g6
  obtain ⟨w0, w1, w2, w3, rfl⟩ : ∃ w0 w1 w2 w3 : Value, args = #[w0, w1, w2, w3] := by
    have hs : args.size = 4 := by simpa [Cond.value, given_1] using g1
    obtain ⟨L⟩ := args
    match L, hs with
    | [w0, w1, w2, w3], _ => exact ⟨w0, w1, w2, w3, rfl⟩
  have hw := fun d (hd : d ∈ tables_1) => atoms_spec (ws := Jvm.Cond.code x code maxLocals ret :: tables_1) hat d (List.mem_cons_of_mem _ hd)
  have hfit : Fit s := fun {y c} hc i hi => by
    obtain ⟨ha, rfl⟩ := Array.getElem?_eq_some_iff.mp hc
    have q := List.all_eq_true.mp ((Array.all_eq_true_iff_forall_mem.mp hF) _ (Array.getElem_mem ha)) i (List.mem_range.mpr hi)
    simpa [Array.getElem?_eq_getElem hi] using q
  obtain ⟨hsets, hown0⟩ := atoms_of _ (rest_1_c_eq ▸ (show rest_1_c.before _ s = true from hrest))
  have hr0 := Cond.before_iff.mp hown0
  obtain ⟨i0, ei0⟩ := is_v g3
  obtain rfl : w0 = (.int i0) := Option.some.inj ei0
  obtain ⟨i1, ei1⟩ := is_v g5
  obtain rfl : w1 = (.int i1) := Option.some.inj ei1
  obtain ⟨i2, ei2⟩ := is_v g7
  obtain rfl : w2 = (.int i2) := Option.some.inj ei2
  obtain ⟨i3, ei3⟩ := is_v g8
  obtain rfl : w3 = (.int i3) := Option.some.inj ei3
  obtain ⟨dc, edc⟩ := exa_v (Cond.before_iff.mp (hsets _ (List.mem_of_getElem? (i := 7) rfl)))
  obtain ⟨el, eel⟩ := exa_v (Cond.before_iff.mp (hsets _ (List.mem_of_getElem? (i := 11) rfl)))
  obtain ⟨em, eem⟩ := exa_v (Cond.before_iff.mp (hsets _ (List.mem_of_getElem? (i := 18) rfl)))
  obtain ⟨ea, eea⟩ := arr_v (Cond.before_iff.mp (hsets _ (List.mem_of_getElem? (i := 12) rfl)))
  have S1 := Sta.start edc (Or.inr ⟨(hw _ (List.mem_of_getElem? (i := 5) rfl)), (hsets _ (List.mem_of_getElem? (i := 2) rfl))⟩)
  have S2 := Sta.start eel (Or.inl (hsets _ (List.mem_of_getElem? (i := 10) rfl)))
  have S3 := Sta.start eem (Or.inl (hsets _ (List.mem_of_getElem? (i := 17) rfl)))
  have E1 := Exa.start eel (Cond.before_iff.mp (hsets _ (List.mem_of_getElem? (i := 11) rfl)))
  have F1 := Fld.start ((fld_at eel).symm.trans eea)
  obtain ⟨cE, A1⟩ := Arr.start eea (Cond.before_iff.mp (hsets _ (List.mem_of_getElem? (i := 12) rfl)))
  have Z1 := own_len0 eea A1 (Cond.before_iff.mp (hsets _ (List.mem_of_getElem? (i := 14) rfl)))
  have HS : own_sets s dc el em ea := ⟨S1, S2, S3, E1, F1, cE, A1, Z1⟩
  have OO := Old.start s
  obtain ⟨n, o, h1, h2, h3, _, L, rfl, ⟨rfl, N⟩, hq⟩ := rm0 l s _ hw tables_1 i0 i1 i2 i3 dc el em ea s.heap s.heap.size (Nat.le_refl _) HS OO p e ha hc hk s m _ below hf ((Spec.applies_iff_loose hf).mp happ).1 ⟨rfl, State.Warmed39.refl s, rfl⟩ trivial
  refine ⟨n, _, h1, h2, h3, hpost _ _ _ _ _ _ ⟨Cond.after_iff.mpr rfl, Cond.after_iff.mpr (eq_i res_at (Term.int_eval (1)) rfl), trivial⟩ ⟨hq.1, hq.2.1, (hq.2.2.sift fun y hy => Or.inr (N y hy)).mono (by decide) (by decide)⟩⟩
theorem main_1_1 : Claimed_1_1 := comes_1 fun _ _ _ _ _ _ h hF => ⟨h.1, hF⟩
theorem main_1_2 : Claimed_1_2 := comes_1 fun _ _ _ _ _ _ h hF => ⟨h.2.1, hF⟩
end Jvm.Pilot.@@N@@
namespace Jvm.Pilot.@@N@@
open Jvm Jvm.ClassFile Sem Op Lib Jvm.Free Jvm.Stand Jvm.Pilot.@@N@@.Jvm.D
/-! MADE BY PROGRAM (witnessworld.py) out of the Statement's table words and the real class files: 29 classes; the members and pool entries that the words name. The judged class is class 1, her method 1. -/
namespace start1
open Jvm.ClassFile
def u (s : String) : CpInfo := .utf8 (stringToUtf16 s)
/-- a pool by its gaps: so many unusable entries, then the entry; so many at the end -/
def gap : Nat → List CpInfo → List CpInfo
  | 0, r => r
  | n + 1, r => .unusable :: gap n r
def poolList (es : List (Nat × CpInfo)) (last : Nat) : List CpInfo := es.foldr (fun e r => gap e.1 (e.2 :: r)) (gap last [])
def pool (es : List (Nat × CpInfo)) (last : Nat) : Array CpInfo := ⟨poolList es last⟩
def fileOf (pool : Array CpInfo) (this : Nat) (attrs : Array Attribute := #[]) (ms : Array MethodInfo := #[]) (fl : Nat := 33) (sup : Nat := 0) (ifs : Array Nat := #[]) (fds : Array FieldInfo := #[]) : ClassFile where
  minorVersion := 0
  majorVersion := 65
  constantPool := pool
  accessFlags := fl
  thisClass := this
  superClass := sup
  interfaces := ifs
  fields := fds
  methods := ms
  attributes := attrs
def plain (name : String) (sup : Option ClassId) : Class where
  name := name
  kind := .ordinary
  loader := none
  accessFlags := 33
  super := sup
  interfaces := #[]
  cf := none
  fields := #[]
  methods := #[]
  instanceTypes := #[]
  staticTypes := #[]
  resolved := #[]
  callSites := []
  init := .initialized
  statics := none
  mirror := none

def pool0 : Array CpInfo := pool [(5, u "<init>"), (0, u "()V"), (1, .class_ 10), (1, u "java/lang/Object")] 113

def k0c0 : Code := { maxStack := 0, maxLocals := 1, code := object_method_1_code, exceptionTable := #[], attributes := #[] }
def k0m0 : Method := { name := "<init>", desc := "()V", sig := { parameters := [], returnType := none }, accessFlags := 1, code := some k0c0 }
/-- java/lang/Object -/
def k0 : Class := { plain "java/lang/Object" none with
  accessFlags := 33
  interfaces := #[]
  cf := some (fileOf pool0 8 #[] #[{ accessFlags := 1, nameIndex := 5, descriptorIndex := 6, attributes := #[] }] 33 0 #[] #[])
  fields := #[]
  methods := #[k0m0]
  instanceTypes := #[]
  staticTypes := #[]
  resolved := Array.replicate 124 none
  statics := none }

def pool1 : Array CpInfo := pool [(2, .class_ 4), (0, .nameAndType 5 6), (0, u "java/lang/Object"), (0, u "<init>"), (0, u "()V"), (0, .class_ 8), (0, u "org/keymoot/SecurityAssociation"), (0, .class_ 10), (0, u "java/util/ArrayList"), (0, .methodref 9 3), (0, .methodref 7 13), (0, .nameAndType 5 14), (0, u "(IILjava/util/List;)V"), (0, .methodref 7 16), (0, .nameAndType 17 18), (0, u "isIpsecIdentityOnly"), (0, u "()Z"), (0, .class_ 20), (0, u "org/keymoot/Proposal"), (0, .methodref 19 22), (0, .nameAndType 5 23), (0, u "(II[BLjava/util/List;)V"), (0, .class_ 25), (0, u "org/keymoot/Transform"), (0, .methodref 24 13), (0, .methodref 7 28), (0, .nameAndType 29 30), (0, u "answer"), (0, u "(Lorg/keymoot/Proposal;[BLorg/keymoot/Transform;)Lorg/keymoot/SecurityAssociation;"), (0, .methodref 7 32), (0, .nameAndType 33 34), (0, u "offer"), (0, u "(I[BLjava/util/List;I)Lorg/keymoot/SecurityAssociation;"), (0, .class_ 36), (0, u "org/keymoot/SecurityAssociationIsIpsecIdentityOnlyPinLaw"), (2, u "law"), (0, u "(IIII)Z")] 3

def k1m0 : Method := { name := "<init>", desc := "()V", sig := { parameters := [], returnType := none }, accessFlags := 1, code := none }
def k1c1 : Code := { maxStack := 7, maxLocals := 13, code := code, exceptionTable := #[], attributes := #[] }
def k1m1 : Method := { name := "law", desc := "(IIII)Z", sig := { parameters := [.int, .int, .int, .int], returnType := some .boolean }, accessFlags := 9, code := some k1c1 }
/-- org/keymoot/SecurityAssociationIsIpsecIdentityOnlyPinLaw -/
def k1 : Class := { plain "org/keymoot/SecurityAssociationIsIpsecIdentityOnlyPinLaw" (some 0) with
  accessFlags := 49
  interfaces := #[]
  cf := some (fileOf pool1 35 #[] #[{ accessFlags := 1, nameIndex := 5, descriptorIndex := 6, attributes := #[] }, { accessFlags := 9, nameIndex := 39, descriptorIndex := 40, attributes := #[] }] 49 2 #[] #[])
  fields := #[]
  methods := #[k1m0, k1m1]
  instanceTypes := #[]
  staticTypes := #[]
  resolved := Array.replicate 44 none
  statics := none }

def pool2 : Array CpInfo := pool [(1, .methodref 2 3), (0, .class_ 4), (0, .nameAndType 5 6), (0, u "java/lang/Object"), (0, u "<init>"), (0, u "()V"), (0, .class_ 8), (0, u "java/lang/Record")] 13

def k2c0 : Code := { maxStack := 1, maxLocals := 1, code := jdk_30_method_1_code, exceptionTable := #[], attributes := #[] }
def k2m0 : Method := { name := "<init>", desc := "()V", sig := { parameters := [], returnType := none }, accessFlags := 4, code := some k2c0 }
/-- java/lang/Record -/
def k2 : Class := { plain "java/lang/Record" (some 0) with
  accessFlags := 1057
  interfaces := #[]
  cf := some (fileOf pool2 7 #[] #[{ accessFlags := 4, nameIndex := 5, descriptorIndex := 6, attributes := #[] }] 1057 2 #[] #[])
  fields := #[]
  methods := #[k2m0]
  instanceTypes := #[]
  staticTypes := #[]
  resolved := Array.replicate 22 none
  statics := none }

def pool3 : Array CpInfo := pool [(1, .methodref 2 3), (0, .class_ 4), (0, .nameAndType 5 6), (0, u "java/lang/Record"), (0, u "<init>"), (0, u "()V"), (0, .interfaceMethodref 8 9), (0, .class_ 10), (0, .nameAndType 11 12), (0, u "java/util/List"), (0, u "copyOf"), (0, u "(Ljava/util/Collection;)Ljava/util/List;"), (0, .fieldref 14 15), (0, .class_ 16), (0, .nameAndType 17 18), (0, u "org/keymoot/SecurityAssociation"), (0, u "doi"), (0, u "I"), (0, .fieldref 14 20), (0, .nameAndType 21 18), (0, u "situation"), (0, .fieldref 14 23), (0, .nameAndType 24 25), (0, u "proposals"), (0, u "Ljava/util/List;"), (0, .class_ 27), (0, u "java/util/ArrayList"), (0, .methodref 26 3), (0, .interfaceMethodref 8 30), (0, .nameAndType 31 32), (0, u "iterator"), (0, u "()Ljava/util/Iterator;"), (0, .interfaceMethodref 34 35), (0, .class_ 36), (0, .nameAndType 37 38), (0, u "java/util/Iterator"), (0, u "hasNext"), (0, u "()Z"), (6, .interfaceMethodref 8 46), (0, .nameAndType 47 48), (0, u "size"), (0, u "()I"), (2, u "offer"), (5, .class_ 58), (0, u "org/keymoot/Proposal"), (0, .methodref 57 60), (0, .nameAndType 5 61), (0, u "(II[BLjava/util/List;)V"), (0, .interfaceMethodref 8 63), (0, .nameAndType 64 65), (0, u "of"), (0, u "(Ljava/lang/Object;)Ljava/util/List;"), (0, .methodref 14 67), (0, .nameAndType 5 68), (0, u "(IILjava/util/List;)V"), (0, .methodref 57 70), (0, .nameAndType 71 48), (0, u "number"), (0, .methodref 57 73), (0, .nameAndType 74 48), (0, u "protocol"), (107, u "DOI_IPSEC"), (2, u "SIT_IDENTITY_ONLY"), (4, u "(I[BLjava/util/List;I)Lorg/keymoot/SecurityAssociation;"), (2, u "answer"), (0, u "(Lorg/keymoot/Proposal;[BLorg/keymoot/Transform;)Lorg/keymoot/SecurityAssociation;"), (0, u "isIpsecIdentityOnly")] 55

def k3c0 : Code := { maxStack := 2, maxLocals := 4, code := prog_74_method_1_code, exceptionTable := #[], attributes := #[] }
def k3m0 : Method := { name := "<init>", desc := "(IILjava/util/List;)V", sig := { parameters := [.int, .int, (.object "java/util/List")], returnType := none }, accessFlags := 0, code := some k3c0 }
def k3c1 : Code := { maxStack := 10, maxLocals := 7, code := prog_74_method_2_code, exceptionTable := #[], attributes := #[] }
def k3m1 : Method := { name := "offer", desc := "(I[BLjava/util/List;I)Lorg/keymoot/SecurityAssociation;", sig := { parameters := [.int, (.array .byte), (.object "java/util/List"), .int], returnType := some (.object "org/keymoot/SecurityAssociation") }, accessFlags := 8, code := some k3c1 }
def k3c2 : Code := { maxStack := 10, maxLocals := 4, code := prog_74_method_3_code, exceptionTable := #[], attributes := #[] }
def k3m2 : Method := { name := "answer", desc := "(Lorg/keymoot/Proposal;[BLorg/keymoot/Transform;)Lorg/keymoot/SecurityAssociation;", sig := { parameters := [(.object "org/keymoot/Proposal"), (.array .byte), (.object "org/keymoot/Transform")], returnType := some (.object "org/keymoot/SecurityAssociation") }, accessFlags := 0, code := some k3c2 }
def k3c3 : Code := { maxStack := 2, maxLocals := 1, code := prog_74_method_4_code, exceptionTable := #[], attributes := #[] }
def k3m3 : Method := { name := "isIpsecIdentityOnly", desc := "()Z", sig := { parameters := [], returnType := some .boolean }, accessFlags := 0, code := some k3c3 }
/-- org/keymoot/SecurityAssociation -/
def k3 : Class := { plain "org/keymoot/SecurityAssociation" (some 2) with
  accessFlags := 48
  interfaces := #[]
  cf := some (fileOf pool3 14 #[] #[{ accessFlags := 0, nameIndex := 5, descriptorIndex := 68, attributes := #[] }, { accessFlags := 8, nameIndex := 51, descriptorIndex := 190, attributes := #[] }, { accessFlags := 0, nameIndex := 193, descriptorIndex := 194, attributes := #[] }, { accessFlags := 0, nameIndex := 195, descriptorIndex := 38, attributes := #[] }] 48 2 #[] #[{ accessFlags := 18, nameIndex := 17, descriptorIndex := 18, attributes := #[] }, { accessFlags := 18, nameIndex := 21, descriptorIndex := 18, attributes := #[] }, { accessFlags := 18, nameIndex := 24, descriptorIndex := 25, attributes := #[] }, { accessFlags := 24, nameIndex := 182, descriptorIndex := 18, attributes := #[] }, { accessFlags := 24, nameIndex := 185, descriptorIndex := 18, attributes := #[] }])
  fields := #[{ name := "doi", type := .int, accessFlags := 18, slot := 0, constantValue := 0 }, { name := "situation", type := .int, accessFlags := 18, slot := 1, constantValue := 0 }, { name := "proposals", type := (.object "java/util/List"), accessFlags := 18, slot := 2, constantValue := 0 }, { name := "DOI_IPSEC", type := .int, accessFlags := 24, slot := 0, constantValue := 0 }, { name := "SIT_IDENTITY_ONLY", type := .int, accessFlags := 24, slot := 1, constantValue := 0 }]
  methods := #[k3m0, k3m1, k3m2, k3m3]
  instanceTypes := #[.int, .int, (.object "java/util/List")]
  staticTypes := #[.int, .int]
  resolved := Array.replicate 251 none
  statics := none }

def pool4 : Array CpInfo := pool [(8, .class_ 10), (1, u "java/lang/Iterable"), (24, .class_ 36), (0, u "java/lang/Object")] 25

/-- java/lang/Iterable -/
def k4 : Class := { plain "java/lang/Iterable" (some 0) with
  accessFlags := 1537
  interfaces := #[]
  cf := some (fileOf pool4 8 #[] #[] 1537 35 #[] #[])
  fields := #[]
  methods := #[]
  instanceTypes := #[]
  staticTypes := #[]
  resolved := Array.replicate 62 none
  statics := none }

def pool5 : Array CpInfo := pool [(10, .class_ 12), (1, u "java/util/Collection"), (17, u "()Z"), (29, .class_ 61), (0, u "java/lang/Object"), (0, .class_ 63), (0, u "java/lang/Iterable"), (2, u "isEmpty")] 48

def k5m0 : Method := { name := "isEmpty", desc := "()Z", sig := { parameters := [], returnType := some .boolean }, accessFlags := 1025, code := none }
/-- java/util/Collection -/
def k5 : Class := { plain "java/util/Collection" (some 0) with
  accessFlags := 1537
  interfaces := #[4]
  cf := some (fileOf pool5 10 #[] #[{ accessFlags := 1025, nameIndex := 66, descriptorIndex := 30, attributes := #[] }] 1537 60 #[62] #[])
  fields := #[]
  methods := #[k5m0]
  instanceTypes := #[]
  staticTypes := #[]
  resolved := Array.replicate 115 none
  statics := none }

def pool6 : Array CpInfo := pool [(1, .methodref 2 3), (0, .class_ 4), (0, .nameAndType 5 6), (0, u "java/lang/Object"), (0, u "<init>"), (0, u "()V"), (1, .class_ 10), (1, u "java/util/AbstractCollection"), (66, .class_ 78), (0, u "java/util/Collection")] 81

def k6c0 : Code := { maxStack := 1, maxLocals := 1, code := jdk_22_method_1_code, exceptionTable := #[], attributes := #[] }
def k6m0 : Method := { name := "<init>", desc := "()V", sig := { parameters := [], returnType := none }, accessFlags := 4, code := some k6c0 }
/-- java/util/AbstractCollection -/
def k6 : Class := { plain "java/util/AbstractCollection" (some 0) with
  accessFlags := 1057
  interfaces := #[5]
  cf := some (fileOf pool6 8 #[] #[{ accessFlags := 4, nameIndex := 5, descriptorIndex := 6, attributes := #[] }] 1057 2 #[77] #[])
  fields := #[]
  methods := #[k6m0]
  instanceTypes := #[]
  staticTypes := #[]
  resolved := Array.replicate 160 none
  statics := none }

def pool7 : Array CpInfo := pool [(8, .class_ 10), (1, u "java/util/SequencedCollection"), (15, .class_ 27), (0, u "java/lang/Object"), (0, .class_ 29), (0, u "java/util/Collection")] 27

/-- java/util/SequencedCollection -/
def k7 : Class := { plain "java/util/SequencedCollection" (some 0) with
  accessFlags := 1537
  interfaces := #[5]
  cf := some (fileOf pool7 8 #[] #[] 1537 26 #[28] #[])
  fields := #[]
  methods := #[]
  instanceTypes := #[]
  staticTypes := #[]
  resolved := Array.replicate 57 none
  statics := none }

def pool8 : Array CpInfo := pool [(8, .class_ 10), (1, u "java/util/List"), (20, u "(Ljava/lang/Object;)V"), (16, u "<init>"), (30, u "size"), (0, u "()I"), (7, u "of"), (1, .fieldref 91 92), (0, .class_ 93), (0, .nameAndType 94 95), (0, u "java/util/ImmutableCollections"), (0, u "EMPTY_LIST"), (0, u "Ljava/util/ImmutableCollections$ListN;"), (0, .class_ 97), (0, u "java/util/ImmutableCollections$List12"), (0, .methodref 96 99), (0, .nameAndType 48 31), (3, .class_ 104), (0, u "java/lang/Object"), (7, .methodref 91 113), (0, .nameAndType 114 115), (0, u "listCopy"), (0, u "(Ljava/util/Collection;)Ljava/util/List;"), (3, u "()Ljava/util/List;"), (0, .class_ 121), (0, u "java/util/SequencedCollection"), (1, u "iterator"), (0, u "()Ljava/util/Iterator;"), (73, u "(Ljava/lang/Object;)Ljava/util/List;"), (35, u "copyOf")] 16

def k8m0 : Method := { name := "size", desc := "()I", sig := { parameters := [], returnType := some .int }, accessFlags := 1025, code := none }
def k8m1 : Method := { name := "iterator", desc := "()Ljava/util/Iterator;", sig := { parameters := [], returnType := some (.object "java/util/Iterator") }, accessFlags := 1025, code := none }
def k8c2 : Code := { maxStack := 1, maxLocals := 0, code := jdk_40_method_36_code, exceptionTable := #[], attributes := #[] }
def k8m2 : Method := { name := "of", desc := "()Ljava/util/List;", sig := { parameters := [], returnType := some (.object "java/util/List") }, accessFlags := 9, code := some k8c2 }
def k8c3 : Code := { maxStack := 3, maxLocals := 1, code := jdk_40_method_37_code, exceptionTable := #[], attributes := #[] }
def k8m3 : Method := { name := "of", desc := "(Ljava/lang/Object;)Ljava/util/List;", sig := { parameters := [(.object "java/lang/Object")], returnType := some (.object "java/util/List") }, accessFlags := 9, code := some k8c3 }
def k8c4 : Code := { maxStack := 1, maxLocals := 1, code := jdk_40_method_48_code, exceptionTable := #[], attributes := #[] }
def k8m4 : Method := { name := "copyOf", desc := "(Ljava/util/Collection;)Ljava/util/List;", sig := { parameters := [(.object "java/util/Collection")], returnType := some (.object "java/util/List") }, accessFlags := 9, code := some k8c4 }
/-- java/util/List -/
def k8 : Class := { plain "java/util/List" (some 0) with
  accessFlags := 1537
  interfaces := #[7]
  cf := some (fileOf pool8 8 #[] #[{ accessFlags := 1025, nameIndex := 79, descriptorIndex := 80, attributes := #[] }, { accessFlags := 1025, nameIndex := 123, descriptorIndex := 124, attributes := #[] }, { accessFlags := 9, nameIndex := 88, descriptorIndex := 119, attributes := #[] }, { accessFlags := 9, nameIndex := 88, descriptorIndex := 198, attributes := #[] }, { accessFlags := 9, nameIndex := 234, descriptorIndex := 115, attributes := #[] }] 1537 103 #[120] #[])
  fields := #[]
  methods := #[k8m0, k8m1, k8m2, k8m3, k8m4]
  instanceTypes := #[]
  staticTypes := #[]
  resolved := Array.replicate 251 none
  statics := none }

def pool9 : Array CpInfo := pool [(1, .methodref 2 3), (0, .class_ 4), (0, .nameAndType 5 6), (0, u "java/util/AbstractCollection"), (0, u "<init>"), (0, u "()V"), (0, .fieldref 8 9), (0, .class_ 10), (0, .nameAndType 11 12), (0, u "java/util/AbstractList"), (0, u "modCount"), (0, u "I"), (64, .class_ 78), (0, u "java/util/AbstractList$Itr"), (3, .class_ 83), (0, u "java/util/AbstractList$ListItr"), (9, .class_ 94), (0, u "java/util/AbstractList$RandomAccessSubList"), (3, .class_ 99), (0, u "java/util/AbstractList$SubList"), (33, .class_ 134), (0, u "java/util/List"), (73, .class_ 209), (0, u "java/util/AbstractList$SubList$1"), (0, .class_ 211), (0, u "java/util/AbstractList$RandomAccessSpliterator")] 6

def k9c0 : Code := { maxStack := 2, maxLocals := 1, code := jdk_39_method_1_code, exceptionTable := #[], attributes := #[] }
def k9m0 : Method := { name := "<init>", desc := "()V", sig := { parameters := [], returnType := none }, accessFlags := 4, code := some k9c0 }
/-- java/util/AbstractList -/
def k9 : Class := { plain "java/util/AbstractList" (some 6) with
  accessFlags := 1057
  interfaces := #[8]
  cf := some (fileOf pool9 8 #[.nestMembers #[93, 98, 208, 210, 82, 77]] #[{ accessFlags := 4, nameIndex := 5, descriptorIndex := 6, attributes := #[] }] 1057 2 #[133] #[{ accessFlags := 132, nameIndex := 11, descriptorIndex := 12, attributes := #[] }])
  fields := #[{ name := "modCount", type := .int, accessFlags := 132, slot := 0, constantValue := 0 }]
  methods := #[k9m0]
  instanceTypes := #[.int]
  staticTypes := #[]
  resolved := Array.replicate 218 none
  statics := none }

def pool10 : Array CpInfo := pool [(1, .class_ 2), (0, u "java/util/RandomAccess"), (0, .class_ 4), (0, u "java/lang/Object")] 2

/-- java/util/RandomAccess -/
def k10 : Class := { plain "java/util/RandomAccess" (some 0) with
  accessFlags := 1537
  interfaces := #[]
  cf := some (fileOf pool10 1 #[] #[] 1537 3 #[] #[])
  fields := #[]
  methods := #[]
  instanceTypes := #[]
  staticTypes := #[]
  resolved := Array.replicate 7 none
  statics := none }

def pool11 : Array CpInfo := pool [(1, .class_ 2), (0, u "java/lang/Cloneable"), (0, .class_ 4), (0, u "java/lang/Object")] 2

/-- java/lang/Cloneable -/
def k11 : Class := { plain "java/lang/Cloneable" (some 0) with
  accessFlags := 1537
  interfaces := #[]
  cf := some (fileOf pool11 1 #[] #[] 1537 3 #[] #[])
  fields := #[]
  methods := #[]
  instanceTypes := #[]
  staticTypes := #[]
  resolved := Array.replicate 7 none
  statics := none }

def pool12 : Array CpInfo := pool [(1, .class_ 2), (0, u "java/io/Serializable"), (0, .class_ 4), (0, u "java/lang/Object")] 2

/-- java/io/Serializable -/
def k12 : Class := { plain "java/io/Serializable" (some 0) with
  accessFlags := 1537
  interfaces := #[]
  cf := some (fileOf pool12 1 #[] #[] 1537 3 #[] #[])
  fields := #[]
  methods := #[]
  instanceTypes := #[]
  staticTypes := #[]
  resolved := Array.replicate 7 none
  statics := none }

def pool13 : Array CpInfo := pool [(1, .methodref 2 3), (0, .class_ 4), (0, .nameAndType 5 6), (0, u "java/util/AbstractList"), (0, u "<init>"), (0, u "()V"), (2, .fieldref 10 11), (0, .class_ 12), (0, .nameAndType 13 14), (0, u "java/util/ArrayList"), (0, u "elementData"), (0, u "[Ljava/lang/Object;"), (2, u "EMPTY_ELEMENTDATA"), (21, .fieldref 10 40), (0, .nameAndType 41 14), (0, u "DEFAULTCAPACITY_EMPTY_ELEMENTDATA"), (6, .fieldref 10 49), (0, .nameAndType 50 51), (0, u "size"), (0, u "I"), (96, .class_ 149), (0, u "java/util/List"), (16, u "iterator"), (0, u "()Ljava/util/Iterator;"), (5, u "()Z"), (88, .class_ 263), (0, u "java/util/ArrayList$ListItr"), (3, .class_ 268), (0, u "java/util/ArrayList$Itr"), (0, .methodref 267 270), (0, .nameAndType 5 271), (0, u "(Ljava/util/ArrayList;)V"), (4, .class_ 277), (0, u "java/util/ArrayList$SubList"), (12, .class_ 291), (0, u "java/util/ArrayList$ArrayListSpliterator"), (37, .class_ 330), (0, u "java/util/RandomAccess"), (0, .class_ 332), (0, u "java/lang/Cloneable"), (0, .class_ 334), (0, u "java/io/Serializable"), (0, u "serialVersionUID"), (0, u "J"), (3, u "DEFAULT_CAPACITY"), (22, u "isEmpty"), (136, .class_ 501), (0, u "java/util/ArrayList$SubList$2"), (0, .class_ 503), (0, u "java/util/ArrayList$SubList$1")] 5

def k13c0 : Code := { maxStack := 2, maxLocals := 1, code := jdk_38_method_2_code, exceptionTable := #[], attributes := #[] }
def k13m0 : Method := { name := "<init>", desc := "()V", sig := { parameters := [], returnType := none }, accessFlags := 1, code := some k13c0 }
def k13c1 : Code := { maxStack := 1, maxLocals := 1, code := jdk_38_method_9_code, exceptionTable := #[], attributes := #[] }
def k13m1 : Method := { name := "isEmpty", desc := "()Z", sig := { parameters := [], returnType := some .boolean }, accessFlags := 1, code := some k13c1 }
def k13c2 : Code := { maxStack := 3, maxLocals := 1, code := jdk_38_method_55_code, exceptionTable := #[], attributes := #[] }
def k13m2 : Method := { name := "iterator", desc := "()Ljava/util/Iterator;", sig := { parameters := [], returnType := some (.object "java/util/Iterator") }, accessFlags := 1, code := some k13c2 }
/-- java/util/ArrayList -/
def k13 : Class := { plain "java/util/ArrayList" (some 9) with
  accessFlags := 33
  interfaces := #[8, 10, 11, 12]
  cf := some (fileOf pool13 10 #[.nestMembers #[290, 276, 500, 502, 262, 267]] #[{ accessFlags := 1, nameIndex := 5, descriptorIndex := 6, attributes := #[] }, { accessFlags := 1, nameIndex := 363, descriptorIndex := 173, attributes := #[] }, { accessFlags := 1, nameIndex := 166, descriptorIndex := 167, attributes := #[] }] 33 2 #[148, 329, 331, 333] #[{ accessFlags := 26, nameIndex := 335, descriptorIndex := 336, attributes := #[] }, { accessFlags := 26, nameIndex := 340, descriptorIndex := 51, attributes := #[] }, { accessFlags := 26, nameIndex := 17, descriptorIndex := 14, attributes := #[] }, { accessFlags := 26, nameIndex := 41, descriptorIndex := 14, attributes := #[] }, { accessFlags := 128, nameIndex := 13, descriptorIndex := 14, attributes := #[] }, { accessFlags := 2, nameIndex := 50, descriptorIndex := 51, attributes := #[] }])
  fields := #[{ name := "serialVersionUID", type := .long, accessFlags := 26, slot := 0, constantValue := 0 }, { name := "DEFAULT_CAPACITY", type := .int, accessFlags := 26, slot := 1, constantValue := 0 }, { name := "EMPTY_ELEMENTDATA", type := (.array (.object "java/lang/Object")), accessFlags := 26, slot := 2, constantValue := 0 }, { name := "DEFAULTCAPACITY_EMPTY_ELEMENTDATA", type := (.array (.object "java/lang/Object")), accessFlags := 26, slot := 3, constantValue := 0 }, { name := "elementData", type := (.array (.object "java/lang/Object")), accessFlags := 128, slot := 1, constantValue := 0 }, { name := "size", type := .int, accessFlags := 2, slot := 2, constantValue := 0 }]
  methods := #[k13m0, k13m1, k13m2]
  instanceTypes := #[.int, (.array (.object "java/lang/Object")), .int]
  staticTypes := #[.long, .int, (.array (.object "java/lang/Object")), (.array (.object "java/lang/Object"))]
  resolved := Array.replicate 509 none
  statics := some 0 }

def pool14 : Array CpInfo := pool [(2, .class_ 4), (1, u "java/lang/Object"), (0, u "<init>"), (0, u "()V"), (3, .class_ 11), (0, u "java/util/ImmutableCollections$List12"), (0, .class_ 13), (0, u "java/util/ImmutableCollections$ListN"), (3, u "Z"), (0, .class_ 19), (0, u "java/util/List"), (0, .interfaceMethodref 21 22), (0, .class_ 23), (0, .nameAndType 24 25), (0, u "java/util/Collection"), (0, u "isEmpty"), (0, u "()Z"), (0, .interfaceMethodref 18 27), (0, .nameAndType 28 29), (0, u "of"), (0, u "()Ljava/util/List;"), (17, .class_ 49), (1, u "java/util/ImmutableCollections"), (0, u "$assertionsDisabled"), (5, u "[Ljava/lang/Object;"), (5, u "EMPTY_LIST"), (0, u "Ljava/util/ImmutableCollections$ListN;"), (8, u "EMPTY_LIST_NULLS"), (22, u "SALT32L"), (0, u "J"), (2, u "REVERSE"), (6, u "archivedObjects"), (2, u "EMPTY"), (0, u "Ljava/lang/Object;"), (0, .class_ 112), (0, u "java/util/ImmutableCollections$SetN"), (5, u "EMPTY_SET"), (0, u "Ljava/util/ImmutableCollections$SetN;"), (0, .class_ 121), (0, u "java/util/ImmutableCollections$MapN"), (3, u "EMPTY_MAP"), (0, u "Ljava/util/ImmutableCollections$MapN;"), (4, u "EXPAND_FACTOR"), (0, u "I"), (9, u "listCopy"), (0, u "(Ljava/util/Collection;)Ljava/util/List;"), (25, .class_ 170), (0, u "java/util/ImmutableCollections$MapN$MapNIterator"), (0, .class_ 172), (0, u "java/util/ImmutableCollections$MapN$1"), (0, .class_ 174), (0, u "java/util/ImmutableCollections$Map1"), (0, .class_ 176), (0, u "java/util/ImmutableCollections$AbstractImmutableMap"), (0, .class_ 178), (0, u "java/util/ImmutableCollections$SetN$SetNIterator"), (0, .class_ 180), (0, u "java/util/ImmutableCollections$Set12"), (0, .class_ 182), (0, u "java/util/ImmutableCollections$Set12$1"), (0, .class_ 184), (0, u "java/util/ImmutableCollections$AbstractImmutableSet"), (0, .class_ 186), (0, u "java/util/ImmutableCollections$SubList"), (0, .class_ 188), (0, u "java/util/ImmutableCollections$ListItr"), (0, .class_ 190), (0, u "java/util/ImmutableCollections$AbstractImmutableList"), (0, .class_ 192), (0, u "java/util/ImmutableCollections$AbstractImmutableCollection"), (0, .class_ 194), (0, u "java/util/ImmutableCollections$Access"), (0, .class_ 196), (0, u "java/util/ImmutableCollections$Access$1")] 16

def k14m0 : Method := { name := "<init>", desc := "()V", sig := { parameters := [], returnType := none }, accessFlags := 2, code := none }
def k14c1 : Code := { maxStack := 1, maxLocals := 2, code := jdk_56_method_3_code, exceptionTable := #[], attributes := #[] }
def k14m1 : Method := { name := "listCopy", desc := "(Ljava/util/Collection;)Ljava/util/List;", sig := { parameters := [(.object "java/util/Collection")], returnType := some (.object "java/util/List") }, accessFlags := 8, code := some k14c1 }
/-- java/util/ImmutableCollections -/
def k14 : Class := { plain "java/util/ImmutableCollections" (some 0) with
  accessFlags := 32
  interfaces := #[]
  cf := some (fileOf pool14 47 #[.nestMembers #[120, 169, 171, 173, 175, 111, 177, 179, 181, 183, 12, 10, 185, 187, 189, 191, 193, 195]] #[{ accessFlags := 2, nameIndex := 5, descriptorIndex := 6, attributes := #[] }, { accessFlags := 8, nameIndex := 142, descriptorIndex := 143, attributes := #[] }] 32 2 #[] #[{ accessFlags := 26, nameIndex := 95, descriptorIndex := 96, attributes := #[] }, { accessFlags := 26, nameIndex := 99, descriptorIndex := 17, attributes := #[] }, { accessFlags := 10, nameIndex := 106, descriptorIndex := 56, attributes := #[] }, { accessFlags := 26, nameIndex := 109, descriptorIndex := 110, attributes := #[] }, { accessFlags := 24, nameIndex := 62, descriptorIndex := 63, attributes := #[] }, { accessFlags := 24, nameIndex := 72, descriptorIndex := 63, attributes := #[] }, { accessFlags := 24, nameIndex := 118, descriptorIndex := 119, attributes := #[] }, { accessFlags := 24, nameIndex := 125, descriptorIndex := 126, attributes := #[] }, { accessFlags := 24, nameIndex := 131, descriptorIndex := 132, attributes := #[] }, { accessFlags := 4120, nameIndex := 50, descriptorIndex := 17, attributes := #[] }])
  fields := #[{ name := "SALT32L", type := .long, accessFlags := 26, slot := 0, constantValue := 0 }, { name := "REVERSE", type := .boolean, accessFlags := 26, slot := 1, constantValue := 0 }, { name := "archivedObjects", type := (.array (.object "java/lang/Object")), accessFlags := 10, slot := 2, constantValue := 0 }, { name := "EMPTY", type := (.object "java/lang/Object"), accessFlags := 26, slot := 3, constantValue := 0 }, { name := "EMPTY_LIST", type := (.object "java/util/ImmutableCollections$ListN"), accessFlags := 24, slot := 4, constantValue := 0 }, { name := "EMPTY_LIST_NULLS", type := (.object "java/util/ImmutableCollections$ListN"), accessFlags := 24, slot := 5, constantValue := 0 }, { name := "EMPTY_SET", type := (.object "java/util/ImmutableCollections$SetN"), accessFlags := 24, slot := 6, constantValue := 0 }, { name := "EMPTY_MAP", type := (.object "java/util/ImmutableCollections$MapN"), accessFlags := 24, slot := 7, constantValue := 0 }, { name := "EXPAND_FACTOR", type := .int, accessFlags := 24, slot := 8, constantValue := 0 }, { name := "$assertionsDisabled", type := .boolean, accessFlags := 4120, slot := 9, constantValue := 0 }]
  methods := #[k14m0, k14m1]
  instanceTypes := #[]
  staticTypes := #[.long, .boolean, (.array (.object "java/lang/Object")), (.object "java/lang/Object"), (.object "java/util/ImmutableCollections$ListN"), (.object "java/util/ImmutableCollections$ListN"), (.object "java/util/ImmutableCollections$SetN"), (.object "java/util/ImmutableCollections$MapN"), .int, .boolean]
  resolved := Array.replicate 213 none
  statics := some 1 }

def pool15 : Array CpInfo := pool [(1, .methodref 2 3), (0, .class_ 4), (0, .nameAndType 5 6), (0, u "java/util/AbstractCollection"), (0, u "<init>"), (0, u "()V"), (1, .class_ 10), (1, u "java/util/ImmutableCollections"), (2, .class_ 14), (0, u "java/util/ImmutableCollections$AbstractImmutableCollection")] 41

def k15c0 : Code := { maxStack := 1, maxLocals := 1, code := jdk_47_method_1_code, exceptionTable := #[], attributes := #[] }
def k15m0 : Method := { name := "<init>", desc := "()V", sig := { parameters := [], returnType := none }, accessFlags := 0, code := some k15c0 }
/-- java/util/ImmutableCollections$AbstractImmutableCollection -/
def k15 : Class := { plain "java/util/ImmutableCollections$AbstractImmutableCollection" (some 6) with
  accessFlags := 1056
  interfaces := #[]
  cf := some (fileOf pool15 13 #[.nestHost 8] #[{ accessFlags := 0, nameIndex := 5, descriptorIndex := 6, attributes := #[] }] 1056 2 #[] #[])
  fields := #[]
  methods := #[k15m0]
  instanceTypes := #[]
  staticTypes := #[]
  resolved := Array.replicate 56 none
  statics := none }

def pool16 : Array CpInfo := pool [(1, .methodref 2 3), (0, .class_ 4), (0, .nameAndType 5 6), (0, u "java/util/ImmutableCollections$AbstractImmutableCollection"), (0, u "<init>"), (0, u "()V"), (1, .class_ 10), (1, u "java/util/ImmutableCollections"), (3, .class_ 16), (1, u "java/util/ImmutableCollections$AbstractImmutableList"), (60, .class_ 78), (0, u "java/util/List"), (45, .class_ 125), (0, u "java/util/RandomAccess")] 70

def k16c0 : Code := { maxStack := 1, maxLocals := 1, code := jdk_46_method_1_code, exceptionTable := #[], attributes := #[] }
def k16m0 : Method := { name := "<init>", desc := "()V", sig := { parameters := [], returnType := none }, accessFlags := 0, code := some k16c0 }
/-- java/util/ImmutableCollections$AbstractImmutableList -/
def k16 : Class := { plain "java/util/ImmutableCollections$AbstractImmutableList" (some 15) with
  accessFlags := 1056
  interfaces := #[8, 10]
  cf := some (fileOf pool16 14 #[.nestHost 8] #[{ accessFlags := 0, nameIndex := 5, descriptorIndex := 6, attributes := #[] }] 1056 2 #[77, 124] #[])
  fields := #[]
  methods := #[k16m0]
  instanceTypes := #[]
  staticTypes := #[]
  resolved := Array.replicate 196 none
  statics := none }

def pool17 : Array CpInfo := pool [(1, .methodref 2 3), (0, .class_ 4), (0, .nameAndType 5 6), (0, u "java/util/ImmutableCollections$AbstractImmutableList"), (0, u "<init>"), (0, u "()V"), (0, .methodref 8 9), (0, .class_ 10), (0, .nameAndType 11 12), (0, u "java/util/Objects"), (0, u "requireNonNull"), (0, u "(Ljava/lang/Object;)Ljava/lang/Object;"), (0, .fieldref 14 15), (0, .class_ 16), (0, .nameAndType 17 18), (0, u "java/util/ImmutableCollections$List12"), (0, u "e0"), (0, u "Ljava/lang/Object;"), (0, .fieldref 20 21), (0, .class_ 22), (0, .nameAndType 23 18), (0, u "java/util/ImmutableCollections"), (0, u "EMPTY"), (0, .fieldref 14 25), (0, .nameAndType 26 18), (0, u "e1"), (24, u "size"), (0, u "()I"), (17, .class_ 71), (0, u "java/io/Serializable"), (4, u "(Ljava/lang/Object;)V")] 48

def k17c0 : Code := { maxStack := 2, maxLocals := 2, code := jdk_44_method_1_code, exceptionTable := #[], attributes := #[] }
def k17m0 : Method := { name := "<init>", desc := "(Ljava/lang/Object;)V", sig := { parameters := [(.object "java/lang/Object")], returnType := none }, accessFlags := 0, code := some k17c0 }
def k17c1 : Code := { maxStack := 2, maxLocals := 1, code := jdk_44_method_3_code, exceptionTable := #[], attributes := #[] }
def k17m1 : Method := { name := "size", desc := "()I", sig := { parameters := [], returnType := some .int }, accessFlags := 1, code := some k17c1 }
/-- java/util/ImmutableCollections$List12 -/
def k17 : Class := { plain "java/util/ImmutableCollections$List12" (some 16) with
  accessFlags := 48
  interfaces := #[12]
  cf := some (fileOf pool17 14 #[.nestHost 20] #[{ accessFlags := 0, nameIndex := 5, descriptorIndex := 76, attributes := #[] }, { accessFlags := 1, nameIndex := 51, descriptorIndex := 52, attributes := #[] }] 48 2 #[70] #[{ accessFlags := 18, nameIndex := 17, descriptorIndex := 18, attributes := #[] }, { accessFlags := 18, nameIndex := 26, descriptorIndex := 18, attributes := #[] }])
  fields := #[{ name := "e0", type := (.object "java/lang/Object"), accessFlags := 18, slot := 0, constantValue := 0 }, { name := "e1", type := (.object "java/lang/Object"), accessFlags := 18, slot := 1, constantValue := 0 }]
  methods := #[k17m0, k17m1]
  instanceTypes := #[(.object "java/lang/Object"), (.object "java/lang/Object")]
  staticTypes := #[]
  resolved := Array.replicate 125 none
  statics := none }

def pool18 : Array CpInfo := pool [(2, .class_ 4), (1, u "java/util/ImmutableCollections$AbstractImmutableList"), (2, .fieldref 8 9), (0, .class_ 10), (0, .nameAndType 11 12), (0, u "java/util/ImmutableCollections$ListN"), (0, u "elements"), (0, u "[Ljava/lang/Object;"), (2, u "allowNulls"), (0, u "Z"), (42, .class_ 60), (0, u "java/io/Serializable"), (16, u "size"), (0, u "()I"), (35, .class_ 115), (0, u "java/util/ImmutableCollections")] 3

def k18c0 : Code := { maxStack := 1, maxLocals := 1, code := jdk_45_method_3_code, exceptionTable := #[], attributes := #[] }
def k18m0 : Method := { name := "size", desc := "()I", sig := { parameters := [], returnType := some .int }, accessFlags := 1, code := some k18c0 }
/-- java/util/ImmutableCollections$ListN -/
def k18 : Class := { plain "java/util/ImmutableCollections$ListN" (some 16) with
  accessFlags := 48
  interfaces := #[12]
  cf := some (fileOf pool18 8 #[.nestHost 114] #[{ accessFlags := 1, nameIndex := 77, descriptorIndex := 78, attributes := #[] }] 48 2 #[59] #[{ accessFlags := 18, nameIndex := 11, descriptorIndex := 12, attributes := #[] }, { accessFlags := 18, nameIndex := 15, descriptorIndex := 16, attributes := #[] }])
  fields := #[{ name := "elements", type := (.array (.object "java/lang/Object")), accessFlags := 18, slot := 0, constantValue := 0 }, { name := "allowNulls", type := .boolean, accessFlags := 18, slot := 1, constantValue := 0 }]
  methods := #[k18m0]
  instanceTypes := #[(.array (.object "java/lang/Object")), .boolean]
  staticTypes := #[]
  resolved := Array.replicate 119 none
  statics := none }

def pool19 : Array CpInfo := pool [(1, .methodref 2 3), (0, .class_ 4), (0, .nameAndType 5 6), (0, u "java/lang/Record"), (0, u "<init>"), (0, u "()V"), (0, .interfaceMethodref 8 9), (0, .class_ 10), (0, .nameAndType 11 12), (0, u "java/util/List"), (0, u "copyOf"), (0, u "(Ljava/util/Collection;)Ljava/util/List;"), (0, .interfaceMethodref 8 14), (0, .nameAndType 15 16), (0, u "size"), (0, u "()I"), (9, .fieldref 27 28), (0, .class_ 29), (0, .nameAndType 30 31), (0, u "org/keymoot/Proposal"), (0, u "number"), (0, u "I"), (0, .fieldref 27 33), (0, .nameAndType 34 31), (0, u "protocol"), (0, .fieldref 27 36), (0, .nameAndType 37 38), (0, u "spi"), (0, u "[B"), (0, .fieldref 27 40), (0, .nameAndType 41 42), (0, u "transforms"), (0, u "Ljava/util/List;"), (26, u "ISAKMP"), (1, u "AH"), (1, u "ESP"), (62, u "(II[BLjava/util/List;)V"), (57, u "SPI_LENGTH"), (1, u "FIRST_SPI")] 70

def k19c0 : Code := { maxStack := 4, maxLocals := 5, code := prog_63_method_1_code, exceptionTable := #[], attributes := #[] }
def k19m0 : Method := { name := "<init>", desc := "(II[BLjava/util/List;)V", sig := { parameters := [.int, .int, (.array .byte), (.object "java/util/List")], returnType := none }, accessFlags := 0, code := some k19c0 }
def k19c1 : Code := { maxStack := 1, maxLocals := 1, code := prog_63_method_10_code, exceptionTable := #[], attributes := #[] }
def k19m1 : Method := { name := "number", desc := "()I", sig := { parameters := [], returnType := some .int }, accessFlags := 1, code := some k19c1 }
def k19c2 : Code := { maxStack := 1, maxLocals := 1, code := prog_63_method_11_code, exceptionTable := #[], attributes := #[] }
def k19m2 : Method := { name := "protocol", desc := "()I", sig := { parameters := [], returnType := some .int }, accessFlags := 1, code := some k19c2 }
/-- org/keymoot/Proposal -/
def k19 : Class := { plain "org/keymoot/Proposal" (some 2) with
  accessFlags := 48
  interfaces := #[]
  cf := some (fileOf pool19 27 #[] #[{ accessFlags := 0, nameIndex := 5, descriptorIndex := 136, attributes := #[] }, { accessFlags := 1, nameIndex := 30, descriptorIndex := 16, attributes := #[] }, { accessFlags := 1, nameIndex := 34, descriptorIndex := 16, attributes := #[] }] 48 2 #[] #[{ accessFlags := 18, nameIndex := 30, descriptorIndex := 31, attributes := #[] }, { accessFlags := 18, nameIndex := 34, descriptorIndex := 31, attributes := #[] }, { accessFlags := 18, nameIndex := 37, descriptorIndex := 38, attributes := #[] }, { accessFlags := 18, nameIndex := 41, descriptorIndex := 42, attributes := #[] }, { accessFlags := 24, nameIndex := 69, descriptorIndex := 31, attributes := #[] }, { accessFlags := 24, nameIndex := 71, descriptorIndex := 31, attributes := #[] }, { accessFlags := 24, nameIndex := 73, descriptorIndex := 31, attributes := #[] }, { accessFlags := 24, nameIndex := 194, descriptorIndex := 31, attributes := #[] }, { accessFlags := 26, nameIndex := 196, descriptorIndex := 31, attributes := #[] }])
  fields := #[{ name := "number", type := .int, accessFlags := 18, slot := 0, constantValue := 0 }, { name := "protocol", type := .int, accessFlags := 18, slot := 1, constantValue := 0 }, { name := "spi", type := (.array .byte), accessFlags := 18, slot := 2, constantValue := 0 }, { name := "transforms", type := (.object "java/util/List"), accessFlags := 18, slot := 3, constantValue := 0 }, { name := "ISAKMP", type := .int, accessFlags := 24, slot := 0, constantValue := 0 }, { name := "AH", type := .int, accessFlags := 24, slot := 1, constantValue := 0 }, { name := "ESP", type := .int, accessFlags := 24, slot := 2, constantValue := 0 }, { name := "SPI_LENGTH", type := .int, accessFlags := 24, slot := 3, constantValue := 0 }, { name := "FIRST_SPI", type := .int, accessFlags := 26, slot := 4, constantValue := 0 }]
  methods := #[k19m0, k19m1, k19m2]
  instanceTypes := #[.int, .int, (.array .byte), (.object "java/util/List")]
  staticTypes := #[.int, .int, .int, .int, .int]
  resolved := Array.replicate 267 none
  statics := none }

def pool20 : Array CpInfo := pool [(1, .methodref 2 3), (0, .class_ 4), (0, .nameAndType 5 6), (0, u "java/lang/Record"), (0, u "<init>"), (0, u "()V"), (0, .interfaceMethodref 8 9), (0, .class_ 10), (0, .nameAndType 11 12), (0, u "java/util/List"), (0, u "copyOf"), (0, u "(Ljava/util/Collection;)Ljava/util/List;"), (0, .fieldref 14 15), (0, .class_ 16), (0, .nameAndType 17 18), (0, u "org/keymoot/Transform"), (0, u "number"), (0, u "I"), (0, .fieldref 14 20), (0, .nameAndType 21 18), (0, u "id"), (0, .fieldref 14 23), (0, .nameAndType 24 25), (0, u "attributes"), (0, u "Ljava/util/List;"), (50, u "(IILjava/util/List;)V"), (35, .class_ 113), (0, u "org/keymoot/Transform$Value"), (78, u "KEY_IKE")] 67

def k20c0 : Code := { maxStack := 2, maxLocals := 4, code := prog_78_method_1_code, exceptionTable := #[], attributes := #[] }
def k20m0 : Method := { name := "<init>", desc := "(IILjava/util/List;)V", sig := { parameters := [.int, .int, (.object "java/util/List")], returnType := none }, accessFlags := 0, code := some k20c0 }
/-- org/keymoot/Transform -/
def k20 : Class := { plain "org/keymoot/Transform" (some 2) with
  accessFlags := 48
  interfaces := #[]
  cf := some (fileOf pool20 14 #[.nestMembers #[112]] #[{ accessFlags := 0, nameIndex := 5, descriptorIndex := 76, attributes := #[] }] 48 2 #[] #[{ accessFlags := 18, nameIndex := 17, descriptorIndex := 18, attributes := #[] }, { accessFlags := 18, nameIndex := 21, descriptorIndex := 18, attributes := #[] }, { accessFlags := 18, nameIndex := 24, descriptorIndex := 25, attributes := #[] }, { accessFlags := 24, nameIndex := 192, descriptorIndex := 18, attributes := #[] }])
  fields := #[{ name := "number", type := .int, accessFlags := 18, slot := 0, constantValue := 0 }, { name := "id", type := .int, accessFlags := 18, slot := 1, constantValue := 0 }, { name := "attributes", type := (.object "java/util/List"), accessFlags := 18, slot := 2, constantValue := 0 }, { name := "KEY_IKE", type := .int, accessFlags := 24, slot := 0, constantValue := 0 }]
  methods := #[k20m0]
  instanceTypes := #[.int, .int, (.object "java/util/List")]
  staticTypes := #[.int]
  resolved := Array.replicate 260 none
  statics := none }

def pool21 : Array CpInfo := pool [(2, .class_ 4), (1, u "java/lang/Object"), (0, u "<init>"), (0, u "()V"), (35, .class_ 44), (1, u "java/util/Objects"), (0, u "requireNonNull"), (0, u "(Ljava/lang/Object;)Ljava/lang/Object;")] 137

def k21m0 : Method := { name := "<init>", desc := "()V", sig := { parameters := [], returnType := none }, accessFlags := 2, code := none }
def k21c1 : Code := { maxStack := 2, maxLocals := 1, code := jdk_31_method_10_code, exceptionTable := #[], attributes := #[] }
def k21m1 : Method := { name := "requireNonNull", desc := "(Ljava/lang/Object;)Ljava/lang/Object;", sig := { parameters := [(.object "java/lang/Object")], returnType := some (.object "java/lang/Object") }, accessFlags := 9, code := some k21c1 }
/-- java/util/Objects -/
def k21 : Class := { plain "java/util/Objects" (some 0) with
  accessFlags := 49
  interfaces := #[]
  cf := some (fileOf pool21 42 #[] #[{ accessFlags := 2, nameIndex := 5, descriptorIndex := 6, attributes := #[] }, { accessFlags := 9, nameIndex := 45, descriptorIndex := 46, attributes := #[] }] 49 2 #[] #[])
  fields := #[]
  methods := #[k21m0, k21m1]
  instanceTypes := #[]
  staticTypes := #[]
  resolved := Array.replicate 184 none
  statics := none }

def pool22 : Array CpInfo := pool [(16, .class_ 18), (1, u "java/util/Iterator"), (0, u "hasNext"), (0, u "()Z"), (10, .class_ 32), (0, u "java/lang/Object")] 20

def k22m0 : Method := { name := "hasNext", desc := "()Z", sig := { parameters := [], returnType := some .boolean }, accessFlags := 1025, code := none }
/-- java/util/Iterator -/
def k22 : Class := { plain "java/util/Iterator" (some 0) with
  accessFlags := 1537
  interfaces := #[]
  cf := some (fileOf pool22 16 #[] #[{ accessFlags := 1025, nameIndex := 19, descriptorIndex := 20, attributes := #[] }] 1537 31 #[] #[])
  fields := #[]
  methods := #[k22m0]
  instanceTypes := #[]
  staticTypes := #[]
  resolved := Array.replicate 53 none
  statics := none }

def pool23 : Array CpInfo := pool [(1, .fieldref 2 3), (0, .class_ 4), (0, .nameAndType 5 6), (0, u "java/util/ArrayList$Itr"), (0, u "this$0"), (0, u "Ljava/util/ArrayList;"), (0, .methodref 8 9), (0, .class_ 10), (0, .nameAndType 11 12), (0, u "java/lang/Object"), (0, u "<init>"), (0, u "()V"), (0, .fieldref 2 14), (0, .nameAndType 15 16), (0, u "lastRet"), (0, u "I"), (0, .fieldref 18 19), (0, .class_ 20), (0, .nameAndType 21 16), (0, u "java/util/ArrayList"), (0, u "modCount"), (0, .fieldref 2 23), (0, .nameAndType 24 16), (0, u "expectedModCount"), (0, .fieldref 2 26), (0, .nameAndType 27 16), (0, u "cursor"), (0, .fieldref 18 29), (0, .nameAndType 30 16), (0, u "size"), (38, .class_ 70), (0, u "java/util/Iterator"), (0, u "(Ljava/util/ArrayList;)V"), (8, u "hasNext"), (0, u "()Z")] 22

def k23c0 : Code := { maxStack := 2, maxLocals := 2, code := jdk_49_method_1_code, exceptionTable := #[], attributes := #[] }
def k23m0 : Method := { name := "<init>", desc := "(Ljava/util/ArrayList;)V", sig := { parameters := [(.object "java/util/ArrayList")], returnType := none }, accessFlags := 0, code := some k23c0 }
def k23c1 : Code := { maxStack := 2, maxLocals := 1, code := jdk_49_method_2_code, exceptionTable := #[], attributes := #[] }
def k23m1 : Method := { name := "hasNext", desc := "()Z", sig := { parameters := [], returnType := some .boolean }, accessFlags := 1, code := some k23c1 }
/-- java/util/ArrayList$Itr -/
def k23 : Class := { plain "java/util/ArrayList$Itr" (some 0) with
  accessFlags := 32
  interfaces := #[22]
  cf := some (fileOf pool23 2 #[.nestHost 18] #[{ accessFlags := 0, nameIndex := 11, descriptorIndex := 71, attributes := #[] }, { accessFlags := 1, nameIndex := 80, descriptorIndex := 81, attributes := #[] }] 32 8 #[69] #[{ accessFlags := 0, nameIndex := 27, descriptorIndex := 16, attributes := #[] }, { accessFlags := 0, nameIndex := 15, descriptorIndex := 16, attributes := #[] }, { accessFlags := 0, nameIndex := 24, descriptorIndex := 16, attributes := #[] }, { accessFlags := 4112, nameIndex := 5, descriptorIndex := 6, attributes := #[] }])
  fields := #[{ name := "cursor", type := .int, accessFlags := 0, slot := 0, constantValue := 0 }, { name := "lastRet", type := .int, accessFlags := 0, slot := 1, constantValue := 0 }, { name := "expectedModCount", type := .int, accessFlags := 0, slot := 2, constantValue := 0 }, { name := "this$0", type := (.object "java/util/ArrayList"), accessFlags := 4112, slot := 3, constantValue := 0 }]
  methods := #[k23m0, k23m1]
  instanceTypes := #[.int, .int, .int, (.object "java/util/ArrayList")]
  staticTypes := #[]
  resolved := Array.replicate 104 none
  statics := none }

/-- the primitive byte -/
def k24 : Class := { plain "byte" none with kind := .primitive 'B', accessFlags := 0x411 }
/-- [B -/
def k25 : Class := { plain "[B" (some 0) with kind := .array 24 .byte, interfaces := #[11, 12], accessFlags := 1041 }

/-- the primitive int -/
def k26 : Class := { plain "int" none with kind := .primitive 'I', accessFlags := 0x411 }
/-- [I -/
def k27 : Class := { plain "[I" (some 0) with kind := .array 26 .int, interfaces := #[11, 12], accessFlags := 1041 }

/-- [Ljava/lang/Object; -/
def k28 : Class := { plain "[Ljava/lang/Object;" (some 0) with kind := .array 0 (.object "java/lang/Object"), interfaces := #[11, 12], accessFlags := 1041 }

def heap : Heap := #[{ cls := 13, slots := #[.long 0, .int 0, .ref 4, .ref 5], vm := .statics 13 },
  { cls := 14, slots := #[.long 0, .int 0, .null, .ref 6, .ref 3, .null, .null, .null, .int 0, .int 1], vm := .statics 14 },
  { cls := 28, slots := #[], vm := .none },
  { cls := 18, slots := #[.ref 2, .int 0], vm := .none },
  { cls := 28, slots := #[], vm := .none },
  { cls := 28, slots := #[], vm := .none },
  { cls := 0, slots := #[], vm := .none }]
def classes : Array Class := #[k0, k1, k2, k3, k4, k5, k6, k7, k8, k9, k10, k11, k12, k13, k14, k15, k16, k17, k18, k19, k20, k21, k22, k23, k24, k25, k26, k27, k28]
def interned : List (Array UInt16 × Addr) := []
def slotsUsed : Nat := 16
def theMethod : MethodId := ⟨1, 1⟩
def args0 : Array Value := #[.int 5, .int 7, .int 1, .int 2]
def aboutOver (below : List Frame) : State where
  vm := { classes := classes, interned := interned.toArray }
  heap := heap
  slotsUsed := slotsUsed
  threads := #[{ frames := .invoking theMethod args0 :: below }]
def below0 : List Frame := [.native { method := ⟨0, 0⟩, args := #[] }]
def about1 : State := aboutOver below0
def p0 : Program := .bare "" "" ""
def e0 : Env := launch0.env 0 0 0
theorem w_frames : about1.frames = Frame.invoking theMethod args0 :: below0 := rfl
set_option maxRecDepth 65536 in
theorem w_args : argsFit about1.vm theMethod args0 = true := by decide +kernel
set_option maxRecDepth 65536 in
theorem w_heap : heapFits about1 = true := by decide +kernel
set_option maxRecDepth 65536 in
theorem w_runnable : about1.curStatus? = some .runnable := by decide +kernel
set_option maxRecDepth 65536 in
theorem w_alone : about1.alone = true := by decide +kernel
set_option maxRecDepth 65536 in
theorem w_named : about1.methodNamed? x = some theMethod := by decide +kernel
set_option maxRecDepth 65536 in
theorem w_hears : about1.hears theMethod below0 = true := by decide +kernel
set_option maxRecDepth 65536 in
theorem w_ripe : about1.ripe theMethod args0 below0 = true := by decide +kernel
theorem w_running : about1.status = .running := rfl
set_option maxRecDepth 65536 in
theorem w_room : about1.hasRoom e0.platform room_1 = true :=
  launch0.hasRoom_least _ room_1 (by decide +kernel) (by decide +kernel) (by decide +kernel) (by decide +kernel) (by decide +kernel) (by decide +kernel)
theorem allAtoms_all (ts : List Jvm.Cond) (a : Array Jvm.Value) (st : Jvm.State) : (allAtoms ts).before a st = ts.all (fun c => c.before a st) := by
  induction ts with
  | nil => rfl
  | cons c t ih =>
    show (Jvm.Cond.and c (allAtoms t)).before a st = _
    rw [Jvm.Cond.before_and, ih, List.all_cons]
def words1 : List Jvm.Cond := Jvm.Cond.code x code maxLocals ret :: tables_1
/-- a 'code' word, met by the world's own term for the bytes: nothing is compared byte by byte -/
theorem code_word {y : MethodName} {bytes : ByteArray} {mx : Nat} {rt : Option FieldType} {a : Array Value} {s : State} {m : MethodId} {meth : Method} {c : Code} (h1 : s.methodNamed? y = some m) (h2 : s.vm.method? m = some meth) (h3 : meth.code = some c) (h4 : c.code = bytes)
    (h5 : (c.maxLocals == mx && c.exceptionTable.isEmpty && decide (c.maxStack ≤ mostOperands) && decide (meth.sig.returnType = rt) && !meth.locks && decide (parseMethodDescriptor y.desc = some meth.sig)) = true) : (Jvm.Cond.code y bytes mx rt).before a s = true := by
  simp only [Bool.and_eq_true, beq_iff_eq, Bool.not_eq_true', decide_eq_true_eq] at h5
  obtain ⟨⟨⟨⟨⟨g1, g2⟩, g3⟩, g4⟩, g5⟩, g6⟩ := h5
  simp [Cond.before, Cond.holds, Cond.value, h1, h2, h3, h4, g1, g2, g3, g4, g5, g6]
def isCode : Jvm.Cond → Bool
  | .code _ _ _ _ => true
  | _ => false
theorem all_split {L : List Jvm.Cond} {P : Jvm.Cond → Bool} (h1 : L.all (fun c => isCode c || P c) = true) (h2 : ∀ c ∈ L.filter isCode, P c = true) : L.all P = true := by
  refine List.all_eq_true.mpr fun c hc => ?_
  have h := List.all_eq_true.mp h1 c hc
  rcases Bool.eq_false_or_eq_true (isCode c) with hi | hi
  · exact h2 c (List.mem_filter.mpr ⟨hc, hi⟩)
  · simpa [hi] using h
set_option maxRecDepth 65536 in
theorem w_c0 : (Jvm.Cond.code x code maxLocals ret).before args0 about1 = true := code_word (m := ⟨1, 1⟩) (meth := k1m1) (c := k1c1) (by decide +kernel) rfl rfl rfl (by decide +kernel)
set_option maxRecDepth 65536 in
theorem w_c1 : (Jvm.Cond.code ({ cls := "java/util/ArrayList", name := "<init>", desc := "()V" } : Jvm.MethodName) jdk_38_method_2_code (1 : Nat) (Option.none : Option Jvm.ClassFile.FieldType)).before args0 about1 = true := code_word (m := ⟨13, 0⟩) (meth := k13m0) (c := k13c0) (by decide +kernel) rfl rfl rfl (by decide +kernel)
set_option maxRecDepth 65536 in
theorem w_c2 : (Jvm.Cond.code ({ cls := "java/util/AbstractList", name := "<init>", desc := "()V" } : Jvm.MethodName) jdk_39_method_1_code (1 : Nat) (Option.none : Option Jvm.ClassFile.FieldType)).before args0 about1 = true := code_word (m := ⟨9, 0⟩) (meth := k9m0) (c := k9c0) (by decide +kernel) rfl rfl rfl (by decide +kernel)
set_option maxRecDepth 65536 in
theorem w_c3 : (Jvm.Cond.code ({ cls := "java/util/AbstractCollection", name := "<init>", desc := "()V" } : Jvm.MethodName) jdk_22_method_1_code (1 : Nat) (Option.none : Option Jvm.ClassFile.FieldType)).before args0 about1 = true := code_word (m := ⟨6, 0⟩) (meth := k6m0) (c := k6c0) (by decide +kernel) rfl rfl rfl (by decide +kernel)
set_option maxRecDepth 65536 in
theorem w_c4 : (Jvm.Cond.code ({ cls := "java/lang/Object", name := "<init>", desc := "()V" } : Jvm.MethodName) object_method_1_code (1 : Nat) (Option.none : Option Jvm.ClassFile.FieldType)).before args0 about1 = true := code_word (m := ⟨0, 0⟩) (meth := k0m0) (c := k0c0) (by decide +kernel) rfl rfl rfl (by decide +kernel)
set_option maxRecDepth 65536 in
theorem w_c5 : (Jvm.Cond.code ({ cls := "org/keymoot/SecurityAssociation", name := "<init>", desc := "(IILjava/util/List;)V" } : Jvm.MethodName) prog_74_method_1_code (4 : Nat) (Option.none : Option Jvm.ClassFile.FieldType)).before args0 about1 = true := code_word (m := ⟨3, 0⟩) (meth := k3m0) (c := k3c0) (by decide +kernel) rfl rfl rfl (by decide +kernel)
set_option maxRecDepth 65536 in
theorem w_c6 : (Jvm.Cond.code ({ cls := "java/lang/Record", name := "<init>", desc := "()V" } : Jvm.MethodName) jdk_30_method_1_code (1 : Nat) (Option.none : Option Jvm.ClassFile.FieldType)).before args0 about1 = true := code_word (m := ⟨2, 0⟩) (meth := k2m0) (c := k2c0) (by decide +kernel) rfl rfl rfl (by decide +kernel)
set_option maxRecDepth 65536 in
theorem w_c7 : (Jvm.Cond.code ({ cls := "java/util/List", name := "copyOf", desc := "(Ljava/util/Collection;)Ljava/util/List;" } : Jvm.MethodName) jdk_40_method_48_code (1 : Nat) (Option.some (Jvm.ClassFile.FieldType.object "java/util/List"))).before args0 about1 = true := code_word (m := ⟨8, 4⟩) (meth := k8m4) (c := k8c4) (by decide +kernel) rfl rfl rfl (by decide +kernel)
set_option maxRecDepth 65536 in
theorem w_c8 : (Jvm.Cond.code ({ cls := "java/util/ImmutableCollections", name := "listCopy", desc := "(Ljava/util/Collection;)Ljava/util/List;" } : Jvm.MethodName) jdk_56_method_3_code (2 : Nat) (Option.some (Jvm.ClassFile.FieldType.object "java/util/List"))).before args0 about1 = true := code_word (m := ⟨14, 1⟩) (meth := k14m1) (c := k14c1) (by decide +kernel) rfl rfl rfl (by decide +kernel)
set_option maxRecDepth 65536 in
theorem w_c9 : (Jvm.Cond.code ({ cls := "java/util/ArrayList", name := "isEmpty", desc := "()Z" } : Jvm.MethodName) jdk_38_method_9_code (1 : Nat) (Option.some Jvm.ClassFile.FieldType.boolean)).before args0 about1 = true := code_word (m := ⟨13, 1⟩) (meth := k13m1) (c := k13c1) (by decide +kernel) rfl rfl rfl (by decide +kernel)
set_option maxRecDepth 65536 in
theorem w_c10 : (Jvm.Cond.code ({ cls := "java/util/List", name := "of", desc := "()Ljava/util/List;" } : Jvm.MethodName) jdk_40_method_36_code (0 : Nat) (Option.some (Jvm.ClassFile.FieldType.object "java/util/List"))).before args0 about1 = true := code_word (m := ⟨8, 2⟩) (meth := k8m2) (c := k8c2) (by decide +kernel) rfl rfl rfl (by decide +kernel)
set_option maxRecDepth 65536 in
theorem w_c11 : (Jvm.Cond.code ({ cls := "org/keymoot/SecurityAssociation", name := "isIpsecIdentityOnly", desc := "()Z" } : Jvm.MethodName) prog_74_method_4_code (1 : Nat) (Option.some Jvm.ClassFile.FieldType.boolean)).before args0 about1 = true := code_word (m := ⟨3, 3⟩) (meth := k3m3) (c := k3c3) (by decide +kernel) rfl rfl rfl (by decide +kernel)
set_option maxRecDepth 65536 in
theorem w_c12 : (Jvm.Cond.code ({ cls := "org/keymoot/Proposal", name := "<init>", desc := "(II[BLjava/util/List;)V" } : Jvm.MethodName) prog_63_method_1_code (5 : Nat) (Option.none : Option Jvm.ClassFile.FieldType)).before args0 about1 = true := code_word (m := ⟨19, 0⟩) (meth := k19m0) (c := k19c0) (by decide +kernel) rfl rfl rfl (by decide +kernel)
set_option maxRecDepth 65536 in
theorem w_c13 : (Jvm.Cond.code ({ cls := "java/util/ImmutableCollections$ListN", name := "size", desc := "()I" } : Jvm.MethodName) jdk_45_method_3_code (1 : Nat) (Option.some Jvm.ClassFile.FieldType.int)).before args0 about1 = true := code_word (m := ⟨18, 0⟩) (meth := k18m0) (c := k18c0) (by decide +kernel) rfl rfl rfl (by decide +kernel)
set_option maxRecDepth 65536 in
theorem w_c14 : (Jvm.Cond.code ({ cls := "org/keymoot/Transform", name := "<init>", desc := "(IILjava/util/List;)V" } : Jvm.MethodName) prog_78_method_1_code (4 : Nat) (Option.none : Option Jvm.ClassFile.FieldType)).before args0 about1 = true := code_word (m := ⟨20, 0⟩) (meth := k20m0) (c := k20c0) (by decide +kernel) rfl rfl rfl (by decide +kernel)
set_option maxRecDepth 65536 in
theorem w_c15 : (Jvm.Cond.code ({ cls := "org/keymoot/SecurityAssociation", name := "answer", desc := "(Lorg/keymoot/Proposal;[BLorg/keymoot/Transform;)Lorg/keymoot/SecurityAssociation;" } : Jvm.MethodName) prog_74_method_3_code (4 : Nat) (Option.some (Jvm.ClassFile.FieldType.object "org/keymoot/SecurityAssociation"))).before args0 about1 = true := code_word (m := ⟨3, 2⟩) (meth := k3m2) (c := k3c2) (by decide +kernel) rfl rfl rfl (by decide +kernel)
set_option maxRecDepth 65536 in
theorem w_c16 : (Jvm.Cond.code ({ cls := "org/keymoot/Proposal", name := "number", desc := "()I" } : Jvm.MethodName) prog_63_method_10_code (1 : Nat) (Option.some Jvm.ClassFile.FieldType.int)).before args0 about1 = true := code_word (m := ⟨19, 1⟩) (meth := k19m1) (c := k19c1) (by decide +kernel) rfl rfl rfl (by decide +kernel)
set_option maxRecDepth 65536 in
theorem w_c17 : (Jvm.Cond.code ({ cls := "org/keymoot/Proposal", name := "protocol", desc := "()I" } : Jvm.MethodName) prog_63_method_11_code (1 : Nat) (Option.some Jvm.ClassFile.FieldType.int)).before args0 about1 = true := code_word (m := ⟨19, 2⟩) (meth := k19m2) (c := k19c2) (by decide +kernel) rfl rfl rfl (by decide +kernel)
set_option maxRecDepth 65536 in
theorem w_c18 : (Jvm.Cond.code ({ cls := "java/util/List", name := "of", desc := "(Ljava/lang/Object;)Ljava/util/List;" } : Jvm.MethodName) jdk_40_method_37_code (1 : Nat) (Option.some (Jvm.ClassFile.FieldType.object "java/util/List"))).before args0 about1 = true := code_word (m := ⟨8, 3⟩) (meth := k8m3) (c := k8c3) (by decide +kernel) rfl rfl rfl (by decide +kernel)
set_option maxRecDepth 65536 in
theorem w_c19 : (Jvm.Cond.code ({ cls := "java/util/ImmutableCollections$List12", name := "<init>", desc := "(Ljava/lang/Object;)V" } : Jvm.MethodName) jdk_44_method_1_code (2 : Nat) (Option.none : Option Jvm.ClassFile.FieldType)).before args0 about1 = true := code_word (m := ⟨17, 0⟩) (meth := k17m0) (c := k17c0) (by decide +kernel) rfl rfl rfl (by decide +kernel)
set_option maxRecDepth 65536 in
theorem w_c20 : (Jvm.Cond.code ({ cls := "java/util/ImmutableCollections$AbstractImmutableList", name := "<init>", desc := "()V" } : Jvm.MethodName) jdk_46_method_1_code (1 : Nat) (Option.none : Option Jvm.ClassFile.FieldType)).before args0 about1 = true := code_word (m := ⟨16, 0⟩) (meth := k16m0) (c := k16c0) (by decide +kernel) rfl rfl rfl (by decide +kernel)
set_option maxRecDepth 65536 in
theorem w_c21 : (Jvm.Cond.code ({ cls := "java/util/ImmutableCollections$AbstractImmutableCollection", name := "<init>", desc := "()V" } : Jvm.MethodName) jdk_47_method_1_code (1 : Nat) (Option.none : Option Jvm.ClassFile.FieldType)).before args0 about1 = true := code_word (m := ⟨15, 0⟩) (meth := k15m0) (c := k15c0) (by decide +kernel) rfl rfl rfl (by decide +kernel)
set_option maxRecDepth 65536 in
theorem w_c22 : (Jvm.Cond.code ({ cls := "java/util/Objects", name := "requireNonNull", desc := "(Ljava/lang/Object;)Ljava/lang/Object;" } : Jvm.MethodName) jdk_31_method_10_code (1 : Nat) (Option.some (Jvm.ClassFile.FieldType.object "java/lang/Object"))).before args0 about1 = true := code_word (m := ⟨21, 1⟩) (meth := k21m1) (c := k21c1) (by decide +kernel) rfl rfl rfl (by decide +kernel)
set_option maxRecDepth 65536 in
theorem w_c23 : (Jvm.Cond.code ({ cls := "java/util/ImmutableCollections$List12", name := "size", desc := "()I" } : Jvm.MethodName) jdk_44_method_3_code (1 : Nat) (Option.some Jvm.ClassFile.FieldType.int)).before args0 about1 = true := code_word (m := ⟨17, 1⟩) (meth := k17m1) (c := k17c1) (by decide +kernel) rfl rfl rfl (by decide +kernel)
set_option maxRecDepth 65536 in
theorem w_c24 : (Jvm.Cond.code ({ cls := "org/keymoot/SecurityAssociation", name := "offer", desc := "(I[BLjava/util/List;I)Lorg/keymoot/SecurityAssociation;" } : Jvm.MethodName) prog_74_method_2_code (7 : Nat) (Option.some (Jvm.ClassFile.FieldType.object "org/keymoot/SecurityAssociation"))).before args0 about1 = true := code_word (m := ⟨3, 1⟩) (meth := k3m1) (c := k3c1) (by decide +kernel) rfl rfl rfl (by decide +kernel)
set_option maxRecDepth 65536 in
theorem w_c25 : (Jvm.Cond.code ({ cls := "java/util/ArrayList", name := "iterator", desc := "()Ljava/util/Iterator;" } : Jvm.MethodName) jdk_38_method_55_code (1 : Nat) (Option.some (Jvm.ClassFile.FieldType.object "java/util/Iterator"))).before args0 about1 = true := code_word (m := ⟨13, 2⟩) (meth := k13m2) (c := k13c2) (by decide +kernel) rfl rfl rfl (by decide +kernel)
set_option maxRecDepth 65536 in
theorem w_c26 : (Jvm.Cond.code ({ cls := "java/util/ArrayList$Itr", name := "<init>", desc := "(Ljava/util/ArrayList;)V" } : Jvm.MethodName) jdk_49_method_1_code (2 : Nat) (Option.none : Option Jvm.ClassFile.FieldType)).before args0 about1 = true := code_word (m := ⟨23, 0⟩) (meth := k23m0) (c := k23c0) (by decide +kernel) rfl rfl rfl (by decide +kernel)
set_option maxRecDepth 65536 in
theorem w_c27 : (Jvm.Cond.code ({ cls := "java/util/ArrayList$Itr", name := "hasNext", desc := "()Z" } : Jvm.MethodName) jdk_49_method_2_code (1 : Nat) (Option.some Jvm.ClassFile.FieldType.boolean)).before args0 about1 = true := code_word (m := ⟨23, 1⟩) (meth := k23m1) (c := k23c1) (by decide +kernel) rfl rfl rfl (by decide +kernel)
def codes1 : List Jvm.Cond := [Jvm.Cond.code x code maxLocals ret, Jvm.Cond.code ({ cls := "java/util/ArrayList", name := "<init>", desc := "()V" } : Jvm.MethodName) jdk_38_method_2_code (1 : Nat) (Option.none : Option Jvm.ClassFile.FieldType), Jvm.Cond.code ({ cls := "java/util/AbstractList", name := "<init>", desc := "()V" } : Jvm.MethodName) jdk_39_method_1_code (1 : Nat) (Option.none : Option Jvm.ClassFile.FieldType), Jvm.Cond.code ({ cls := "java/util/AbstractCollection", name := "<init>", desc := "()V" } : Jvm.MethodName) jdk_22_method_1_code (1 : Nat) (Option.none : Option Jvm.ClassFile.FieldType), Jvm.Cond.code ({ cls := "java/lang/Object", name := "<init>", desc := "()V" } : Jvm.MethodName) object_method_1_code (1 : Nat) (Option.none : Option Jvm.ClassFile.FieldType), Jvm.Cond.code ({ cls := "org/keymoot/SecurityAssociation", name := "<init>", desc := "(IILjava/util/List;)V" } : Jvm.MethodName) prog_74_method_1_code (4 : Nat) (Option.none : Option Jvm.ClassFile.FieldType), Jvm.Cond.code ({ cls := "java/lang/Record", name := "<init>", desc := "()V" } : Jvm.MethodName) jdk_30_method_1_code (1 : Nat) (Option.none : Option Jvm.ClassFile.FieldType), Jvm.Cond.code ({ cls := "java/util/List", name := "copyOf", desc := "(Ljava/util/Collection;)Ljava/util/List;" } : Jvm.MethodName) jdk_40_method_48_code (1 : Nat) (Option.some (Jvm.ClassFile.FieldType.object "java/util/List")), Jvm.Cond.code ({ cls := "java/util/ImmutableCollections", name := "listCopy", desc := "(Ljava/util/Collection;)Ljava/util/List;" } : Jvm.MethodName) jdk_56_method_3_code (2 : Nat) (Option.some (Jvm.ClassFile.FieldType.object "java/util/List")), Jvm.Cond.code ({ cls := "java/util/ArrayList", name := "isEmpty", desc := "()Z" } : Jvm.MethodName) jdk_38_method_9_code (1 : Nat) (Option.some Jvm.ClassFile.FieldType.boolean), Jvm.Cond.code ({ cls := "java/util/List", name := "of", desc := "()Ljava/util/List;" } : Jvm.MethodName) jdk_40_method_36_code (0 : Nat) (Option.some (Jvm.ClassFile.FieldType.object "java/util/List")), Jvm.Cond.code ({ cls := "org/keymoot/SecurityAssociation", name := "isIpsecIdentityOnly", desc := "()Z" } : Jvm.MethodName) prog_74_method_4_code (1 : Nat) (Option.some Jvm.ClassFile.FieldType.boolean), Jvm.Cond.code ({ cls := "org/keymoot/Proposal", name := "<init>", desc := "(II[BLjava/util/List;)V" } : Jvm.MethodName) prog_63_method_1_code (5 : Nat) (Option.none : Option Jvm.ClassFile.FieldType), Jvm.Cond.code ({ cls := "java/util/ImmutableCollections$ListN", name := "size", desc := "()I" } : Jvm.MethodName) jdk_45_method_3_code (1 : Nat) (Option.some Jvm.ClassFile.FieldType.int), Jvm.Cond.code ({ cls := "org/keymoot/Transform", name := "<init>", desc := "(IILjava/util/List;)V" } : Jvm.MethodName) prog_78_method_1_code (4 : Nat) (Option.none : Option Jvm.ClassFile.FieldType), Jvm.Cond.code ({ cls := "org/keymoot/SecurityAssociation", name := "answer", desc := "(Lorg/keymoot/Proposal;[BLorg/keymoot/Transform;)Lorg/keymoot/SecurityAssociation;" } : Jvm.MethodName) prog_74_method_3_code (4 : Nat) (Option.some (Jvm.ClassFile.FieldType.object "org/keymoot/SecurityAssociation")), Jvm.Cond.code ({ cls := "org/keymoot/Proposal", name := "number", desc := "()I" } : Jvm.MethodName) prog_63_method_10_code (1 : Nat) (Option.some Jvm.ClassFile.FieldType.int), Jvm.Cond.code ({ cls := "org/keymoot/Proposal", name := "protocol", desc := "()I" } : Jvm.MethodName) prog_63_method_11_code (1 : Nat) (Option.some Jvm.ClassFile.FieldType.int), Jvm.Cond.code ({ cls := "java/util/List", name := "of", desc := "(Ljava/lang/Object;)Ljava/util/List;" } : Jvm.MethodName) jdk_40_method_37_code (1 : Nat) (Option.some (Jvm.ClassFile.FieldType.object "java/util/List")), Jvm.Cond.code ({ cls := "java/util/ImmutableCollections$List12", name := "<init>", desc := "(Ljava/lang/Object;)V" } : Jvm.MethodName) jdk_44_method_1_code (2 : Nat) (Option.none : Option Jvm.ClassFile.FieldType), Jvm.Cond.code ({ cls := "java/util/ImmutableCollections$AbstractImmutableList", name := "<init>", desc := "()V" } : Jvm.MethodName) jdk_46_method_1_code (1 : Nat) (Option.none : Option Jvm.ClassFile.FieldType), Jvm.Cond.code ({ cls := "java/util/ImmutableCollections$AbstractImmutableCollection", name := "<init>", desc := "()V" } : Jvm.MethodName) jdk_47_method_1_code (1 : Nat) (Option.none : Option Jvm.ClassFile.FieldType), Jvm.Cond.code ({ cls := "java/util/Objects", name := "requireNonNull", desc := "(Ljava/lang/Object;)Ljava/lang/Object;" } : Jvm.MethodName) jdk_31_method_10_code (1 : Nat) (Option.some (Jvm.ClassFile.FieldType.object "java/lang/Object")), Jvm.Cond.code ({ cls := "java/util/ImmutableCollections$List12", name := "size", desc := "()I" } : Jvm.MethodName) jdk_44_method_3_code (1 : Nat) (Option.some Jvm.ClassFile.FieldType.int), Jvm.Cond.code ({ cls := "org/keymoot/SecurityAssociation", name := "offer", desc := "(I[BLjava/util/List;I)Lorg/keymoot/SecurityAssociation;" } : Jvm.MethodName) prog_74_method_2_code (7 : Nat) (Option.some (Jvm.ClassFile.FieldType.object "org/keymoot/SecurityAssociation")), Jvm.Cond.code ({ cls := "java/util/ArrayList", name := "iterator", desc := "()Ljava/util/Iterator;" } : Jvm.MethodName) jdk_38_method_55_code (1 : Nat) (Option.some (Jvm.ClassFile.FieldType.object "java/util/Iterator")), Jvm.Cond.code ({ cls := "java/util/ArrayList$Itr", name := "<init>", desc := "(Ljava/util/ArrayList;)V" } : Jvm.MethodName) jdk_49_method_1_code (2 : Nat) (Option.none : Option Jvm.ClassFile.FieldType), Jvm.Cond.code ({ cls := "java/util/ArrayList$Itr", name := "hasNext", desc := "()Z" } : Jvm.MethodName) jdk_49_method_2_code (1 : Nat) (Option.some Jvm.ClassFile.FieldType.boolean)]
set_option maxRecDepth 65536 in
theorem codes_eq : words1.filter isCode = codes1 := rfl
theorem w_codes : ∀ c ∈ words1.filter isCode, c.before args0 about1 = true := by
  rw [codes_eq]
  intro c hc
  simp only [codes1, List.mem_cons, List.not_mem_nil, or_false] at hc
  rcases hc with rfl | rfl | rfl | rfl | rfl | rfl | rfl | rfl | rfl | rfl | rfl | rfl | rfl | rfl | rfl | rfl | rfl | rfl | rfl | rfl | rfl | rfl | rfl | rfl | rfl | rfl | rfl | rfl
  · exact w_c0
  · exact w_c1
  · exact w_c2
  · exact w_c3
  · exact w_c4
  · exact w_c5
  · exact w_c6
  · exact w_c7
  · exact w_c8
  · exact w_c9
  · exact w_c10
  · exact w_c11
  · exact w_c12
  · exact w_c13
  · exact w_c14
  · exact w_c15
  · exact w_c16
  · exact w_c17
  · exact w_c18
  · exact w_c19
  · exact w_c20
  · exact w_c21
  · exact w_c22
  · exact w_c23
  · exact w_c24
  · exact w_c25
  · exact w_c26
  · exact w_c27
set_option maxRecDepth 65536 in
theorem w_t1 : (words1.take 24).all (fun c => isCode c || c.before args0 about1) = true := by decide +kernel
set_option maxRecDepth 65536 in
theorem w_t2 : ((words1.drop 24).take 24).all (fun c => isCode c || c.before args0 about1) = true := by decide +kernel
set_option maxRecDepth 65536 in
theorem w_t3 : (((words1.drop 24).drop 24).take 24).all (fun c => isCode c || c.before args0 about1) = true := by decide +kernel
set_option maxRecDepth 65536 in
theorem w_t4 : ((((words1.drop 24).drop 24).drop 24).take 24).all (fun c => isCode c || c.before args0 about1) = true := by decide +kernel
set_option maxRecDepth 65536 in
theorem w_t5 : (((((words1.drop 24).drop 24).drop 24).drop 24).take 24).all (fun c => isCode c || c.before args0 about1) = true := by decide +kernel
set_option maxRecDepth 65536 in
theorem w_t6 : ((((((words1.drop 24).drop 24).drop 24).drop 24).drop 24).take 24).all (fun c => isCode c || c.before args0 about1) = true := by decide +kernel
set_option maxRecDepth 65536 in
theorem w_t7 : (((((((words1.drop 24).drop 24).drop 24).drop 24).drop 24).drop 24).take 24).all (fun c => isCode c || c.before args0 about1) = true := by decide +kernel
set_option maxRecDepth 65536 in
theorem w_t8 : ((((((((words1.drop 24).drop 24).drop 24).drop 24).drop 24).drop 24).drop 24).take 24).all (fun c => isCode c || c.before args0 about1) = true := by decide +kernel
set_option maxRecDepth 65536 in
theorem w_t9 : (((((((((words1.drop 24).drop 24).drop 24).drop 24).drop 24).drop 24).drop 24).drop 24).take 24).all (fun c => isCode c || c.before args0 about1) = true := by decide +kernel
set_option maxRecDepth 65536 in
theorem w_t10 : (((((((((words1.drop 24).drop 24).drop 24).drop 24).drop 24).drop 24).drop 24).drop 24).drop 24).all (fun c => isCode c || c.before args0 about1) = true := by decide +kernel
theorem w_tables : (allAtoms (Jvm.Cond.code x code maxLocals ret :: tables_1)).before args0 about1 = true := by
  rw [allAtoms_all]
  show words1.all (fun c => c.before args0 about1) = true
  refine all_split ?_ w_codes
  rw [← List.take_append_drop 24 words1, List.all_append, w_t1, ← List.take_append_drop 24 (words1.drop 24), List.all_append, w_t2, ← List.take_append_drop 24 ((words1.drop 24).drop 24), List.all_append, w_t3, ← List.take_append_drop 24 (((words1.drop 24).drop 24).drop 24), List.all_append, w_t4, ← List.take_append_drop 24 ((((words1.drop 24).drop 24).drop 24).drop 24), List.all_append, w_t5, ← List.take_append_drop 24 (((((words1.drop 24).drop 24).drop 24).drop 24).drop 24), List.all_append, w_t6, ← List.take_append_drop 24 ((((((words1.drop 24).drop 24).drop 24).drop 24).drop 24).drop 24), List.all_append, w_t7, ← List.take_append_drop 24 (((((((words1.drop 24).drop 24).drop 24).drop 24).drop 24).drop 24).drop 24), List.all_append, w_t8, ← List.take_append_drop 24 ((((((((words1.drop 24).drop 24).drop 24).drop 24).drop 24).drop 24).drop 24).drop 24), List.all_append, w_t9, w_t10]
  rfl
set_option maxRecDepth 65536 in
theorem w_rest : rest_1_c.before args0 about1 = true := by decide +kernel
set_option maxRecDepth 65536 in
theorem w_case : (Jvm.Cond.and given_1 narrow_1).before args0 about1 = true := by decide +kernel
theorem w_applies : (headSpec (Jvm.Cond.code x code maxLocals ret :: tables_1) room_1).applies x e0.platform about1 = true :=
  (Spec.applies_iff w_frames).mpr ⟨w_running, w_runnable, w_alone, w_named, w_hears, w_ripe, w_room, w_tables⟩
theorem atStart : AtStart classFile x code maxLocals ret World_1 tables_1 room_1 Calls_1 rest_1 Pre_1 launch0 p0 e0 about1 theMethod args0 below0 :=
  ⟨lists_1, trivial, launch0.admits_env _ _ _, launch0.least_env, fairChoices_fair.cas, fairChoices_fair.clock, w_frames, w_args, w_heap, w_applies, trivial, w_rest, w_case⟩
end start1
theorem witness_1 : WitnessClaimed_1 := ⟨start1.p0, start1.e0, start1.about1, start1.theMethod, start1.args0, start1.below0, start1.atStart⟩
end Jvm.Pilot.@@N@@
