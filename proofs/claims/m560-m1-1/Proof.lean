import JvmDerived
import JvmDerived.Pilot.@@N@@Statement
import JvmDerived.Pilot.@@N@@Code
set_option linter.unusedVariables false
set_option linter.unusedSimpArgs false
namespace Jvm.RoadKit
open Sem ClassFile Op Lib Jvm.Stand Jvm.Free Jvm.LawKit
section Own
variable {p : Program} {l : Launch} {e : Env} {R : Room} {s : State} {m : MethodId} {args : Array Value} {below : List Frame} {meth : Method} {c : Code} {T : State} {locs : List Loc} {cells slots : Nat}
/-- from S the run comes to the end of the call, and K holds there -/
def Go (p : Program) (e : Env) (below : List Frame) (K : State → Outcome → Prop) (S : State) : Prop := ∃ s₂ o, Steps p.tables e below S s₂ ∧ s₂.status = .running ∧ Ended s₂ below o ∧ K s₂ o
def Kq (s : State) (Q : Option Value → Heap → List Loc → Prop) (k n : Nat) (t : State) (o : Outcome) : Prop := ∃ v L, o = .returned v ∧ Q v t.heap L ∧ FrameEnd s o t L k n
theorem go {K : State → Outcome → Prop} {S S' : State} (h : ∀ t, Steps p.tables e below S' t → Steps p.tables e below S t) (g : Go p e below K S') : Go p e below K S := by
  obtain ⟨t, o, h1, h2⟩ := g
  exact ⟨t, o, h _ h1, h2⟩
theorem goOut (X : Stand p l e R s m args below meth c T locs cells slots) {Q : Option Value → Heap → List Loc → Prop} {k n : Nat} {S : State} {v : Option Value} (hv : meth.sig.returnType = none → v = none) (hlocks : meth.locks = false)
    (hs : ∀ fs, (∀ (f : JFrame) (acts : List Action), f.method = m → f.locked = none → f.entered = [] → (doReturn e (T.setTop f) acts v).1 = T.setFrames fs) → Steps p.tables e below S (T.setFrames fs))
    (hk : cells ≤ k) (hn : slots ≤ n) (hq : Q v T.heap locs) : Go p e below (Kq s Q k n) S := by
  obtain ⟨fs, hr, hrun, hended, hW, hsame⟩ := X.leave (v := v) hv hlocks
  exact ⟨_, _, hs fs hr, hrun, hended, _, _, rfl, hq, ⟨_, rfl⟩, hW, hsame.mono hk hn⟩
end Own
end Jvm.RoadKit
namespace Jvm.RoadKit
open Sem ClassFile Op Lib Jvm.Stand Jvm.Free Jvm.LawKit
section OwnArr
variable {p : Program} {l : Launch} {e : Env} {R : Room} {s : State} {m : MethodId} {args : Array Value} {below : List Frame} {meth : Method} {c : Code} {T : State} {locs : List Loc} {cells slots : Nat} {Z : State} {h h' : Heap} {a b : Addr} {ty : FieldType} {n : Nat} {f : Nat → Int32} {v : Value} {sl : Nat} {ws : List Addr}
/-- an array of n places, of a kind that lies on the stack as an int, that holds f -/
def IA (Z : State) (h : Heap) (a : Addr) (ty : FieldType) (n : Nat) (f : Nat → Int32) : Prop := ∃ c : Cell, Arr Z h a c ty ∧ c.slots.size = n ∧ ∀ j, j < n → c.slots[j]? = some (.int (f j))
def upI (f : Nat → Int32) (j : Nat) (x : Int32) : Nat → Int32 := fun i => if i = j then x else f i
theorem IA.lt (F : IA Z h a ty n f) : a < h.size := by obtain ⟨c, A, -⟩ := F; exact A.lt
theorem IA.ext (F : IA Z h a ty n f) (E : Ext h h') : IA Z h' a ty n f := by obtain ⟨c, A, r⟩ := F; exact ⟨c, A.ext E, r⟩
theorem IA.other (F : IA Z h b ty n f) (W : Wr h h' a sl v) (q : b ≠ a) : IA Z h' b ty n f := by obtain ⟨c, A, r⟩ := F; exact ⟨c, A.other W q, r⟩
theorem IA.keep (F : IA Z h a ty n f) (K : Keep h h' ws) (q : a ∉ ws) : IA Z h' a ty n f := by obtain ⟨c, A, r⟩ := F; exact ⟨c, ⟨K.2.1 a c A.1 q, A.2⟩, r⟩
theorem IA.new {k : ClassId} {z : Int32} (A : Arr Z h a (newA k ty z) ty) (q : z.toNatClampNeg = n) (hd : defaultValue ty = .int 0) : IA Z h a ty n (fun _ => 0) := by
  refine ⟨_, A, (sz_new _ _ _).trans q, fun j hj => ?_⟩
  simp [newA, hd, q, hj]
theorem IA.put {j x : Int32} {cl : Cell} (A : Arr Z h a cl ty) (S : cl.slots.size = n) (H : ∀ j, j < n → cl.slots[j]? = some (.int (f j))) (W : Wr h h' a j.toNatClampNeg (.int x)) : IA Z h' a ty n (upI f j.toNatClampNeg x) := by
  refine ⟨_, A.same W, by rw [sz_set]; exact S, fun i hi => ?_⟩
  by_cases q : i = j.toNatClampNeg
  · subst q; simp [upI, Cell.setSlot, S, hi]
  · rw [show (cl.setSlot j.toNatClampNeg (.int x)).slots[i]? = cl.slots[i]? from Array.getElem?_setIfInBounds_ne (Ne.symm q), H i hi]; simp [upI, q]
theorem in_of {j : Int32} {cl : Cell} (S : cl.slots.size = n) (hj : 0 ≤ j.toInt ∧ j.toInt < n) : ¬ (j < 0 ∨ cl.slots.size ≤ j.toNatClampNeg) := by
  have h0 : ¬ j < 0 := by rw [Int32.lt_iff_toInt_lt]; have : (0 : Int32).toInt = 0 := rfl; omega
  have h1 := nat_of h0
  rw [S]; intro q; rcases q with q | q
  · exact h0 q
  · omega
theorem nat_in {j : Int32} (hj : 0 ≤ j.toInt ∧ j.toInt < n) : j.toNatClampNeg < n := by
  have h0 : ¬ j < 0 := by rw [Int32.lt_iff_toInt_lt]; have : (0 : Int32).toInt = 0 := rfl; omega
  have h1 := nat_of h0; omega
theorem ldIA (X : Stand p l e R s m args below meth c T locs cells slots) (hx : p.tables.exec = Jvm.exec) (hZ : Z.Warmed39 s.vm) (eT : T.heap = h) (A : IA Z h a .int n f) {j : Int32} (hj : 0 ≤ j.toInt ∧ j.toInt < n) {g : JFrame} (hg : g.method = m) {rest : List Value} (hs : g.stack = .int j :: .ref a :: rest) (hd : decode c.code g.pc = .ok (.iaload, 1)) :
    ∀ target, Steps p.tables e below (T.setTop { g with pc := g.pc + 1, stack := .int (f j.toNatClampNeg) :: rest }) target → Steps p.tables e below (T.setTop g) target := by
  obtain ⟨cl, A, S, H⟩ := A
  exact X.iaload hx (by rw [eT]; exact A.1) (State.isArrayOf_alike hZ.alike A.2.1) A.2.2 (in_of S hj) (H _ (nat_in hj)) hg hs hd
theorem ldCA (X : Stand p l e R s m args below meth c T locs cells slots) (hx : p.tables.exec = Jvm.exec) (hZ : Z.Warmed39 s.vm) (eT : T.heap = h) (A : IA Z h a .char n f) {j : Int32} (hj : 0 ≤ j.toInt ∧ j.toInt < n) {g : JFrame} (hg : g.method = m) {rest : List Value} (hs : g.stack = .int j :: .ref a :: rest) (hd : decode c.code g.pc = .ok (.caload, 1)) :
    ∀ target, Steps p.tables e below (T.setTop { g with pc := g.pc + 1, stack := .int (f j.toNatClampNeg) :: rest }) target → Steps p.tables e below (T.setTop g) target := by
  obtain ⟨cl, A, S, H⟩ := A
  exact X.caload hx (by rw [eT]; exact A.1) (State.isArrayOf_alike hZ.alike A.2.1) A.2.2 (in_of S hj) (H _ (nat_in hj)) hg hs hd
theorem lenIA (X : Stand p l e R s m args below meth c T locs cells slots) (hx : p.tables.exec = Jvm.exec) (hZ : Z.Warmed39 s.vm) (eT : T.heap = h) (A : IA Z h a ty n f) {g : JFrame} (hg : g.method = m) {rest : List Value} (hs : g.stack = .ref a :: rest) (hd : decode c.code g.pc = .ok (.arraylength, 1)) :
    ∀ target, Steps p.tables e below (T.setTop { g with pc := g.pc + 1, stack := .int n.toInt32 :: rest }) target → Steps p.tables e below (T.setTop g) target := by
  obtain ⟨cl, A, S, H⟩ := A
  intro target k
  refine X.arraylength hx (by rw [eT]; exact A.1) (State.isArrayOf_alike hZ.alike A.2.1) hg hs hd target ?_
  rw [S]; exact k
theorem stIA (X : Stand p l e R s m args below meth c T locs cells slots) (hx : p.tables.exec = Jvm.exec) (hZ : Z.Warmed39 s.vm) (eT : T.heap = h) (A : IA Z h a .int n f) {j x : Int32} (hj : 0 ≤ j.toInt ∧ j.toInt < n) {g : JFrame} (hg : g.method = m) {rest : List Value} (hs : g.stack = .int x :: .int j :: .ref a :: rest) (hd : decode c.code g.pc = .ok (.iastore, 1)) :
    ∃ T' h', Stand p l e R s m args below meth c T' (locs ++ [⟨a, j.toNatClampNeg⟩]) cells slots ∧ T'.heap = h' ∧ Wr h h' a j.toNatClampNeg (.int x) ∧ IA Z h' a .int n (upI f j.toNatClampNeg x) ∧ ∀ target, Steps p.tables e below (T'.setTop { g with pc := g.pc + 1, stack := rest }) target → Steps p.tables e below (T.setTop g) target := by
  obtain ⟨cl, A, S, H⟩ := A
  obtain ⟨T', h', X', e', W, st⟩ := stI X hx hZ eT A (in_of S hj) hg hs hd
  exact ⟨T', h', X', e', W, IA.put A S H W, st⟩
theorem stCA (X : Stand p l e R s m args below meth c T locs cells slots) (hx : p.tables.exec = Jvm.exec) (hZ : Z.Warmed39 s.vm) (eT : T.heap = h) (A : IA Z h a .char n f) {j x : Int32} (hj : 0 ≤ j.toInt ∧ j.toInt < n) {g : JFrame} (hg : g.method = m) {rest : List Value} (hs : g.stack = .int x :: .int j :: .ref a :: rest) (hd : decode c.code g.pc = .ok (.castore, 1)) :
    ∃ T' h', Stand p l e R s m args below meth c T' (locs ++ [⟨a, j.toNatClampNeg⟩]) cells slots ∧ T'.heap = h' ∧ Wr h h' a j.toNatClampNeg (.int (nar .char x)) ∧ IA Z h' a .char n (upI f j.toNatClampNeg (nar .char x)) ∧ ∀ target, Steps p.tables e below (T'.setTop { g with pc := g.pc + 1, stack := rest }) target → Steps p.tables e below (T.setTop g) target := by
  obtain ⟨cl, A, S, H⟩ := A
  obtain ⟨T', h', X', e', W, st⟩ := stC X hx hZ eT A (in_of S hj) hg hs hd
  exact ⟨T', h', X', e', W, IA.put A S H W, st⟩
theorem stBA (X : Stand p l e R s m args below meth c T locs cells slots) (hx : p.tables.exec = Jvm.exec) (hZ : Z.Warmed39 s.vm) (eT : T.heap = h) (A : IA Z h a .byte n f) {j x : Int32} (hj : 0 ≤ j.toInt ∧ j.toInt < n) {g : JFrame} (hg : g.method = m) {rest : List Value} (hs : g.stack = .int x :: .int j :: .ref a :: rest) (hd : decode c.code g.pc = .ok (.bastore, 1)) :
    ∃ T' h', Stand p l e R s m args below meth c T' (locs ++ [⟨a, j.toNatClampNeg⟩]) cells slots ∧ T'.heap = h' ∧ Wr h h' a j.toNatClampNeg (.int (nar .byte x)) ∧ IA Z h' a .byte n (upI f j.toNatClampNeg (nar .byte x)) ∧ ∀ target, Steps p.tables e below (T'.setTop { g with pc := g.pc + 1, stack := rest }) target → Steps p.tables e below (T.setTop g) target := by
  obtain ⟨cl, A, S, H⟩ := A
  obtain ⟨T', h', X', e', W, st⟩ := stB X hx hZ eT A (in_of S hj) hg hs hd
  exact ⟨T', h', X', e', W, IA.put A S H W, st⟩
end OwnArr
end Jvm.RoadKit
namespace Jvm.Pilot.@@N@@
open Jvm Jvm.ClassFile Sem Op Lib Jvm.Free Jvm.Stand Jvm.LawKit Jvm.RoadKit Bundle Jvm.Pilot.@@N@@.Jvm.D
theorem d2_0 : decode jdk_30_method_1_code 0 = .ok (.aload_n 0, 1) := by decide +kernel
theorem d2_1 : decode jdk_30_method_1_code 1 = .ok (.invokespecial 1, 3) := by decide +kernel
theorem d2_4 : decode jdk_30_method_1_code 4 = .ok (.return_, 1) := by decide +kernel
theorem pn_java_lang_Record : plainName "java/lang/Record" = true := by first | (simp [plainName, overriddenIn]; done) | decide +kernel
theorem ef_rm2 (m : MethodId) (x0 : Addr) : entryFrame m #[(.ref x0)] 1 = mkF m 0 #[.val (.ref x0)] [] := by first | (simp [entryFrame, mkF, argsToLocals, Value.category]; done) | rfl
def Q2 (Z : State) (a : Addr) (h0 : Heap) (n0 : Nat) (v : Option Value) (h : Heap) (L : List Loc) : Prop := v = none ∧ Fr n0 L ∧ h = h0
set_option maxRecDepth 65536 in
set_option maxHeartbeats 40000000 in
theorem rm2 (l : Launch) (Z : State) (a0 : Array Value) (hw : ∀ d ∈ tables_1, d.before a0 Z = true) (ws : List Jvm.Cond) (a : Addr)  (h0 : Heap) (n0 : Nat) (Z0 : n0 ≤ h0.size)  :
    MetFree l (⟨"java/lang/Record", "<init>", "()V"⟩ : MethodName) (head1 (Jvm.Cond.code (⟨"java/lang/Record", "<init>", "()V"⟩ : MethodName) jdk_30_method_1_code 1 none :: ws) ({ frames := 1, cells := 0, slots := 0, locals := 12 } : Room)) (fun av' U => av' = #[(.ref a)] ∧ Z.Warmed39 U.vm ∧ U.heap = h0) (fun _ _ _ _ _ => True) (fun _ U o U' => ∃ v L, o = .returned v ∧ Q2 Z a h0 n0 v U'.heap L ∧ FrameEnd U o U' L ({ frames := 1, cells := 0, slots := 0, locals := 12 } : Room).cells ({ frames := 1, cells := 0, slots := 0, locals := 12 } : Room).slots) := by
  refine MetFree.of_bodySF (plainFor_of_name pn_java_lang_Record) hisR ?_
  intro p e s m args below meth c s₁ Bd hml0 hP hK
  obtain ⟨rfl, hZ, hh⟩ := hP
  have hx := Bd.exec
  have hby := Bd.bytes
  have hlk := Bd.notSynchronized
  have hml : c.maxLocals = 1 := hml0
  have hown : s.vm.findClass "java/lang/Record" = some m.cls := findClass_of_methodNamed Bd.named
  have hnm := (name_of_methodNamed Bd.named Bd.method).1
  have X0 : Stand p l e ({ frames := 1, cells := 0, slots := 0, locals := 12 } : Room) s m #[(.ref a)] below meth c s₁ [] 0 0 := Stand.of_body Bd
  have e0 : s₁.heap = h0 := by rw [← hh, Bd.state]; rfl
  have N0 := Fr.nil n0
  show Go p e below (Kq s (Q2 Z a h0 n0) ({ frames := 1, cells := 0, slots := 0, locals := 12 } : Room).cells ({ frames := 1, cells := 0, slots := 0, locals := 12 } : Room).slots) _
  refine go (fun t kt => castTop (ef_rm2 m a) kt) ?_
  show Go p e below _ (s₁.setTop (mkF m 0 #[.val (.ref a)] []))
  refine go (fun t kt' => by refine XS.aloadN X0.here hx rfl (hb hby d2_0) rfl rfl ?_; exact kt') ?_
  show Go p e below _ (s₁.setTop (mkF m 1 #[.val (.ref a)] [(.ref a)]))
  obtain ⟨T1, X1, e1, st1⟩ := initO X0 hx hZ hown (hw _ (List.mem_of_getElem? (i := 12) rfl)) (hw _ (List.mem_of_getElem? (i := 13) rfl)) (hw _ (List.mem_of_getElem? (i := 14) rfl)) e0 (g := (mkF m 1 #[.val (.ref a)] [(.ref a)])) rfl (by rw [hml]; rfl) rfl (hb hby d2_1) (by decide) (W := 0) (by show 2 * 0 + _ ≤ _; exact Nat.le_of_eq rfl) (by decide)
  refine go st1 ?_
  show Go p e below _ (T1.setTop (mkF m 4 #[.val (.ref a)] []))
  refine goOut X1 (fun _ => rfl) hlk (fun fs hr => X1.returnOut hx Bd.returns (hb hby d2_4) hr) (by decide) (by decide) ?_
  rw [e1]
  exact ⟨rfl, N0, rfl⟩
theorem own_len2 (N : Nat) (h : N ≤ 2) : ¬ (65535 : Int32) < Nat.toInt32 N := by
  match N, h with
  | 0, _ => decide
  | 1, _ => decide
  | 2, _ => decide
theorem d1_0 : decode prog_6_method_1_code 0 = .ok (.aload_n 0, 1) := by decide +kernel
theorem d1_1 : decode prog_6_method_1_code 1 = .ok (.invokespecial 1, 3) := by decide +kernel
theorem pd_0 : parseMethodDescriptor "()V" = some ⟨[], none⟩ := by decide +kernel
theorem d1_4 : decode prog_6_method_1_code 4 = .ok (.iload_n 1, 1) := by decide +kernel
theorem d1_5 : decode prog_6_method_1_code 5 = .ok (.ifCond .lt 9, 3) := by decide +kernel
theorem d1_8 : decode prog_6_method_1_code 8 = .ok (.iload_n 1, 1) := by decide +kernel
theorem d1_9 : decode prog_6_method_1_code 9 = .ok (.ldc 9, 2) := by decide +kernel
theorem d1_11 : decode prog_6_method_1_code 11 = .ok (.if_icmp .lt 17, 3) := by decide +kernel
theorem d1_28 : decode prog_6_method_1_code 28 = .ok (.iload_n 2, 1) := by decide +kernel
theorem d1_29 : decode prog_6_method_1_code 29 = .ok (.ifCond .eq 12, 3) := by decide +kernel
theorem d1_41 : decode prog_6_method_1_code 41 = .ok (.aload_n 3, 1) := by decide +kernel
theorem d1_42 : decode prog_6_method_1_code 42 = .ok (.arraylength, 1) := by decide +kernel
theorem d1_43 : decode prog_6_method_1_code 43 = .ok (.ldc 19, 2) := by decide +kernel
theorem d1_45 : decode prog_6_method_1_code 45 = .ok (.if_icmp .le 18, 3) := by decide +kernel
theorem d1_63 : decode prog_6_method_1_code 63 = .ok (.aload_n 0, 1) := by decide +kernel
theorem d1_64 : decode prog_6_method_1_code 64 = .ok (.iload_n 1, 1) := by decide +kernel
theorem d1_65 : decode prog_6_method_1_code 65 = .ok (.putfield 21, 3) := by decide +kernel
theorem d1_68 : decode prog_6_method_1_code 68 = .ok (.aload_n 0, 1) := by decide +kernel
theorem d1_69 : decode prog_6_method_1_code 69 = .ok (.iload_n 2, 1) := by decide +kernel
theorem d1_70 : decode prog_6_method_1_code 70 = .ok (.putfield 25, 3) := by decide +kernel
theorem d1_73 : decode prog_6_method_1_code 73 = .ok (.aload_n 0, 1) := by decide +kernel
theorem d1_74 : decode prog_6_method_1_code 74 = .ok (.aload_n 3, 1) := by decide +kernel
theorem d1_75 : decode prog_6_method_1_code 75 = .ok (.putfield 29, 3) := by decide +kernel
theorem d1_78 : decode prog_6_method_1_code 78 = .ok (.return_, 1) := by decide +kernel
theorem d1_32 : decode prog_6_method_1_code 32 = .ok (.aload_n 3, 1) := by decide +kernel
theorem d1_33 : decode prog_6_method_1_code 33 = .ok (.arraylength, 1) := by decide +kernel
theorem d1_34 : decode prog_6_method_1_code 34 = .ok (.iconst 2, 1) := by decide +kernel
theorem d1_35 : decode prog_6_method_1_code 35 = .ok (.if_icmp .eq 28, 3) := by decide +kernel
theorem pn_org_keymoot_Attribute : plainName "org/keymoot/Attribute" = true := by first | (simp [plainName, overriddenIn]; done) | decide +kernel
theorem ef_rm1 (m : MethodId) (x0 : Addr) (x1 : Int32) (x2 : Int32) (x3 : Addr) : entryFrame m #[(.ref x0), (.int x1), (.int x2), (.ref x3)] 4 = mkF m 0 #[.val (.ref x0), .val (.int x1), .val (.int x2), .val (.ref x3)] [] := by first | (simp [entryFrame, mkF, argsToLocals, Value.category]; done) | rfl
def Q1 (Z : State) (a : Addr) (p1 : Int32) (h0 : Heap) (n0 : Nat) (v : Option Value) (h : Heap) (L : List Loc) : Prop := v = none ∧ Fr n0 L ∧ Keep h0 h [a] ∧ Exa Z h a "org/keymoot/Attribute" ∧ Fld Z h a "org/keymoot/Attribute" "type" "I" (.int p1)
set_option maxRecDepth 65536 in
set_option maxHeartbeats 40000000 in
theorem rm1 (l : Launch) (Z : State) (a0 : Array Value) (hw : ∀ d ∈ tables_1, d.before a0 Z = true) (ws : List Jvm.Cond) (a : Addr) (p1 : Int32) (p2 : Int32) (a3 : Addr) (N : Nat) (fv : Nat → Int32) (h0 : Heap) (n0 : Nat) (Z0 : n0 ≤ h0.size) (E_a : Exa Z h0 a "org/keymoot/Attribute") (g_a : n0 ≤ a) (F_type_a : Fld Z h0 a "org/keymoot/Attribute" "type" "I" (.int (0 : Int32))) (F_basic_a : Fld Z h0 a "org/keymoot/Attribute" "basic" "Z" (.int (0 : Int32))) (F_value_a : Fld Z h0 a "org/keymoot/Attribute" "value" "[B" .null) (V_a3 : IA Z h0 a3 .byte N fv) (ne_a3 : a3 ≠ a) (ht1 : ¬ p1 < 0) (ht2 : p1 < 32768) (hbs : ¬ p2 = 0 → N = 2) (hN : N ≤ 2) :
    MetFree l (⟨"org/keymoot/Attribute", "<init>", "(IZ[B)V"⟩ : MethodName) (head1 (Jvm.Cond.code (⟨"org/keymoot/Attribute", "<init>", "(IZ[B)V"⟩ : MethodName) prog_6_method_1_code 4 none :: ws) ({ frames := 2, cells := 0, slots := 0, locals := 24 } : Room)) (fun av' U => av' = #[(.ref a), (.int p1), (.int p2), (.ref a3)] ∧ Z.Warmed39 U.vm ∧ U.heap = h0) (fun _ _ _ _ _ => True) (fun _ U o U' => ∃ v L, o = .returned v ∧ Q1 Z a p1 h0 n0 v U'.heap L ∧ FrameEnd U o U' L ({ frames := 2, cells := 0, slots := 0, locals := 24 } : Room).cells ({ frames := 2, cells := 0, slots := 0, locals := 24 } : Room).slots) := by
  refine MetFree.of_bodySF (plainFor_of_name pn_org_keymoot_Attribute) hisR ?_
  intro p e s m args below meth c s₁ Bd hml0 hP hK
  obtain ⟨rfl, hZ, hh⟩ := hP
  have hx := Bd.exec
  have hby := Bd.bytes
  have hlk := Bd.notSynchronized
  have hml : c.maxLocals = 4 := hml0
  have hown : s.vm.findClass "org/keymoot/Attribute" = some m.cls := findClass_of_methodNamed Bd.named
  have hnm := (name_of_methodNamed Bd.named Bd.method).1
  have X0 : Stand p l e ({ frames := 2, cells := 0, slots := 0, locals := 24 } : Room) s m #[(.ref a), (.int p1), (.int p2), (.ref a3)] below meth c s₁ [] 0 0 := Stand.of_body Bd
  have e0 : s₁.heap = h0 := by rw [← hh, Bd.state]; rfl
  have N0 := Fr.nil n0
  show Go p e below (Kq s (Q1 Z a p1 h0 n0) ({ frames := 2, cells := 0, slots := 0, locals := 24 } : Room).cells ({ frames := 2, cells := 0, slots := 0, locals := 24 } : Room).slots) _
  refine go (fun t kt => castTop (ef_rm1 m a p1 p2 a3) kt) ?_
  have K0 := Keep.refl h0 [a]
  show Go p e below _ (s₁.setTop (mkF m 0 #[.val (.ref a), .val (.int p1), .val (.int p2), .val (.ref a3)] []))
  refine go (fun t kt' => by refine XS.aloadN X0.here hx rfl (hb hby d1_0) rfl rfl ?_; exact kt') ?_
  show Go p e below _ (s₁.setTop (mkF m 1 #[.val (.ref a), .val (.int p1), .val (.int p2), .val (.ref a3)] [(.ref a)]))
  obtain ⟨_, _, ⟨T1, L1, k1, n1⟩, -, X1, ⟨Lc1, hQ1, l1, y1, z1⟩, st1⟩ := X0.specialBack hx (y := (⟨"java/lang/Record", "<init>", "()V"⟩ : MethodName)) rfl hown (mvT hZ (hw _ (List.mem_of_getElem? (i := 7) rfl))) (mvT hZ (hw _ (List.mem_of_getElem? (i := 8) rfl))) (mvT hZ (hw _ (List.mem_of_getElem? (i := 11) rfl))) (by decide) (backOf (W := 0) (rm2 l Z a0 hw [] a h0 n0 Z0) hZ (hw _ (List.mem_of_getElem? (i := 11) rfl)) (hw _ (List.mem_of_getElem? (i := 10) rfl)) (by decide) (by decide)) (g := (mkF m 1 #[.val (.ref a), .val (.int p1), .val (.int p2), .val (.ref a3)] [(.ref a)])) rfl (by rw [hml]; rfl) (Steps.refl _) (a := a) (argsL := []) (rest := []) (lenOf pd_0 rfl) rfl (by show 2 * 0 + _ ≤ _; exact Nat.le_of_eq rfl) (hb hby d1_1) (fun _ _ => ⟨rfl, e0, (by decide : 0 + 0 ≤ _), (by decide : 0 + 0 ≤ _)⟩)
  dsimp only [Pt.U, Pt.locs, Pt.cells, Pt.slots] at X1 l1 y1 z1 st1 hQ1
  subst l1 y1 z1
  obtain ⟨rfl, N1q, e1⟩ := hQ1
  have N1 := Fr.app N0 N1q
  refine go (fun t kt => st1.trans kt) ?_
  show Go p e below _ (T1.setTop (mkF m 4 #[.val (.ref a), .val (.int p1), .val (.int p2), .val (.ref a3)] []))
  refine go (fun t kt' => by refine XS.iloadN X1.here hx rfl (hb hby d1_4) rfl ?_; exact kt') ?_
  show Go p e below _ (T1.setTop (mkF m 5 #[.val (.ref a), .val (.int p1), .val (.int p2), .val (.ref a3)] [(.int p1)]))
  have c5_2 : ¬ (p1 < (0 : Int32)) := ht1
  refine go (fun t kt' => by refine XS.ifNo X1.here hx rfl (hb hby d1_5) rfl ((if0 _ _).trans (flt c5_2).1) ?_; exact kt') ?_
  show Go p e below _ (T1.setTop (mkF m 8 #[.val (.ref a), .val (.int p1), .val (.int p2), .val (.ref a3)] []))
  refine go (fun t kt' => by refine XS.iloadN X1.here hx rfl (hb hby d1_8) rfl ?_; exact kt') ?_
  show Go p e below _ (T1.setTop (mkF m 9 #[.val (.ref a), .val (.int p1), .val (.int p2), .val (.ref a3)] [(.int p1)]))
  refine go (fun t kt' => by refine X1.ldcI hx hown (mvT hZ (hw _ (List.mem_of_getElem? (i := 15) rfl))) rfl (hb hby d1_9) ?_; exact kt') ?_
  show Go p e below _ (T1.setTop (mkF m 11 #[.val (.ref a), .val (.int p1), .val (.int p2), .val (.ref a3)] [(.int (32768 : Int32)), (.int p1)]))
  have c11_3 : p1 < (32768 : Int32) := ht2
  refine go (fun t kt' => by refine XS.icmpYes X1.here hx rfl (pc0 := 11) (pc' := 28) rfl (hb hby d1_11) rfl (tlt c11_3).1 (by decide) (by decide) ?_; exact kt') ?_
  show Go p e below _ (T1.setTop (mkF m 28 #[.val (.ref a), .val (.int p1), .val (.int p2), .val (.ref a3)] []))
  refine go (fun t kt' => by refine XS.iloadN X1.here hx rfl (hb hby d1_28) rfl ?_; exact kt') ?_
  show Go p e below _ (T1.setTop (mkF m 29 #[.val (.ref a), .val (.int p1), .val (.int p2), .val (.ref a3)] [(.int p2)]))
  by_cases c29_4 : p2 = (0 : Int32)
  · skip
    refine go (fun t kt' => by refine XS.ifYes X1.here hx rfl (pc0 := 29) (pc' := 41) rfl (hb hby d1_29) rfl ((if0 _ _).trans (teq c29_4).1) (by decide) (by decide) ?_; exact kt') ?_
    show Go p e below _ (T1.setTop (mkF m 41 #[.val (.ref a), .val (.int p1), .val (.int p2), .val (.ref a3)] []))
    refine go (fun t kt' => by refine XS.aloadN X1.here hx rfl (hb hby d1_41) rfl rfl ?_; exact kt') ?_
    show Go p e below _ (T1.setTop (mkF m 42 #[.val (.ref a), .val (.int p1), .val (.int p2), .val (.ref a3)] [(.ref a3)]))
    refine go (fun t kt' => by refine lenIA X1 hx hZ e1 V_a3 (g := (mkF m 42 #[.val (.ref a), .val (.int p1), .val (.int p2), .val (.ref a3)] [(.ref a3)])) rfl rfl (hb hby d1_42) t ?_; exact kt') ?_
    show Go p e below _ (T1.setTop (mkF m 43 #[.val (.ref a), .val (.int p1), .val (.int p2), .val (.ref a3)] [(.int (Nat.toInt32 N))]))
    refine go (fun t kt' => by refine X1.ldcI hx hown (mvT hZ (hw _ (List.mem_of_getElem? (i := 16) rfl))) rfl (hb hby d1_43) ?_; exact kt') ?_
    show Go p e below _ (T1.setTop (mkF m 45 #[.val (.ref a), .val (.int p1), .val (.int p2), .val (.ref a3)] [(.int (65535 : Int32)), (.int (Nat.toInt32 N))]))
    have c45_5 : ¬ (65535 : Int32) < (Nat.toInt32 N) := own_len2 N hN
    refine go (fun t kt' => by refine XS.icmpYes X1.here hx rfl (pc0 := 45) (pc' := 63) rfl (hb hby d1_45) rfl (flt c45_5).2.2.2 (by decide) (by decide) ?_; exact kt') ?_
    show Go p e below _ (T1.setTop (mkF m 63 #[.val (.ref a), .val (.int p1), .val (.int p2), .val (.ref a3)] []))
    refine go (fun t kt' => by refine XS.aloadN X1.here hx rfl (hb hby d1_63) rfl rfl ?_; exact kt') ?_
    show Go p e below _ (T1.setTop (mkF m 64 #[.val (.ref a), .val (.int p1), .val (.int p2), .val (.ref a3)] [(.ref a)]))
    refine go (fun t kt' => by refine XS.iloadN X1.here hx rfl (hb hby d1_64) rfl ?_; exact kt') ?_
    show Go p e below _ (T1.setTop (mkF m 65 #[.val (.ref a), .val (.int p1), .val (.int p2), .val (.ref a3)] [(.int p1), (.ref a)]))
    obtain ⟨T6, h6, X6, e6, W6, st6⟩ := putF X1 hx hZ hown (host := "") (Or.inl (hw _ (List.mem_of_getElem? (i := 17) rfl))) Via.refl e1 F_type_a E_a (Or.inr ⟨(hw _ (List.mem_of_getElem? (i := 18) rfl)), rfl, hnm⟩) (hw _ (List.mem_of_getElem? (i := 2) rfl)) (ty := .int) (by decide) rfl rfl (g := (mkF m 65 #[.val (.ref a), .val (.int p1), .val (.int p2), .val (.ref a3)] [(.int p1), (.ref a)])) rfl rfl (hb hby d1_65)
    have N6 := Fr.snoc X6 N1 g_a
    have f7_Z := Nat.le_trans Z0 (Keep.of_wr W6).1
    have f8_K := K0.wr W6 (Or.inl (List.mem_of_getElem? (i := 0) rfl))
    have f9_E_a := E_a.wr W6
    have f10_F_a_type := F_type_a.same W6
    have f11_F_a_basic := F_basic_a.other W6 (Or.inr (slot_ne (Or.inr (hw _ (List.mem_of_getElem? (i := 20) rfl))) (Or.inr (hw _ (List.mem_of_getElem? (i := 18) rfl))) (by decide) (t := .boolean) (t' := .int) (by decide) (by decide)))
    have f12_F_a_value := F_value_a.other W6 (Or.inr (slot_ne (Or.inr (hw _ (List.mem_of_getElem? (i := 22) rfl))) (Or.inr (hw _ (List.mem_of_getElem? (i := 18) rfl))) (by decide) (t := (.array .byte)) (t' := .int) (by decide) (by decide)))
    have f13_A_a3 := V_a3.other W6 ne_a3
    refine go st6 ?_
    show Go p e below _ (T6.setTop (mkF m 68 #[.val (.ref a), .val (.int p1), .val (.int p2), .val (.ref a3)] []))
    refine go (fun t kt' => by refine XS.aloadN X6.here hx rfl (hb hby d1_68) rfl rfl ?_; exact kt') ?_
    show Go p e below _ (T6.setTop (mkF m 69 #[.val (.ref a), .val (.int p1), .val (.int p2), .val (.ref a3)] [(.ref a)]))
    refine go (fun t kt' => by refine XS.iloadN X6.here hx rfl (hb hby d1_69) rfl ?_; exact kt') ?_
    show Go p e below _ (T6.setTop (mkF m 70 #[.val (.ref a), .val (.int p1), .val (.int p2), .val (.ref a3)] [(.int p2), (.ref a)]))
    obtain ⟨T14, h14, X14, e14, W14, st14⟩ := putFN X6 hx hZ hown (hw _ (List.mem_of_getElem? (i := 19) rfl)) Via.refl e6 f11_F_a_basic f9_E_a (Or.inr ⟨(hw _ (List.mem_of_getElem? (i := 20) rfl)), rfl, hnm⟩) (hw _ (List.mem_of_getElem? (i := 2) rfl)) (ty := .boolean) (v' := (.int (nar .boolean p2))) (by decide) rfl (fits_nar_bool _) (g := (mkF m 70 #[.val (.ref a), .val (.int p1), .val (.int p2), .val (.ref a3)] [(.int p2), (.ref a)])) rfl rfl (hb hby d1_70)
    have N14 := Fr.snoc X14 N6 g_a
    have f15_Z := Nat.le_trans f7_Z (Keep.of_wr W14).1
    have f16_K := f8_K.wr W14 (Or.inl (List.mem_of_getElem? (i := 0) rfl))
    have f17_E_a := f9_E_a.wr W14
    have f18_F_a_type := f10_F_a_type.other W14 (Or.inr (slot_ne (Or.inr (hw _ (List.mem_of_getElem? (i := 18) rfl))) (Or.inr (hw _ (List.mem_of_getElem? (i := 20) rfl))) (by decide) (t := .int) (t' := .boolean) (by decide) (by decide)))
    have f19_F_a_basic := f11_F_a_basic.same W14
    have f20_F_a_value := f12_F_a_value.other W14 (Or.inr (slot_ne (Or.inr (hw _ (List.mem_of_getElem? (i := 22) rfl))) (Or.inr (hw _ (List.mem_of_getElem? (i := 20) rfl))) (by decide) (t := (.array .byte)) (t' := .boolean) (by decide) (by decide)))
    have f21_A_a3 := f13_A_a3.other W14 ne_a3
    refine go st14 ?_
    show Go p e below _ (T14.setTop (mkF m 73 #[.val (.ref a), .val (.int p1), .val (.int p2), .val (.ref a3)] []))
    refine go (fun t kt' => by refine XS.aloadN X14.here hx rfl (hb hby d1_73) rfl rfl ?_; exact kt') ?_
    show Go p e below _ (T14.setTop (mkF m 74 #[.val (.ref a), .val (.int p1), .val (.int p2), .val (.ref a3)] [(.ref a)]))
    refine go (fun t kt' => by refine XS.aloadN X14.here hx rfl (hb hby d1_74) rfl rfl ?_; exact kt') ?_
    show Go p e below _ (T14.setTop (mkF m 75 #[.val (.ref a), .val (.int p1), .val (.int p2), .val (.ref a3)] [(.ref a3), (.ref a)]))
    obtain ⟨T22, h22, X22, e22, W22, st22⟩ := putF X14 hx hZ hown (host := "") (Or.inl (hw _ (List.mem_of_getElem? (i := 21) rfl))) Via.refl e14 f20_F_a_value f17_E_a (Or.inr ⟨(hw _ (List.mem_of_getElem? (i := 22) rfl)), rfl, hnm⟩) (hw _ (List.mem_of_getElem? (i := 2) rfl)) (ty := (.array .byte)) (by decide) rfl rfl (g := (mkF m 75 #[.val (.ref a), .val (.int p1), .val (.int p2), .val (.ref a3)] [(.ref a3), (.ref a)])) rfl rfl (hb hby d1_75)
    have N22 := Fr.snoc X22 N14 g_a
    have f23_Z := Nat.le_trans f15_Z (Keep.of_wr W22).1
    have f24_K := f16_K.wr W22 (Or.inl (List.mem_of_getElem? (i := 0) rfl))
    have f25_E_a := f17_E_a.wr W22
    have f26_F_a_type := f18_F_a_type.other W22 (Or.inr (slot_ne (Or.inr (hw _ (List.mem_of_getElem? (i := 18) rfl))) (Or.inr (hw _ (List.mem_of_getElem? (i := 22) rfl))) (by decide) (t := .int) (t' := (.array .byte)) (by decide) (by decide)))
    have f27_F_a_basic := f19_F_a_basic.other W22 (Or.inr (slot_ne (Or.inr (hw _ (List.mem_of_getElem? (i := 20) rfl))) (Or.inr (hw _ (List.mem_of_getElem? (i := 22) rfl))) (by decide) (t := .boolean) (t' := (.array .byte)) (by decide) (by decide)))
    have f28_F_a_value := f20_F_a_value.same W22
    have f29_A_a3 := f21_A_a3.other W22 ne_a3
    refine go st22 ?_
    show Go p e below _ (T22.setTop (mkF m 78 #[.val (.ref a), .val (.int p1), .val (.int p2), .val (.ref a3)] []))
    refine goOut X22 (fun _ => rfl) hlk (fun fs hr => X22.returnOut hx Bd.returns (hb hby d1_78) hr) (by decide) (by decide) ?_
    rw [e22]
    exact ⟨rfl, N22, f24_K, f25_E_a, f26_F_a_type⟩
  · skip
    refine go (fun t kt' => by refine XS.ifNo X1.here hx rfl (hb hby d1_29) rfl ((if0 _ _).trans (feq c29_4).1) ?_; exact kt') ?_
    show Go p e below _ (T1.setTop (mkF m 32 #[.val (.ref a), .val (.int p1), .val (.int p2), .val (.ref a3)] []))
    refine go (fun t kt' => by refine XS.aloadN X1.here hx rfl (hb hby d1_32) rfl rfl ?_; exact kt') ?_
    show Go p e below _ (T1.setTop (mkF m 33 #[.val (.ref a), .val (.int p1), .val (.int p2), .val (.ref a3)] [(.ref a3)]))
    refine go (fun t kt' => by refine lenIA X1 hx hZ e1 V_a3 (g := (mkF m 33 #[.val (.ref a), .val (.int p1), .val (.int p2), .val (.ref a3)] [(.ref a3)])) rfl rfl (hb hby d1_33) t ?_; exact kt') ?_
    show Go p e below _ (T1.setTop (mkF m 34 #[.val (.ref a), .val (.int p1), .val (.int p2), .val (.ref a3)] [(.int (Nat.toInt32 N))]))
    refine go (fun t kt' => by refine XS.iconst X1.here hx rfl (hb hby d1_34) ?_; exact kt') ?_
    show Go p e below _ (T1.setTop (mkF m 35 #[.val (.ref a), .val (.int p1), .val (.int p2), .val (.ref a3)] [(.int (2 : Int32)), (.int (Nat.toInt32 N))]))
    have c35_30 : (Nat.toInt32 N) = (2 : Int32) := by rw [hbs c29_4]; rfl
    refine go (fun t kt' => by refine XS.icmpYes X1.here hx rfl (pc0 := 35) (pc' := 63) rfl (hb hby d1_35) rfl (teq c35_30).1 (by decide) (by decide) ?_; exact kt') ?_
    show Go p e below _ (T1.setTop (mkF m 63 #[.val (.ref a), .val (.int p1), .val (.int p2), .val (.ref a3)] []))
    refine go (fun t kt' => by refine XS.aloadN X1.here hx rfl (hb hby d1_63) rfl rfl ?_; exact kt') ?_
    show Go p e below _ (T1.setTop (mkF m 64 #[.val (.ref a), .val (.int p1), .val (.int p2), .val (.ref a3)] [(.ref a)]))
    refine go (fun t kt' => by refine XS.iloadN X1.here hx rfl (hb hby d1_64) rfl ?_; exact kt') ?_
    show Go p e below _ (T1.setTop (mkF m 65 #[.val (.ref a), .val (.int p1), .val (.int p2), .val (.ref a3)] [(.int p1), (.ref a)]))
    obtain ⟨T31, h31, X31, e31, W31, st31⟩ := putF X1 hx hZ hown (host := "") (Or.inl (hw _ (List.mem_of_getElem? (i := 17) rfl))) Via.refl e1 F_type_a E_a (Or.inr ⟨(hw _ (List.mem_of_getElem? (i := 18) rfl)), rfl, hnm⟩) (hw _ (List.mem_of_getElem? (i := 2) rfl)) (ty := .int) (by decide) rfl rfl (g := (mkF m 65 #[.val (.ref a), .val (.int p1), .val (.int p2), .val (.ref a3)] [(.int p1), (.ref a)])) rfl rfl (hb hby d1_65)
    have N31 := Fr.snoc X31 N1 g_a
    have f32_Z := Nat.le_trans Z0 (Keep.of_wr W31).1
    have f33_K := K0.wr W31 (Or.inl (List.mem_of_getElem? (i := 0) rfl))
    have f34_E_a := E_a.wr W31
    have f35_F_a_type := F_type_a.same W31
    have f36_F_a_basic := F_basic_a.other W31 (Or.inr (slot_ne (Or.inr (hw _ (List.mem_of_getElem? (i := 20) rfl))) (Or.inr (hw _ (List.mem_of_getElem? (i := 18) rfl))) (by decide) (t := .boolean) (t' := .int) (by decide) (by decide)))
    have f37_F_a_value := F_value_a.other W31 (Or.inr (slot_ne (Or.inr (hw _ (List.mem_of_getElem? (i := 22) rfl))) (Or.inr (hw _ (List.mem_of_getElem? (i := 18) rfl))) (by decide) (t := (.array .byte)) (t' := .int) (by decide) (by decide)))
    have f38_A_a3 := V_a3.other W31 ne_a3
    refine go st31 ?_
    show Go p e below _ (T31.setTop (mkF m 68 #[.val (.ref a), .val (.int p1), .val (.int p2), .val (.ref a3)] []))
    refine go (fun t kt' => by refine XS.aloadN X31.here hx rfl (hb hby d1_68) rfl rfl ?_; exact kt') ?_
    show Go p e below _ (T31.setTop (mkF m 69 #[.val (.ref a), .val (.int p1), .val (.int p2), .val (.ref a3)] [(.ref a)]))
    refine go (fun t kt' => by refine XS.iloadN X31.here hx rfl (hb hby d1_69) rfl ?_; exact kt') ?_
    show Go p e below _ (T31.setTop (mkF m 70 #[.val (.ref a), .val (.int p1), .val (.int p2), .val (.ref a3)] [(.int p2), (.ref a)]))
    obtain ⟨T39, h39, X39, e39, W39, st39⟩ := putFN X31 hx hZ hown (hw _ (List.mem_of_getElem? (i := 19) rfl)) Via.refl e31 f36_F_a_basic f34_E_a (Or.inr ⟨(hw _ (List.mem_of_getElem? (i := 20) rfl)), rfl, hnm⟩) (hw _ (List.mem_of_getElem? (i := 2) rfl)) (ty := .boolean) (v' := (.int (nar .boolean p2))) (by decide) rfl (fits_nar_bool _) (g := (mkF m 70 #[.val (.ref a), .val (.int p1), .val (.int p2), .val (.ref a3)] [(.int p2), (.ref a)])) rfl rfl (hb hby d1_70)
    have N39 := Fr.snoc X39 N31 g_a
    have f40_Z := Nat.le_trans f32_Z (Keep.of_wr W39).1
    have f41_K := f33_K.wr W39 (Or.inl (List.mem_of_getElem? (i := 0) rfl))
    have f42_E_a := f34_E_a.wr W39
    have f43_F_a_type := f35_F_a_type.other W39 (Or.inr (slot_ne (Or.inr (hw _ (List.mem_of_getElem? (i := 18) rfl))) (Or.inr (hw _ (List.mem_of_getElem? (i := 20) rfl))) (by decide) (t := .int) (t' := .boolean) (by decide) (by decide)))
    have f44_F_a_basic := f36_F_a_basic.same W39
    have f45_F_a_value := f37_F_a_value.other W39 (Or.inr (slot_ne (Or.inr (hw _ (List.mem_of_getElem? (i := 22) rfl))) (Or.inr (hw _ (List.mem_of_getElem? (i := 20) rfl))) (by decide) (t := (.array .byte)) (t' := .boolean) (by decide) (by decide)))
    have f46_A_a3 := f38_A_a3.other W39 ne_a3
    refine go st39 ?_
    show Go p e below _ (T39.setTop (mkF m 73 #[.val (.ref a), .val (.int p1), .val (.int p2), .val (.ref a3)] []))
    refine go (fun t kt' => by refine XS.aloadN X39.here hx rfl (hb hby d1_73) rfl rfl ?_; exact kt') ?_
    show Go p e below _ (T39.setTop (mkF m 74 #[.val (.ref a), .val (.int p1), .val (.int p2), .val (.ref a3)] [(.ref a)]))
    refine go (fun t kt' => by refine XS.aloadN X39.here hx rfl (hb hby d1_74) rfl rfl ?_; exact kt') ?_
    show Go p e below _ (T39.setTop (mkF m 75 #[.val (.ref a), .val (.int p1), .val (.int p2), .val (.ref a3)] [(.ref a3), (.ref a)]))
    obtain ⟨T47, h47, X47, e47, W47, st47⟩ := putF X39 hx hZ hown (host := "") (Or.inl (hw _ (List.mem_of_getElem? (i := 21) rfl))) Via.refl e39 f45_F_a_value f42_E_a (Or.inr ⟨(hw _ (List.mem_of_getElem? (i := 22) rfl)), rfl, hnm⟩) (hw _ (List.mem_of_getElem? (i := 2) rfl)) (ty := (.array .byte)) (by decide) rfl rfl (g := (mkF m 75 #[.val (.ref a), .val (.int p1), .val (.int p2), .val (.ref a3)] [(.ref a3), (.ref a)])) rfl rfl (hb hby d1_75)
    have N47 := Fr.snoc X47 N39 g_a
    have f48_Z := Nat.le_trans f40_Z (Keep.of_wr W47).1
    have f49_K := f41_K.wr W47 (Or.inl (List.mem_of_getElem? (i := 0) rfl))
    have f50_E_a := f42_E_a.wr W47
    have f51_F_a_type := f43_F_a_type.other W47 (Or.inr (slot_ne (Or.inr (hw _ (List.mem_of_getElem? (i := 18) rfl))) (Or.inr (hw _ (List.mem_of_getElem? (i := 22) rfl))) (by decide) (t := .int) (t' := (.array .byte)) (by decide) (by decide)))
    have f52_F_a_basic := f44_F_a_basic.other W47 (Or.inr (slot_ne (Or.inr (hw _ (List.mem_of_getElem? (i := 20) rfl))) (Or.inr (hw _ (List.mem_of_getElem? (i := 22) rfl))) (by decide) (t := .boolean) (t' := (.array .byte)) (by decide) (by decide)))
    have f53_F_a_value := f45_F_a_value.same W47
    have f54_A_a3 := f46_A_a3.other W47 ne_a3
    refine go st47 ?_
    show Go p e below _ (T47.setTop (mkF m 78 #[.val (.ref a), .val (.int p1), .val (.int p2), .val (.ref a3)] []))
    refine goOut X47 (fun _ => rfl) hlk (fun fs hr => X47.returnOut hx Bd.returns (hb hby d1_78) hr) (by decide) (by decide) ?_
    rw [e47]
    exact ⟨rfl, N47, f49_K, f50_E_a, f51_F_a_type⟩
def own_il (t pr : Int32) : Int32 := if pr = 1 then (if t = 11 ∨ t = 12 then 1 else 0) else (if t = 1 ∨ t = 2 then 1 else 0)
theorem d4_0 : decode prog_6_method_4_code 0 = .ok (.iload_n 1, 1) := by decide +kernel
theorem d4_1 : decode prog_6_method_4_code 1 = .ok (.iconst 1, 1) := by decide +kernel
theorem d4_2 : decode prog_6_method_4_code 2 = .ok (.if_icmp .ne 29, 3) := by decide +kernel
theorem d4_31 : decode prog_6_method_4_code 31 = .ok (.aload_n 0, 1) := by decide +kernel
theorem d4_32 : decode prog_6_method_4_code 32 = .ok (.getfield 21, 3) := by decide +kernel
theorem d4_35 : decode prog_6_method_4_code 35 = .ok (.iconst 1, 1) := by decide +kernel
theorem d4_36 : decode prog_6_method_4_code 36 = .ok (.if_icmp .eq 11, 3) := by decide +kernel
theorem d4_47 : decode prog_6_method_4_code 47 = .ok (.iconst 1, 1) := by decide +kernel
theorem d4_48 : decode prog_6_method_4_code 48 = .ok (.goto 4, 3) := by decide +kernel
theorem d4_52 : decode prog_6_method_4_code 52 = .ok (.ireturn, 1) := by decide +kernel
theorem d4_39 : decode prog_6_method_4_code 39 = .ok (.aload_n 0, 1) := by decide +kernel
theorem d4_40 : decode prog_6_method_4_code 40 = .ok (.getfield 21, 3) := by decide +kernel
theorem d4_43 : decode prog_6_method_4_code 43 = .ok (.iconst 2, 1) := by decide +kernel
theorem d4_44 : decode prog_6_method_4_code 44 = .ok (.if_icmp .ne 7, 3) := by decide +kernel
theorem d4_51 : decode prog_6_method_4_code 51 = .ok (.iconst 0, 1) := by decide +kernel
theorem d4_5 : decode prog_6_method_4_code 5 = .ok (.aload_n 0, 1) := by decide +kernel
theorem d4_6 : decode prog_6_method_4_code 6 = .ok (.getfield 21, 3) := by decide +kernel
theorem d4_9 : decode prog_6_method_4_code 9 = .ok (.bipush 11, 2) := by decide +kernel
theorem d4_11 : decode prog_6_method_4_code 11 = .ok (.if_icmp .eq 12, 3) := by decide +kernel
theorem d4_23 : decode prog_6_method_4_code 23 = .ok (.iconst 1, 1) := by decide +kernel
theorem d4_24 : decode prog_6_method_4_code 24 = .ok (.goto 28, 3) := by decide +kernel
theorem d4_14 : decode prog_6_method_4_code 14 = .ok (.aload_n 0, 1) := by decide +kernel
theorem d4_15 : decode prog_6_method_4_code 15 = .ok (.getfield 21, 3) := by decide +kernel
theorem d4_18 : decode prog_6_method_4_code 18 = .ok (.bipush 12, 2) := by decide +kernel
theorem d4_20 : decode prog_6_method_4_code 20 = .ok (.if_icmp .ne 7, 3) := by decide +kernel
theorem d4_27 : decode prog_6_method_4_code 27 = .ok (.iconst 0, 1) := by decide +kernel
theorem d4_28 : decode prog_6_method_4_code 28 = .ok (.goto 24, 3) := by decide +kernel
theorem ef_rm4 (m : MethodId) (x0 : Addr) (x1 : Int32) : entryFrame m #[(.ref x0), (.int x1)] 2 = mkF m 0 #[.val (.ref x0), .val (.int x1)] [] := by first | (simp [entryFrame, mkF, argsToLocals, Value.category]; done) | rfl
def Q4 (Z : State) (tt p1 : Int32) (h0 : Heap) (n0 : Nat) (v : Option Value) (h : Heap) (L : List Loc) : Prop := v = some (.int (own_il tt p1)) ∧ Fr n0 L ∧ h = h0
set_option maxRecDepth 65536 in
set_option maxHeartbeats 40000000 in
theorem rm4 (l : Launch) (Z : State) (a0 : Array Value) (hw : ∀ d ∈ tables_1, d.before a0 Z = true) (ws : List Jvm.Cond) (a : Addr) (p1 : Int32) (tt : Int32) (h0 : Heap) (n0 : Nat) (Z0 : n0 ≤ h0.size) (E_a : Exa Z h0 a "org/keymoot/Attribute") (F_type_a : Fld Z h0 a "org/keymoot/Attribute" "type" "I" (.int tt)) :
    MetFree l (⟨"org/keymoot/Attribute", "isLife", "(I)Z"⟩ : MethodName) (head1 (Jvm.Cond.code (⟨"org/keymoot/Attribute", "isLife", "(I)Z"⟩ : MethodName) prog_6_method_4_code 2 (some .boolean) :: ws) ({ frames := 0, cells := 0, slots := 0, locals := 0 } : Room)) (fun av' U => av' = #[(.ref a), (.int p1)] ∧ Z.Warmed39 U.vm ∧ U.heap = h0) (fun _ _ _ _ _ => True) (fun _ U o U' => ∃ v L, o = .returned v ∧ Q4 Z tt p1 h0 n0 v U'.heap L ∧ FrameEnd U o U' L ({ frames := 0, cells := 0, slots := 0, locals := 0 } : Room).cells ({ frames := 0, cells := 0, slots := 0, locals := 0 } : Room).slots) := by
  refine MetFree.of_bodySF (plainFor_of_name pn_org_keymoot_Attribute) hisR ?_
  intro p e s m args below meth c s₁ Bd hml0 hP hK
  obtain ⟨rfl, hZ, hh⟩ := hP
  have hx := Bd.exec
  have hby := Bd.bytes
  have hlk := Bd.notSynchronized
  have hml : c.maxLocals = 2 := hml0
  have hown : s.vm.findClass "org/keymoot/Attribute" = some m.cls := findClass_of_methodNamed Bd.named
  have hnm := (name_of_methodNamed Bd.named Bd.method).1
  have X0 : Stand p l e ({ frames := 0, cells := 0, slots := 0, locals := 0 } : Room) s m #[(.ref a), (.int p1)] below meth c s₁ [] 0 0 := Stand.of_body Bd
  have e0 : s₁.heap = h0 := by rw [← hh, Bd.state]; rfl
  have N0 := Fr.nil n0
  show Go p e below (Kq s (Q4 Z tt p1 h0 n0) ({ frames := 0, cells := 0, slots := 0, locals := 0 } : Room).cells ({ frames := 0, cells := 0, slots := 0, locals := 0 } : Room).slots) _
  refine go (fun t kt => castTop (ef_rm4 m a p1) kt) ?_
  show Go p e below _ (s₁.setTop (mkF m 0 #[.val (.ref a), .val (.int p1)] []))
  refine go (fun t kt' => by refine XS.iloadN X0.here hx rfl (hb hby d4_0) rfl ?_; exact kt') ?_
  show Go p e below _ (s₁.setTop (mkF m 1 #[.val (.ref a), .val (.int p1)] [(.int p1)]))
  refine go (fun t kt' => by refine XS.iconst X0.here hx rfl (hb hby d4_1) ?_; exact kt') ?_
  show Go p e below _ (s₁.setTop (mkF m 2 #[.val (.ref a), .val (.int p1)] [(.int (1 : Int32)), (.int p1)]))
  by_cases c2_1 : ¬ p1 = (1 : Int32)
  · skip
    refine go (fun t kt' => by refine XS.icmpYes X0.here hx rfl (pc0 := 2) (pc' := 31) rfl (hb hby d4_2) rfl (feq c2_1).2 (by decide) (by decide) ?_; exact kt') ?_
    show Go p e below _ (s₁.setTop (mkF m 31 #[.val (.ref a), .val (.int p1)] []))
    refine go (fun t kt' => by refine XS.aloadN X0.here hx rfl (hb hby d4_31) rfl rfl ?_; exact kt') ?_
    show Go p e below _ (s₁.setTop (mkF m 32 #[.val (.ref a), .val (.int p1)] [(.ref a)]))
    obtain ⟨T2, X2, e2, st2⟩ := getF X0 hx hZ hown (host := "") (Or.inl (hw _ (List.mem_of_getElem? (i := 17) rfl))) Via.refl e0 F_type_a (g := (mkF m 32 #[.val (.ref a), .val (.int p1)] [(.ref a)])) rfl rfl (hb hby d4_32)
    refine go st2 ?_
    show Go p e below _ (T2.setTop (mkF m 35 #[.val (.ref a), .val (.int p1)] [(.int tt)]))
    refine go (fun t kt' => by refine XS.iconst X2.here hx rfl (hb hby d4_35) ?_; exact kt') ?_
    show Go p e below _ (T2.setTop (mkF m 36 #[.val (.ref a), .val (.int p1)] [(.int (1 : Int32)), (.int tt)]))
    by_cases c36_3 : tt = (1 : Int32)
    · skip
      refine go (fun t kt' => by refine XS.icmpYes X2.here hx rfl (pc0 := 36) (pc' := 47) rfl (hb hby d4_36) rfl (teq c36_3).1 (by decide) (by decide) ?_; exact kt') ?_
      show Go p e below _ (T2.setTop (mkF m 47 #[.val (.ref a), .val (.int p1)] []))
      refine go (fun t kt' => by refine XS.iconst X2.here hx rfl (hb hby d4_47) ?_; exact kt') ?_
      show Go p e below _ (T2.setTop (mkF m 48 #[.val (.ref a), .val (.int p1)] [(.int (1 : Int32))]))
      refine go (fun t kt' => by refine XS.goto X2.here hx rfl (pc0 := 48) (pc' := 52) rfl (hb hby d4_48) (by decide) (by decide) ?_; exact kt') ?_
      show Go p e below _ (T2.setTop (mkF m 52 #[.val (.ref a), .val (.int p1)] [(.int (1 : Int32))]))
      refine goOut X2 (fun h => by rw [Bd.returns] at h; cases h) hlk (fun fs hr => retN X2 hx (t := .boolean) Bd.returns (by simp) (hb hby d4_52) hr) (by decide) (by decide) ?_
      rw [e2]
      exact ⟨by simp [own_il, c2_1, c36_3, nar], N0, rfl⟩
    · skip
      refine go (fun t kt' => by refine XS.icmpNo X2.here hx rfl (hb hby d4_36) rfl (feq c36_3).1 ?_; exact kt') ?_
      show Go p e below _ (T2.setTop (mkF m 39 #[.val (.ref a), .val (.int p1)] []))
      refine go (fun t kt' => by refine XS.aloadN X2.here hx rfl (hb hby d4_39) rfl rfl ?_; exact kt') ?_
      show Go p e below _ (T2.setTop (mkF m 40 #[.val (.ref a), .val (.int p1)] [(.ref a)]))
      obtain ⟨T4, X4, e4, st4⟩ := getF X2 hx hZ hown (host := "") (Or.inl (hw _ (List.mem_of_getElem? (i := 17) rfl))) Via.refl e2 F_type_a (g := (mkF m 40 #[.val (.ref a), .val (.int p1)] [(.ref a)])) rfl rfl (hb hby d4_40)
      refine go st4 ?_
      show Go p e below _ (T4.setTop (mkF m 43 #[.val (.ref a), .val (.int p1)] [(.int tt)]))
      refine go (fun t kt' => by refine XS.iconst X4.here hx rfl (hb hby d4_43) ?_; exact kt') ?_
      show Go p e below _ (T4.setTop (mkF m 44 #[.val (.ref a), .val (.int p1)] [(.int (2 : Int32)), (.int tt)]))
      by_cases c44_5 : ¬ tt = (2 : Int32)
      · skip
        refine go (fun t kt' => by refine XS.icmpYes X4.here hx rfl (pc0 := 44) (pc' := 51) rfl (hb hby d4_44) rfl (feq c44_5).2 (by decide) (by decide) ?_; exact kt') ?_
        show Go p e below _ (T4.setTop (mkF m 51 #[.val (.ref a), .val (.int p1)] []))
        refine go (fun t kt' => by refine XS.iconst X4.here hx rfl (hb hby d4_51) ?_; exact kt') ?_
        show Go p e below _ (T4.setTop (mkF m 52 #[.val (.ref a), .val (.int p1)] [(.int (0 : Int32))]))
        refine goOut X4 (fun h => by rw [Bd.returns] at h; cases h) hlk (fun fs hr => retN X4 hx (t := .boolean) Bd.returns (by simp) (hb hby d4_52) hr) (by decide) (by decide) ?_
        rw [e4]
        exact ⟨by simp [own_il, c2_1, c36_3, c44_5, nar], N0, rfl⟩
      · skip
        refine go (fun t kt' => by refine XS.icmpNo X4.here hx rfl (hb hby d4_44) rfl (teq (Decidable.not_not.mp c44_5)).2 ?_; exact kt') ?_
        show Go p e below _ (T4.setTop (mkF m 47 #[.val (.ref a), .val (.int p1)] []))
        refine go (fun t kt' => by refine XS.iconst X4.here hx rfl (hb hby d4_47) ?_; exact kt') ?_
        show Go p e below _ (T4.setTop (mkF m 48 #[.val (.ref a), .val (.int p1)] [(.int (1 : Int32))]))
        refine go (fun t kt' => by refine XS.goto X4.here hx rfl (pc0 := 48) (pc' := 52) rfl (hb hby d4_48) (by decide) (by decide) ?_; exact kt') ?_
        show Go p e below _ (T4.setTop (mkF m 52 #[.val (.ref a), .val (.int p1)] [(.int (1 : Int32))]))
        refine goOut X4 (fun h => by rw [Bd.returns] at h; cases h) hlk (fun fs hr => retN X4 hx (t := .boolean) Bd.returns (by simp) (hb hby d4_52) hr) (by decide) (by decide) ?_
        rw [e4]
        exact ⟨by simp [own_il, c2_1, c36_3, Decidable.not_not.mp c44_5, nar], N0, rfl⟩
  · skip
    refine go (fun t kt' => by refine XS.icmpNo X0.here hx rfl (hb hby d4_2) rfl (teq (Decidable.not_not.mp c2_1)).2 ?_; exact kt') ?_
    show Go p e below _ (s₁.setTop (mkF m 5 #[.val (.ref a), .val (.int p1)] []))
    refine go (fun t kt' => by refine XS.aloadN X0.here hx rfl (hb hby d4_5) rfl rfl ?_; exact kt') ?_
    show Go p e below _ (s₁.setTop (mkF m 6 #[.val (.ref a), .val (.int p1)] [(.ref a)]))
    obtain ⟨T6, X6, e6, st6⟩ := getF X0 hx hZ hown (host := "") (Or.inl (hw _ (List.mem_of_getElem? (i := 17) rfl))) Via.refl e0 F_type_a (g := (mkF m 6 #[.val (.ref a), .val (.int p1)] [(.ref a)])) rfl rfl (hb hby d4_6)
    refine go st6 ?_
    show Go p e below _ (T6.setTop (mkF m 9 #[.val (.ref a), .val (.int p1)] [(.int tt)]))
    refine go (fun t kt' => by refine XS.bipush X6.here hx rfl (hb hby d4_9) ?_; exact kt') ?_
    show Go p e below _ (T6.setTop (mkF m 11 #[.val (.ref a), .val (.int p1)] [(.int (11 : Int32)), (.int tt)]))
    by_cases c11_7 : tt = (11 : Int32)
    · skip
      refine go (fun t kt' => by refine XS.icmpYes X6.here hx rfl (pc0 := 11) (pc' := 23) rfl (hb hby d4_11) rfl (teq c11_7).1 (by decide) (by decide) ?_; exact kt') ?_
      show Go p e below _ (T6.setTop (mkF m 23 #[.val (.ref a), .val (.int p1)] []))
      refine go (fun t kt' => by refine XS.iconst X6.here hx rfl (hb hby d4_23) ?_; exact kt') ?_
      show Go p e below _ (T6.setTop (mkF m 24 #[.val (.ref a), .val (.int p1)] [(.int (1 : Int32))]))
      refine go (fun t kt' => by refine XS.goto X6.here hx rfl (pc0 := 24) (pc' := 52) rfl (hb hby d4_24) (by decide) (by decide) ?_; exact kt') ?_
      show Go p e below _ (T6.setTop (mkF m 52 #[.val (.ref a), .val (.int p1)] [(.int (1 : Int32))]))
      refine goOut X6 (fun h => by rw [Bd.returns] at h; cases h) hlk (fun fs hr => retN X6 hx (t := .boolean) Bd.returns (by simp) (hb hby d4_52) hr) (by decide) (by decide) ?_
      rw [e6]
      exact ⟨by simp [own_il, Decidable.not_not.mp c2_1, c11_7, nar], N0, rfl⟩
    · skip
      refine go (fun t kt' => by refine XS.icmpNo X6.here hx rfl (hb hby d4_11) rfl (feq c11_7).1 ?_; exact kt') ?_
      show Go p e below _ (T6.setTop (mkF m 14 #[.val (.ref a), .val (.int p1)] []))
      refine go (fun t kt' => by refine XS.aloadN X6.here hx rfl (hb hby d4_14) rfl rfl ?_; exact kt') ?_
      show Go p e below _ (T6.setTop (mkF m 15 #[.val (.ref a), .val (.int p1)] [(.ref a)]))
      obtain ⟨T8, X8, e8, st8⟩ := getF X6 hx hZ hown (host := "") (Or.inl (hw _ (List.mem_of_getElem? (i := 17) rfl))) Via.refl e6 F_type_a (g := (mkF m 15 #[.val (.ref a), .val (.int p1)] [(.ref a)])) rfl rfl (hb hby d4_15)
      refine go st8 ?_
      show Go p e below _ (T8.setTop (mkF m 18 #[.val (.ref a), .val (.int p1)] [(.int tt)]))
      refine go (fun t kt' => by refine XS.bipush X8.here hx rfl (hb hby d4_18) ?_; exact kt') ?_
      show Go p e below _ (T8.setTop (mkF m 20 #[.val (.ref a), .val (.int p1)] [(.int (12 : Int32)), (.int tt)]))
      by_cases c20_9 : ¬ tt = (12 : Int32)
      · skip
        refine go (fun t kt' => by refine XS.icmpYes X8.here hx rfl (pc0 := 20) (pc' := 27) rfl (hb hby d4_20) rfl (feq c20_9).2 (by decide) (by decide) ?_; exact kt') ?_
        show Go p e below _ (T8.setTop (mkF m 27 #[.val (.ref a), .val (.int p1)] []))
        refine go (fun t kt' => by refine XS.iconst X8.here hx rfl (hb hby d4_27) ?_; exact kt') ?_
        show Go p e below _ (T8.setTop (mkF m 28 #[.val (.ref a), .val (.int p1)] [(.int (0 : Int32))]))
        refine go (fun t kt' => by refine XS.goto X8.here hx rfl (pc0 := 28) (pc' := 52) rfl (hb hby d4_28) (by decide) (by decide) ?_; exact kt') ?_
        show Go p e below _ (T8.setTop (mkF m 52 #[.val (.ref a), .val (.int p1)] [(.int (0 : Int32))]))
        refine goOut X8 (fun h => by rw [Bd.returns] at h; cases h) hlk (fun fs hr => retN X8 hx (t := .boolean) Bd.returns (by simp) (hb hby d4_52) hr) (by decide) (by decide) ?_
        rw [e8]
        exact ⟨by simp [own_il, Decidable.not_not.mp c2_1, c11_7, c20_9, nar], N0, rfl⟩
      · skip
        refine go (fun t kt' => by refine XS.icmpNo X8.here hx rfl (hb hby d4_20) rfl (teq (Decidable.not_not.mp c20_9)).2 ?_; exact kt') ?_
        show Go p e below _ (T8.setTop (mkF m 23 #[.val (.ref a), .val (.int p1)] []))
        refine go (fun t kt' => by refine XS.iconst X8.here hx rfl (hb hby d4_23) ?_; exact kt') ?_
        show Go p e below _ (T8.setTop (mkF m 24 #[.val (.ref a), .val (.int p1)] [(.int (1 : Int32))]))
        refine go (fun t kt' => by refine XS.goto X8.here hx rfl (pc0 := 24) (pc' := 52) rfl (hb hby d4_24) (by decide) (by decide) ?_; exact kt') ?_
        show Go p e below _ (T8.setTop (mkF m 52 #[.val (.ref a), .val (.int p1)] [(.int (1 : Int32))]))
        refine goOut X8 (fun h => by rw [Bd.returns] at h; cases h) hlk (fun fs hr => retN X8 hx (t := .boolean) Bd.returns (by simp) (hb hby d4_52) hr) (by decide) (by decide) ?_
        rw [e8]
        exact ⟨by simp [own_il, Decidable.not_not.mp c2_1, c11_7, Decidable.not_not.mp c20_9, nar], N0, rfl⟩
theorem own_t1 (t : Int32) : ¬ (t &&& (15 : Int32)) < 0 ∧ (t &&& (15 : Int32)) < 32768 := by
  have h : (t &&& (15 : Int32)).toInt = t.toInt % (2 ^ 4 : Nat) := c_mask t 15 4 (by decide) (by decide)
  simp only [Int32.lt_iff_toInt_lt, Int32.reduceToInt, h]; omega
theorem own_t2 (t : Int32) : ¬ (t &&& (32767 : Int32)) < 0 ∧ (t &&& (32767 : Int32)) < 32768 := by
  have h : (t &&& (32767 : Int32)).toInt = t.toInt % (2 ^ 15 : Nat) := c_mask t 32767 15 (by decide) (by decide)
  simp only [Int32.lt_iff_toInt_lt, Int32.reduceToInt, h]; omega
theorem pd_1 : parseMethodDescriptor "(IZ[B)V" = some ⟨[.int, .boolean, (.array .byte)], none⟩ := by decide +kernel
theorem pd_2 : parseMethodDescriptor "(I)Z" = some ⟨[.int], some .boolean⟩ := by decide +kernel
theorem pn_org_keymoot_AttributeIsLifePinLaw : plainName "org/keymoot/AttributeIsLifePinLaw" = true := by first | (simp [plainName, overriddenIn]; done) | decide +kernel
theorem ef_rm0 (m : MethodId) (x0 : Int32) (x1 : Int32) (x2 : Int32) (x3 : Int32) : entryFrame m #[(.int x0), (.int x1), (.int x2), (.int x3)] maxLocals = mkF m 0 #[.val (.int x0), .val (.int x1), .val (.int x2), .val (.int x3), .unset, .unset, .unset, .unset, .unset, .unset] [] := by first | (simp [entryFrame, mkF, argsToLocals, Value.category, maxLocals]; done) | rfl
def Q0 (Z : State) (p0 : Int32) (p1 : Int32) (p2 : Int32) (p3 : Int32) (h0 : Heap) (n0 : Nat) (v : Option Value) (h : Heap) (L : List Loc) : Prop := v = some (.int 1) ∧ Fr n0 L
set_option maxRecDepth 65536 in
set_option maxHeartbeats 40000000 in
theorem rm0 (l : Launch) (Z : State) (a0 : Array Value) (hw : ∀ d ∈ tables_1, d.before a0 Z = true) (ws : List Jvm.Cond) (p0 : Int32) (p1 : Int32) (p2 : Int32) (p3 : Int32)  (h0 : Heap) (n0 : Nat) (Z0 : n0 ≤ h0.size)  :
    MetFree l x (head1 (Jvm.Cond.code x code maxLocals ret :: ws) room_1) (fun av' U => av' = #[(.int p0), (.int p1), (.int p2), (.int p3)] ∧ Z.Warmed39 U.vm ∧ U.heap = h0) (fun _ _ _ _ _ => True) (fun _ U o U' => ∃ v L, o = .returned v ∧ Q0 Z p0 p1 p2 p3 h0 n0 v U'.heap L ∧ FrameEnd U o U' L room_1.cells room_1.slots) := by
  refine MetFree.of_bodySF (plainFor_of_name pn_org_keymoot_AttributeIsLifePinLaw) hisR ?_
  intro p e s m args below meth c s₁ Bd hml0 hP hK
  obtain ⟨rfl, hZ, hh⟩ := hP
  have hx := Bd.exec
  have hby := Bd.bytes
  have hlk := Bd.notSynchronized
  have hml : c.maxLocals = 10 := hml0
  have hown : s.vm.findClass "org/keymoot/AttributeIsLifePinLaw" = some m.cls := findClass_of_methodNamed Bd.named
  have hnm := (name_of_methodNamed Bd.named Bd.method).1
  have X0 : Stand p l e room_1 s m #[(.int p0), (.int p1), (.int p2), (.int p3)] below meth c s₁ [] 0 0 := Stand.of_body Bd
  have e0 : s₁.heap = h0 := by rw [← hh, Bd.state]; rfl
  have N0 := Fr.nil n0
  show Go p e below (Kq s (Q0 Z p0 p1 p2 p3 h0 n0) room_1.cells room_1.slots) _
  refine go (fun t kt => castTop (ef_rm0 m p0 p1 p2 p3) kt) ?_
  show Go p e below _ (s₁.setTop (mkF m 0 #[.val (.int p0), .val (.int p1), .val (.int p2), .val (.int p3), .unset, .unset, .unset, .unset, .unset, .unset] []))
  refine go (fun t kt' => by refine XS.iloadN X0.here hx rfl (hb hby at_0) rfl ?_; exact kt') ?_
  show Go p e below _ (s₁.setTop (mkF m 1 #[.val (.int p0), .val (.int p1), .val (.int p2), .val (.int p3), .unset, .unset, .unset, .unset, .unset, .unset] [(.int p3)]))
  refine go (fun t kt' => by refine XS.iconst X0.here hx rfl (hb hby at_1) ?_; exact kt') ?_
  show Go p e below _ (s₁.setTop (mkF m 2 #[.val (.int p0), .val (.int p1), .val (.int p2), .val (.int p3), .unset, .unset, .unset, .unset, .unset, .unset] [(.int (1 : Int32)), (.int p3)]))
  refine go (fun t kt' => by refine XS.iand X0.here hx rfl (hb hby at_2) rfl ?_; exact kt') ?_
  show Go p e below _ (s₁.setTop (mkF m 3 #[.val (.int p0), .val (.int p1), .val (.int p2), .val (.int p3), .unset, .unset, .unset, .unset, .unset, .unset] [(.int (p3 &&& (1 : Int32)))]))
  have J18_1 : ∀ ty : Int32, (¬ ty < 0 ∧ ty < 32768) → Go p e below (Kq s (Q0 Z p0 p1 p2 p3 h0 n0) room_1.cells room_1.slots) (s₁.setTop (mkF m 18 #[.val (.int p0), .val (.int p1), .val (.int p2), .val (.int p3), .unset, .unset, .unset, .unset, .unset, .unset] [(.int ty)])) := by
    intro ty hty
    show Go p e below _ (s₁.setTop (mkF m 18 #[.val (.int p0), .val (.int p1), .val (.int p2), .val (.int p3), .unset, .unset, .unset, .unset, .unset, .unset] [(.int ty)]))
    refine go (fun t kt' => by refine XS.istore X0.here hx rfl (hb hby at_18) rfl (l' := #[.val (.int p0), .val (.int p1), .val (.int p2), .val (.int p3), .val (.int ty), .unset, .unset, .unset, .unset, .unset]) rfl ?_; exact kt') ?_
    show Go p e below _ (s₁.setTop (mkF m 20 #[.val (.int p0), .val (.int p1), .val (.int p2), .val (.int p3), .val (.int ty), .unset, .unset, .unset, .unset, .unset] []))
    refine go (fun t kt' => by refine XS.iloadN X0.here hx rfl (hb hby at_20) rfl ?_; exact kt') ?_
    show Go p e below _ (s₁.setTop (mkF m 21 #[.val (.int p0), .val (.int p1), .val (.int p2), .val (.int p3), .val (.int ty), .unset, .unset, .unset, .unset, .unset] [(.int p3)]))
    refine go (fun t kt' => by refine XS.iconst X0.here hx rfl (hb hby at_21) ?_; exact kt') ?_
    show Go p e below _ (s₁.setTop (mkF m 22 #[.val (.int p0), .val (.int p1), .val (.int p2), .val (.int p3), .val (.int ty), .unset, .unset, .unset, .unset, .unset] [(.int (2 : Int32)), (.int p3)]))
    refine go (fun t kt' => by refine XS.iand X0.here hx rfl (hb hby at_22) rfl ?_; exact kt') ?_
    show Go p e below _ (s₁.setTop (mkF m 23 #[.val (.int p0), .val (.int p1), .val (.int p2), .val (.int p3), .val (.int ty), .unset, .unset, .unset, .unset, .unset] [(.int (p3 &&& (2 : Int32)))]))
    have J31_2 : ∀ pr : Int32, Go p e below (Kq s (Q0 Z p0 p1 p2 p3 h0 n0) room_1.cells room_1.slots) (s₁.setTop (mkF m 31 #[.val (.int p0), .val (.int p1), .val (.int p2), .val (.int p3), .val (.int ty), .unset, .unset, .unset, .unset, .unset] [(.int pr)])) := by
      intro pr
      show Go p e below _ (s₁.setTop (mkF m 31 #[.val (.int p0), .val (.int p1), .val (.int p2), .val (.int p3), .val (.int ty), .unset, .unset, .unset, .unset, .unset] [(.int pr)]))
      refine go (fun t kt' => by refine XS.istore X0.here hx rfl (hb hby at_31) rfl (l' := #[.val (.int p0), .val (.int p1), .val (.int p2), .val (.int p3), .val (.int ty), .val (.int pr), .unset, .unset, .unset, .unset]) rfl ?_; exact kt') ?_
      show Go p e below _ (s₁.setTop (mkF m 33 #[.val (.int p0), .val (.int p1), .val (.int p2), .val (.int p3), .val (.int ty), .val (.int pr), .unset, .unset, .unset, .unset] []))
      refine go (fun t kt' => by refine XS.iloadN X0.here hx rfl (hb hby at_33) rfl ?_; exact kt') ?_
      show Go p e below _ (s₁.setTop (mkF m 34 #[.val (.int p0), .val (.int p1), .val (.int p2), .val (.int p3), .val (.int ty), .val (.int pr), .unset, .unset, .unset, .unset] [(.int p3)]))
      refine go (fun t kt' => by refine XS.iconst X0.here hx rfl (hb hby at_34) ?_; exact kt') ?_
      show Go p e below _ (s₁.setTop (mkF m 35 #[.val (.int p0), .val (.int p1), .val (.int p2), .val (.int p3), .val (.int ty), .val (.int pr), .unset, .unset, .unset, .unset] [(.int (4 : Int32)), (.int p3)]))
      refine go (fun t kt' => by refine XS.iand X0.here hx rfl (hb hby at_35) rfl ?_; exact kt') ?_
      show Go p e below _ (s₁.setTop (mkF m 36 #[.val (.int p0), .val (.int p1), .val (.int p2), .val (.int p3), .val (.int ty), .val (.int pr), .unset, .unset, .unset, .unset] [(.int (p3 &&& (4 : Int32)))]))
      have J44_3 : ∀ bz : Int32, Go p e below (Kq s (Q0 Z p0 p1 p2 p3 h0 n0) room_1.cells room_1.slots) (s₁.setTop (mkF m 44 #[.val (.int p0), .val (.int p1), .val (.int p2), .val (.int p3), .val (.int ty), .val (.int pr), .unset, .unset, .unset, .unset] [(.int bz)])) := by
        intro bz
        show Go p e below _ (s₁.setTop (mkF m 44 #[.val (.int p0), .val (.int p1), .val (.int p2), .val (.int p3), .val (.int ty), .val (.int pr), .unset, .unset, .unset, .unset] [(.int bz)]))
        refine go (fun t kt' => by refine XS.istore X0.here hx rfl (hb hby at_44) rfl (l' := #[.val (.int p0), .val (.int p1), .val (.int p2), .val (.int p3), .val (.int ty), .val (.int pr), .val (.int bz), .unset, .unset, .unset]) rfl ?_; exact kt') ?_
        show Go p e below _ (s₁.setTop (mkF m 46 #[.val (.int p0), .val (.int p1), .val (.int p2), .val (.int p3), .val (.int ty), .val (.int pr), .val (.int bz), .unset, .unset, .unset] []))
        refine go (fun t kt' => by refine XS.iload X0.here hx rfl (hb hby at_46) rfl ?_; exact kt') ?_
        show Go p e below _ (s₁.setTop (mkF m 48 #[.val (.int p0), .val (.int p1), .val (.int p2), .val (.int p3), .val (.int ty), .val (.int pr), .val (.int bz), .unset, .unset, .unset] [(.int bz)]))
        by_cases c48_4 : bz = (0 : Int32)
        · skip
          refine go (fun t kt' => by refine XS.ifYes X0.here hx rfl (pc0 := 48) (pc' := 70) rfl (hb hby at_48) rfl ((if0 _ _).trans (teq c48_4).1) (by decide) (by decide) ?_; exact kt') ?_
          show Go p e below _ (s₁.setTop (mkF m 70 #[.val (.int p0), .val (.int p1), .val (.int p2), .val (.int p3), .val (.int ty), .val (.int pr), .val (.int bz), .unset, .unset, .unset] []))
          refine go (fun t kt' => by refine XS.iconst X0.here hx rfl (hb hby at_70) ?_; exact kt') ?_
          show Go p e below _ (s₁.setTop (mkF m 71 #[.val (.int p0), .val (.int p1), .val (.int p2), .val (.int p3), .val (.int ty), .val (.int pr), .val (.int bz), .unset, .unset, .unset] [(.int (1 : Int32))]))
          obtain ⟨T5, h5, k5, X5, e5, E5, A5, st5⟩ := newP X0 hx hZ (hw _ (List.mem_of_getElem? (i := 0) rfl)) e0 (g := (mkF m 71 #[.val (.int p0), .val (.int p1), .val (.int p2), .val (.int p3), .val (.int ty), .val (.int pr), .val (.int bz), .unset, .unset, .unset] [(.int (1 : Int32))])) rfl (hb hby at_71) rfl (by decide) (cap := 1) (by decide) (by decide) (by decide) (by decide)
          obtain ⟨b5, g5⟩ : ∃ z, z = h0.size := ⟨_, rfl⟩
          have n0_b5 : n0 ≤ b5 := Nat.le_trans Z0 (Nat.le_of_eq g5.symm)
          rw [← g5] at A5 st5
          have f6_Z := Nat.le_trans Z0 E5.1
          have V5 : IA Z h5 b5 .byte 1 (fun _ => 0) := IA.new A5 rfl rfl
          refine go st5 ?_
          show Go p e below _ (T5.setTop (mkF m 73 #[.val (.int p0), .val (.int p1), .val (.int p2), .val (.int p3), .val (.int ty), .val (.int pr), .val (.int bz), .unset, .unset, .unset] [(.ref b5)]))
          refine go (fun t kt' => by refine XS.dup X5.here hx rfl (hb hby at_73) rfl rfl ?_; exact kt') ?_
          show Go p e below _ (T5.setTop (mkF m 74 #[.val (.int p0), .val (.int p1), .val (.int p2), .val (.int p3), .val (.int ty), .val (.int pr), .val (.int bz), .unset, .unset, .unset] [(.ref b5), (.ref b5)]))
          refine go (fun t kt' => by refine XS.iconst X5.here hx rfl (hb hby at_74) ?_; exact kt') ?_
          show Go p e below _ (T5.setTop (mkF m 75 #[.val (.int p0), .val (.int p1), .val (.int p2), .val (.int p3), .val (.int ty), .val (.int pr), .val (.int bz), .unset, .unset, .unset] [(.int (0 : Int32)), (.ref b5), (.ref b5)]))
          refine go (fun t kt' => by refine XS.iloadN X5.here hx rfl (hb hby at_75) rfl ?_; exact kt') ?_
          show Go p e below _ (T5.setTop (mkF m 76 #[.val (.int p0), .val (.int p1), .val (.int p2), .val (.int p3), .val (.int ty), .val (.int pr), .val (.int bz), .unset, .unset, .unset] [(.int p2), (.int (0 : Int32)), (.ref b5), (.ref b5)]))
          refine go (fun t kt' => by refine XS.i2b X5.here hx rfl (hb hby at_76) rfl ?_; exact kt') ?_
          show Go p e below _ (T5.setTop (mkF m 77 #[.val (.int p0), .val (.int p1), .val (.int p2), .val (.int p3), .val (.int ty), .val (.int pr), .val (.int bz), .unset, .unset, .unset] [(.int (p2.toInt8.toInt32)), (.int (0 : Int32)), (.ref b5), (.ref b5)]))
          obtain ⟨T7, h7, X7, e7, W7, V7, st7⟩ := stBA X5 hx hZ e5 V5 (j := (0 : Int32)) (x := (p2.toInt8.toInt32)) ⟨by decide, by decide⟩ (g := (mkF m 77 #[.val (.int p0), .val (.int p1), .val (.int p2), .val (.int p3), .val (.int ty), .val (.int pr), .val (.int bz), .unset, .unset, .unset] [(.int (p2.toInt8.toInt32)), (.int (0 : Int32)), (.ref b5), (.ref b5)])) rfl rfl (hb hby at_77)
          have N7 := Fr.snoc X7 N0 n0_b5
          have f8_Z := Nat.le_trans f6_Z (Keep.of_wr W7).1
          have f9_A_b5 := V7
          refine go st7 ?_
          show Go p e below _ (T7.setTop (mkF m 78 #[.val (.int p0), .val (.int p1), .val (.int p2), .val (.int p3), .val (.int ty), .val (.int pr), .val (.int bz), .unset, .unset, .unset] [(.ref b5)]))
          obtain ⟨fv10, V10⟩ : ∃ f : Nat → Int32, IA Z h7 b5 .byte 1 f := ⟨_, f9_A_b5⟩
          refine go (fun t kt' => by refine XS.astore X7.here hx rfl (hb hby at_78) rfl rfl (l' := #[.val (.int p0), .val (.int p1), .val (.int p2), .val (.int p3), .val (.int ty), .val (.int pr), .val (.int bz), .val (.ref b5), .unset, .unset]) rfl ?_; exact kt') ?_
          show Go p e below _ (T7.setTop (mkF m 80 #[.val (.int p0), .val (.int p1), .val (.int p2), .val (.int p3), .val (.int ty), .val (.int pr), .val (.int bz), .val (.ref b5), .unset, .unset] []))
          obtain ⟨T11, h11, X11, e11, E11, A11, D11, -, st11⟩ := newO X7 hx hZ hown (hw _ (List.mem_of_getElem? (i := 1) rfl)) (hw _ (List.mem_of_getElem? (i := 2) rfl)) (hw _ (List.mem_of_getElem? (i := 3) rfl)) e7 (g := (mkF m 80 #[.val (.int p0), .val (.int p1), .val (.int p2), .val (.int p3), .val (.int ty), .val (.int pr), .val (.int bz), .val (.ref b5), .unset, .unset] [])) rfl (hb hby at_80) (by decide) (by decide)
          obtain ⟨b11, g11⟩ : ∃ z, z = h7.size := ⟨_, rfl⟩
          have n0_b11 : n0 ≤ b11 := Nat.le_trans f8_Z (Nat.le_of_eq g11.symm)
          have ne11_b5_b11 : b5 ≠ b11 := Nat.ne_of_lt (Nat.lt_of_lt_of_le V10.lt (Nat.le_of_eq g11.symm))
          rw [← g11] at A11 D11 st11
          have f12_Z := Nat.le_trans f8_Z E11.1
          have f13_A_b5 := V10.ext E11
          have F11_type : Fld Z h11 b11 "org/keymoot/Attribute" "type" "I" (.int (0 : Int32)) := D11 (Or.inr (hw _ (List.mem_of_getElem? (i := 18) rfl))) (ty := .int) (by decide)
          have F11_basic : Fld Z h11 b11 "org/keymoot/Attribute" "basic" "Z" (.int (0 : Int32)) := D11 (Or.inr (hw _ (List.mem_of_getElem? (i := 20) rfl))) (ty := .boolean) (by decide)
          have F11_value : Fld Z h11 b11 "org/keymoot/Attribute" "value" "[B" .null := D11 (Or.inr (hw _ (List.mem_of_getElem? (i := 22) rfl))) (ty := (.array .byte)) (by decide)
          refine go st11 ?_
          show Go p e below _ (T11.setTop (mkF m 83 #[.val (.int p0), .val (.int p1), .val (.int p2), .val (.int p3), .val (.int ty), .val (.int pr), .val (.int bz), .val (.ref b5), .unset, .unset] [(.ref b11)]))
          refine go (fun t kt' => by refine XS.dup X11.here hx rfl (hb hby at_83) rfl rfl ?_; exact kt') ?_
          show Go p e below _ (T11.setTop (mkF m 84 #[.val (.int p0), .val (.int p1), .val (.int p2), .val (.int p3), .val (.int ty), .val (.int pr), .val (.int bz), .val (.ref b5), .unset, .unset] [(.ref b11), (.ref b11)]))
          refine go (fun t kt' => by refine XS.iload X11.here hx rfl (hb hby at_84) rfl ?_; exact kt') ?_
          show Go p e below _ (T11.setTop (mkF m 86 #[.val (.int p0), .val (.int p1), .val (.int p2), .val (.int p3), .val (.int ty), .val (.int pr), .val (.int bz), .val (.ref b5), .unset, .unset] [(.int ty), (.ref b11), (.ref b11)]))
          refine go (fun t kt' => by refine XS.iload X11.here hx rfl (hb hby at_86) rfl ?_; exact kt') ?_
          show Go p e below _ (T11.setTop (mkF m 88 #[.val (.int p0), .val (.int p1), .val (.int p2), .val (.int p3), .val (.int ty), .val (.int pr), .val (.int bz), .val (.ref b5), .unset, .unset] [(.int bz), (.int ty), (.ref b11), (.ref b11)]))
          refine go (fun t kt' => by refine XS.aload X11.here hx rfl (hb hby at_88) rfl rfl ?_; exact kt') ?_
          show Go p e below _ (T11.setTop (mkF m 90 #[.val (.int p0), .val (.int p1), .val (.int p2), .val (.int p3), .val (.int ty), .val (.int pr), .val (.int bz), .val (.ref b5), .unset, .unset] [(.ref b5), (.int bz), (.int ty), (.ref b11), (.ref b11)]))
          obtain ⟨_, _, ⟨T14, L14, k14, n14⟩, -, X14, ⟨Lc14, hQ14, l14, y14, z14⟩, st14⟩ := X11.specialBack hx (y := (⟨"org/keymoot/Attribute", "<init>", "(IZ[B)V"⟩ : MethodName)) rfl hown (mvT hZ (hw _ (List.mem_of_getElem? (i := 4) rfl))) (mvT hZ (hw _ (List.mem_of_getElem? (i := 5) rfl))) (mvT hZ (hw _ (List.mem_of_getElem? (i := 6) rfl))) (by decide) (backOf (W := 1) (rm1 l Z a0 hw [] b11 ty bz b5 1 fv10 h11 n0 f12_Z A11 n0_b11 F11_type F11_basic F11_value f13_A_b5 ne11_b5_b11 hty.1 hty.2 (fun q => absurd c48_4 q) (by decide)) hZ (hw _ (List.mem_of_getElem? (i := 6) rfl)) (hw _ (List.mem_of_getElem? (i := 3) rfl)) (by decide) (by decide)) (g := (mkF m 90 #[.val (.int p0), .val (.int p1), .val (.int p2), .val (.int p3), .val (.int ty), .val (.int pr), .val (.int bz), .val (.ref b5), .unset, .unset] [(.ref b5), (.int bz), (.int ty), (.ref b11), (.ref b11)])) rfl (by rw [hml]; rfl) (Steps.refl _) (a := b11) (argsL := [(.int ty), (.int bz), (.ref b5)]) (rest := [(.ref b11)]) (lenOf pd_1 rfl) rfl (by show 2 * 0 + _ ≤ _; exact Nat.le_of_eq rfl) (hb hby at_90) (fun _ _ => ⟨rfl, e11, (by decide : 2 + 0 ≤ _), (by decide : 4 + 0 ≤ _)⟩)
          dsimp only [Pt.U, Pt.locs, Pt.cells, Pt.slots] at X14 l14 y14 z14 st14 hQ14
          subst l14 y14 z14
          obtain ⟨rfl, N14q, K14, P14_0, P14_1⟩ := hQ14
          have N14 := Fr.app N7 N14q
          have f15_Z := Nat.le_trans f12_Z K14.1
          have f16_A_b5 := f13_A_b5.keep K14 (ninS ne11_b5_b11 nin0)
          refine go (fun t kt => st14.trans kt) ?_
          show Go p e below _ (T14.setTop (mkF m 93 #[.val (.int p0), .val (.int p1), .val (.int p2), .val (.int p3), .val (.int ty), .val (.int pr), .val (.int bz), .val (.ref b5), .unset, .unset] [(.ref b11)]))
          refine go (fun t kt' => by refine XS.astore X14.here hx rfl (hb hby at_93) rfl rfl (l' := #[.val (.int p0), .val (.int p1), .val (.int p2), .val (.int p3), .val (.int ty), .val (.int pr), .val (.int bz), .val (.ref b5), .val (.ref b11), .unset]) rfl ?_; exact kt') ?_
          show Go p e below _ (T14.setTop (mkF m 95 #[.val (.int p0), .val (.int p1), .val (.int p2), .val (.int p3), .val (.int ty), .val (.int pr), .val (.int bz), .val (.ref b5), .val (.ref b11), .unset] []))
          refine go (fun t kt' => by refine XS.iload X14.here hx rfl (hb hby at_95) rfl ?_; exact kt') ?_
          show Go p e below _ (T14.setTop (mkF m 97 #[.val (.int p0), .val (.int p1), .val (.int p2), .val (.int p3), .val (.int ty), .val (.int pr), .val (.int bz), .val (.ref b5), .val (.ref b11), .unset] [(.int pr)]))
          refine go (fun t kt' => by refine XS.iconst X14.here hx rfl (hb hby at_97) ?_; exact kt') ?_
          show Go p e below _ (T14.setTop (mkF m 98 #[.val (.int p0), .val (.int p1), .val (.int p2), .val (.int p3), .val (.int ty), .val (.int pr), .val (.int bz), .val (.ref b5), .val (.ref b11), .unset] [(.int (1 : Int32)), (.int pr)]))
          by_cases c98_17 : ¬ pr = (1 : Int32)
          · skip
            refine go (fun t kt' => by refine XS.icmpYes X14.here hx rfl (pc0 := 98) (pc' := 125) rfl (hb hby at_98) rfl (feq c98_17).2 (by decide) (by decide) ?_; exact kt') ?_
            show Go p e below _ (T14.setTop (mkF m 125 #[.val (.int p0), .val (.int p1), .val (.int p2), .val (.int p3), .val (.int ty), .val (.int pr), .val (.int bz), .val (.ref b5), .val (.ref b11), .unset] []))
            refine go (fun t kt' => by refine XS.iload X14.here hx rfl (hb hby at_125) rfl ?_; exact kt') ?_
            show Go p e below _ (T14.setTop (mkF m 127 #[.val (.int p0), .val (.int p1), .val (.int p2), .val (.int p3), .val (.int ty), .val (.int pr), .val (.int bz), .val (.ref b5), .val (.ref b11), .unset] [(.int ty)]))
            refine go (fun t kt' => by refine XS.iconst X14.here hx rfl (hb hby at_127) ?_; exact kt') ?_
            show Go p e below _ (T14.setTop (mkF m 128 #[.val (.int p0), .val (.int p1), .val (.int p2), .val (.int p3), .val (.int ty), .val (.int pr), .val (.int bz), .val (.ref b5), .val (.ref b11), .unset] [(.int (1 : Int32)), (.int ty)]))
            by_cases c128_18 : ty = (1 : Int32)
            · skip
              refine go (fun t kt' => by refine XS.icmpYes X14.here hx rfl (pc0 := 128) (pc' := 137) rfl (hb hby at_128) rfl (teq c128_18).1 (by decide) (by decide) ?_; exact kt') ?_
              show Go p e below _ (T14.setTop (mkF m 137 #[.val (.int p0), .val (.int p1), .val (.int p2), .val (.int p3), .val (.int ty), .val (.int pr), .val (.int bz), .val (.ref b5), .val (.ref b11), .unset] []))
              refine go (fun t kt' => by refine XS.iconst X14.here hx rfl (hb hby at_137) ?_; exact kt') ?_
              show Go p e below _ (T14.setTop (mkF m 138 #[.val (.int p0), .val (.int p1), .val (.int p2), .val (.int p3), .val (.int ty), .val (.int pr), .val (.int bz), .val (.ref b5), .val (.ref b11), .unset] [(.int (1 : Int32))]))
              refine go (fun t kt' => by refine XS.goto X14.here hx rfl (pc0 := 138) (pc' := 142) rfl (hb hby at_138) (by decide) (by decide) ?_; exact kt') ?_
              show Go p e below _ (T14.setTop (mkF m 142 #[.val (.int p0), .val (.int p1), .val (.int p2), .val (.int p3), .val (.int ty), .val (.int pr), .val (.int bz), .val (.ref b5), .val (.ref b11), .unset] [(.int (1 : Int32))]))
              refine go (fun t kt' => by refine XS.istore X14.here hx rfl (hb hby at_142) rfl (l' := #[.val (.int p0), .val (.int p1), .val (.int p2), .val (.int p3), .val (.int ty), .val (.int pr), .val (.int bz), .val (.ref b5), .val (.ref b11), .val (.int (1 : Int32))]) rfl ?_; exact kt') ?_
              show Go p e below _ (T14.setTop (mkF m 144 #[.val (.int p0), .val (.int p1), .val (.int p2), .val (.int p3), .val (.int ty), .val (.int pr), .val (.int bz), .val (.ref b5), .val (.ref b11), .val (.int (1 : Int32))] []))
              refine go (fun t kt' => by refine XS.aload X14.here hx rfl (hb hby at_144) rfl rfl ?_; exact kt') ?_
              show Go p e below _ (T14.setTop (mkF m 146 #[.val (.int p0), .val (.int p1), .val (.int p2), .val (.int p3), .val (.int ty), .val (.int pr), .val (.int bz), .val (.ref b5), .val (.ref b11), .val (.int (1 : Int32))] [(.ref b11)]))
              refine go (fun t kt' => by refine XS.iload X14.here hx rfl (hb hby at_146) rfl ?_; exact kt') ?_
              show Go p e below _ (T14.setTop (mkF m 148 #[.val (.int p0), .val (.int p1), .val (.int p2), .val (.int p3), .val (.int ty), .val (.int pr), .val (.int bz), .val (.ref b5), .val (.ref b11), .val (.int (1 : Int32))] [(.int pr), (.ref b11)]))
              obtain ⟨cq19, kq19, q19a, q19b, q19c⟩ := isOf hZ rfl P14_0
              obtain ⟨_, _, ⟨T19, L19, k19, n19⟩, -, X19, ⟨Lc19, hQ19, l19, y19, z19⟩, st19⟩ := X14.virtualBack hx (y := (⟨"org/keymoot/Attribute", "isLife", "(I)Z"⟩ : MethodName)) (z := (⟨"org/keymoot/Attribute", "isLife", "(I)Z"⟩ : MethodName)) hown (mvT hZ (hw _ (List.mem_of_getElem? (i := 23) rfl))) (mvT hZ (hw _ (List.mem_of_getElem? (i := 24) rfl))) (notFace_of_selects (args := #[]) (mvT hZ (hw _ (List.mem_of_getElem? (i := 26) rfl)))) (mvT hZ (hw _ (List.mem_of_getElem? (i := 26) rfl))) (mvT hZ (hw _ (List.mem_of_getElem? (i := 25) rfl))) (by decide) (backOf (W := 0) (rm4 l Z a0 hw [] b11 pr ty T14.heap n0 f15_Z P14_0 P14_1) hZ (hw _ (List.mem_of_getElem? (i := 27) rfl)) (hw _ (List.mem_of_getElem? (i := 3) rfl)) (by decide) (by decide)) q19a q19c (g := (mkF m 148 #[.val (.int p0), .val (.int p1), .val (.int p2), .val (.int p3), .val (.int ty), .val (.int pr), .val (.int bz), .val (.ref b5), .val (.ref b11), .val (.int (1 : Int32))] [(.int pr), (.ref b11)])) rfl (by rw [hml]; rfl) (Steps.refl _) (argsL := [(.int pr)]) (rest := []) (lenOf pd_2 rfl) rfl (by show 2 * 0 + _ ≤ _; exact Nat.le_of_eq rfl) (hb hby at_148) (fun _ _ => ⟨rfl, rfl, (by decide : 2 + 0 ≤ _), (by decide : 4 + 0 ≤ _)⟩)
              dsimp only [Pt.U, Pt.locs, Pt.cells, Pt.slots] at X19 l19 y19 z19 st19 hQ19
              subst l19 y19 z19
              obtain ⟨rfl, N19q, e19⟩ := hQ19
              have N19 := Fr.app N14 N19q
              refine go (fun t kt => st19.trans kt) ?_
              show Go p e below _ (T19.setTop (mkF m 151 #[.val (.int p0), .val (.int p1), .val (.int p2), .val (.int p3), .val (.int ty), .val (.int pr), .val (.int bz), .val (.ref b5), .val (.ref b11), .val (.int (1 : Int32))] [(.int (own_il ty pr))]))
              refine go (fun t kt' => by refine XS.iload X19.here hx rfl (hb hby at_151) rfl ?_; exact kt') ?_
              show Go p e below _ (T19.setTop (mkF m 153 #[.val (.int p0), .val (.int p1), .val (.int p2), .val (.int p3), .val (.int ty), .val (.int pr), .val (.int bz), .val (.ref b5), .val (.ref b11), .val (.int (1 : Int32))] [(.int (1 : Int32)), (.int (own_il ty pr))]))
              have c153_20 : ¬ (¬ (own_il ty pr) = (1 : Int32)) := not_not_intro (by simp [own_il, c98_17, c128_18])
              refine go (fun t kt' => by refine XS.icmpNo X19.here hx rfl (hb hby at_153) rfl (teq (Decidable.not_not.mp c153_20)).2 ?_; exact kt') ?_
              show Go p e below _ (T19.setTop (mkF m 156 #[.val (.int p0), .val (.int p1), .val (.int p2), .val (.int p3), .val (.int ty), .val (.int pr), .val (.int bz), .val (.ref b5), .val (.ref b11), .val (.int (1 : Int32))] []))
              refine go (fun t kt' => by refine XS.iconst X19.here hx rfl (hb hby at_156) ?_; exact kt') ?_
              show Go p e below _ (T19.setTop (mkF m 157 #[.val (.int p0), .val (.int p1), .val (.int p2), .val (.int p3), .val (.int ty), .val (.int pr), .val (.int bz), .val (.ref b5), .val (.ref b11), .val (.int (1 : Int32))] [(.int (1 : Int32))]))
              refine go (fun t kt' => by refine XS.goto X19.here hx rfl (pc0 := 157) (pc' := 161) rfl (hb hby at_157) (by decide) (by decide) ?_; exact kt') ?_
              show Go p e below _ (T19.setTop (mkF m 161 #[.val (.int p0), .val (.int p1), .val (.int p2), .val (.int p3), .val (.int ty), .val (.int pr), .val (.int bz), .val (.ref b5), .val (.ref b11), .val (.int (1 : Int32))] [(.int (1 : Int32))]))
              refine goOut X19 (fun h => by rw [Bd.returns] at h; cases h) hlk (fun fs hr => retN X19 hx (t := .boolean) Bd.returns (by simp) (hb hby at_161) hr) (by decide) (by decide) ?_
              rw [e19]
              exact ⟨rfl, N19⟩
            · skip
              refine go (fun t kt' => by refine XS.icmpNo X14.here hx rfl (hb hby at_128) rfl (feq c128_18).1 ?_; exact kt') ?_
              show Go p e below _ (T14.setTop (mkF m 131 #[.val (.int p0), .val (.int p1), .val (.int p2), .val (.int p3), .val (.int ty), .val (.int pr), .val (.int bz), .val (.ref b5), .val (.ref b11), .unset] []))
              refine go (fun t kt' => by refine XS.iload X14.here hx rfl (hb hby at_131) rfl ?_; exact kt') ?_
              show Go p e below _ (T14.setTop (mkF m 133 #[.val (.int p0), .val (.int p1), .val (.int p2), .val (.int p3), .val (.int ty), .val (.int pr), .val (.int bz), .val (.ref b5), .val (.ref b11), .unset] [(.int ty)]))
              refine go (fun t kt' => by refine XS.iconst X14.here hx rfl (hb hby at_133) ?_; exact kt') ?_
              show Go p e below _ (T14.setTop (mkF m 134 #[.val (.int p0), .val (.int p1), .val (.int p2), .val (.int p3), .val (.int ty), .val (.int pr), .val (.int bz), .val (.ref b5), .val (.ref b11), .unset] [(.int (2 : Int32)), (.int ty)]))
              by_cases c134_21 : ¬ ty = (2 : Int32)
              · skip
                refine go (fun t kt' => by refine XS.icmpYes X14.here hx rfl (pc0 := 134) (pc' := 141) rfl (hb hby at_134) rfl (feq c134_21).2 (by decide) (by decide) ?_; exact kt') ?_
                show Go p e below _ (T14.setTop (mkF m 141 #[.val (.int p0), .val (.int p1), .val (.int p2), .val (.int p3), .val (.int ty), .val (.int pr), .val (.int bz), .val (.ref b5), .val (.ref b11), .unset] []))
                refine go (fun t kt' => by refine XS.iconst X14.here hx rfl (hb hby at_141) ?_; exact kt') ?_
                show Go p e below _ (T14.setTop (mkF m 142 #[.val (.int p0), .val (.int p1), .val (.int p2), .val (.int p3), .val (.int ty), .val (.int pr), .val (.int bz), .val (.ref b5), .val (.ref b11), .unset] [(.int (0 : Int32))]))
                refine go (fun t kt' => by refine XS.istore X14.here hx rfl (hb hby at_142) rfl (l' := #[.val (.int p0), .val (.int p1), .val (.int p2), .val (.int p3), .val (.int ty), .val (.int pr), .val (.int bz), .val (.ref b5), .val (.ref b11), .val (.int (0 : Int32))]) rfl ?_; exact kt') ?_
                show Go p e below _ (T14.setTop (mkF m 144 #[.val (.int p0), .val (.int p1), .val (.int p2), .val (.int p3), .val (.int ty), .val (.int pr), .val (.int bz), .val (.ref b5), .val (.ref b11), .val (.int (0 : Int32))] []))
                refine go (fun t kt' => by refine XS.aload X14.here hx rfl (hb hby at_144) rfl rfl ?_; exact kt') ?_
                show Go p e below _ (T14.setTop (mkF m 146 #[.val (.int p0), .val (.int p1), .val (.int p2), .val (.int p3), .val (.int ty), .val (.int pr), .val (.int bz), .val (.ref b5), .val (.ref b11), .val (.int (0 : Int32))] [(.ref b11)]))
                refine go (fun t kt' => by refine XS.iload X14.here hx rfl (hb hby at_146) rfl ?_; exact kt') ?_
                show Go p e below _ (T14.setTop (mkF m 148 #[.val (.int p0), .val (.int p1), .val (.int p2), .val (.int p3), .val (.int ty), .val (.int pr), .val (.int bz), .val (.ref b5), .val (.ref b11), .val (.int (0 : Int32))] [(.int pr), (.ref b11)]))
                obtain ⟨cq22, kq22, q22a, q22b, q22c⟩ := isOf hZ rfl P14_0
                obtain ⟨_, _, ⟨T22, L22, k22, n22⟩, -, X22, ⟨Lc22, hQ22, l22, y22, z22⟩, st22⟩ := X14.virtualBack hx (y := (⟨"org/keymoot/Attribute", "isLife", "(I)Z"⟩ : MethodName)) (z := (⟨"org/keymoot/Attribute", "isLife", "(I)Z"⟩ : MethodName)) hown (mvT hZ (hw _ (List.mem_of_getElem? (i := 23) rfl))) (mvT hZ (hw _ (List.mem_of_getElem? (i := 24) rfl))) (notFace_of_selects (args := #[]) (mvT hZ (hw _ (List.mem_of_getElem? (i := 26) rfl)))) (mvT hZ (hw _ (List.mem_of_getElem? (i := 26) rfl))) (mvT hZ (hw _ (List.mem_of_getElem? (i := 25) rfl))) (by decide) (backOf (W := 0) (rm4 l Z a0 hw [] b11 pr ty T14.heap n0 f15_Z P14_0 P14_1) hZ (hw _ (List.mem_of_getElem? (i := 27) rfl)) (hw _ (List.mem_of_getElem? (i := 3) rfl)) (by decide) (by decide)) q22a q22c (g := (mkF m 148 #[.val (.int p0), .val (.int p1), .val (.int p2), .val (.int p3), .val (.int ty), .val (.int pr), .val (.int bz), .val (.ref b5), .val (.ref b11), .val (.int (0 : Int32))] [(.int pr), (.ref b11)])) rfl (by rw [hml]; rfl) (Steps.refl _) (argsL := [(.int pr)]) (rest := []) (lenOf pd_2 rfl) rfl (by show 2 * 0 + _ ≤ _; exact Nat.le_of_eq rfl) (hb hby at_148) (fun _ _ => ⟨rfl, rfl, (by decide : 2 + 0 ≤ _), (by decide : 4 + 0 ≤ _)⟩)
                dsimp only [Pt.U, Pt.locs, Pt.cells, Pt.slots] at X22 l22 y22 z22 st22 hQ22
                subst l22 y22 z22
                obtain ⟨rfl, N22q, e22⟩ := hQ22
                have N22 := Fr.app N14 N22q
                refine go (fun t kt => st22.trans kt) ?_
                show Go p e below _ (T22.setTop (mkF m 151 #[.val (.int p0), .val (.int p1), .val (.int p2), .val (.int p3), .val (.int ty), .val (.int pr), .val (.int bz), .val (.ref b5), .val (.ref b11), .val (.int (0 : Int32))] [(.int (own_il ty pr))]))
                refine go (fun t kt' => by refine XS.iload X22.here hx rfl (hb hby at_151) rfl ?_; exact kt') ?_
                show Go p e below _ (T22.setTop (mkF m 153 #[.val (.int p0), .val (.int p1), .val (.int p2), .val (.int p3), .val (.int ty), .val (.int pr), .val (.int bz), .val (.ref b5), .val (.ref b11), .val (.int (0 : Int32))] [(.int (0 : Int32)), (.int (own_il ty pr))]))
                have c153_23 : ¬ (¬ (own_il ty pr) = (0 : Int32)) := not_not_intro (by simp [own_il, c98_17, c128_18, c134_21])
                refine go (fun t kt' => by refine XS.icmpNo X22.here hx rfl (hb hby at_153) rfl (teq (Decidable.not_not.mp c153_23)).2 ?_; exact kt') ?_
                show Go p e below _ (T22.setTop (mkF m 156 #[.val (.int p0), .val (.int p1), .val (.int p2), .val (.int p3), .val (.int ty), .val (.int pr), .val (.int bz), .val (.ref b5), .val (.ref b11), .val (.int (0 : Int32))] []))
                refine go (fun t kt' => by refine XS.iconst X22.here hx rfl (hb hby at_156) ?_; exact kt') ?_
                show Go p e below _ (T22.setTop (mkF m 157 #[.val (.int p0), .val (.int p1), .val (.int p2), .val (.int p3), .val (.int ty), .val (.int pr), .val (.int bz), .val (.ref b5), .val (.ref b11), .val (.int (0 : Int32))] [(.int (1 : Int32))]))
                refine go (fun t kt' => by refine XS.goto X22.here hx rfl (pc0 := 157) (pc' := 161) rfl (hb hby at_157) (by decide) (by decide) ?_; exact kt') ?_
                show Go p e below _ (T22.setTop (mkF m 161 #[.val (.int p0), .val (.int p1), .val (.int p2), .val (.int p3), .val (.int ty), .val (.int pr), .val (.int bz), .val (.ref b5), .val (.ref b11), .val (.int (0 : Int32))] [(.int (1 : Int32))]))
                refine goOut X22 (fun h => by rw [Bd.returns] at h; cases h) hlk (fun fs hr => retN X22 hx (t := .boolean) Bd.returns (by simp) (hb hby at_161) hr) (by decide) (by decide) ?_
                rw [e22]
                exact ⟨rfl, N22⟩
              · skip
                refine go (fun t kt' => by refine XS.icmpNo X14.here hx rfl (hb hby at_134) rfl (teq (Decidable.not_not.mp c134_21)).2 ?_; exact kt') ?_
                show Go p e below _ (T14.setTop (mkF m 137 #[.val (.int p0), .val (.int p1), .val (.int p2), .val (.int p3), .val (.int ty), .val (.int pr), .val (.int bz), .val (.ref b5), .val (.ref b11), .unset] []))
                refine go (fun t kt' => by refine XS.iconst X14.here hx rfl (hb hby at_137) ?_; exact kt') ?_
                show Go p e below _ (T14.setTop (mkF m 138 #[.val (.int p0), .val (.int p1), .val (.int p2), .val (.int p3), .val (.int ty), .val (.int pr), .val (.int bz), .val (.ref b5), .val (.ref b11), .unset] [(.int (1 : Int32))]))
                refine go (fun t kt' => by refine XS.goto X14.here hx rfl (pc0 := 138) (pc' := 142) rfl (hb hby at_138) (by decide) (by decide) ?_; exact kt') ?_
                show Go p e below _ (T14.setTop (mkF m 142 #[.val (.int p0), .val (.int p1), .val (.int p2), .val (.int p3), .val (.int ty), .val (.int pr), .val (.int bz), .val (.ref b5), .val (.ref b11), .unset] [(.int (1 : Int32))]))
                refine go (fun t kt' => by refine XS.istore X14.here hx rfl (hb hby at_142) rfl (l' := #[.val (.int p0), .val (.int p1), .val (.int p2), .val (.int p3), .val (.int ty), .val (.int pr), .val (.int bz), .val (.ref b5), .val (.ref b11), .val (.int (1 : Int32))]) rfl ?_; exact kt') ?_
                show Go p e below _ (T14.setTop (mkF m 144 #[.val (.int p0), .val (.int p1), .val (.int p2), .val (.int p3), .val (.int ty), .val (.int pr), .val (.int bz), .val (.ref b5), .val (.ref b11), .val (.int (1 : Int32))] []))
                refine go (fun t kt' => by refine XS.aload X14.here hx rfl (hb hby at_144) rfl rfl ?_; exact kt') ?_
                show Go p e below _ (T14.setTop (mkF m 146 #[.val (.int p0), .val (.int p1), .val (.int p2), .val (.int p3), .val (.int ty), .val (.int pr), .val (.int bz), .val (.ref b5), .val (.ref b11), .val (.int (1 : Int32))] [(.ref b11)]))
                refine go (fun t kt' => by refine XS.iload X14.here hx rfl (hb hby at_146) rfl ?_; exact kt') ?_
                show Go p e below _ (T14.setTop (mkF m 148 #[.val (.int p0), .val (.int p1), .val (.int p2), .val (.int p3), .val (.int ty), .val (.int pr), .val (.int bz), .val (.ref b5), .val (.ref b11), .val (.int (1 : Int32))] [(.int pr), (.ref b11)]))
                obtain ⟨cq24, kq24, q24a, q24b, q24c⟩ := isOf hZ rfl P14_0
                obtain ⟨_, _, ⟨T24, L24, k24, n24⟩, -, X24, ⟨Lc24, hQ24, l24, y24, z24⟩, st24⟩ := X14.virtualBack hx (y := (⟨"org/keymoot/Attribute", "isLife", "(I)Z"⟩ : MethodName)) (z := (⟨"org/keymoot/Attribute", "isLife", "(I)Z"⟩ : MethodName)) hown (mvT hZ (hw _ (List.mem_of_getElem? (i := 23) rfl))) (mvT hZ (hw _ (List.mem_of_getElem? (i := 24) rfl))) (notFace_of_selects (args := #[]) (mvT hZ (hw _ (List.mem_of_getElem? (i := 26) rfl)))) (mvT hZ (hw _ (List.mem_of_getElem? (i := 26) rfl))) (mvT hZ (hw _ (List.mem_of_getElem? (i := 25) rfl))) (by decide) (backOf (W := 0) (rm4 l Z a0 hw [] b11 pr ty T14.heap n0 f15_Z P14_0 P14_1) hZ (hw _ (List.mem_of_getElem? (i := 27) rfl)) (hw _ (List.mem_of_getElem? (i := 3) rfl)) (by decide) (by decide)) q24a q24c (g := (mkF m 148 #[.val (.int p0), .val (.int p1), .val (.int p2), .val (.int p3), .val (.int ty), .val (.int pr), .val (.int bz), .val (.ref b5), .val (.ref b11), .val (.int (1 : Int32))] [(.int pr), (.ref b11)])) rfl (by rw [hml]; rfl) (Steps.refl _) (argsL := [(.int pr)]) (rest := []) (lenOf pd_2 rfl) rfl (by show 2 * 0 + _ ≤ _; exact Nat.le_of_eq rfl) (hb hby at_148) (fun _ _ => ⟨rfl, rfl, (by decide : 2 + 0 ≤ _), (by decide : 4 + 0 ≤ _)⟩)
                dsimp only [Pt.U, Pt.locs, Pt.cells, Pt.slots] at X24 l24 y24 z24 st24 hQ24
                subst l24 y24 z24
                obtain ⟨rfl, N24q, e24⟩ := hQ24
                have N24 := Fr.app N14 N24q
                refine go (fun t kt => st24.trans kt) ?_
                show Go p e below _ (T24.setTop (mkF m 151 #[.val (.int p0), .val (.int p1), .val (.int p2), .val (.int p3), .val (.int ty), .val (.int pr), .val (.int bz), .val (.ref b5), .val (.ref b11), .val (.int (1 : Int32))] [(.int (own_il ty pr))]))
                refine go (fun t kt' => by refine XS.iload X24.here hx rfl (hb hby at_151) rfl ?_; exact kt') ?_
                show Go p e below _ (T24.setTop (mkF m 153 #[.val (.int p0), .val (.int p1), .val (.int p2), .val (.int p3), .val (.int ty), .val (.int pr), .val (.int bz), .val (.ref b5), .val (.ref b11), .val (.int (1 : Int32))] [(.int (1 : Int32)), (.int (own_il ty pr))]))
                have c153_25 : ¬ (¬ (own_il ty pr) = (1 : Int32)) := not_not_intro (by simp [own_il, c98_17, c128_18, Decidable.not_not.mp c134_21])
                refine go (fun t kt' => by refine XS.icmpNo X24.here hx rfl (hb hby at_153) rfl (teq (Decidable.not_not.mp c153_25)).2 ?_; exact kt') ?_
                show Go p e below _ (T24.setTop (mkF m 156 #[.val (.int p0), .val (.int p1), .val (.int p2), .val (.int p3), .val (.int ty), .val (.int pr), .val (.int bz), .val (.ref b5), .val (.ref b11), .val (.int (1 : Int32))] []))
                refine go (fun t kt' => by refine XS.iconst X24.here hx rfl (hb hby at_156) ?_; exact kt') ?_
                show Go p e below _ (T24.setTop (mkF m 157 #[.val (.int p0), .val (.int p1), .val (.int p2), .val (.int p3), .val (.int ty), .val (.int pr), .val (.int bz), .val (.ref b5), .val (.ref b11), .val (.int (1 : Int32))] [(.int (1 : Int32))]))
                refine go (fun t kt' => by refine XS.goto X24.here hx rfl (pc0 := 157) (pc' := 161) rfl (hb hby at_157) (by decide) (by decide) ?_; exact kt') ?_
                show Go p e below _ (T24.setTop (mkF m 161 #[.val (.int p0), .val (.int p1), .val (.int p2), .val (.int p3), .val (.int ty), .val (.int pr), .val (.int bz), .val (.ref b5), .val (.ref b11), .val (.int (1 : Int32))] [(.int (1 : Int32))]))
                refine goOut X24 (fun h => by rw [Bd.returns] at h; cases h) hlk (fun fs hr => retN X24 hx (t := .boolean) Bd.returns (by simp) (hb hby at_161) hr) (by decide) (by decide) ?_
                rw [e24]
                exact ⟨rfl, N24⟩
          · skip
            refine go (fun t kt' => by refine XS.icmpNo X14.here hx rfl (hb hby at_98) rfl (teq (Decidable.not_not.mp c98_17)).2 ?_; exact kt') ?_
            show Go p e below _ (T14.setTop (mkF m 101 #[.val (.int p0), .val (.int p1), .val (.int p2), .val (.int p3), .val (.int ty), .val (.int pr), .val (.int bz), .val (.ref b5), .val (.ref b11), .unset] []))
            refine go (fun t kt' => by refine XS.iload X14.here hx rfl (hb hby at_101) rfl ?_; exact kt') ?_
            show Go p e below _ (T14.setTop (mkF m 103 #[.val (.int p0), .val (.int p1), .val (.int p2), .val (.int p3), .val (.int ty), .val (.int pr), .val (.int bz), .val (.ref b5), .val (.ref b11), .unset] [(.int ty)]))
            refine go (fun t kt' => by refine XS.bipush X14.here hx rfl (hb hby at_103) ?_; exact kt') ?_
            show Go p e below _ (T14.setTop (mkF m 105 #[.val (.int p0), .val (.int p1), .val (.int p2), .val (.int p3), .val (.int ty), .val (.int pr), .val (.int bz), .val (.ref b5), .val (.ref b11), .unset] [(.int (11 : Int32)), (.int ty)]))
            by_cases c105_26 : ty = (11 : Int32)
            · skip
              refine go (fun t kt' => by refine XS.icmpYes X14.here hx rfl (pc0 := 105) (pc' := 115) rfl (hb hby at_105) rfl (teq c105_26).1 (by decide) (by decide) ?_; exact kt') ?_
              show Go p e below _ (T14.setTop (mkF m 115 #[.val (.int p0), .val (.int p1), .val (.int p2), .val (.int p3), .val (.int ty), .val (.int pr), .val (.int bz), .val (.ref b5), .val (.ref b11), .unset] []))
              refine go (fun t kt' => by refine XS.iconst X14.here hx rfl (hb hby at_115) ?_; exact kt') ?_
              show Go p e below _ (T14.setTop (mkF m 116 #[.val (.int p0), .val (.int p1), .val (.int p2), .val (.int p3), .val (.int ty), .val (.int pr), .val (.int bz), .val (.ref b5), .val (.ref b11), .unset] [(.int (1 : Int32))]))
              refine go (fun t kt' => by refine XS.goto X14.here hx rfl (pc0 := 116) (pc' := 120) rfl (hb hby at_116) (by decide) (by decide) ?_; exact kt') ?_
              show Go p e below _ (T14.setTop (mkF m 120 #[.val (.int p0), .val (.int p1), .val (.int p2), .val (.int p3), .val (.int ty), .val (.int pr), .val (.int bz), .val (.ref b5), .val (.ref b11), .unset] [(.int (1 : Int32))]))
              refine go (fun t kt' => by refine XS.istore X14.here hx rfl (hb hby at_120) rfl (l' := #[.val (.int p0), .val (.int p1), .val (.int p2), .val (.int p3), .val (.int ty), .val (.int pr), .val (.int bz), .val (.ref b5), .val (.ref b11), .val (.int (1 : Int32))]) rfl ?_; exact kt') ?_
              show Go p e below _ (T14.setTop (mkF m 122 #[.val (.int p0), .val (.int p1), .val (.int p2), .val (.int p3), .val (.int ty), .val (.int pr), .val (.int bz), .val (.ref b5), .val (.ref b11), .val (.int (1 : Int32))] []))
              refine go (fun t kt' => by refine XS.goto X14.here hx rfl (pc0 := 122) (pc' := 144) rfl (hb hby at_122) (by decide) (by decide) ?_; exact kt') ?_
              show Go p e below _ (T14.setTop (mkF m 144 #[.val (.int p0), .val (.int p1), .val (.int p2), .val (.int p3), .val (.int ty), .val (.int pr), .val (.int bz), .val (.ref b5), .val (.ref b11), .val (.int (1 : Int32))] []))
              refine go (fun t kt' => by refine XS.aload X14.here hx rfl (hb hby at_144) rfl rfl ?_; exact kt') ?_
              show Go p e below _ (T14.setTop (mkF m 146 #[.val (.int p0), .val (.int p1), .val (.int p2), .val (.int p3), .val (.int ty), .val (.int pr), .val (.int bz), .val (.ref b5), .val (.ref b11), .val (.int (1 : Int32))] [(.ref b11)]))
              refine go (fun t kt' => by refine XS.iload X14.here hx rfl (hb hby at_146) rfl ?_; exact kt') ?_
              show Go p e below _ (T14.setTop (mkF m 148 #[.val (.int p0), .val (.int p1), .val (.int p2), .val (.int p3), .val (.int ty), .val (.int pr), .val (.int bz), .val (.ref b5), .val (.ref b11), .val (.int (1 : Int32))] [(.int pr), (.ref b11)]))
              obtain ⟨cq27, kq27, q27a, q27b, q27c⟩ := isOf hZ rfl P14_0
              obtain ⟨_, _, ⟨T27, L27, k27, n27⟩, -, X27, ⟨Lc27, hQ27, l27, y27, z27⟩, st27⟩ := X14.virtualBack hx (y := (⟨"org/keymoot/Attribute", "isLife", "(I)Z"⟩ : MethodName)) (z := (⟨"org/keymoot/Attribute", "isLife", "(I)Z"⟩ : MethodName)) hown (mvT hZ (hw _ (List.mem_of_getElem? (i := 23) rfl))) (mvT hZ (hw _ (List.mem_of_getElem? (i := 24) rfl))) (notFace_of_selects (args := #[]) (mvT hZ (hw _ (List.mem_of_getElem? (i := 26) rfl)))) (mvT hZ (hw _ (List.mem_of_getElem? (i := 26) rfl))) (mvT hZ (hw _ (List.mem_of_getElem? (i := 25) rfl))) (by decide) (backOf (W := 0) (rm4 l Z a0 hw [] b11 pr ty T14.heap n0 f15_Z P14_0 P14_1) hZ (hw _ (List.mem_of_getElem? (i := 27) rfl)) (hw _ (List.mem_of_getElem? (i := 3) rfl)) (by decide) (by decide)) q27a q27c (g := (mkF m 148 #[.val (.int p0), .val (.int p1), .val (.int p2), .val (.int p3), .val (.int ty), .val (.int pr), .val (.int bz), .val (.ref b5), .val (.ref b11), .val (.int (1 : Int32))] [(.int pr), (.ref b11)])) rfl (by rw [hml]; rfl) (Steps.refl _) (argsL := [(.int pr)]) (rest := []) (lenOf pd_2 rfl) rfl (by show 2 * 0 + _ ≤ _; exact Nat.le_of_eq rfl) (hb hby at_148) (fun _ _ => ⟨rfl, rfl, (by decide : 2 + 0 ≤ _), (by decide : 4 + 0 ≤ _)⟩)
              dsimp only [Pt.U, Pt.locs, Pt.cells, Pt.slots] at X27 l27 y27 z27 st27 hQ27
              subst l27 y27 z27
              obtain ⟨rfl, N27q, e27⟩ := hQ27
              have N27 := Fr.app N14 N27q
              refine go (fun t kt => st27.trans kt) ?_
              show Go p e below _ (T27.setTop (mkF m 151 #[.val (.int p0), .val (.int p1), .val (.int p2), .val (.int p3), .val (.int ty), .val (.int pr), .val (.int bz), .val (.ref b5), .val (.ref b11), .val (.int (1 : Int32))] [(.int (own_il ty pr))]))
              refine go (fun t kt' => by refine XS.iload X27.here hx rfl (hb hby at_151) rfl ?_; exact kt') ?_
              show Go p e below _ (T27.setTop (mkF m 153 #[.val (.int p0), .val (.int p1), .val (.int p2), .val (.int p3), .val (.int ty), .val (.int pr), .val (.int bz), .val (.ref b5), .val (.ref b11), .val (.int (1 : Int32))] [(.int (1 : Int32)), (.int (own_il ty pr))]))
              have c153_28 : ¬ (¬ (own_il ty pr) = (1 : Int32)) := not_not_intro (by simp [own_il, Decidable.not_not.mp c98_17, c105_26])
              refine go (fun t kt' => by refine XS.icmpNo X27.here hx rfl (hb hby at_153) rfl (teq (Decidable.not_not.mp c153_28)).2 ?_; exact kt') ?_
              show Go p e below _ (T27.setTop (mkF m 156 #[.val (.int p0), .val (.int p1), .val (.int p2), .val (.int p3), .val (.int ty), .val (.int pr), .val (.int bz), .val (.ref b5), .val (.ref b11), .val (.int (1 : Int32))] []))
              refine go (fun t kt' => by refine XS.iconst X27.here hx rfl (hb hby at_156) ?_; exact kt') ?_
              show Go p e below _ (T27.setTop (mkF m 157 #[.val (.int p0), .val (.int p1), .val (.int p2), .val (.int p3), .val (.int ty), .val (.int pr), .val (.int bz), .val (.ref b5), .val (.ref b11), .val (.int (1 : Int32))] [(.int (1 : Int32))]))
              refine go (fun t kt' => by refine XS.goto X27.here hx rfl (pc0 := 157) (pc' := 161) rfl (hb hby at_157) (by decide) (by decide) ?_; exact kt') ?_
              show Go p e below _ (T27.setTop (mkF m 161 #[.val (.int p0), .val (.int p1), .val (.int p2), .val (.int p3), .val (.int ty), .val (.int pr), .val (.int bz), .val (.ref b5), .val (.ref b11), .val (.int (1 : Int32))] [(.int (1 : Int32))]))
              refine goOut X27 (fun h => by rw [Bd.returns] at h; cases h) hlk (fun fs hr => retN X27 hx (t := .boolean) Bd.returns (by simp) (hb hby at_161) hr) (by decide) (by decide) ?_
              rw [e27]
              exact ⟨rfl, N27⟩
            · skip
              refine go (fun t kt' => by refine XS.icmpNo X14.here hx rfl (hb hby at_105) rfl (feq c105_26).1 ?_; exact kt') ?_
              show Go p e below _ (T14.setTop (mkF m 108 #[.val (.int p0), .val (.int p1), .val (.int p2), .val (.int p3), .val (.int ty), .val (.int pr), .val (.int bz), .val (.ref b5), .val (.ref b11), .unset] []))
              refine go (fun t kt' => by refine XS.iload X14.here hx rfl (hb hby at_108) rfl ?_; exact kt') ?_
              show Go p e below _ (T14.setTop (mkF m 110 #[.val (.int p0), .val (.int p1), .val (.int p2), .val (.int p3), .val (.int ty), .val (.int pr), .val (.int bz), .val (.ref b5), .val (.ref b11), .unset] [(.int ty)]))
              refine go (fun t kt' => by refine XS.bipush X14.here hx rfl (hb hby at_110) ?_; exact kt') ?_
              show Go p e below _ (T14.setTop (mkF m 112 #[.val (.int p0), .val (.int p1), .val (.int p2), .val (.int p3), .val (.int ty), .val (.int pr), .val (.int bz), .val (.ref b5), .val (.ref b11), .unset] [(.int (12 : Int32)), (.int ty)]))
              by_cases c112_29 : ¬ ty = (12 : Int32)
              · skip
                refine go (fun t kt' => by refine XS.icmpYes X14.here hx rfl (pc0 := 112) (pc' := 119) rfl (hb hby at_112) rfl (feq c112_29).2 (by decide) (by decide) ?_; exact kt') ?_
                show Go p e below _ (T14.setTop (mkF m 119 #[.val (.int p0), .val (.int p1), .val (.int p2), .val (.int p3), .val (.int ty), .val (.int pr), .val (.int bz), .val (.ref b5), .val (.ref b11), .unset] []))
                refine go (fun t kt' => by refine XS.iconst X14.here hx rfl (hb hby at_119) ?_; exact kt') ?_
                show Go p e below _ (T14.setTop (mkF m 120 #[.val (.int p0), .val (.int p1), .val (.int p2), .val (.int p3), .val (.int ty), .val (.int pr), .val (.int bz), .val (.ref b5), .val (.ref b11), .unset] [(.int (0 : Int32))]))
                refine go (fun t kt' => by refine XS.istore X14.here hx rfl (hb hby at_120) rfl (l' := #[.val (.int p0), .val (.int p1), .val (.int p2), .val (.int p3), .val (.int ty), .val (.int pr), .val (.int bz), .val (.ref b5), .val (.ref b11), .val (.int (0 : Int32))]) rfl ?_; exact kt') ?_
                show Go p e below _ (T14.setTop (mkF m 122 #[.val (.int p0), .val (.int p1), .val (.int p2), .val (.int p3), .val (.int ty), .val (.int pr), .val (.int bz), .val (.ref b5), .val (.ref b11), .val (.int (0 : Int32))] []))
                refine go (fun t kt' => by refine XS.goto X14.here hx rfl (pc0 := 122) (pc' := 144) rfl (hb hby at_122) (by decide) (by decide) ?_; exact kt') ?_
                show Go p e below _ (T14.setTop (mkF m 144 #[.val (.int p0), .val (.int p1), .val (.int p2), .val (.int p3), .val (.int ty), .val (.int pr), .val (.int bz), .val (.ref b5), .val (.ref b11), .val (.int (0 : Int32))] []))
                refine go (fun t kt' => by refine XS.aload X14.here hx rfl (hb hby at_144) rfl rfl ?_; exact kt') ?_
                show Go p e below _ (T14.setTop (mkF m 146 #[.val (.int p0), .val (.int p1), .val (.int p2), .val (.int p3), .val (.int ty), .val (.int pr), .val (.int bz), .val (.ref b5), .val (.ref b11), .val (.int (0 : Int32))] [(.ref b11)]))
                refine go (fun t kt' => by refine XS.iload X14.here hx rfl (hb hby at_146) rfl ?_; exact kt') ?_
                show Go p e below _ (T14.setTop (mkF m 148 #[.val (.int p0), .val (.int p1), .val (.int p2), .val (.int p3), .val (.int ty), .val (.int pr), .val (.int bz), .val (.ref b5), .val (.ref b11), .val (.int (0 : Int32))] [(.int pr), (.ref b11)]))
                obtain ⟨cq30, kq30, q30a, q30b, q30c⟩ := isOf hZ rfl P14_0
                obtain ⟨_, _, ⟨T30, L30, k30, n30⟩, -, X30, ⟨Lc30, hQ30, l30, y30, z30⟩, st30⟩ := X14.virtualBack hx (y := (⟨"org/keymoot/Attribute", "isLife", "(I)Z"⟩ : MethodName)) (z := (⟨"org/keymoot/Attribute", "isLife", "(I)Z"⟩ : MethodName)) hown (mvT hZ (hw _ (List.mem_of_getElem? (i := 23) rfl))) (mvT hZ (hw _ (List.mem_of_getElem? (i := 24) rfl))) (notFace_of_selects (args := #[]) (mvT hZ (hw _ (List.mem_of_getElem? (i := 26) rfl)))) (mvT hZ (hw _ (List.mem_of_getElem? (i := 26) rfl))) (mvT hZ (hw _ (List.mem_of_getElem? (i := 25) rfl))) (by decide) (backOf (W := 0) (rm4 l Z a0 hw [] b11 pr ty T14.heap n0 f15_Z P14_0 P14_1) hZ (hw _ (List.mem_of_getElem? (i := 27) rfl)) (hw _ (List.mem_of_getElem? (i := 3) rfl)) (by decide) (by decide)) q30a q30c (g := (mkF m 148 #[.val (.int p0), .val (.int p1), .val (.int p2), .val (.int p3), .val (.int ty), .val (.int pr), .val (.int bz), .val (.ref b5), .val (.ref b11), .val (.int (0 : Int32))] [(.int pr), (.ref b11)])) rfl (by rw [hml]; rfl) (Steps.refl _) (argsL := [(.int pr)]) (rest := []) (lenOf pd_2 rfl) rfl (by show 2 * 0 + _ ≤ _; exact Nat.le_of_eq rfl) (hb hby at_148) (fun _ _ => ⟨rfl, rfl, (by decide : 2 + 0 ≤ _), (by decide : 4 + 0 ≤ _)⟩)
                dsimp only [Pt.U, Pt.locs, Pt.cells, Pt.slots] at X30 l30 y30 z30 st30 hQ30
                subst l30 y30 z30
                obtain ⟨rfl, N30q, e30⟩ := hQ30
                have N30 := Fr.app N14 N30q
                refine go (fun t kt => st30.trans kt) ?_
                show Go p e below _ (T30.setTop (mkF m 151 #[.val (.int p0), .val (.int p1), .val (.int p2), .val (.int p3), .val (.int ty), .val (.int pr), .val (.int bz), .val (.ref b5), .val (.ref b11), .val (.int (0 : Int32))] [(.int (own_il ty pr))]))
                refine go (fun t kt' => by refine XS.iload X30.here hx rfl (hb hby at_151) rfl ?_; exact kt') ?_
                show Go p e below _ (T30.setTop (mkF m 153 #[.val (.int p0), .val (.int p1), .val (.int p2), .val (.int p3), .val (.int ty), .val (.int pr), .val (.int bz), .val (.ref b5), .val (.ref b11), .val (.int (0 : Int32))] [(.int (0 : Int32)), (.int (own_il ty pr))]))
                have c153_31 : ¬ (¬ (own_il ty pr) = (0 : Int32)) := not_not_intro (by simp [own_il, Decidable.not_not.mp c98_17, c105_26, c112_29])
                refine go (fun t kt' => by refine XS.icmpNo X30.here hx rfl (hb hby at_153) rfl (teq (Decidable.not_not.mp c153_31)).2 ?_; exact kt') ?_
                show Go p e below _ (T30.setTop (mkF m 156 #[.val (.int p0), .val (.int p1), .val (.int p2), .val (.int p3), .val (.int ty), .val (.int pr), .val (.int bz), .val (.ref b5), .val (.ref b11), .val (.int (0 : Int32))] []))
                refine go (fun t kt' => by refine XS.iconst X30.here hx rfl (hb hby at_156) ?_; exact kt') ?_
                show Go p e below _ (T30.setTop (mkF m 157 #[.val (.int p0), .val (.int p1), .val (.int p2), .val (.int p3), .val (.int ty), .val (.int pr), .val (.int bz), .val (.ref b5), .val (.ref b11), .val (.int (0 : Int32))] [(.int (1 : Int32))]))
                refine go (fun t kt' => by refine XS.goto X30.here hx rfl (pc0 := 157) (pc' := 161) rfl (hb hby at_157) (by decide) (by decide) ?_; exact kt') ?_
                show Go p e below _ (T30.setTop (mkF m 161 #[.val (.int p0), .val (.int p1), .val (.int p2), .val (.int p3), .val (.int ty), .val (.int pr), .val (.int bz), .val (.ref b5), .val (.ref b11), .val (.int (0 : Int32))] [(.int (1 : Int32))]))
                refine goOut X30 (fun h => by rw [Bd.returns] at h; cases h) hlk (fun fs hr => retN X30 hx (t := .boolean) Bd.returns (by simp) (hb hby at_161) hr) (by decide) (by decide) ?_
                rw [e30]
                exact ⟨rfl, N30⟩
              · skip
                refine go (fun t kt' => by refine XS.icmpNo X14.here hx rfl (hb hby at_112) rfl (teq (Decidable.not_not.mp c112_29)).2 ?_; exact kt') ?_
                show Go p e below _ (T14.setTop (mkF m 115 #[.val (.int p0), .val (.int p1), .val (.int p2), .val (.int p3), .val (.int ty), .val (.int pr), .val (.int bz), .val (.ref b5), .val (.ref b11), .unset] []))
                refine go (fun t kt' => by refine XS.iconst X14.here hx rfl (hb hby at_115) ?_; exact kt') ?_
                show Go p e below _ (T14.setTop (mkF m 116 #[.val (.int p0), .val (.int p1), .val (.int p2), .val (.int p3), .val (.int ty), .val (.int pr), .val (.int bz), .val (.ref b5), .val (.ref b11), .unset] [(.int (1 : Int32))]))
                refine go (fun t kt' => by refine XS.goto X14.here hx rfl (pc0 := 116) (pc' := 120) rfl (hb hby at_116) (by decide) (by decide) ?_; exact kt') ?_
                show Go p e below _ (T14.setTop (mkF m 120 #[.val (.int p0), .val (.int p1), .val (.int p2), .val (.int p3), .val (.int ty), .val (.int pr), .val (.int bz), .val (.ref b5), .val (.ref b11), .unset] [(.int (1 : Int32))]))
                refine go (fun t kt' => by refine XS.istore X14.here hx rfl (hb hby at_120) rfl (l' := #[.val (.int p0), .val (.int p1), .val (.int p2), .val (.int p3), .val (.int ty), .val (.int pr), .val (.int bz), .val (.ref b5), .val (.ref b11), .val (.int (1 : Int32))]) rfl ?_; exact kt') ?_
                show Go p e below _ (T14.setTop (mkF m 122 #[.val (.int p0), .val (.int p1), .val (.int p2), .val (.int p3), .val (.int ty), .val (.int pr), .val (.int bz), .val (.ref b5), .val (.ref b11), .val (.int (1 : Int32))] []))
                refine go (fun t kt' => by refine XS.goto X14.here hx rfl (pc0 := 122) (pc' := 144) rfl (hb hby at_122) (by decide) (by decide) ?_; exact kt') ?_
                show Go p e below _ (T14.setTop (mkF m 144 #[.val (.int p0), .val (.int p1), .val (.int p2), .val (.int p3), .val (.int ty), .val (.int pr), .val (.int bz), .val (.ref b5), .val (.ref b11), .val (.int (1 : Int32))] []))
                refine go (fun t kt' => by refine XS.aload X14.here hx rfl (hb hby at_144) rfl rfl ?_; exact kt') ?_
                show Go p e below _ (T14.setTop (mkF m 146 #[.val (.int p0), .val (.int p1), .val (.int p2), .val (.int p3), .val (.int ty), .val (.int pr), .val (.int bz), .val (.ref b5), .val (.ref b11), .val (.int (1 : Int32))] [(.ref b11)]))
                refine go (fun t kt' => by refine XS.iload X14.here hx rfl (hb hby at_146) rfl ?_; exact kt') ?_
                show Go p e below _ (T14.setTop (mkF m 148 #[.val (.int p0), .val (.int p1), .val (.int p2), .val (.int p3), .val (.int ty), .val (.int pr), .val (.int bz), .val (.ref b5), .val (.ref b11), .val (.int (1 : Int32))] [(.int pr), (.ref b11)]))
                obtain ⟨cq32, kq32, q32a, q32b, q32c⟩ := isOf hZ rfl P14_0
                obtain ⟨_, _, ⟨T32, L32, k32, n32⟩, -, X32, ⟨Lc32, hQ32, l32, y32, z32⟩, st32⟩ := X14.virtualBack hx (y := (⟨"org/keymoot/Attribute", "isLife", "(I)Z"⟩ : MethodName)) (z := (⟨"org/keymoot/Attribute", "isLife", "(I)Z"⟩ : MethodName)) hown (mvT hZ (hw _ (List.mem_of_getElem? (i := 23) rfl))) (mvT hZ (hw _ (List.mem_of_getElem? (i := 24) rfl))) (notFace_of_selects (args := #[]) (mvT hZ (hw _ (List.mem_of_getElem? (i := 26) rfl)))) (mvT hZ (hw _ (List.mem_of_getElem? (i := 26) rfl))) (mvT hZ (hw _ (List.mem_of_getElem? (i := 25) rfl))) (by decide) (backOf (W := 0) (rm4 l Z a0 hw [] b11 pr ty T14.heap n0 f15_Z P14_0 P14_1) hZ (hw _ (List.mem_of_getElem? (i := 27) rfl)) (hw _ (List.mem_of_getElem? (i := 3) rfl)) (by decide) (by decide)) q32a q32c (g := (mkF m 148 #[.val (.int p0), .val (.int p1), .val (.int p2), .val (.int p3), .val (.int ty), .val (.int pr), .val (.int bz), .val (.ref b5), .val (.ref b11), .val (.int (1 : Int32))] [(.int pr), (.ref b11)])) rfl (by rw [hml]; rfl) (Steps.refl _) (argsL := [(.int pr)]) (rest := []) (lenOf pd_2 rfl) rfl (by show 2 * 0 + _ ≤ _; exact Nat.le_of_eq rfl) (hb hby at_148) (fun _ _ => ⟨rfl, rfl, (by decide : 2 + 0 ≤ _), (by decide : 4 + 0 ≤ _)⟩)
                dsimp only [Pt.U, Pt.locs, Pt.cells, Pt.slots] at X32 l32 y32 z32 st32 hQ32
                subst l32 y32 z32
                obtain ⟨rfl, N32q, e32⟩ := hQ32
                have N32 := Fr.app N14 N32q
                refine go (fun t kt => st32.trans kt) ?_
                show Go p e below _ (T32.setTop (mkF m 151 #[.val (.int p0), .val (.int p1), .val (.int p2), .val (.int p3), .val (.int ty), .val (.int pr), .val (.int bz), .val (.ref b5), .val (.ref b11), .val (.int (1 : Int32))] [(.int (own_il ty pr))]))
                refine go (fun t kt' => by refine XS.iload X32.here hx rfl (hb hby at_151) rfl ?_; exact kt') ?_
                show Go p e below _ (T32.setTop (mkF m 153 #[.val (.int p0), .val (.int p1), .val (.int p2), .val (.int p3), .val (.int ty), .val (.int pr), .val (.int bz), .val (.ref b5), .val (.ref b11), .val (.int (1 : Int32))] [(.int (1 : Int32)), (.int (own_il ty pr))]))
                have c153_33 : ¬ (¬ (own_il ty pr) = (1 : Int32)) := not_not_intro (by simp [own_il, Decidable.not_not.mp c98_17, c105_26, Decidable.not_not.mp c112_29])
                refine go (fun t kt' => by refine XS.icmpNo X32.here hx rfl (hb hby at_153) rfl (teq (Decidable.not_not.mp c153_33)).2 ?_; exact kt') ?_
                show Go p e below _ (T32.setTop (mkF m 156 #[.val (.int p0), .val (.int p1), .val (.int p2), .val (.int p3), .val (.int ty), .val (.int pr), .val (.int bz), .val (.ref b5), .val (.ref b11), .val (.int (1 : Int32))] []))
                refine go (fun t kt' => by refine XS.iconst X32.here hx rfl (hb hby at_156) ?_; exact kt') ?_
                show Go p e below _ (T32.setTop (mkF m 157 #[.val (.int p0), .val (.int p1), .val (.int p2), .val (.int p3), .val (.int ty), .val (.int pr), .val (.int bz), .val (.ref b5), .val (.ref b11), .val (.int (1 : Int32))] [(.int (1 : Int32))]))
                refine go (fun t kt' => by refine XS.goto X32.here hx rfl (pc0 := 157) (pc' := 161) rfl (hb hby at_157) (by decide) (by decide) ?_; exact kt') ?_
                show Go p e below _ (T32.setTop (mkF m 161 #[.val (.int p0), .val (.int p1), .val (.int p2), .val (.int p3), .val (.int ty), .val (.int pr), .val (.int bz), .val (.ref b5), .val (.ref b11), .val (.int (1 : Int32))] [(.int (1 : Int32))]))
                refine goOut X32 (fun h => by rw [Bd.returns] at h; cases h) hlk (fun fs hr => retN X32 hx (t := .boolean) Bd.returns (by simp) (hb hby at_161) hr) (by decide) (by decide) ?_
                rw [e32]
                exact ⟨rfl, N32⟩
        · skip
          refine go (fun t kt' => by refine XS.ifNo X0.here hx rfl (hb hby at_48) rfl ((if0 _ _).trans (feq c48_4).1) ?_; exact kt') ?_
          show Go p e below _ (s₁.setTop (mkF m 51 #[.val (.int p0), .val (.int p1), .val (.int p2), .val (.int p3), .val (.int ty), .val (.int pr), .val (.int bz), .unset, .unset, .unset] []))
          refine go (fun t kt' => by refine XS.iconst X0.here hx rfl (hb hby at_51) ?_; exact kt') ?_
          show Go p e below _ (s₁.setTop (mkF m 52 #[.val (.int p0), .val (.int p1), .val (.int p2), .val (.int p3), .val (.int ty), .val (.int pr), .val (.int bz), .unset, .unset, .unset] [(.int (2 : Int32))]))
          obtain ⟨T34, h34, k34, X34, e34, E34, A34, st34⟩ := newP X0 hx hZ (hw _ (List.mem_of_getElem? (i := 0) rfl)) e0 (g := (mkF m 52 #[.val (.int p0), .val (.int p1), .val (.int p2), .val (.int p3), .val (.int ty), .val (.int pr), .val (.int bz), .unset, .unset, .unset] [(.int (2 : Int32))])) rfl (hb hby at_52) rfl (by decide) (cap := 2) (by decide) (by decide) (by decide) (by decide)
          obtain ⟨b34, g34⟩ : ∃ z, z = h0.size := ⟨_, rfl⟩
          have n0_b34 : n0 ≤ b34 := Nat.le_trans Z0 (Nat.le_of_eq g34.symm)
          rw [← g34] at A34 st34
          have f35_Z := Nat.le_trans Z0 E34.1
          have V34 : IA Z h34 b34 .byte 2 (fun _ => 0) := IA.new A34 rfl rfl
          refine go st34 ?_
          show Go p e below _ (T34.setTop (mkF m 54 #[.val (.int p0), .val (.int p1), .val (.int p2), .val (.int p3), .val (.int ty), .val (.int pr), .val (.int bz), .unset, .unset, .unset] [(.ref b34)]))
          refine go (fun t kt' => by refine XS.dup X34.here hx rfl (hb hby at_54) rfl rfl ?_; exact kt') ?_
          show Go p e below _ (T34.setTop (mkF m 55 #[.val (.int p0), .val (.int p1), .val (.int p2), .val (.int p3), .val (.int ty), .val (.int pr), .val (.int bz), .unset, .unset, .unset] [(.ref b34), (.ref b34)]))
          refine go (fun t kt' => by refine XS.iconst X34.here hx rfl (hb hby at_55) ?_; exact kt') ?_
          show Go p e below _ (T34.setTop (mkF m 56 #[.val (.int p0), .val (.int p1), .val (.int p2), .val (.int p3), .val (.int ty), .val (.int pr), .val (.int bz), .unset, .unset, .unset] [(.int (0 : Int32)), (.ref b34), (.ref b34)]))
          refine go (fun t kt' => by refine XS.iloadN X34.here hx rfl (hb hby at_56) rfl ?_; exact kt') ?_
          show Go p e below _ (T34.setTop (mkF m 57 #[.val (.int p0), .val (.int p1), .val (.int p2), .val (.int p3), .val (.int ty), .val (.int pr), .val (.int bz), .unset, .unset, .unset] [(.int p2), (.int (0 : Int32)), (.ref b34), (.ref b34)]))
          refine go (fun t kt' => by refine XS.bipush X34.here hx rfl (hb hby at_57) ?_; exact kt') ?_
          show Go p e below _ (T34.setTop (mkF m 59 #[.val (.int p0), .val (.int p1), .val (.int p2), .val (.int p3), .val (.int ty), .val (.int pr), .val (.int bz), .unset, .unset, .unset] [(.int (8 : Int32)), (.int p2), (.int (0 : Int32)), (.ref b34), (.ref b34)]))
          refine go (fun t kt' => by refine XS.iushr X34.here hx rfl (hb hby at_59) rfl ?_; exact kt') ?_
          show Go p e below _ (T34.setTop (mkF m 60 #[.val (.int p0), .val (.int p1), .val (.int p2), .val (.int p3), .val (.int ty), .val (.int pr), .val (.int bz), .unset, .unset, .unset] [(.int ((p2.toUInt32 >>> ((8 : Int32) &&& 31).toUInt32).toInt32)), (.int (0 : Int32)), (.ref b34), (.ref b34)]))
          refine go (fun t kt' => by refine XS.i2b X34.here hx rfl (hb hby at_60) rfl ?_; exact kt') ?_
          show Go p e below _ (T34.setTop (mkF m 61 #[.val (.int p0), .val (.int p1), .val (.int p2), .val (.int p3), .val (.int ty), .val (.int pr), .val (.int bz), .unset, .unset, .unset] [(.int (((p2.toUInt32 >>> ((8 : Int32) &&& 31).toUInt32).toInt32).toInt8.toInt32)), (.int (0 : Int32)), (.ref b34), (.ref b34)]))
          obtain ⟨T36, h36, X36, e36, W36, V36, st36⟩ := stBA X34 hx hZ e34 V34 (j := (0 : Int32)) (x := (((p2.toUInt32 >>> ((8 : Int32) &&& 31).toUInt32).toInt32).toInt8.toInt32)) ⟨by decide, by decide⟩ (g := (mkF m 61 #[.val (.int p0), .val (.int p1), .val (.int p2), .val (.int p3), .val (.int ty), .val (.int pr), .val (.int bz), .unset, .unset, .unset] [(.int (((p2.toUInt32 >>> ((8 : Int32) &&& 31).toUInt32).toInt32).toInt8.toInt32)), (.int (0 : Int32)), (.ref b34), (.ref b34)])) rfl rfl (hb hby at_61)
          have N36 := Fr.snoc X36 N0 n0_b34
          have f37_Z := Nat.le_trans f35_Z (Keep.of_wr W36).1
          have f38_A_b34 := V36
          refine go st36 ?_
          show Go p e below _ (T36.setTop (mkF m 62 #[.val (.int p0), .val (.int p1), .val (.int p2), .val (.int p3), .val (.int ty), .val (.int pr), .val (.int bz), .unset, .unset, .unset] [(.ref b34)]))
          refine go (fun t kt' => by refine XS.dup X36.here hx rfl (hb hby at_62) rfl rfl ?_; exact kt') ?_
          show Go p e below _ (T36.setTop (mkF m 63 #[.val (.int p0), .val (.int p1), .val (.int p2), .val (.int p3), .val (.int ty), .val (.int pr), .val (.int bz), .unset, .unset, .unset] [(.ref b34), (.ref b34)]))
          refine go (fun t kt' => by refine XS.iconst X36.here hx rfl (hb hby at_63) ?_; exact kt') ?_
          show Go p e below _ (T36.setTop (mkF m 64 #[.val (.int p0), .val (.int p1), .val (.int p2), .val (.int p3), .val (.int ty), .val (.int pr), .val (.int bz), .unset, .unset, .unset] [(.int (1 : Int32)), (.ref b34), (.ref b34)]))
          refine go (fun t kt' => by refine XS.iloadN X36.here hx rfl (hb hby at_64) rfl ?_; exact kt') ?_
          show Go p e below _ (T36.setTop (mkF m 65 #[.val (.int p0), .val (.int p1), .val (.int p2), .val (.int p3), .val (.int ty), .val (.int pr), .val (.int bz), .unset, .unset, .unset] [(.int p2), (.int (1 : Int32)), (.ref b34), (.ref b34)]))
          refine go (fun t kt' => by refine XS.i2b X36.here hx rfl (hb hby at_65) rfl ?_; exact kt') ?_
          show Go p e below _ (T36.setTop (mkF m 66 #[.val (.int p0), .val (.int p1), .val (.int p2), .val (.int p3), .val (.int ty), .val (.int pr), .val (.int bz), .unset, .unset, .unset] [(.int (p2.toInt8.toInt32)), (.int (1 : Int32)), (.ref b34), (.ref b34)]))
          obtain ⟨T39, h39, X39, e39, W39, V39, st39⟩ := stBA X36 hx hZ e36 f38_A_b34 (j := (1 : Int32)) (x := (p2.toInt8.toInt32)) ⟨by decide, by decide⟩ (g := (mkF m 66 #[.val (.int p0), .val (.int p1), .val (.int p2), .val (.int p3), .val (.int ty), .val (.int pr), .val (.int bz), .unset, .unset, .unset] [(.int (p2.toInt8.toInt32)), (.int (1 : Int32)), (.ref b34), (.ref b34)])) rfl rfl (hb hby at_66)
          have N39 := Fr.snoc X39 N36 n0_b34
          have f40_Z := Nat.le_trans f37_Z (Keep.of_wr W39).1
          have f41_A_b34 := V39
          refine go st39 ?_
          show Go p e below _ (T39.setTop (mkF m 67 #[.val (.int p0), .val (.int p1), .val (.int p2), .val (.int p3), .val (.int ty), .val (.int pr), .val (.int bz), .unset, .unset, .unset] [(.ref b34)]))
          refine go (fun t kt' => by refine XS.goto X39.here hx rfl (pc0 := 67) (pc' := 78) rfl (hb hby at_67) (by decide) (by decide) ?_; exact kt') ?_
          show Go p e below _ (T39.setTop (mkF m 78 #[.val (.int p0), .val (.int p1), .val (.int p2), .val (.int p3), .val (.int ty), .val (.int pr), .val (.int bz), .unset, .unset, .unset] [(.ref b34)]))
          obtain ⟨fv42, V42⟩ : ∃ f : Nat → Int32, IA Z h39 b34 .byte 2 f := ⟨_, f41_A_b34⟩
          refine go (fun t kt' => by refine XS.astore X39.here hx rfl (hb hby at_78) rfl rfl (l' := #[.val (.int p0), .val (.int p1), .val (.int p2), .val (.int p3), .val (.int ty), .val (.int pr), .val (.int bz), .val (.ref b34), .unset, .unset]) rfl ?_; exact kt') ?_
          show Go p e below _ (T39.setTop (mkF m 80 #[.val (.int p0), .val (.int p1), .val (.int p2), .val (.int p3), .val (.int ty), .val (.int pr), .val (.int bz), .val (.ref b34), .unset, .unset] []))
          obtain ⟨T43, h43, X43, e43, E43, A43, D43, -, st43⟩ := newO X39 hx hZ hown (hw _ (List.mem_of_getElem? (i := 1) rfl)) (hw _ (List.mem_of_getElem? (i := 2) rfl)) (hw _ (List.mem_of_getElem? (i := 3) rfl)) e39 (g := (mkF m 80 #[.val (.int p0), .val (.int p1), .val (.int p2), .val (.int p3), .val (.int ty), .val (.int pr), .val (.int bz), .val (.ref b34), .unset, .unset] [])) rfl (hb hby at_80) (by decide) (by decide)
          obtain ⟨b43, g43⟩ : ∃ z, z = h39.size := ⟨_, rfl⟩
          have n0_b43 : n0 ≤ b43 := Nat.le_trans f40_Z (Nat.le_of_eq g43.symm)
          have ne43_b34_b43 : b34 ≠ b43 := Nat.ne_of_lt (Nat.lt_of_lt_of_le V42.lt (Nat.le_of_eq g43.symm))
          rw [← g43] at A43 D43 st43
          have f44_Z := Nat.le_trans f40_Z E43.1
          have f45_A_b34 := V42.ext E43
          have F43_type : Fld Z h43 b43 "org/keymoot/Attribute" "type" "I" (.int (0 : Int32)) := D43 (Or.inr (hw _ (List.mem_of_getElem? (i := 18) rfl))) (ty := .int) (by decide)
          have F43_basic : Fld Z h43 b43 "org/keymoot/Attribute" "basic" "Z" (.int (0 : Int32)) := D43 (Or.inr (hw _ (List.mem_of_getElem? (i := 20) rfl))) (ty := .boolean) (by decide)
          have F43_value : Fld Z h43 b43 "org/keymoot/Attribute" "value" "[B" .null := D43 (Or.inr (hw _ (List.mem_of_getElem? (i := 22) rfl))) (ty := (.array .byte)) (by decide)
          refine go st43 ?_
          show Go p e below _ (T43.setTop (mkF m 83 #[.val (.int p0), .val (.int p1), .val (.int p2), .val (.int p3), .val (.int ty), .val (.int pr), .val (.int bz), .val (.ref b34), .unset, .unset] [(.ref b43)]))
          refine go (fun t kt' => by refine XS.dup X43.here hx rfl (hb hby at_83) rfl rfl ?_; exact kt') ?_
          show Go p e below _ (T43.setTop (mkF m 84 #[.val (.int p0), .val (.int p1), .val (.int p2), .val (.int p3), .val (.int ty), .val (.int pr), .val (.int bz), .val (.ref b34), .unset, .unset] [(.ref b43), (.ref b43)]))
          refine go (fun t kt' => by refine XS.iload X43.here hx rfl (hb hby at_84) rfl ?_; exact kt') ?_
          show Go p e below _ (T43.setTop (mkF m 86 #[.val (.int p0), .val (.int p1), .val (.int p2), .val (.int p3), .val (.int ty), .val (.int pr), .val (.int bz), .val (.ref b34), .unset, .unset] [(.int ty), (.ref b43), (.ref b43)]))
          refine go (fun t kt' => by refine XS.iload X43.here hx rfl (hb hby at_86) rfl ?_; exact kt') ?_
          show Go p e below _ (T43.setTop (mkF m 88 #[.val (.int p0), .val (.int p1), .val (.int p2), .val (.int p3), .val (.int ty), .val (.int pr), .val (.int bz), .val (.ref b34), .unset, .unset] [(.int bz), (.int ty), (.ref b43), (.ref b43)]))
          refine go (fun t kt' => by refine XS.aload X43.here hx rfl (hb hby at_88) rfl rfl ?_; exact kt') ?_
          show Go p e below _ (T43.setTop (mkF m 90 #[.val (.int p0), .val (.int p1), .val (.int p2), .val (.int p3), .val (.int ty), .val (.int pr), .val (.int bz), .val (.ref b34), .unset, .unset] [(.ref b34), (.int bz), (.int ty), (.ref b43), (.ref b43)]))
          obtain ⟨_, _, ⟨T46, L46, k46, n46⟩, -, X46, ⟨Lc46, hQ46, l46, y46, z46⟩, st46⟩ := X43.specialBack hx (y := (⟨"org/keymoot/Attribute", "<init>", "(IZ[B)V"⟩ : MethodName)) rfl hown (mvT hZ (hw _ (List.mem_of_getElem? (i := 4) rfl))) (mvT hZ (hw _ (List.mem_of_getElem? (i := 5) rfl))) (mvT hZ (hw _ (List.mem_of_getElem? (i := 6) rfl))) (by decide) (backOf (W := 1) (rm1 l Z a0 hw [] b43 ty bz b34 2 fv42 h43 n0 f44_Z A43 n0_b43 F43_type F43_basic F43_value f45_A_b34 ne43_b34_b43 hty.1 hty.2 (fun _ => rfl) (by decide)) hZ (hw _ (List.mem_of_getElem? (i := 6) rfl)) (hw _ (List.mem_of_getElem? (i := 3) rfl)) (by decide) (by decide)) (g := (mkF m 90 #[.val (.int p0), .val (.int p1), .val (.int p2), .val (.int p3), .val (.int ty), .val (.int pr), .val (.int bz), .val (.ref b34), .unset, .unset] [(.ref b34), (.int bz), (.int ty), (.ref b43), (.ref b43)])) rfl (by rw [hml]; rfl) (Steps.refl _) (a := b43) (argsL := [(.int ty), (.int bz), (.ref b34)]) (rest := [(.ref b43)]) (lenOf pd_1 rfl) rfl (by show 2 * 0 + _ ≤ _; exact Nat.le_of_eq rfl) (hb hby at_90) (fun _ _ => ⟨rfl, e43, (by decide : 2 + 0 ≤ _), (by decide : 5 + 0 ≤ _)⟩)
          dsimp only [Pt.U, Pt.locs, Pt.cells, Pt.slots] at X46 l46 y46 z46 st46 hQ46
          subst l46 y46 z46
          obtain ⟨rfl, N46q, K46, P46_0, P46_1⟩ := hQ46
          have N46 := Fr.app N39 N46q
          have f47_Z := Nat.le_trans f44_Z K46.1
          have f48_A_b34 := f45_A_b34.keep K46 (ninS ne43_b34_b43 nin0)
          refine go (fun t kt => st46.trans kt) ?_
          show Go p e below _ (T46.setTop (mkF m 93 #[.val (.int p0), .val (.int p1), .val (.int p2), .val (.int p3), .val (.int ty), .val (.int pr), .val (.int bz), .val (.ref b34), .unset, .unset] [(.ref b43)]))
          refine go (fun t kt' => by refine XS.astore X46.here hx rfl (hb hby at_93) rfl rfl (l' := #[.val (.int p0), .val (.int p1), .val (.int p2), .val (.int p3), .val (.int ty), .val (.int pr), .val (.int bz), .val (.ref b34), .val (.ref b43), .unset]) rfl ?_; exact kt') ?_
          show Go p e below _ (T46.setTop (mkF m 95 #[.val (.int p0), .val (.int p1), .val (.int p2), .val (.int p3), .val (.int ty), .val (.int pr), .val (.int bz), .val (.ref b34), .val (.ref b43), .unset] []))
          refine go (fun t kt' => by refine XS.iload X46.here hx rfl (hb hby at_95) rfl ?_; exact kt') ?_
          show Go p e below _ (T46.setTop (mkF m 97 #[.val (.int p0), .val (.int p1), .val (.int p2), .val (.int p3), .val (.int ty), .val (.int pr), .val (.int bz), .val (.ref b34), .val (.ref b43), .unset] [(.int pr)]))
          refine go (fun t kt' => by refine XS.iconst X46.here hx rfl (hb hby at_97) ?_; exact kt') ?_
          show Go p e below _ (T46.setTop (mkF m 98 #[.val (.int p0), .val (.int p1), .val (.int p2), .val (.int p3), .val (.int ty), .val (.int pr), .val (.int bz), .val (.ref b34), .val (.ref b43), .unset] [(.int (1 : Int32)), (.int pr)]))
          by_cases c98_49 : ¬ pr = (1 : Int32)
          · skip
            refine go (fun t kt' => by refine XS.icmpYes X46.here hx rfl (pc0 := 98) (pc' := 125) rfl (hb hby at_98) rfl (feq c98_49).2 (by decide) (by decide) ?_; exact kt') ?_
            show Go p e below _ (T46.setTop (mkF m 125 #[.val (.int p0), .val (.int p1), .val (.int p2), .val (.int p3), .val (.int ty), .val (.int pr), .val (.int bz), .val (.ref b34), .val (.ref b43), .unset] []))
            refine go (fun t kt' => by refine XS.iload X46.here hx rfl (hb hby at_125) rfl ?_; exact kt') ?_
            show Go p e below _ (T46.setTop (mkF m 127 #[.val (.int p0), .val (.int p1), .val (.int p2), .val (.int p3), .val (.int ty), .val (.int pr), .val (.int bz), .val (.ref b34), .val (.ref b43), .unset] [(.int ty)]))
            refine go (fun t kt' => by refine XS.iconst X46.here hx rfl (hb hby at_127) ?_; exact kt') ?_
            show Go p e below _ (T46.setTop (mkF m 128 #[.val (.int p0), .val (.int p1), .val (.int p2), .val (.int p3), .val (.int ty), .val (.int pr), .val (.int bz), .val (.ref b34), .val (.ref b43), .unset] [(.int (1 : Int32)), (.int ty)]))
            by_cases c128_50 : ty = (1 : Int32)
            · skip
              refine go (fun t kt' => by refine XS.icmpYes X46.here hx rfl (pc0 := 128) (pc' := 137) rfl (hb hby at_128) rfl (teq c128_50).1 (by decide) (by decide) ?_; exact kt') ?_
              show Go p e below _ (T46.setTop (mkF m 137 #[.val (.int p0), .val (.int p1), .val (.int p2), .val (.int p3), .val (.int ty), .val (.int pr), .val (.int bz), .val (.ref b34), .val (.ref b43), .unset] []))
              refine go (fun t kt' => by refine XS.iconst X46.here hx rfl (hb hby at_137) ?_; exact kt') ?_
              show Go p e below _ (T46.setTop (mkF m 138 #[.val (.int p0), .val (.int p1), .val (.int p2), .val (.int p3), .val (.int ty), .val (.int pr), .val (.int bz), .val (.ref b34), .val (.ref b43), .unset] [(.int (1 : Int32))]))
              refine go (fun t kt' => by refine XS.goto X46.here hx rfl (pc0 := 138) (pc' := 142) rfl (hb hby at_138) (by decide) (by decide) ?_; exact kt') ?_
              show Go p e below _ (T46.setTop (mkF m 142 #[.val (.int p0), .val (.int p1), .val (.int p2), .val (.int p3), .val (.int ty), .val (.int pr), .val (.int bz), .val (.ref b34), .val (.ref b43), .unset] [(.int (1 : Int32))]))
              refine go (fun t kt' => by refine XS.istore X46.here hx rfl (hb hby at_142) rfl (l' := #[.val (.int p0), .val (.int p1), .val (.int p2), .val (.int p3), .val (.int ty), .val (.int pr), .val (.int bz), .val (.ref b34), .val (.ref b43), .val (.int (1 : Int32))]) rfl ?_; exact kt') ?_
              show Go p e below _ (T46.setTop (mkF m 144 #[.val (.int p0), .val (.int p1), .val (.int p2), .val (.int p3), .val (.int ty), .val (.int pr), .val (.int bz), .val (.ref b34), .val (.ref b43), .val (.int (1 : Int32))] []))
              refine go (fun t kt' => by refine XS.aload X46.here hx rfl (hb hby at_144) rfl rfl ?_; exact kt') ?_
              show Go p e below _ (T46.setTop (mkF m 146 #[.val (.int p0), .val (.int p1), .val (.int p2), .val (.int p3), .val (.int ty), .val (.int pr), .val (.int bz), .val (.ref b34), .val (.ref b43), .val (.int (1 : Int32))] [(.ref b43)]))
              refine go (fun t kt' => by refine XS.iload X46.here hx rfl (hb hby at_146) rfl ?_; exact kt') ?_
              show Go p e below _ (T46.setTop (mkF m 148 #[.val (.int p0), .val (.int p1), .val (.int p2), .val (.int p3), .val (.int ty), .val (.int pr), .val (.int bz), .val (.ref b34), .val (.ref b43), .val (.int (1 : Int32))] [(.int pr), (.ref b43)]))
              obtain ⟨cq51, kq51, q51a, q51b, q51c⟩ := isOf hZ rfl P46_0
              obtain ⟨_, _, ⟨T51, L51, k51, n51⟩, -, X51, ⟨Lc51, hQ51, l51, y51, z51⟩, st51⟩ := X46.virtualBack hx (y := (⟨"org/keymoot/Attribute", "isLife", "(I)Z"⟩ : MethodName)) (z := (⟨"org/keymoot/Attribute", "isLife", "(I)Z"⟩ : MethodName)) hown (mvT hZ (hw _ (List.mem_of_getElem? (i := 23) rfl))) (mvT hZ (hw _ (List.mem_of_getElem? (i := 24) rfl))) (notFace_of_selects (args := #[]) (mvT hZ (hw _ (List.mem_of_getElem? (i := 26) rfl)))) (mvT hZ (hw _ (List.mem_of_getElem? (i := 26) rfl))) (mvT hZ (hw _ (List.mem_of_getElem? (i := 25) rfl))) (by decide) (backOf (W := 0) (rm4 l Z a0 hw [] b43 pr ty T46.heap n0 f47_Z P46_0 P46_1) hZ (hw _ (List.mem_of_getElem? (i := 27) rfl)) (hw _ (List.mem_of_getElem? (i := 3) rfl)) (by decide) (by decide)) q51a q51c (g := (mkF m 148 #[.val (.int p0), .val (.int p1), .val (.int p2), .val (.int p3), .val (.int ty), .val (.int pr), .val (.int bz), .val (.ref b34), .val (.ref b43), .val (.int (1 : Int32))] [(.int pr), (.ref b43)])) rfl (by rw [hml]; rfl) (Steps.refl _) (argsL := [(.int pr)]) (rest := []) (lenOf pd_2 rfl) rfl (by show 2 * 0 + _ ≤ _; exact Nat.le_of_eq rfl) (hb hby at_148) (fun _ _ => ⟨rfl, rfl, (by decide : 2 + 0 ≤ _), (by decide : 5 + 0 ≤ _)⟩)
              dsimp only [Pt.U, Pt.locs, Pt.cells, Pt.slots] at X51 l51 y51 z51 st51 hQ51
              subst l51 y51 z51
              obtain ⟨rfl, N51q, e51⟩ := hQ51
              have N51 := Fr.app N46 N51q
              refine go (fun t kt => st51.trans kt) ?_
              show Go p e below _ (T51.setTop (mkF m 151 #[.val (.int p0), .val (.int p1), .val (.int p2), .val (.int p3), .val (.int ty), .val (.int pr), .val (.int bz), .val (.ref b34), .val (.ref b43), .val (.int (1 : Int32))] [(.int (own_il ty pr))]))
              refine go (fun t kt' => by refine XS.iload X51.here hx rfl (hb hby at_151) rfl ?_; exact kt') ?_
              show Go p e below _ (T51.setTop (mkF m 153 #[.val (.int p0), .val (.int p1), .val (.int p2), .val (.int p3), .val (.int ty), .val (.int pr), .val (.int bz), .val (.ref b34), .val (.ref b43), .val (.int (1 : Int32))] [(.int (1 : Int32)), (.int (own_il ty pr))]))
              have c153_52 : ¬ (¬ (own_il ty pr) = (1 : Int32)) := not_not_intro (by simp [own_il, c98_49, c128_50])
              refine go (fun t kt' => by refine XS.icmpNo X51.here hx rfl (hb hby at_153) rfl (teq (Decidable.not_not.mp c153_52)).2 ?_; exact kt') ?_
              show Go p e below _ (T51.setTop (mkF m 156 #[.val (.int p0), .val (.int p1), .val (.int p2), .val (.int p3), .val (.int ty), .val (.int pr), .val (.int bz), .val (.ref b34), .val (.ref b43), .val (.int (1 : Int32))] []))
              refine go (fun t kt' => by refine XS.iconst X51.here hx rfl (hb hby at_156) ?_; exact kt') ?_
              show Go p e below _ (T51.setTop (mkF m 157 #[.val (.int p0), .val (.int p1), .val (.int p2), .val (.int p3), .val (.int ty), .val (.int pr), .val (.int bz), .val (.ref b34), .val (.ref b43), .val (.int (1 : Int32))] [(.int (1 : Int32))]))
              refine go (fun t kt' => by refine XS.goto X51.here hx rfl (pc0 := 157) (pc' := 161) rfl (hb hby at_157) (by decide) (by decide) ?_; exact kt') ?_
              show Go p e below _ (T51.setTop (mkF m 161 #[.val (.int p0), .val (.int p1), .val (.int p2), .val (.int p3), .val (.int ty), .val (.int pr), .val (.int bz), .val (.ref b34), .val (.ref b43), .val (.int (1 : Int32))] [(.int (1 : Int32))]))
              refine goOut X51 (fun h => by rw [Bd.returns] at h; cases h) hlk (fun fs hr => retN X51 hx (t := .boolean) Bd.returns (by simp) (hb hby at_161) hr) (by decide) (by decide) ?_
              rw [e51]
              exact ⟨rfl, N51⟩
            · skip
              refine go (fun t kt' => by refine XS.icmpNo X46.here hx rfl (hb hby at_128) rfl (feq c128_50).1 ?_; exact kt') ?_
              show Go p e below _ (T46.setTop (mkF m 131 #[.val (.int p0), .val (.int p1), .val (.int p2), .val (.int p3), .val (.int ty), .val (.int pr), .val (.int bz), .val (.ref b34), .val (.ref b43), .unset] []))
              refine go (fun t kt' => by refine XS.iload X46.here hx rfl (hb hby at_131) rfl ?_; exact kt') ?_
              show Go p e below _ (T46.setTop (mkF m 133 #[.val (.int p0), .val (.int p1), .val (.int p2), .val (.int p3), .val (.int ty), .val (.int pr), .val (.int bz), .val (.ref b34), .val (.ref b43), .unset] [(.int ty)]))
              refine go (fun t kt' => by refine XS.iconst X46.here hx rfl (hb hby at_133) ?_; exact kt') ?_
              show Go p e below _ (T46.setTop (mkF m 134 #[.val (.int p0), .val (.int p1), .val (.int p2), .val (.int p3), .val (.int ty), .val (.int pr), .val (.int bz), .val (.ref b34), .val (.ref b43), .unset] [(.int (2 : Int32)), (.int ty)]))
              by_cases c134_53 : ¬ ty = (2 : Int32)
              · skip
                refine go (fun t kt' => by refine XS.icmpYes X46.here hx rfl (pc0 := 134) (pc' := 141) rfl (hb hby at_134) rfl (feq c134_53).2 (by decide) (by decide) ?_; exact kt') ?_
                show Go p e below _ (T46.setTop (mkF m 141 #[.val (.int p0), .val (.int p1), .val (.int p2), .val (.int p3), .val (.int ty), .val (.int pr), .val (.int bz), .val (.ref b34), .val (.ref b43), .unset] []))
                refine go (fun t kt' => by refine XS.iconst X46.here hx rfl (hb hby at_141) ?_; exact kt') ?_
                show Go p e below _ (T46.setTop (mkF m 142 #[.val (.int p0), .val (.int p1), .val (.int p2), .val (.int p3), .val (.int ty), .val (.int pr), .val (.int bz), .val (.ref b34), .val (.ref b43), .unset] [(.int (0 : Int32))]))
                refine go (fun t kt' => by refine XS.istore X46.here hx rfl (hb hby at_142) rfl (l' := #[.val (.int p0), .val (.int p1), .val (.int p2), .val (.int p3), .val (.int ty), .val (.int pr), .val (.int bz), .val (.ref b34), .val (.ref b43), .val (.int (0 : Int32))]) rfl ?_; exact kt') ?_
                show Go p e below _ (T46.setTop (mkF m 144 #[.val (.int p0), .val (.int p1), .val (.int p2), .val (.int p3), .val (.int ty), .val (.int pr), .val (.int bz), .val (.ref b34), .val (.ref b43), .val (.int (0 : Int32))] []))
                refine go (fun t kt' => by refine XS.aload X46.here hx rfl (hb hby at_144) rfl rfl ?_; exact kt') ?_
                show Go p e below _ (T46.setTop (mkF m 146 #[.val (.int p0), .val (.int p1), .val (.int p2), .val (.int p3), .val (.int ty), .val (.int pr), .val (.int bz), .val (.ref b34), .val (.ref b43), .val (.int (0 : Int32))] [(.ref b43)]))
                refine go (fun t kt' => by refine XS.iload X46.here hx rfl (hb hby at_146) rfl ?_; exact kt') ?_
                show Go p e below _ (T46.setTop (mkF m 148 #[.val (.int p0), .val (.int p1), .val (.int p2), .val (.int p3), .val (.int ty), .val (.int pr), .val (.int bz), .val (.ref b34), .val (.ref b43), .val (.int (0 : Int32))] [(.int pr), (.ref b43)]))
                obtain ⟨cq54, kq54, q54a, q54b, q54c⟩ := isOf hZ rfl P46_0
                obtain ⟨_, _, ⟨T54, L54, k54, n54⟩, -, X54, ⟨Lc54, hQ54, l54, y54, z54⟩, st54⟩ := X46.virtualBack hx (y := (⟨"org/keymoot/Attribute", "isLife", "(I)Z"⟩ : MethodName)) (z := (⟨"org/keymoot/Attribute", "isLife", "(I)Z"⟩ : MethodName)) hown (mvT hZ (hw _ (List.mem_of_getElem? (i := 23) rfl))) (mvT hZ (hw _ (List.mem_of_getElem? (i := 24) rfl))) (notFace_of_selects (args := #[]) (mvT hZ (hw _ (List.mem_of_getElem? (i := 26) rfl)))) (mvT hZ (hw _ (List.mem_of_getElem? (i := 26) rfl))) (mvT hZ (hw _ (List.mem_of_getElem? (i := 25) rfl))) (by decide) (backOf (W := 0) (rm4 l Z a0 hw [] b43 pr ty T46.heap n0 f47_Z P46_0 P46_1) hZ (hw _ (List.mem_of_getElem? (i := 27) rfl)) (hw _ (List.mem_of_getElem? (i := 3) rfl)) (by decide) (by decide)) q54a q54c (g := (mkF m 148 #[.val (.int p0), .val (.int p1), .val (.int p2), .val (.int p3), .val (.int ty), .val (.int pr), .val (.int bz), .val (.ref b34), .val (.ref b43), .val (.int (0 : Int32))] [(.int pr), (.ref b43)])) rfl (by rw [hml]; rfl) (Steps.refl _) (argsL := [(.int pr)]) (rest := []) (lenOf pd_2 rfl) rfl (by show 2 * 0 + _ ≤ _; exact Nat.le_of_eq rfl) (hb hby at_148) (fun _ _ => ⟨rfl, rfl, (by decide : 2 + 0 ≤ _), (by decide : 5 + 0 ≤ _)⟩)
                dsimp only [Pt.U, Pt.locs, Pt.cells, Pt.slots] at X54 l54 y54 z54 st54 hQ54
                subst l54 y54 z54
                obtain ⟨rfl, N54q, e54⟩ := hQ54
                have N54 := Fr.app N46 N54q
                refine go (fun t kt => st54.trans kt) ?_
                show Go p e below _ (T54.setTop (mkF m 151 #[.val (.int p0), .val (.int p1), .val (.int p2), .val (.int p3), .val (.int ty), .val (.int pr), .val (.int bz), .val (.ref b34), .val (.ref b43), .val (.int (0 : Int32))] [(.int (own_il ty pr))]))
                refine go (fun t kt' => by refine XS.iload X54.here hx rfl (hb hby at_151) rfl ?_; exact kt') ?_
                show Go p e below _ (T54.setTop (mkF m 153 #[.val (.int p0), .val (.int p1), .val (.int p2), .val (.int p3), .val (.int ty), .val (.int pr), .val (.int bz), .val (.ref b34), .val (.ref b43), .val (.int (0 : Int32))] [(.int (0 : Int32)), (.int (own_il ty pr))]))
                have c153_55 : ¬ (¬ (own_il ty pr) = (0 : Int32)) := not_not_intro (by simp [own_il, c98_49, c128_50, c134_53])
                refine go (fun t kt' => by refine XS.icmpNo X54.here hx rfl (hb hby at_153) rfl (teq (Decidable.not_not.mp c153_55)).2 ?_; exact kt') ?_
                show Go p e below _ (T54.setTop (mkF m 156 #[.val (.int p0), .val (.int p1), .val (.int p2), .val (.int p3), .val (.int ty), .val (.int pr), .val (.int bz), .val (.ref b34), .val (.ref b43), .val (.int (0 : Int32))] []))
                refine go (fun t kt' => by refine XS.iconst X54.here hx rfl (hb hby at_156) ?_; exact kt') ?_
                show Go p e below _ (T54.setTop (mkF m 157 #[.val (.int p0), .val (.int p1), .val (.int p2), .val (.int p3), .val (.int ty), .val (.int pr), .val (.int bz), .val (.ref b34), .val (.ref b43), .val (.int (0 : Int32))] [(.int (1 : Int32))]))
                refine go (fun t kt' => by refine XS.goto X54.here hx rfl (pc0 := 157) (pc' := 161) rfl (hb hby at_157) (by decide) (by decide) ?_; exact kt') ?_
                show Go p e below _ (T54.setTop (mkF m 161 #[.val (.int p0), .val (.int p1), .val (.int p2), .val (.int p3), .val (.int ty), .val (.int pr), .val (.int bz), .val (.ref b34), .val (.ref b43), .val (.int (0 : Int32))] [(.int (1 : Int32))]))
                refine goOut X54 (fun h => by rw [Bd.returns] at h; cases h) hlk (fun fs hr => retN X54 hx (t := .boolean) Bd.returns (by simp) (hb hby at_161) hr) (by decide) (by decide) ?_
                rw [e54]
                exact ⟨rfl, N54⟩
              · skip
                refine go (fun t kt' => by refine XS.icmpNo X46.here hx rfl (hb hby at_134) rfl (teq (Decidable.not_not.mp c134_53)).2 ?_; exact kt') ?_
                show Go p e below _ (T46.setTop (mkF m 137 #[.val (.int p0), .val (.int p1), .val (.int p2), .val (.int p3), .val (.int ty), .val (.int pr), .val (.int bz), .val (.ref b34), .val (.ref b43), .unset] []))
                refine go (fun t kt' => by refine XS.iconst X46.here hx rfl (hb hby at_137) ?_; exact kt') ?_
                show Go p e below _ (T46.setTop (mkF m 138 #[.val (.int p0), .val (.int p1), .val (.int p2), .val (.int p3), .val (.int ty), .val (.int pr), .val (.int bz), .val (.ref b34), .val (.ref b43), .unset] [(.int (1 : Int32))]))
                refine go (fun t kt' => by refine XS.goto X46.here hx rfl (pc0 := 138) (pc' := 142) rfl (hb hby at_138) (by decide) (by decide) ?_; exact kt') ?_
                show Go p e below _ (T46.setTop (mkF m 142 #[.val (.int p0), .val (.int p1), .val (.int p2), .val (.int p3), .val (.int ty), .val (.int pr), .val (.int bz), .val (.ref b34), .val (.ref b43), .unset] [(.int (1 : Int32))]))
                refine go (fun t kt' => by refine XS.istore X46.here hx rfl (hb hby at_142) rfl (l' := #[.val (.int p0), .val (.int p1), .val (.int p2), .val (.int p3), .val (.int ty), .val (.int pr), .val (.int bz), .val (.ref b34), .val (.ref b43), .val (.int (1 : Int32))]) rfl ?_; exact kt') ?_
                show Go p e below _ (T46.setTop (mkF m 144 #[.val (.int p0), .val (.int p1), .val (.int p2), .val (.int p3), .val (.int ty), .val (.int pr), .val (.int bz), .val (.ref b34), .val (.ref b43), .val (.int (1 : Int32))] []))
                refine go (fun t kt' => by refine XS.aload X46.here hx rfl (hb hby at_144) rfl rfl ?_; exact kt') ?_
                show Go p e below _ (T46.setTop (mkF m 146 #[.val (.int p0), .val (.int p1), .val (.int p2), .val (.int p3), .val (.int ty), .val (.int pr), .val (.int bz), .val (.ref b34), .val (.ref b43), .val (.int (1 : Int32))] [(.ref b43)]))
                refine go (fun t kt' => by refine XS.iload X46.here hx rfl (hb hby at_146) rfl ?_; exact kt') ?_
                show Go p e below _ (T46.setTop (mkF m 148 #[.val (.int p0), .val (.int p1), .val (.int p2), .val (.int p3), .val (.int ty), .val (.int pr), .val (.int bz), .val (.ref b34), .val (.ref b43), .val (.int (1 : Int32))] [(.int pr), (.ref b43)]))
                obtain ⟨cq56, kq56, q56a, q56b, q56c⟩ := isOf hZ rfl P46_0
                obtain ⟨_, _, ⟨T56, L56, k56, n56⟩, -, X56, ⟨Lc56, hQ56, l56, y56, z56⟩, st56⟩ := X46.virtualBack hx (y := (⟨"org/keymoot/Attribute", "isLife", "(I)Z"⟩ : MethodName)) (z := (⟨"org/keymoot/Attribute", "isLife", "(I)Z"⟩ : MethodName)) hown (mvT hZ (hw _ (List.mem_of_getElem? (i := 23) rfl))) (mvT hZ (hw _ (List.mem_of_getElem? (i := 24) rfl))) (notFace_of_selects (args := #[]) (mvT hZ (hw _ (List.mem_of_getElem? (i := 26) rfl)))) (mvT hZ (hw _ (List.mem_of_getElem? (i := 26) rfl))) (mvT hZ (hw _ (List.mem_of_getElem? (i := 25) rfl))) (by decide) (backOf (W := 0) (rm4 l Z a0 hw [] b43 pr ty T46.heap n0 f47_Z P46_0 P46_1) hZ (hw _ (List.mem_of_getElem? (i := 27) rfl)) (hw _ (List.mem_of_getElem? (i := 3) rfl)) (by decide) (by decide)) q56a q56c (g := (mkF m 148 #[.val (.int p0), .val (.int p1), .val (.int p2), .val (.int p3), .val (.int ty), .val (.int pr), .val (.int bz), .val (.ref b34), .val (.ref b43), .val (.int (1 : Int32))] [(.int pr), (.ref b43)])) rfl (by rw [hml]; rfl) (Steps.refl _) (argsL := [(.int pr)]) (rest := []) (lenOf pd_2 rfl) rfl (by show 2 * 0 + _ ≤ _; exact Nat.le_of_eq rfl) (hb hby at_148) (fun _ _ => ⟨rfl, rfl, (by decide : 2 + 0 ≤ _), (by decide : 5 + 0 ≤ _)⟩)
                dsimp only [Pt.U, Pt.locs, Pt.cells, Pt.slots] at X56 l56 y56 z56 st56 hQ56
                subst l56 y56 z56
                obtain ⟨rfl, N56q, e56⟩ := hQ56
                have N56 := Fr.app N46 N56q
                refine go (fun t kt => st56.trans kt) ?_
                show Go p e below _ (T56.setTop (mkF m 151 #[.val (.int p0), .val (.int p1), .val (.int p2), .val (.int p3), .val (.int ty), .val (.int pr), .val (.int bz), .val (.ref b34), .val (.ref b43), .val (.int (1 : Int32))] [(.int (own_il ty pr))]))
                refine go (fun t kt' => by refine XS.iload X56.here hx rfl (hb hby at_151) rfl ?_; exact kt') ?_
                show Go p e below _ (T56.setTop (mkF m 153 #[.val (.int p0), .val (.int p1), .val (.int p2), .val (.int p3), .val (.int ty), .val (.int pr), .val (.int bz), .val (.ref b34), .val (.ref b43), .val (.int (1 : Int32))] [(.int (1 : Int32)), (.int (own_il ty pr))]))
                have c153_57 : ¬ (¬ (own_il ty pr) = (1 : Int32)) := not_not_intro (by simp [own_il, c98_49, c128_50, Decidable.not_not.mp c134_53])
                refine go (fun t kt' => by refine XS.icmpNo X56.here hx rfl (hb hby at_153) rfl (teq (Decidable.not_not.mp c153_57)).2 ?_; exact kt') ?_
                show Go p e below _ (T56.setTop (mkF m 156 #[.val (.int p0), .val (.int p1), .val (.int p2), .val (.int p3), .val (.int ty), .val (.int pr), .val (.int bz), .val (.ref b34), .val (.ref b43), .val (.int (1 : Int32))] []))
                refine go (fun t kt' => by refine XS.iconst X56.here hx rfl (hb hby at_156) ?_; exact kt') ?_
                show Go p e below _ (T56.setTop (mkF m 157 #[.val (.int p0), .val (.int p1), .val (.int p2), .val (.int p3), .val (.int ty), .val (.int pr), .val (.int bz), .val (.ref b34), .val (.ref b43), .val (.int (1 : Int32))] [(.int (1 : Int32))]))
                refine go (fun t kt' => by refine XS.goto X56.here hx rfl (pc0 := 157) (pc' := 161) rfl (hb hby at_157) (by decide) (by decide) ?_; exact kt') ?_
                show Go p e below _ (T56.setTop (mkF m 161 #[.val (.int p0), .val (.int p1), .val (.int p2), .val (.int p3), .val (.int ty), .val (.int pr), .val (.int bz), .val (.ref b34), .val (.ref b43), .val (.int (1 : Int32))] [(.int (1 : Int32))]))
                refine goOut X56 (fun h => by rw [Bd.returns] at h; cases h) hlk (fun fs hr => retN X56 hx (t := .boolean) Bd.returns (by simp) (hb hby at_161) hr) (by decide) (by decide) ?_
                rw [e56]
                exact ⟨rfl, N56⟩
          · skip
            refine go (fun t kt' => by refine XS.icmpNo X46.here hx rfl (hb hby at_98) rfl (teq (Decidable.not_not.mp c98_49)).2 ?_; exact kt') ?_
            show Go p e below _ (T46.setTop (mkF m 101 #[.val (.int p0), .val (.int p1), .val (.int p2), .val (.int p3), .val (.int ty), .val (.int pr), .val (.int bz), .val (.ref b34), .val (.ref b43), .unset] []))
            refine go (fun t kt' => by refine XS.iload X46.here hx rfl (hb hby at_101) rfl ?_; exact kt') ?_
            show Go p e below _ (T46.setTop (mkF m 103 #[.val (.int p0), .val (.int p1), .val (.int p2), .val (.int p3), .val (.int ty), .val (.int pr), .val (.int bz), .val (.ref b34), .val (.ref b43), .unset] [(.int ty)]))
            refine go (fun t kt' => by refine XS.bipush X46.here hx rfl (hb hby at_103) ?_; exact kt') ?_
            show Go p e below _ (T46.setTop (mkF m 105 #[.val (.int p0), .val (.int p1), .val (.int p2), .val (.int p3), .val (.int ty), .val (.int pr), .val (.int bz), .val (.ref b34), .val (.ref b43), .unset] [(.int (11 : Int32)), (.int ty)]))
            by_cases c105_58 : ty = (11 : Int32)
            · skip
              refine go (fun t kt' => by refine XS.icmpYes X46.here hx rfl (pc0 := 105) (pc' := 115) rfl (hb hby at_105) rfl (teq c105_58).1 (by decide) (by decide) ?_; exact kt') ?_
              show Go p e below _ (T46.setTop (mkF m 115 #[.val (.int p0), .val (.int p1), .val (.int p2), .val (.int p3), .val (.int ty), .val (.int pr), .val (.int bz), .val (.ref b34), .val (.ref b43), .unset] []))
              refine go (fun t kt' => by refine XS.iconst X46.here hx rfl (hb hby at_115) ?_; exact kt') ?_
              show Go p e below _ (T46.setTop (mkF m 116 #[.val (.int p0), .val (.int p1), .val (.int p2), .val (.int p3), .val (.int ty), .val (.int pr), .val (.int bz), .val (.ref b34), .val (.ref b43), .unset] [(.int (1 : Int32))]))
              refine go (fun t kt' => by refine XS.goto X46.here hx rfl (pc0 := 116) (pc' := 120) rfl (hb hby at_116) (by decide) (by decide) ?_; exact kt') ?_
              show Go p e below _ (T46.setTop (mkF m 120 #[.val (.int p0), .val (.int p1), .val (.int p2), .val (.int p3), .val (.int ty), .val (.int pr), .val (.int bz), .val (.ref b34), .val (.ref b43), .unset] [(.int (1 : Int32))]))
              refine go (fun t kt' => by refine XS.istore X46.here hx rfl (hb hby at_120) rfl (l' := #[.val (.int p0), .val (.int p1), .val (.int p2), .val (.int p3), .val (.int ty), .val (.int pr), .val (.int bz), .val (.ref b34), .val (.ref b43), .val (.int (1 : Int32))]) rfl ?_; exact kt') ?_
              show Go p e below _ (T46.setTop (mkF m 122 #[.val (.int p0), .val (.int p1), .val (.int p2), .val (.int p3), .val (.int ty), .val (.int pr), .val (.int bz), .val (.ref b34), .val (.ref b43), .val (.int (1 : Int32))] []))
              refine go (fun t kt' => by refine XS.goto X46.here hx rfl (pc0 := 122) (pc' := 144) rfl (hb hby at_122) (by decide) (by decide) ?_; exact kt') ?_
              show Go p e below _ (T46.setTop (mkF m 144 #[.val (.int p0), .val (.int p1), .val (.int p2), .val (.int p3), .val (.int ty), .val (.int pr), .val (.int bz), .val (.ref b34), .val (.ref b43), .val (.int (1 : Int32))] []))
              refine go (fun t kt' => by refine XS.aload X46.here hx rfl (hb hby at_144) rfl rfl ?_; exact kt') ?_
              show Go p e below _ (T46.setTop (mkF m 146 #[.val (.int p0), .val (.int p1), .val (.int p2), .val (.int p3), .val (.int ty), .val (.int pr), .val (.int bz), .val (.ref b34), .val (.ref b43), .val (.int (1 : Int32))] [(.ref b43)]))
              refine go (fun t kt' => by refine XS.iload X46.here hx rfl (hb hby at_146) rfl ?_; exact kt') ?_
              show Go p e below _ (T46.setTop (mkF m 148 #[.val (.int p0), .val (.int p1), .val (.int p2), .val (.int p3), .val (.int ty), .val (.int pr), .val (.int bz), .val (.ref b34), .val (.ref b43), .val (.int (1 : Int32))] [(.int pr), (.ref b43)]))
              obtain ⟨cq59, kq59, q59a, q59b, q59c⟩ := isOf hZ rfl P46_0
              obtain ⟨_, _, ⟨T59, L59, k59, n59⟩, -, X59, ⟨Lc59, hQ59, l59, y59, z59⟩, st59⟩ := X46.virtualBack hx (y := (⟨"org/keymoot/Attribute", "isLife", "(I)Z"⟩ : MethodName)) (z := (⟨"org/keymoot/Attribute", "isLife", "(I)Z"⟩ : MethodName)) hown (mvT hZ (hw _ (List.mem_of_getElem? (i := 23) rfl))) (mvT hZ (hw _ (List.mem_of_getElem? (i := 24) rfl))) (notFace_of_selects (args := #[]) (mvT hZ (hw _ (List.mem_of_getElem? (i := 26) rfl)))) (mvT hZ (hw _ (List.mem_of_getElem? (i := 26) rfl))) (mvT hZ (hw _ (List.mem_of_getElem? (i := 25) rfl))) (by decide) (backOf (W := 0) (rm4 l Z a0 hw [] b43 pr ty T46.heap n0 f47_Z P46_0 P46_1) hZ (hw _ (List.mem_of_getElem? (i := 27) rfl)) (hw _ (List.mem_of_getElem? (i := 3) rfl)) (by decide) (by decide)) q59a q59c (g := (mkF m 148 #[.val (.int p0), .val (.int p1), .val (.int p2), .val (.int p3), .val (.int ty), .val (.int pr), .val (.int bz), .val (.ref b34), .val (.ref b43), .val (.int (1 : Int32))] [(.int pr), (.ref b43)])) rfl (by rw [hml]; rfl) (Steps.refl _) (argsL := [(.int pr)]) (rest := []) (lenOf pd_2 rfl) rfl (by show 2 * 0 + _ ≤ _; exact Nat.le_of_eq rfl) (hb hby at_148) (fun _ _ => ⟨rfl, rfl, (by decide : 2 + 0 ≤ _), (by decide : 5 + 0 ≤ _)⟩)
              dsimp only [Pt.U, Pt.locs, Pt.cells, Pt.slots] at X59 l59 y59 z59 st59 hQ59
              subst l59 y59 z59
              obtain ⟨rfl, N59q, e59⟩ := hQ59
              have N59 := Fr.app N46 N59q
              refine go (fun t kt => st59.trans kt) ?_
              show Go p e below _ (T59.setTop (mkF m 151 #[.val (.int p0), .val (.int p1), .val (.int p2), .val (.int p3), .val (.int ty), .val (.int pr), .val (.int bz), .val (.ref b34), .val (.ref b43), .val (.int (1 : Int32))] [(.int (own_il ty pr))]))
              refine go (fun t kt' => by refine XS.iload X59.here hx rfl (hb hby at_151) rfl ?_; exact kt') ?_
              show Go p e below _ (T59.setTop (mkF m 153 #[.val (.int p0), .val (.int p1), .val (.int p2), .val (.int p3), .val (.int ty), .val (.int pr), .val (.int bz), .val (.ref b34), .val (.ref b43), .val (.int (1 : Int32))] [(.int (1 : Int32)), (.int (own_il ty pr))]))
              have c153_60 : ¬ (¬ (own_il ty pr) = (1 : Int32)) := not_not_intro (by simp [own_il, Decidable.not_not.mp c98_49, c105_58])
              refine go (fun t kt' => by refine XS.icmpNo X59.here hx rfl (hb hby at_153) rfl (teq (Decidable.not_not.mp c153_60)).2 ?_; exact kt') ?_
              show Go p e below _ (T59.setTop (mkF m 156 #[.val (.int p0), .val (.int p1), .val (.int p2), .val (.int p3), .val (.int ty), .val (.int pr), .val (.int bz), .val (.ref b34), .val (.ref b43), .val (.int (1 : Int32))] []))
              refine go (fun t kt' => by refine XS.iconst X59.here hx rfl (hb hby at_156) ?_; exact kt') ?_
              show Go p e below _ (T59.setTop (mkF m 157 #[.val (.int p0), .val (.int p1), .val (.int p2), .val (.int p3), .val (.int ty), .val (.int pr), .val (.int bz), .val (.ref b34), .val (.ref b43), .val (.int (1 : Int32))] [(.int (1 : Int32))]))
              refine go (fun t kt' => by refine XS.goto X59.here hx rfl (pc0 := 157) (pc' := 161) rfl (hb hby at_157) (by decide) (by decide) ?_; exact kt') ?_
              show Go p e below _ (T59.setTop (mkF m 161 #[.val (.int p0), .val (.int p1), .val (.int p2), .val (.int p3), .val (.int ty), .val (.int pr), .val (.int bz), .val (.ref b34), .val (.ref b43), .val (.int (1 : Int32))] [(.int (1 : Int32))]))
              refine goOut X59 (fun h => by rw [Bd.returns] at h; cases h) hlk (fun fs hr => retN X59 hx (t := .boolean) Bd.returns (by simp) (hb hby at_161) hr) (by decide) (by decide) ?_
              rw [e59]
              exact ⟨rfl, N59⟩
            · skip
              refine go (fun t kt' => by refine XS.icmpNo X46.here hx rfl (hb hby at_105) rfl (feq c105_58).1 ?_; exact kt') ?_
              show Go p e below _ (T46.setTop (mkF m 108 #[.val (.int p0), .val (.int p1), .val (.int p2), .val (.int p3), .val (.int ty), .val (.int pr), .val (.int bz), .val (.ref b34), .val (.ref b43), .unset] []))
              refine go (fun t kt' => by refine XS.iload X46.here hx rfl (hb hby at_108) rfl ?_; exact kt') ?_
              show Go p e below _ (T46.setTop (mkF m 110 #[.val (.int p0), .val (.int p1), .val (.int p2), .val (.int p3), .val (.int ty), .val (.int pr), .val (.int bz), .val (.ref b34), .val (.ref b43), .unset] [(.int ty)]))
              refine go (fun t kt' => by refine XS.bipush X46.here hx rfl (hb hby at_110) ?_; exact kt') ?_
              show Go p e below _ (T46.setTop (mkF m 112 #[.val (.int p0), .val (.int p1), .val (.int p2), .val (.int p3), .val (.int ty), .val (.int pr), .val (.int bz), .val (.ref b34), .val (.ref b43), .unset] [(.int (12 : Int32)), (.int ty)]))
              by_cases c112_61 : ¬ ty = (12 : Int32)
              · skip
                refine go (fun t kt' => by refine XS.icmpYes X46.here hx rfl (pc0 := 112) (pc' := 119) rfl (hb hby at_112) rfl (feq c112_61).2 (by decide) (by decide) ?_; exact kt') ?_
                show Go p e below _ (T46.setTop (mkF m 119 #[.val (.int p0), .val (.int p1), .val (.int p2), .val (.int p3), .val (.int ty), .val (.int pr), .val (.int bz), .val (.ref b34), .val (.ref b43), .unset] []))
                refine go (fun t kt' => by refine XS.iconst X46.here hx rfl (hb hby at_119) ?_; exact kt') ?_
                show Go p e below _ (T46.setTop (mkF m 120 #[.val (.int p0), .val (.int p1), .val (.int p2), .val (.int p3), .val (.int ty), .val (.int pr), .val (.int bz), .val (.ref b34), .val (.ref b43), .unset] [(.int (0 : Int32))]))
                refine go (fun t kt' => by refine XS.istore X46.here hx rfl (hb hby at_120) rfl (l' := #[.val (.int p0), .val (.int p1), .val (.int p2), .val (.int p3), .val (.int ty), .val (.int pr), .val (.int bz), .val (.ref b34), .val (.ref b43), .val (.int (0 : Int32))]) rfl ?_; exact kt') ?_
                show Go p e below _ (T46.setTop (mkF m 122 #[.val (.int p0), .val (.int p1), .val (.int p2), .val (.int p3), .val (.int ty), .val (.int pr), .val (.int bz), .val (.ref b34), .val (.ref b43), .val (.int (0 : Int32))] []))
                refine go (fun t kt' => by refine XS.goto X46.here hx rfl (pc0 := 122) (pc' := 144) rfl (hb hby at_122) (by decide) (by decide) ?_; exact kt') ?_
                show Go p e below _ (T46.setTop (mkF m 144 #[.val (.int p0), .val (.int p1), .val (.int p2), .val (.int p3), .val (.int ty), .val (.int pr), .val (.int bz), .val (.ref b34), .val (.ref b43), .val (.int (0 : Int32))] []))
                refine go (fun t kt' => by refine XS.aload X46.here hx rfl (hb hby at_144) rfl rfl ?_; exact kt') ?_
                show Go p e below _ (T46.setTop (mkF m 146 #[.val (.int p0), .val (.int p1), .val (.int p2), .val (.int p3), .val (.int ty), .val (.int pr), .val (.int bz), .val (.ref b34), .val (.ref b43), .val (.int (0 : Int32))] [(.ref b43)]))
                refine go (fun t kt' => by refine XS.iload X46.here hx rfl (hb hby at_146) rfl ?_; exact kt') ?_
                show Go p e below _ (T46.setTop (mkF m 148 #[.val (.int p0), .val (.int p1), .val (.int p2), .val (.int p3), .val (.int ty), .val (.int pr), .val (.int bz), .val (.ref b34), .val (.ref b43), .val (.int (0 : Int32))] [(.int pr), (.ref b43)]))
                obtain ⟨cq62, kq62, q62a, q62b, q62c⟩ := isOf hZ rfl P46_0
                obtain ⟨_, _, ⟨T62, L62, k62, n62⟩, -, X62, ⟨Lc62, hQ62, l62, y62, z62⟩, st62⟩ := X46.virtualBack hx (y := (⟨"org/keymoot/Attribute", "isLife", "(I)Z"⟩ : MethodName)) (z := (⟨"org/keymoot/Attribute", "isLife", "(I)Z"⟩ : MethodName)) hown (mvT hZ (hw _ (List.mem_of_getElem? (i := 23) rfl))) (mvT hZ (hw _ (List.mem_of_getElem? (i := 24) rfl))) (notFace_of_selects (args := #[]) (mvT hZ (hw _ (List.mem_of_getElem? (i := 26) rfl)))) (mvT hZ (hw _ (List.mem_of_getElem? (i := 26) rfl))) (mvT hZ (hw _ (List.mem_of_getElem? (i := 25) rfl))) (by decide) (backOf (W := 0) (rm4 l Z a0 hw [] b43 pr ty T46.heap n0 f47_Z P46_0 P46_1) hZ (hw _ (List.mem_of_getElem? (i := 27) rfl)) (hw _ (List.mem_of_getElem? (i := 3) rfl)) (by decide) (by decide)) q62a q62c (g := (mkF m 148 #[.val (.int p0), .val (.int p1), .val (.int p2), .val (.int p3), .val (.int ty), .val (.int pr), .val (.int bz), .val (.ref b34), .val (.ref b43), .val (.int (0 : Int32))] [(.int pr), (.ref b43)])) rfl (by rw [hml]; rfl) (Steps.refl _) (argsL := [(.int pr)]) (rest := []) (lenOf pd_2 rfl) rfl (by show 2 * 0 + _ ≤ _; exact Nat.le_of_eq rfl) (hb hby at_148) (fun _ _ => ⟨rfl, rfl, (by decide : 2 + 0 ≤ _), (by decide : 5 + 0 ≤ _)⟩)
                dsimp only [Pt.U, Pt.locs, Pt.cells, Pt.slots] at X62 l62 y62 z62 st62 hQ62
                subst l62 y62 z62
                obtain ⟨rfl, N62q, e62⟩ := hQ62
                have N62 := Fr.app N46 N62q
                refine go (fun t kt => st62.trans kt) ?_
                show Go p e below _ (T62.setTop (mkF m 151 #[.val (.int p0), .val (.int p1), .val (.int p2), .val (.int p3), .val (.int ty), .val (.int pr), .val (.int bz), .val (.ref b34), .val (.ref b43), .val (.int (0 : Int32))] [(.int (own_il ty pr))]))
                refine go (fun t kt' => by refine XS.iload X62.here hx rfl (hb hby at_151) rfl ?_; exact kt') ?_
                show Go p e below _ (T62.setTop (mkF m 153 #[.val (.int p0), .val (.int p1), .val (.int p2), .val (.int p3), .val (.int ty), .val (.int pr), .val (.int bz), .val (.ref b34), .val (.ref b43), .val (.int (0 : Int32))] [(.int (0 : Int32)), (.int (own_il ty pr))]))
                have c153_63 : ¬ (¬ (own_il ty pr) = (0 : Int32)) := not_not_intro (by simp [own_il, Decidable.not_not.mp c98_49, c105_58, c112_61])
                refine go (fun t kt' => by refine XS.icmpNo X62.here hx rfl (hb hby at_153) rfl (teq (Decidable.not_not.mp c153_63)).2 ?_; exact kt') ?_
                show Go p e below _ (T62.setTop (mkF m 156 #[.val (.int p0), .val (.int p1), .val (.int p2), .val (.int p3), .val (.int ty), .val (.int pr), .val (.int bz), .val (.ref b34), .val (.ref b43), .val (.int (0 : Int32))] []))
                refine go (fun t kt' => by refine XS.iconst X62.here hx rfl (hb hby at_156) ?_; exact kt') ?_
                show Go p e below _ (T62.setTop (mkF m 157 #[.val (.int p0), .val (.int p1), .val (.int p2), .val (.int p3), .val (.int ty), .val (.int pr), .val (.int bz), .val (.ref b34), .val (.ref b43), .val (.int (0 : Int32))] [(.int (1 : Int32))]))
                refine go (fun t kt' => by refine XS.goto X62.here hx rfl (pc0 := 157) (pc' := 161) rfl (hb hby at_157) (by decide) (by decide) ?_; exact kt') ?_
                show Go p e below _ (T62.setTop (mkF m 161 #[.val (.int p0), .val (.int p1), .val (.int p2), .val (.int p3), .val (.int ty), .val (.int pr), .val (.int bz), .val (.ref b34), .val (.ref b43), .val (.int (0 : Int32))] [(.int (1 : Int32))]))
                refine goOut X62 (fun h => by rw [Bd.returns] at h; cases h) hlk (fun fs hr => retN X62 hx (t := .boolean) Bd.returns (by simp) (hb hby at_161) hr) (by decide) (by decide) ?_
                rw [e62]
                exact ⟨rfl, N62⟩
              · skip
                refine go (fun t kt' => by refine XS.icmpNo X46.here hx rfl (hb hby at_112) rfl (teq (Decidable.not_not.mp c112_61)).2 ?_; exact kt') ?_
                show Go p e below _ (T46.setTop (mkF m 115 #[.val (.int p0), .val (.int p1), .val (.int p2), .val (.int p3), .val (.int ty), .val (.int pr), .val (.int bz), .val (.ref b34), .val (.ref b43), .unset] []))
                refine go (fun t kt' => by refine XS.iconst X46.here hx rfl (hb hby at_115) ?_; exact kt') ?_
                show Go p e below _ (T46.setTop (mkF m 116 #[.val (.int p0), .val (.int p1), .val (.int p2), .val (.int p3), .val (.int ty), .val (.int pr), .val (.int bz), .val (.ref b34), .val (.ref b43), .unset] [(.int (1 : Int32))]))
                refine go (fun t kt' => by refine XS.goto X46.here hx rfl (pc0 := 116) (pc' := 120) rfl (hb hby at_116) (by decide) (by decide) ?_; exact kt') ?_
                show Go p e below _ (T46.setTop (mkF m 120 #[.val (.int p0), .val (.int p1), .val (.int p2), .val (.int p3), .val (.int ty), .val (.int pr), .val (.int bz), .val (.ref b34), .val (.ref b43), .unset] [(.int (1 : Int32))]))
                refine go (fun t kt' => by refine XS.istore X46.here hx rfl (hb hby at_120) rfl (l' := #[.val (.int p0), .val (.int p1), .val (.int p2), .val (.int p3), .val (.int ty), .val (.int pr), .val (.int bz), .val (.ref b34), .val (.ref b43), .val (.int (1 : Int32))]) rfl ?_; exact kt') ?_
                show Go p e below _ (T46.setTop (mkF m 122 #[.val (.int p0), .val (.int p1), .val (.int p2), .val (.int p3), .val (.int ty), .val (.int pr), .val (.int bz), .val (.ref b34), .val (.ref b43), .val (.int (1 : Int32))] []))
                refine go (fun t kt' => by refine XS.goto X46.here hx rfl (pc0 := 122) (pc' := 144) rfl (hb hby at_122) (by decide) (by decide) ?_; exact kt') ?_
                show Go p e below _ (T46.setTop (mkF m 144 #[.val (.int p0), .val (.int p1), .val (.int p2), .val (.int p3), .val (.int ty), .val (.int pr), .val (.int bz), .val (.ref b34), .val (.ref b43), .val (.int (1 : Int32))] []))
                refine go (fun t kt' => by refine XS.aload X46.here hx rfl (hb hby at_144) rfl rfl ?_; exact kt') ?_
                show Go p e below _ (T46.setTop (mkF m 146 #[.val (.int p0), .val (.int p1), .val (.int p2), .val (.int p3), .val (.int ty), .val (.int pr), .val (.int bz), .val (.ref b34), .val (.ref b43), .val (.int (1 : Int32))] [(.ref b43)]))
                refine go (fun t kt' => by refine XS.iload X46.here hx rfl (hb hby at_146) rfl ?_; exact kt') ?_
                show Go p e below _ (T46.setTop (mkF m 148 #[.val (.int p0), .val (.int p1), .val (.int p2), .val (.int p3), .val (.int ty), .val (.int pr), .val (.int bz), .val (.ref b34), .val (.ref b43), .val (.int (1 : Int32))] [(.int pr), (.ref b43)]))
                obtain ⟨cq64, kq64, q64a, q64b, q64c⟩ := isOf hZ rfl P46_0
                obtain ⟨_, _, ⟨T64, L64, k64, n64⟩, -, X64, ⟨Lc64, hQ64, l64, y64, z64⟩, st64⟩ := X46.virtualBack hx (y := (⟨"org/keymoot/Attribute", "isLife", "(I)Z"⟩ : MethodName)) (z := (⟨"org/keymoot/Attribute", "isLife", "(I)Z"⟩ : MethodName)) hown (mvT hZ (hw _ (List.mem_of_getElem? (i := 23) rfl))) (mvT hZ (hw _ (List.mem_of_getElem? (i := 24) rfl))) (notFace_of_selects (args := #[]) (mvT hZ (hw _ (List.mem_of_getElem? (i := 26) rfl)))) (mvT hZ (hw _ (List.mem_of_getElem? (i := 26) rfl))) (mvT hZ (hw _ (List.mem_of_getElem? (i := 25) rfl))) (by decide) (backOf (W := 0) (rm4 l Z a0 hw [] b43 pr ty T46.heap n0 f47_Z P46_0 P46_1) hZ (hw _ (List.mem_of_getElem? (i := 27) rfl)) (hw _ (List.mem_of_getElem? (i := 3) rfl)) (by decide) (by decide)) q64a q64c (g := (mkF m 148 #[.val (.int p0), .val (.int p1), .val (.int p2), .val (.int p3), .val (.int ty), .val (.int pr), .val (.int bz), .val (.ref b34), .val (.ref b43), .val (.int (1 : Int32))] [(.int pr), (.ref b43)])) rfl (by rw [hml]; rfl) (Steps.refl _) (argsL := [(.int pr)]) (rest := []) (lenOf pd_2 rfl) rfl (by show 2 * 0 + _ ≤ _; exact Nat.le_of_eq rfl) (hb hby at_148) (fun _ _ => ⟨rfl, rfl, (by decide : 2 + 0 ≤ _), (by decide : 5 + 0 ≤ _)⟩)
                dsimp only [Pt.U, Pt.locs, Pt.cells, Pt.slots] at X64 l64 y64 z64 st64 hQ64
                subst l64 y64 z64
                obtain ⟨rfl, N64q, e64⟩ := hQ64
                have N64 := Fr.app N46 N64q
                refine go (fun t kt => st64.trans kt) ?_
                show Go p e below _ (T64.setTop (mkF m 151 #[.val (.int p0), .val (.int p1), .val (.int p2), .val (.int p3), .val (.int ty), .val (.int pr), .val (.int bz), .val (.ref b34), .val (.ref b43), .val (.int (1 : Int32))] [(.int (own_il ty pr))]))
                refine go (fun t kt' => by refine XS.iload X64.here hx rfl (hb hby at_151) rfl ?_; exact kt') ?_
                show Go p e below _ (T64.setTop (mkF m 153 #[.val (.int p0), .val (.int p1), .val (.int p2), .val (.int p3), .val (.int ty), .val (.int pr), .val (.int bz), .val (.ref b34), .val (.ref b43), .val (.int (1 : Int32))] [(.int (1 : Int32)), (.int (own_il ty pr))]))
                have c153_65 : ¬ (¬ (own_il ty pr) = (1 : Int32)) := not_not_intro (by simp [own_il, Decidable.not_not.mp c98_49, c105_58, Decidable.not_not.mp c112_61])
                refine go (fun t kt' => by refine XS.icmpNo X64.here hx rfl (hb hby at_153) rfl (teq (Decidable.not_not.mp c153_65)).2 ?_; exact kt') ?_
                show Go p e below _ (T64.setTop (mkF m 156 #[.val (.int p0), .val (.int p1), .val (.int p2), .val (.int p3), .val (.int ty), .val (.int pr), .val (.int bz), .val (.ref b34), .val (.ref b43), .val (.int (1 : Int32))] []))
                refine go (fun t kt' => by refine XS.iconst X64.here hx rfl (hb hby at_156) ?_; exact kt') ?_
                show Go p e below _ (T64.setTop (mkF m 157 #[.val (.int p0), .val (.int p1), .val (.int p2), .val (.int p3), .val (.int ty), .val (.int pr), .val (.int bz), .val (.ref b34), .val (.ref b43), .val (.int (1 : Int32))] [(.int (1 : Int32))]))
                refine go (fun t kt' => by refine XS.goto X64.here hx rfl (pc0 := 157) (pc' := 161) rfl (hb hby at_157) (by decide) (by decide) ?_; exact kt') ?_
                show Go p e below _ (T64.setTop (mkF m 161 #[.val (.int p0), .val (.int p1), .val (.int p2), .val (.int p3), .val (.int ty), .val (.int pr), .val (.int bz), .val (.ref b34), .val (.ref b43), .val (.int (1 : Int32))] [(.int (1 : Int32))]))
                refine goOut X64 (fun h => by rw [Bd.returns] at h; cases h) hlk (fun fs hr => retN X64 hx (t := .boolean) Bd.returns (by simp) (hb hby at_161) hr) (by decide) (by decide) ?_
                rw [e64]
                exact ⟨rfl, N64⟩
      by_cases c36_66 : (p3 &&& (4 : Int32)) = (0 : Int32)
      · skip
        refine go (fun t kt' => by refine XS.ifYes X0.here hx rfl (pc0 := 36) (pc' := 43) rfl (hb hby at_36) rfl ((if0 _ _).trans (teq c36_66).1) (by decide) (by decide) ?_; exact kt') ?_
        show Go p e below _ (s₁.setTop (mkF m 43 #[.val (.int p0), .val (.int p1), .val (.int p2), .val (.int p3), .val (.int ty), .val (.int pr), .unset, .unset, .unset, .unset] []))
        refine go (fun t kt' => by refine XS.iconst X0.here hx rfl (hb hby at_43) ?_; exact kt') ?_
        show Go p e below _ (s₁.setTop (mkF m 44 #[.val (.int p0), .val (.int p1), .val (.int p2), .val (.int p3), .val (.int ty), .val (.int pr), .unset, .unset, .unset, .unset] [(.int (0 : Int32))]))
        exact J44_3 _
      · skip
        refine go (fun t kt' => by refine XS.ifNo X0.here hx rfl (hb hby at_36) rfl ((if0 _ _).trans (feq c36_66).1) ?_; exact kt') ?_
        show Go p e below _ (s₁.setTop (mkF m 39 #[.val (.int p0), .val (.int p1), .val (.int p2), .val (.int p3), .val (.int ty), .val (.int pr), .unset, .unset, .unset, .unset] []))
        refine go (fun t kt' => by refine XS.iconst X0.here hx rfl (hb hby at_39) ?_; exact kt') ?_
        show Go p e below _ (s₁.setTop (mkF m 40 #[.val (.int p0), .val (.int p1), .val (.int p2), .val (.int p3), .val (.int ty), .val (.int pr), .unset, .unset, .unset, .unset] [(.int (1 : Int32))]))
        refine go (fun t kt' => by refine XS.goto X0.here hx rfl (pc0 := 40) (pc' := 44) rfl (hb hby at_40) (by decide) (by decide) ?_; exact kt') ?_
        show Go p e below _ (s₁.setTop (mkF m 44 #[.val (.int p0), .val (.int p1), .val (.int p2), .val (.int p3), .val (.int ty), .val (.int pr), .unset, .unset, .unset, .unset] [(.int (1 : Int32))]))
        exact J44_3 _
    by_cases c23_67 : (p3 &&& (2 : Int32)) = (0 : Int32)
    · skip
      refine go (fun t kt' => by refine XS.ifYes X0.here hx rfl (pc0 := 23) (pc' := 30) rfl (hb hby at_23) rfl ((if0 _ _).trans (teq c23_67).1) (by decide) (by decide) ?_; exact kt') ?_
      show Go p e below _ (s₁.setTop (mkF m 30 #[.val (.int p0), .val (.int p1), .val (.int p2), .val (.int p3), .val (.int ty), .unset, .unset, .unset, .unset, .unset] []))
      refine go (fun t kt' => by refine XS.iloadN X0.here hx rfl (hb hby at_30) rfl ?_; exact kt') ?_
      show Go p e below _ (s₁.setTop (mkF m 31 #[.val (.int p0), .val (.int p1), .val (.int p2), .val (.int p3), .val (.int ty), .unset, .unset, .unset, .unset, .unset] [(.int p1)]))
      exact J31_2 _
    · skip
      refine go (fun t kt' => by refine XS.ifNo X0.here hx rfl (hb hby at_23) rfl ((if0 _ _).trans (feq c23_67).1) ?_; exact kt') ?_
      show Go p e below _ (s₁.setTop (mkF m 26 #[.val (.int p0), .val (.int p1), .val (.int p2), .val (.int p3), .val (.int ty), .unset, .unset, .unset, .unset, .unset] []))
      refine go (fun t kt' => by refine XS.iconst X0.here hx rfl (hb hby at_26) ?_; exact kt') ?_
      show Go p e below _ (s₁.setTop (mkF m 27 #[.val (.int p0), .val (.int p1), .val (.int p2), .val (.int p3), .val (.int ty), .unset, .unset, .unset, .unset, .unset] [(.int (1 : Int32))]))
      refine go (fun t kt' => by refine XS.goto X0.here hx rfl (pc0 := 27) (pc' := 31) rfl (hb hby at_27) (by decide) (by decide) ?_; exact kt') ?_
      show Go p e below _ (s₁.setTop (mkF m 31 #[.val (.int p0), .val (.int p1), .val (.int p2), .val (.int p3), .val (.int ty), .unset, .unset, .unset, .unset, .unset] [(.int (1 : Int32))]))
      exact J31_2 _
  by_cases c3_68 : (p3 &&& (1 : Int32)) = (0 : Int32)
  · skip
    refine go (fun t kt' => by refine XS.ifYes X0.here hx rfl (pc0 := 3) (pc' := 13) rfl (hb hby at_3) rfl ((if0 _ _).trans (teq c3_68).1) (by decide) (by decide) ?_; exact kt') ?_
    show Go p e below _ (s₁.setTop (mkF m 13 #[.val (.int p0), .val (.int p1), .val (.int p2), .val (.int p3), .unset, .unset, .unset, .unset, .unset, .unset] []))
    refine go (fun t kt' => by refine XS.iloadN X0.here hx rfl (hb hby at_13) rfl ?_; exact kt') ?_
    show Go p e below _ (s₁.setTop (mkF m 14 #[.val (.int p0), .val (.int p1), .val (.int p2), .val (.int p3), .unset, .unset, .unset, .unset, .unset, .unset] [(.int p0)]))
    refine go (fun t kt' => by refine XS.sipush X0.here hx rfl (hb hby at_14) ?_; exact kt') ?_
    show Go p e below _ (s₁.setTop (mkF m 17 #[.val (.int p0), .val (.int p1), .val (.int p2), .val (.int p3), .unset, .unset, .unset, .unset, .unset, .unset] [(.int (32767 : Int32)), (.int p0)]))
    refine go (fun t kt' => by refine XS.iand X0.here hx rfl (hb hby at_17) rfl ?_; exact kt') ?_
    show Go p e below _ (s₁.setTop (mkF m 18 #[.val (.int p0), .val (.int p1), .val (.int p2), .val (.int p3), .unset, .unset, .unset, .unset, .unset, .unset] [(.int (p0 &&& (32767 : Int32)))]))
    exact J18_1 _ (own_t2 _)
  · skip
    refine go (fun t kt' => by refine XS.ifNo X0.here hx rfl (hb hby at_3) rfl ((if0 _ _).trans (feq c3_68).1) ?_; exact kt') ?_
    show Go p e below _ (s₁.setTop (mkF m 6 #[.val (.int p0), .val (.int p1), .val (.int p2), .val (.int p3), .unset, .unset, .unset, .unset, .unset, .unset] []))
    refine go (fun t kt' => by refine XS.iloadN X0.here hx rfl (hb hby at_6) rfl ?_; exact kt') ?_
    show Go p e below _ (s₁.setTop (mkF m 7 #[.val (.int p0), .val (.int p1), .val (.int p2), .val (.int p3), .unset, .unset, .unset, .unset, .unset, .unset] [(.int p0)]))
    refine go (fun t kt' => by refine XS.bipush X0.here hx rfl (hb hby at_7) ?_; exact kt') ?_
    show Go p e below _ (s₁.setTop (mkF m 9 #[.val (.int p0), .val (.int p1), .val (.int p2), .val (.int p3), .unset, .unset, .unset, .unset, .unset, .unset] [(.int (15 : Int32)), (.int p0)]))
    refine go (fun t kt' => by refine XS.iand X0.here hx rfl (hb hby at_9) rfl ?_; exact kt') ?_
    show Go p e below _ (s₁.setTop (mkF m 10 #[.val (.int p0), .val (.int p1), .val (.int p2), .val (.int p3), .unset, .unset, .unset, .unset, .unset, .unset] [(.int (p0 &&& (15 : Int32)))]))
    refine go (fun t kt' => by refine XS.goto X0.here hx rfl (pc0 := 10) (pc' := 18) rfl (hb hby at_10) (by decide) (by decide) ?_; exact kt') ?_
    show Go p e below _ (s₁.setTop (mkF m 18 #[.val (.int p0), .val (.int p1), .val (.int p2), .val (.int p3), .unset, .unset, .unset, .unset, .unset, .unset] [(.int (p0 &&& (15 : Int32)))]))
    exact J18_1 _ (own_t1 _)
set_option maxRecDepth 65536 in
set_option maxHeartbeats 40000000 in
theorem comes_1 {Post : Tables → Env → Array Value → State → Outcome → State → Prop} (hpost : ∀ tb e args s v u, (limb_1_1.after args s (.returned v) u = true ∧ limb_1_2.after args s (.returned v) u = true ∧ True) → FrameEnd s (.returned v) u (Jvm.fieldLocs frame_1_writes args s ++ Jvm.arrayLocs frame_1_arrays args s ++ Jvm.staticLocs frame_1_statics s) 16 128 → Post tb e args s (.returned v) u) :
    ArmFor flags0 classFile x code maxLocals ret World_1 tables_1 room_1 Calls_1 rest_1 Pre_1 Post := by
  intro l hfl _ _ p e ha hc hk s m args below hf hA hF happ hP
  obtain ⟨hcalls, hrest, hpre⟩ := hP
  obtain ⟨-, -, -, hnamed, -, -, -, hat⟩ := (Spec.applies_iff hf).mp happ
  obtain ⟨hg, hn⟩ := and_e (Cond.before_iff.mp (show (Jvm.Cond.and given_1 narrow_1).before args s = true from hpre))
  obtain ⟨g1, g2⟩ := and_e hg
  obtain ⟨g3, g4⟩ := and_e g2
  obtain ⟨g5, g6⟩ := and_e g4
  obtain ⟨g7, g8⟩ := and_e g6
  obtain ⟨w0, w1, w2, w3, rfl⟩ : ∃ w0 w1 w2 w3 : Value, args = #[w0, w1, w2, w3] := by
    have hs : args.size = 4 := by simpa [Cond.value, given_1] using g1
    obtain ⟨L⟩ := args
    match L, hs with
    | [w0, w1, w2, w3], _ => exact ⟨w0, w1, w2, w3, rfl⟩
  have hw := fun d (hd : d ∈ tables_1) => atoms_spec (ws := Jvm.Cond.code x code maxLocals ret :: tables_1) hat d (List.mem_cons_of_mem _ hd)
  have hfit : Fit s := fun {y c} hc i hi => by
    obtain ⟨ha, rfl⟩ := Array.getElem?_eq_some_iff.mp hc
    have q := List.all_eq_true.mp ((Array.all_eq_true_iff_forall_mem.mp hF) _ (Array.getElem_mem ha)) i (List.mem_range.mpr hi)
    simpa [Array.getElem?_eq_getElem hi] using q
  obtain ⟨i0, ei0⟩ := is_v g3
  obtain rfl : w0 = (.int i0) := Option.some.inj ei0
  obtain ⟨i1, ei1⟩ := is_v g5
  obtain rfl : w1 = (.int i1) := Option.some.inj ei1
  obtain ⟨i2, ei2⟩ := is_v g7
  obtain rfl : w2 = (.int i2) := Option.some.inj ei2
  obtain ⟨i3, ei3⟩ := is_v g8
  obtain rfl : w3 = (.int i3) := Option.some.inj ei3
  obtain ⟨n, o, h1, h2, h3, _, L, rfl, ⟨rfl, N⟩, hq⟩ := rm0 l s _ hw tables_1 i0 i1 i2 i3  s.heap s.heap.size (Nat.le_refl _)  p e ha hc hk s m _ below hf ((Spec.applies_iff_loose hf).mp happ).1 ⟨rfl, State.Warmed39.refl s, rfl⟩ trivial
  refine ⟨n, _, h1, h2, h3, hpost _ _ _ _ _ _ ⟨Cond.after_iff.mpr rfl, Cond.after_iff.mpr (eq_i res_at (Term.int_eval (1)) rfl), trivial⟩ ⟨hq.1, hq.2.1, (hq.2.2.sift fun y hy => Or.inr (N y hy)).mono (by decide) (by decide)⟩⟩
theorem main_1_1 : Claimed_1_1 := comes_1 fun _ _ _ _ _ _ h hF => ⟨h.1, hF⟩
theorem main_1_2 : Claimed_1_2 := comes_1 fun _ _ _ _ _ _ h hF => ⟨h.2.1, hF⟩
end Jvm.Pilot.@@N@@
namespace Jvm.Pilot.@@N@@
open Jvm Jvm.ClassFile Sem Op Lib Jvm.Free Jvm.Stand Jvm.Pilot.@@N@@.Jvm.D
/-! MADE BY PROGRAM (witnessworld.py) out of the Statement's table words and the real class files: 10 classes; the members and pool entries that the words name. The judged class is class 1, her method 1. -/
namespace start1
open Jvm.ClassFile
def u (s : String) : CpInfo := .utf8 (stringToUtf16 s)
/-- a pool by its gaps: so many unusable entries, then the entry; so many at the end -/
def gap : Nat → List CpInfo → List CpInfo
  | 0, r => r
  | n + 1, r => .unusable :: gap n r
def poolList (es : List (Nat × CpInfo)) (last : Nat) : List CpInfo := es.foldr (fun e r => gap e.1 (e.2 :: r)) (gap last [])
def pool (es : List (Nat × CpInfo)) (last : Nat) : Array CpInfo := ⟨poolList es last⟩
def fileOf (pool : Array CpInfo) (this : Nat) (attrs : Array Attribute := #[]) (ms : Array MethodInfo := #[]) (fl : Nat := 33) (sup : Nat := 0) (ifs : Array Nat := #[]) (fds : Array FieldInfo := #[]) : ClassFile where
  minorVersion := 0
  majorVersion := 65
  constantPool := pool
  accessFlags := fl
  thisClass := this
  superClass := sup
  interfaces := ifs
  fields := fds
  methods := ms
  attributes := attrs
def plain (name : String) (sup : Option ClassId) : Class where
  name := name
  kind := .ordinary
  loader := none
  accessFlags := 33
  super := sup
  interfaces := #[]
  cf := none
  fields := #[]
  methods := #[]
  instanceTypes := #[]
  staticTypes := #[]
  resolved := #[]
  callSites := []
  init := .initialized
  statics := none
  mirror := none

def pool0 : Array CpInfo := pool [(5, u "<init>"), (0, u "()V"), (1, .class_ 10), (1, u "java/lang/Object")] 113

def k0c0 : Code := { maxStack := 0, maxLocals := 1, code := object_method_1_code, exceptionTable := #[], attributes := #[] }
def k0m0 : Method := { name := "<init>", desc := "()V", sig := { parameters := [], returnType := none }, accessFlags := 1, code := some k0c0 }
/-- java/lang/Object -/
def k0 : Class := { plain "java/lang/Object" none with
  accessFlags := 33
  interfaces := #[]
  cf := some (fileOf pool0 8 #[] #[{ accessFlags := 1, nameIndex := 5, descriptorIndex := 6, attributes := #[] }] 33 0 #[] #[])
  fields := #[]
  methods := #[k0m0]
  instanceTypes := #[]
  staticTypes := #[]
  resolved := Array.replicate 124 none
  statics := none }

def pool1 : Array CpInfo := pool [(2, .class_ 4), (1, u "java/lang/Object"), (0, u "<init>"), (0, u "()V"), (0, .class_ 8), (0, u "org/keymoot/Attribute"), (0, .methodref 7 10), (0, .nameAndType 5 11), (0, u "(IZ[B)V"), (0, .methodref 7 13), (0, .nameAndType 14 15), (0, u "isLife"), (0, u "(I)Z"), (0, .class_ 17), (0, u "org/keymoot/AttributeIsLifePinLaw"), (2, u "law"), (0, u "(IIII)Z")] 5

def k1m0 : Method := { name := "<init>", desc := "()V", sig := { parameters := [], returnType := none }, accessFlags := 2, code := none }
def k1c1 : Code := { maxStack := 5, maxLocals := 10, code := code, exceptionTable := #[], attributes := #[] }
def k1m1 : Method := { name := "law", desc := "(IIII)Z", sig := { parameters := [.int, .int, .int, .int], returnType := some .boolean }, accessFlags := 9, code := some k1c1 }
/-- org/keymoot/AttributeIsLifePinLaw -/
def k1 : Class := { plain "org/keymoot/AttributeIsLifePinLaw" (some 0) with
  accessFlags := 49
  interfaces := #[]
  cf := some (fileOf pool1 16 #[] #[{ accessFlags := 2, nameIndex := 5, descriptorIndex := 6, attributes := #[] }, { accessFlags := 9, nameIndex := 20, descriptorIndex := 21, attributes := #[] }] 49 2 #[] #[])
  fields := #[]
  methods := #[k1m0, k1m1]
  instanceTypes := #[]
  staticTypes := #[]
  resolved := Array.replicate 27 none
  statics := none }

def pool2 : Array CpInfo := pool [(1, .methodref 2 3), (0, .class_ 4), (0, .nameAndType 5 6), (0, u "java/lang/Object"), (0, u "<init>"), (0, u "()V"), (0, .class_ 8), (0, u "java/lang/Record")] 13

def k2c0 : Code := { maxStack := 1, maxLocals := 1, code := jdk_30_method_1_code, exceptionTable := #[], attributes := #[] }
def k2m0 : Method := { name := "<init>", desc := "()V", sig := { parameters := [], returnType := none }, accessFlags := 4, code := some k2c0 }
/-- java/lang/Record -/
def k2 : Class := { plain "java/lang/Record" (some 0) with
  accessFlags := 1057
  interfaces := #[]
  cf := some (fileOf pool2 7 #[] #[{ accessFlags := 4, nameIndex := 5, descriptorIndex := 6, attributes := #[] }] 1057 2 #[] #[])
  fields := #[]
  methods := #[k2m0]
  instanceTypes := #[]
  staticTypes := #[]
  resolved := Array.replicate 22 none
  statics := none }

def pool3 : Array CpInfo := pool [(1, .methodref 2 3), (0, .class_ 4), (0, .nameAndType 5 6), (0, u "java/lang/Record"), (0, u "<init>"), (0, u "()V"), (0, .class_ 8), (0, u "org/keymoot/Attribute"), (0, .integer 32768), (9, .integer 65535), (1, .fieldref 7 22), (0, .nameAndType 23 24), (0, u "type"), (0, u "I"), (0, .fieldref 7 26), (0, .nameAndType 27 28), (0, u "basic"), (0, u "Z"), (0, .fieldref 7 30), (0, .nameAndType 31 32), (0, u "value"), (0, u "[B"), (2, u "(IZ[B)V"), (40, u "(I)Z"), (6, u "isLife"), (95, u "ENCRYPTION"), (2, u "HASH"), (1, u "AUTHENTICATION_METHOD"), (1, u "GROUP"), (1, u "LIFE_TYPE"), (1, u "LIFE_DURATION"), (1, u "SA_LIFE_TYPE"), (0, u "SA_LIFE_DURATION"), (0, u "GROUP_DESCRIPTION"), (0, u "ENCAPSULATION_MODE"), (0, u "AUTHENTICATION_ALGORITHM"), (1, u "SECONDS"), (0, u "DEFAULT_LIFETIME"), (1, u "TUNNEL"), (0, u "FORMAT_BASIC")] 58

def k3c0 : Code := { maxStack := 3, maxLocals := 4, code := prog_6_method_1_code, exceptionTable := #[], attributes := #[] }
def k3m0 : Method := { name := "<init>", desc := "(IZ[B)V", sig := { parameters := [.int, .boolean, (.array .byte)], returnType := none }, accessFlags := 0, code := some k3c0 }
def k3c1 : Code := { maxStack := 2, maxLocals := 2, code := prog_6_method_4_code, exceptionTable := #[], attributes := #[] }
def k3m1 : Method := { name := "isLife", desc := "(I)Z", sig := { parameters := [.int], returnType := some .boolean }, accessFlags := 0, code := some k3c1 }
/-- org/keymoot/Attribute -/
def k3 : Class := { plain "org/keymoot/Attribute" (some 2) with
  accessFlags := 48
  interfaces := #[]
  cf := some (fileOf pool3 7 #[] #[{ accessFlags := 0, nameIndex := 5, descriptorIndex := 35, attributes := #[] }, { accessFlags := 0, nameIndex := 83, descriptorIndex := 76, attributes := #[] }] 48 2 #[] #[{ accessFlags := 18, nameIndex := 23, descriptorIndex := 24, attributes := #[] }, { accessFlags := 18, nameIndex := 27, descriptorIndex := 28, attributes := #[] }, { accessFlags := 18, nameIndex := 31, descriptorIndex := 32, attributes := #[] }, { accessFlags := 24, nameIndex := 179, descriptorIndex := 24, attributes := #[] }, { accessFlags := 24, nameIndex := 182, descriptorIndex := 24, attributes := #[] }, { accessFlags := 24, nameIndex := 184, descriptorIndex := 24, attributes := #[] }, { accessFlags := 24, nameIndex := 186, descriptorIndex := 24, attributes := #[] }, { accessFlags := 24, nameIndex := 188, descriptorIndex := 24, attributes := #[] }, { accessFlags := 24, nameIndex := 190, descriptorIndex := 24, attributes := #[] }, { accessFlags := 24, nameIndex := 192, descriptorIndex := 24, attributes := #[] }, { accessFlags := 24, nameIndex := 193, descriptorIndex := 24, attributes := #[] }, { accessFlags := 24, nameIndex := 194, descriptorIndex := 24, attributes := #[] }, { accessFlags := 24, nameIndex := 195, descriptorIndex := 24, attributes := #[] }, { accessFlags := 24, nameIndex := 196, descriptorIndex := 24, attributes := #[] }, { accessFlags := 24, nameIndex := 198, descriptorIndex := 24, attributes := #[] }, { accessFlags := 24, nameIndex := 199, descriptorIndex := 24, attributes := #[] }, { accessFlags := 24, nameIndex := 201, descriptorIndex := 24, attributes := #[] }, { accessFlags := 26, nameIndex := 202, descriptorIndex := 24, attributes := #[] }])
  fields := #[{ name := "type", type := .int, accessFlags := 18, slot := 0, constantValue := 0 }, { name := "basic", type := .boolean, accessFlags := 18, slot := 1, constantValue := 0 }, { name := "value", type := (.array .byte), accessFlags := 18, slot := 2, constantValue := 0 }, { name := "ENCRYPTION", type := .int, accessFlags := 24, slot := 0, constantValue := 0 }, { name := "HASH", type := .int, accessFlags := 24, slot := 1, constantValue := 0 }, { name := "AUTHENTICATION_METHOD", type := .int, accessFlags := 24, slot := 2, constantValue := 0 }, { name := "GROUP", type := .int, accessFlags := 24, slot := 3, constantValue := 0 }, { name := "LIFE_TYPE", type := .int, accessFlags := 24, slot := 4, constantValue := 0 }, { name := "LIFE_DURATION", type := .int, accessFlags := 24, slot := 5, constantValue := 0 }, { name := "SA_LIFE_TYPE", type := .int, accessFlags := 24, slot := 6, constantValue := 0 }, { name := "SA_LIFE_DURATION", type := .int, accessFlags := 24, slot := 7, constantValue := 0 }, { name := "GROUP_DESCRIPTION", type := .int, accessFlags := 24, slot := 8, constantValue := 0 }, { name := "ENCAPSULATION_MODE", type := .int, accessFlags := 24, slot := 9, constantValue := 0 }, { name := "AUTHENTICATION_ALGORITHM", type := .int, accessFlags := 24, slot := 10, constantValue := 0 }, { name := "SECONDS", type := .int, accessFlags := 24, slot := 11, constantValue := 0 }, { name := "DEFAULT_LIFETIME", type := .int, accessFlags := 24, slot := 12, constantValue := 0 }, { name := "TUNNEL", type := .int, accessFlags := 24, slot := 13, constantValue := 0 }, { name := "FORMAT_BASIC", type := .int, accessFlags := 26, slot := 14, constantValue := 0 }]
  methods := #[k3m0, k3m1]
  instanceTypes := #[.int, .boolean, (.array .byte)]
  staticTypes := #[.int, .int, .int, .int, .int, .int, .int, .int, .int, .int, .int, .int, .int, .int, .int]
  resolved := Array.replicate 261 none
  statics := none }

def pool4 : Array CpInfo := pool [(1, u "java/lang/Cloneable"), (0, .class_ 1), (0, u "java/lang/Object"), (0, .class_ 3)] 3

/-- java/lang/Cloneable -/
def k4 : Class := { plain "java/lang/Cloneable" (some 0) with
  accessFlags := 1537
  interfaces := #[]
  cf := some (fileOf pool4 2 #[] #[] 1537 4 #[] #[])
  fields := #[]
  methods := #[]
  instanceTypes := #[]
  staticTypes := #[]
  resolved := Array.replicate 8 none
  statics := none }

def pool5 : Array CpInfo := pool [(1, u "java/io/Serializable"), (0, .class_ 1), (0, u "java/lang/Object"), (0, .class_ 3)] 3

/-- java/io/Serializable -/
def k5 : Class := { plain "java/io/Serializable" (some 0) with
  accessFlags := 1537
  interfaces := #[]
  cf := some (fileOf pool5 2 #[] #[] 1537 4 #[] #[])
  fields := #[]
  methods := #[]
  instanceTypes := #[]
  staticTypes := #[]
  resolved := Array.replicate 8 none
  statics := none }

/-- the primitive byte -/
def k6 : Class := { plain "byte" none with kind := .primitive 'B', accessFlags := 0x411 }
/-- [B -/
def k7 : Class := { plain "[B" (some 0) with kind := .array 6 .byte, interfaces := #[4, 5], accessFlags := 1041 }

/-- the primitive int -/
def k8 : Class := { plain "int" none with kind := .primitive 'I', accessFlags := 0x411 }
/-- [I -/
def k9 : Class := { plain "[I" (some 0) with kind := .array 8 .int, interfaces := #[4, 5], accessFlags := 1041 }

def heap : Heap := #[]
def classes : Array Class := #[k0, k1, k2, k3, k4, k5, k6, k7, k8, k9]
def interned : List (Array UInt16 × Addr) := []
def slotsUsed : Nat := 0
def theMethod : MethodId := ⟨1, 1⟩
def args0 : Array Value := #[.int 5, .int 7, .int 1, .int 2]
def aboutOver (below : List Frame) : State where
  vm := { classes := classes, interned := interned.toArray }
  heap := heap
  slotsUsed := slotsUsed
  threads := #[{ frames := .invoking theMethod args0 :: below }]
def below0 : List Frame := [.native { method := ⟨0, 0⟩, args := #[] }]
def about1 : State := aboutOver below0
def p0 : Program := .bare "" "" ""
def e0 : Env := launch0.env 0 0 0
theorem w_frames : about1.frames = Frame.invoking theMethod args0 :: below0 := rfl
set_option maxRecDepth 65536 in
theorem w_args : argsFit about1.vm theMethod args0 = true := by decide +kernel
set_option maxRecDepth 65536 in
theorem w_heap : heapFits about1 = true := by decide +kernel
set_option maxRecDepth 65536 in
theorem w_runnable : about1.curStatus? = some .runnable := by decide +kernel
set_option maxRecDepth 65536 in
theorem w_alone : about1.alone = true := by decide +kernel
set_option maxRecDepth 65536 in
theorem w_named : about1.methodNamed? x = some theMethod := by decide +kernel
set_option maxRecDepth 65536 in
theorem w_hears : about1.hears theMethod below0 = true := by decide +kernel
set_option maxRecDepth 65536 in
theorem w_ripe : about1.ripe theMethod args0 below0 = true := by decide +kernel
theorem w_running : about1.status = .running := rfl
set_option maxRecDepth 65536 in
theorem w_room : about1.hasRoom e0.platform room_1 = true :=
  launch0.hasRoom_least _ room_1 (by decide +kernel) (by decide +kernel) (by decide +kernel) (by decide +kernel) (by decide +kernel) (by decide +kernel)
theorem allAtoms_all (ts : List Jvm.Cond) (a : Array Jvm.Value) (st : Jvm.State) : (allAtoms ts).before a st = ts.all (fun c => c.before a st) := by
  induction ts with
  | nil => rfl
  | cons c t ih =>
    show (Jvm.Cond.and c (allAtoms t)).before a st = _
    rw [Jvm.Cond.before_and, ih, List.all_cons]
def words1 : List Jvm.Cond := Jvm.Cond.code x code maxLocals ret :: tables_1
/-- a 'code' word, met by the world's own term for the bytes: nothing is compared byte by byte -/
theorem code_word {y : MethodName} {bytes : ByteArray} {mx : Nat} {rt : Option FieldType} {a : Array Value} {s : State} {m : MethodId} {meth : Method} {c : Code} (h1 : s.methodNamed? y = some m) (h2 : s.vm.method? m = some meth) (h3 : meth.code = some c) (h4 : c.code = bytes)
    (h5 : (c.maxLocals == mx && c.exceptionTable.isEmpty && decide (c.maxStack ≤ mostOperands) && decide (meth.sig.returnType = rt) && !meth.locks && decide (parseMethodDescriptor y.desc = some meth.sig)) = true) : (Jvm.Cond.code y bytes mx rt).before a s = true := by
  simp only [Bool.and_eq_true, beq_iff_eq, Bool.not_eq_true', decide_eq_true_eq] at h5
  obtain ⟨⟨⟨⟨⟨g1, g2⟩, g3⟩, g4⟩, g5⟩, g6⟩ := h5
  simp [Cond.before, Cond.holds, Cond.value, h1, h2, h3, h4, g1, g2, g3, g4, g5, g6]
def isCode : Jvm.Cond → Bool
  | .code _ _ _ _ => true
  | _ => false
theorem all_split {L : List Jvm.Cond} {P : Jvm.Cond → Bool} (h1 : L.all (fun c => isCode c || P c) = true) (h2 : ∀ c ∈ L.filter isCode, P c = true) : L.all P = true := by
  refine List.all_eq_true.mpr fun c hc => ?_
  have h := List.all_eq_true.mp h1 c hc
  rcases Bool.eq_false_or_eq_true (isCode c) with hi | hi
  · exact h2 c (List.mem_filter.mpr ⟨hc, hi⟩)
  · simpa [hi] using h
set_option maxRecDepth 65536 in
theorem w_c0 : (Jvm.Cond.code x code maxLocals ret).before args0 about1 = true := code_word (m := ⟨1, 1⟩) (meth := k1m1) (c := k1c1) (by decide +kernel) rfl rfl rfl (by decide +kernel)
set_option maxRecDepth 65536 in
theorem w_c1 : (Jvm.Cond.code ({ cls := "org/keymoot/Attribute", name := "<init>", desc := "(IZ[B)V" } : Jvm.MethodName) prog_6_method_1_code (4 : Nat) (Option.none : Option Jvm.ClassFile.FieldType)).before args0 about1 = true := code_word (m := ⟨3, 0⟩) (meth := k3m0) (c := k3c0) (by decide +kernel) rfl rfl rfl (by decide +kernel)
set_option maxRecDepth 65536 in
theorem w_c2 : (Jvm.Cond.code ({ cls := "java/lang/Record", name := "<init>", desc := "()V" } : Jvm.MethodName) jdk_30_method_1_code (1 : Nat) (Option.none : Option Jvm.ClassFile.FieldType)).before args0 about1 = true := code_word (m := ⟨2, 0⟩) (meth := k2m0) (c := k2c0) (by decide +kernel) rfl rfl rfl (by decide +kernel)
set_option maxRecDepth 65536 in
theorem w_c3 : (Jvm.Cond.code ({ cls := "java/lang/Object", name := "<init>", desc := "()V" } : Jvm.MethodName) object_method_1_code (1 : Nat) (Option.none : Option Jvm.ClassFile.FieldType)).before args0 about1 = true := code_word (m := ⟨0, 0⟩) (meth := k0m0) (c := k0c0) (by decide +kernel) rfl rfl rfl (by decide +kernel)
set_option maxRecDepth 65536 in
theorem w_c4 : (Jvm.Cond.code ({ cls := "org/keymoot/Attribute", name := "isLife", desc := "(I)Z" } : Jvm.MethodName) prog_6_method_4_code (2 : Nat) (Option.some Jvm.ClassFile.FieldType.boolean)).before args0 about1 = true := code_word (m := ⟨3, 1⟩) (meth := k3m1) (c := k3c1) (by decide +kernel) rfl rfl rfl (by decide +kernel)
def codes1 : List Jvm.Cond := [Jvm.Cond.code x code maxLocals ret, Jvm.Cond.code ({ cls := "org/keymoot/Attribute", name := "<init>", desc := "(IZ[B)V" } : Jvm.MethodName) prog_6_method_1_code (4 : Nat) (Option.none : Option Jvm.ClassFile.FieldType), Jvm.Cond.code ({ cls := "java/lang/Record", name := "<init>", desc := "()V" } : Jvm.MethodName) jdk_30_method_1_code (1 : Nat) (Option.none : Option Jvm.ClassFile.FieldType), Jvm.Cond.code ({ cls := "java/lang/Object", name := "<init>", desc := "()V" } : Jvm.MethodName) object_method_1_code (1 : Nat) (Option.none : Option Jvm.ClassFile.FieldType), Jvm.Cond.code ({ cls := "org/keymoot/Attribute", name := "isLife", desc := "(I)Z" } : Jvm.MethodName) prog_6_method_4_code (2 : Nat) (Option.some Jvm.ClassFile.FieldType.boolean)]
set_option maxRecDepth 65536 in
theorem codes_eq : words1.filter isCode = codes1 := rfl
theorem w_codes : ∀ c ∈ words1.filter isCode, c.before args0 about1 = true := by
  rw [codes_eq]
  intro c hc
  simp only [codes1, List.mem_cons, List.not_mem_nil, or_false] at hc
  rcases hc with rfl | rfl | rfl | rfl | rfl
  · exact w_c0
  · exact w_c1
  · exact w_c2
  · exact w_c3
  · exact w_c4
set_option maxRecDepth 65536 in
theorem w_t1 : (words1.take 24).all (fun c => isCode c || c.before args0 about1) = true := by decide +kernel
set_option maxRecDepth 65536 in
theorem w_t2 : (words1.drop 24).all (fun c => isCode c || c.before args0 about1) = true := by decide +kernel
theorem w_tables : (allAtoms (Jvm.Cond.code x code maxLocals ret :: tables_1)).before args0 about1 = true := by
  rw [allAtoms_all]
  show words1.all (fun c => c.before args0 about1) = true
  refine all_split ?_ w_codes
  rw [← List.take_append_drop 24 words1, List.all_append, w_t1, w_t2]
  rfl
set_option maxRecDepth 65536 in
theorem w_case : (Jvm.Cond.and given_1 narrow_1).before args0 about1 = true := by decide +kernel
theorem w_applies : (headSpec (Jvm.Cond.code x code maxLocals ret :: tables_1) room_1).applies x e0.platform about1 = true :=
  (Spec.applies_iff w_frames).mpr ⟨w_running, w_runnable, w_alone, w_named, w_hears, w_ripe, w_room, w_tables⟩
theorem atStart : AtStart classFile x code maxLocals ret World_1 tables_1 room_1 Calls_1 rest_1 Pre_1 launch0 p0 e0 about1 theMethod args0 below0 :=
  ⟨lists_1, trivial, launch0.admits_env _ _ _, launch0.least_env, fairChoices_fair.cas, fairChoices_fair.clock, w_frames, w_args, w_heap, w_applies, trivial, trivial, w_case⟩
end start1
theorem witness_1 : WitnessClaimed_1 := ⟨start1.p0, start1.e0, start1.about1, start1.theMethod, start1.args0, start1.below0, start1.atStart⟩
end Jvm.Pilot.@@N@@
