import JvmDerived
import JvmDerived.Pilot.@@N@@Statement
import JvmDerived.Pilot.@@N@@Code
set_option linter.unusedVariables false
set_option linter.unusedSimpArgs false
namespace Jvm.RoadKit
open Sem ClassFile Op Lib Jvm.Stand Jvm.Free Jvm.LawKit
section Own
variable {p : Program} {l : Launch} {e : Env} {R : Room} {s : State} {m : MethodId} {args : Array Value} {below : List Frame} {meth : Method} {c : Code} {T : State} {locs : List Loc} {cells slots : Nat}
/-- from S the run comes to the end of the call, and K holds there -/
def Go (p : Program) (e : Env) (below : List Frame) (K : State → Outcome → Prop) (S : State) : Prop := ∃ s₂ o, Steps p.tables e below S s₂ ∧ s₂.status = .running ∧ Ended s₂ below o ∧ K s₂ o
def Kq (s : State) (Q : Option Value → Heap → List Loc → Prop) (k n : Nat) (t : State) (o : Outcome) : Prop := ∃ v L, o = .returned v ∧ Q v t.heap L ∧ FrameEnd s o t L k n
theorem go {K : State → Outcome → Prop} {S S' : State} (h : ∀ t, Steps p.tables e below S' t → Steps p.tables e below S t) (g : Go p e below K S') : Go p e below K S := by
  obtain ⟨t, o, h1, h2⟩ := g
  exact ⟨t, o, h _ h1, h2⟩
theorem goOut (X : Stand p l e R s m args below meth c T locs cells slots) {Q : Option Value → Heap → List Loc → Prop} {k n : Nat} {S : State} {v : Option Value} (hv : meth.sig.returnType = none → v = none) (hlocks : meth.locks = false)
    (hs : ∀ fs, (∀ (f : JFrame) (acts : List Action), f.method = m → f.locked = none → f.entered = [] → (doReturn e (T.setTop f) acts v).1 = T.setFrames fs) → Steps p.tables e below S (T.setFrames fs))
    (hk : cells ≤ k) (hn : slots ≤ n) (hq : Q v T.heap locs) : Go p e below (Kq s Q k n) S := by
  obtain ⟨fs, hr, hrun, hended, hW, hsame⟩ := X.leave (v := v) hv hlocks
  exact ⟨_, _, hs fs hr, hrun, hended, _, _, rfl, hq, ⟨_, rfl⟩, hW, hsame.mono hk hn⟩
end Own
end Jvm.RoadKit
namespace Jvm.RoadKit
open Sem ClassFile Op Lib Jvm.Stand Jvm.Free Jvm.LawKit
section OwnArr
variable {p : Program} {l : Launch} {e : Env} {R : Room} {s : State} {m : MethodId} {args : Array Value} {below : List Frame} {meth : Method} {c : Code} {T : State} {locs : List Loc} {cells slots : Nat} {Z : State} {h h' : Heap} {a b : Addr} {ty : FieldType} {n : Nat} {f : Nat → Int32} {v : Value} {sl : Nat} {ws : List Addr}
/-- an array of n places, of a kind that lies on the stack as an int, that holds f -/
def IA (Z : State) (h : Heap) (a : Addr) (ty : FieldType) (n : Nat) (f : Nat → Int32) : Prop := ∃ c : Cell, Arr Z h a c ty ∧ c.slots.size = n ∧ ∀ j, j < n → c.slots[j]? = some (.int (f j))
def upI (f : Nat → Int32) (j : Nat) (x : Int32) : Nat → Int32 := fun i => if i = j then x else f i
theorem IA.lt (F : IA Z h a ty n f) : a < h.size := by obtain ⟨c, A, -⟩ := F; exact A.lt
theorem IA.ext (F : IA Z h a ty n f) (E : Ext h h') : IA Z h' a ty n f := by obtain ⟨c, A, r⟩ := F; exact ⟨c, A.ext E, r⟩
theorem IA.other (F : IA Z h b ty n f) (W : Wr h h' a sl v) (q : b ≠ a) : IA Z h' b ty n f := by obtain ⟨c, A, r⟩ := F; exact ⟨c, A.other W q, r⟩
theorem IA.keep (F : IA Z h a ty n f) (K : Keep h h' ws) (q : a ∉ ws) : IA Z h' a ty n f := by obtain ⟨c, A, r⟩ := F; exact ⟨c, ⟨K.2.1 a c A.1 q, A.2⟩, r⟩
theorem IA.new {k : ClassId} {z : Int32} (A : Arr Z h a (newA k ty z) ty) (q : z.toNatClampNeg = n) (hd : defaultValue ty = .int 0) : IA Z h a ty n (fun _ => 0) := by
  refine ⟨_, A, (sz_new _ _ _).trans q, fun j hj => ?_⟩
  simp [newA, hd, q, hj]
theorem IA.put {j x : Int32} {cl : Cell} (A : Arr Z h a cl ty) (S : cl.slots.size = n) (H : ∀ j, j < n → cl.slots[j]? = some (.int (f j))) (W : Wr h h' a j.toNatClampNeg (.int x)) : IA Z h' a ty n (upI f j.toNatClampNeg x) := by
  refine ⟨_, A.same W, by rw [sz_set]; exact S, fun i hi => ?_⟩
  by_cases q : i = j.toNatClampNeg
  · subst q; simp [upI, Cell.setSlot, S, hi]
  · rw [show (cl.setSlot j.toNatClampNeg (.int x)).slots[i]? = cl.slots[i]? from Array.getElem?_setIfInBounds_ne (Ne.symm q), H i hi]; simp [upI, q]
theorem in_of {j : Int32} {cl : Cell} (S : cl.slots.size = n) (hj : 0 ≤ j.toInt ∧ j.toInt < n) : ¬ (j < 0 ∨ cl.slots.size ≤ j.toNatClampNeg) := by
  have h0 : ¬ j < 0 := by rw [Int32.lt_iff_toInt_lt]; have : (0 : Int32).toInt = 0 := rfl; omega
  have h1 := nat_of h0
  rw [S]; intro q; rcases q with q | q
  · exact h0 q
  · omega
theorem nat_in {j : Int32} (hj : 0 ≤ j.toInt ∧ j.toInt < n) : j.toNatClampNeg < n := by
  have h0 : ¬ j < 0 := by rw [Int32.lt_iff_toInt_lt]; have : (0 : Int32).toInt = 0 := rfl; omega
  have h1 := nat_of h0; omega
theorem ldIA (X : Stand p l e R s m args below meth c T locs cells slots) (hx : p.tables.exec = Jvm.exec) (hZ : Z.Warmed39 s.vm) (eT : T.heap = h) (A : IA Z h a .int n f) {j : Int32} (hj : 0 ≤ j.toInt ∧ j.toInt < n) {g : JFrame} (hg : g.method = m) {rest : List Value} (hs : g.stack = .int j :: .ref a :: rest) (hd : decode c.code g.pc = .ok (.iaload, 1)) :
    ∀ target, Steps p.tables e below (T.setTop { g with pc := g.pc + 1, stack := .int (f j.toNatClampNeg) :: rest }) target → Steps p.tables e below (T.setTop g) target := by
  obtain ⟨cl, A, S, H⟩ := A
  exact X.iaload hx (by rw [eT]; exact A.1) (State.isArrayOf_alike hZ.alike A.2.1) A.2.2 (in_of S hj) (H _ (nat_in hj)) hg hs hd
theorem ldCA (X : Stand p l e R s m args below meth c T locs cells slots) (hx : p.tables.exec = Jvm.exec) (hZ : Z.Warmed39 s.vm) (eT : T.heap = h) (A : IA Z h a .char n f) {j : Int32} (hj : 0 ≤ j.toInt ∧ j.toInt < n) {g : JFrame} (hg : g.method = m) {rest : List Value} (hs : g.stack = .int j :: .ref a :: rest) (hd : decode c.code g.pc = .ok (.caload, 1)) :
    ∀ target, Steps p.tables e below (T.setTop { g with pc := g.pc + 1, stack := .int (f j.toNatClampNeg) :: rest }) target → Steps p.tables e below (T.setTop g) target := by
  obtain ⟨cl, A, S, H⟩ := A
  exact X.caload hx (by rw [eT]; exact A.1) (State.isArrayOf_alike hZ.alike A.2.1) A.2.2 (in_of S hj) (H _ (nat_in hj)) hg hs hd
theorem lenIA (X : Stand p l e R s m args below meth c T locs cells slots) (hx : p.tables.exec = Jvm.exec) (hZ : Z.Warmed39 s.vm) (eT : T.heap = h) (A : IA Z h a ty n f) {g : JFrame} (hg : g.method = m) {rest : List Value} (hs : g.stack = .ref a :: rest) (hd : decode c.code g.pc = .ok (.arraylength, 1)) :
    ∀ target, Steps p.tables e below (T.setTop { g with pc := g.pc + 1, stack := .int n.toInt32 :: rest }) target → Steps p.tables e below (T.setTop g) target := by
  obtain ⟨cl, A, S, H⟩ := A
  intro target k
  refine X.arraylength hx (by rw [eT]; exact A.1) (State.isArrayOf_alike hZ.alike A.2.1) hg hs hd target ?_
  rw [S]; exact k
theorem stIA (X : Stand p l e R s m args below meth c T locs cells slots) (hx : p.tables.exec = Jvm.exec) (hZ : Z.Warmed39 s.vm) (eT : T.heap = h) (A : IA Z h a .int n f) {j x : Int32} (hj : 0 ≤ j.toInt ∧ j.toInt < n) {g : JFrame} (hg : g.method = m) {rest : List Value} (hs : g.stack = .int x :: .int j :: .ref a :: rest) (hd : decode c.code g.pc = .ok (.iastore, 1)) :
    ∃ T' h', Stand p l e R s m args below meth c T' (locs ++ [⟨a, j.toNatClampNeg⟩]) cells slots ∧ T'.heap = h' ∧ Wr h h' a j.toNatClampNeg (.int x) ∧ IA Z h' a .int n (upI f j.toNatClampNeg x) ∧ ∀ target, Steps p.tables e below (T'.setTop { g with pc := g.pc + 1, stack := rest }) target → Steps p.tables e below (T.setTop g) target := by
  obtain ⟨cl, A, S, H⟩ := A
  obtain ⟨T', h', X', e', W, st⟩ := stI X hx hZ eT A (in_of S hj) hg hs hd
  exact ⟨T', h', X', e', W, IA.put A S H W, st⟩
theorem stCA (X : Stand p l e R s m args below meth c T locs cells slots) (hx : p.tables.exec = Jvm.exec) (hZ : Z.Warmed39 s.vm) (eT : T.heap = h) (A : IA Z h a .char n f) {j x : Int32} (hj : 0 ≤ j.toInt ∧ j.toInt < n) {g : JFrame} (hg : g.method = m) {rest : List Value} (hs : g.stack = .int x :: .int j :: .ref a :: rest) (hd : decode c.code g.pc = .ok (.castore, 1)) :
    ∃ T' h', Stand p l e R s m args below meth c T' (locs ++ [⟨a, j.toNatClampNeg⟩]) cells slots ∧ T'.heap = h' ∧ Wr h h' a j.toNatClampNeg (.int (nar .char x)) ∧ IA Z h' a .char n (upI f j.toNatClampNeg (nar .char x)) ∧ ∀ target, Steps p.tables e below (T'.setTop { g with pc := g.pc + 1, stack := rest }) target → Steps p.tables e below (T.setTop g) target := by
  obtain ⟨cl, A, S, H⟩ := A
  obtain ⟨T', h', X', e', W, st⟩ := stC X hx hZ eT A (in_of S hj) hg hs hd
  exact ⟨T', h', X', e', W, IA.put A S H W, st⟩
theorem stBA (X : Stand p l e R s m args below meth c T locs cells slots) (hx : p.tables.exec = Jvm.exec) (hZ : Z.Warmed39 s.vm) (eT : T.heap = h) (A : IA Z h a .byte n f) {j x : Int32} (hj : 0 ≤ j.toInt ∧ j.toInt < n) {g : JFrame} (hg : g.method = m) {rest : List Value} (hs : g.stack = .int x :: .int j :: .ref a :: rest) (hd : decode c.code g.pc = .ok (.bastore, 1)) :
    ∃ T' h', Stand p l e R s m args below meth c T' (locs ++ [⟨a, j.toNatClampNeg⟩]) cells slots ∧ T'.heap = h' ∧ Wr h h' a j.toNatClampNeg (.int (nar .byte x)) ∧ IA Z h' a .byte n (upI f j.toNatClampNeg (nar .byte x)) ∧ ∀ target, Steps p.tables e below (T'.setTop { g with pc := g.pc + 1, stack := rest }) target → Steps p.tables e below (T.setTop g) target := by
  obtain ⟨cl, A, S, H⟩ := A
  obtain ⟨T', h', X', e', W, st⟩ := stB X hx hZ eT A (in_of S hj) hg hs hd
  exact ⟨T', h', X', e', W, IA.put A S H W, st⟩
end OwnArr
end Jvm.RoadKit
namespace Jvm.Pilot.@@N@@
open Jvm Jvm.ClassFile Sem Op Lib Jvm.Free Jvm.Stand Jvm.LawKit Jvm.RoadKit Bundle Jvm.Pilot.@@N@@.Jvm.D
theorem d2_0 : decode jdk_30_method_1_code 0 = .ok (.aload_n 0, 1) := by decide +kernel
theorem d2_1 : decode jdk_30_method_1_code 1 = .ok (.invokespecial 1, 3) := by decide +kernel
theorem d2_4 : decode jdk_30_method_1_code 4 = .ok (.return_, 1) := by decide +kernel
theorem pn_java_lang_Record : plainName "java/lang/Record" = true := by first | (simp [plainName, overriddenIn]; done) | decide +kernel
theorem ef_rm2 (m : MethodId) (x0 : Addr) : entryFrame m #[(.ref x0)] 1 = mkF m 0 #[.val (.ref x0)] [] := by first | (simp [entryFrame, mkF, argsToLocals, Value.category]; done) | rfl
def Q2 (Z : State) (a : Addr) (h0 : Heap) (n0 : Nat) (v : Option Value) (h : Heap) (L : List Loc) : Prop := v = none ∧ Fr n0 L ∧ h = h0
set_option maxRecDepth 65536 in
set_option maxHeartbeats 40000000 in
theorem rm2 (l : Launch) (Z : State) (a0 : Array Value) (hw : ∀ d ∈ tables_1, d.before a0 Z = true) (ws : List Jvm.Cond) (a : Addr)  (h0 : Heap) (n0 : Nat) (Z0 : n0 ≤ h0.size)  :
    MetFree l (⟨"java/lang/Record", "<init>", "()V"⟩ : MethodName) (head1 (Jvm.Cond.code (⟨"java/lang/Record", "<init>", "()V"⟩ : MethodName) jdk_30_method_1_code 1 none :: ws) ({ frames := 1, cells := 0, slots := 0, locals := 12 } : Room)) (fun av' U => av' = #[(.ref a)] ∧ Z.Warmed39 U.vm ∧ U.heap = h0) (fun _ _ _ _ _ => True) (fun _ U o U' => ∃ v L, o = .returned v ∧ Q2 Z a h0 n0 v U'.heap L ∧ FrameEnd U o U' L ({ frames := 1, cells := 0, slots := 0, locals := 12 } : Room).cells ({ frames := 1, cells := 0, slots := 0, locals := 12 } : Room).slots) := by
  refine MetFree.of_bodySF (plainFor_of_name pn_java_lang_Record) hisR ?_
  intro p e s m args below meth c s₁ Bd hml0 hP hK
  obtain ⟨rfl, hZ, hh⟩ := hP
  have hx := Bd.exec
  have hby := Bd.bytes
  have hlk := Bd.notSynchronized
  have hml : c.maxLocals = 1 := hml0
  have hown : s.vm.findClass "java/lang/Record" = some m.cls := findClass_of_methodNamed Bd.named
  have hnm := (name_of_methodNamed Bd.named Bd.method).1
  have X0 : Stand p l e ({ frames := 1, cells := 0, slots := 0, locals := 12 } : Room) s m #[(.ref a)] below meth c s₁ [] 0 0 := Stand.of_body Bd
  have e0 : s₁.heap = h0 := by rw [← hh, Bd.state]; rfl
  have N0 := Fr.nil n0
  show Go p e below (Kq s (Q2 Z a h0 n0) ({ frames := 1, cells := 0, slots := 0, locals := 12 } : Room).cells ({ frames := 1, cells := 0, slots := 0, locals := 12 } : Room).slots) _
  refine go (fun t kt => castTop (ef_rm2 m a) kt) ?_
  show Go p e below _ (s₁.setTop (mkF m 0 #[.val (.ref a)] []))
  refine go (fun t kt' => by refine XS.aloadN X0.here hx rfl (hb hby d2_0) rfl rfl ?_; exact kt') ?_
  show Go p e below _ (s₁.setTop (mkF m 1 #[.val (.ref a)] [(.ref a)]))
  obtain ⟨T1, X1, e1, st1⟩ := initO X0 hx hZ hown (hw _ (List.mem_of_getElem? (i := 12) rfl)) (hw _ (List.mem_of_getElem? (i := 13) rfl)) (hw _ (List.mem_of_getElem? (i := 14) rfl)) e0 (g := (mkF m 1 #[.val (.ref a)] [(.ref a)])) rfl (by rw [hml]; rfl) rfl (hb hby d2_1) (by decide) (W := 0) (by show 2 * 0 + _ ≤ _; exact Nat.le_of_eq rfl) (by decide)
  refine go st1 ?_
  show Go p e below _ (T1.setTop (mkF m 4 #[.val (.ref a)] []))
  refine goOut X1 (fun _ => rfl) hlk (fun fs hr => X1.returnOut hx Bd.returns (hb hby d2_4) hr) (by decide) (by decide) ?_
  rw [e1]
  exact ⟨rfl, N0, rfl⟩
theorem own_len2 (N : Nat) (h : N ≤ 2) : ¬ (65535 : Int32) < Nat.toInt32 N := by
  match N, h with
  | 0, _ => decide
  | 1, _ => decide
  | 2, _ => decide
theorem d1_0 : decode prog_6_method_1_code 0 = .ok (.aload_n 0, 1) := by decide +kernel
theorem d1_1 : decode prog_6_method_1_code 1 = .ok (.invokespecial 1, 3) := by decide +kernel
theorem pd_0 : parseMethodDescriptor "()V" = some ⟨[], none⟩ := by decide +kernel
theorem d1_4 : decode prog_6_method_1_code 4 = .ok (.iload_n 1, 1) := by decide +kernel
theorem d1_5 : decode prog_6_method_1_code 5 = .ok (.ifCond .lt 9, 3) := by decide +kernel
theorem d1_8 : decode prog_6_method_1_code 8 = .ok (.iload_n 1, 1) := by decide +kernel
theorem d1_9 : decode prog_6_method_1_code 9 = .ok (.ldc 9, 2) := by decide +kernel
theorem d1_11 : decode prog_6_method_1_code 11 = .ok (.if_icmp .lt 17, 3) := by decide +kernel
theorem d1_28 : decode prog_6_method_1_code 28 = .ok (.iload_n 2, 1) := by decide +kernel
theorem d1_29 : decode prog_6_method_1_code 29 = .ok (.ifCond .eq 12, 3) := by decide +kernel
theorem d1_41 : decode prog_6_method_1_code 41 = .ok (.aload_n 3, 1) := by decide +kernel
theorem d1_42 : decode prog_6_method_1_code 42 = .ok (.arraylength, 1) := by decide +kernel
theorem d1_43 : decode prog_6_method_1_code 43 = .ok (.ldc 19, 2) := by decide +kernel
theorem d1_45 : decode prog_6_method_1_code 45 = .ok (.if_icmp .le 18, 3) := by decide +kernel
theorem d1_63 : decode prog_6_method_1_code 63 = .ok (.aload_n 0, 1) := by decide +kernel
theorem d1_64 : decode prog_6_method_1_code 64 = .ok (.iload_n 1, 1) := by decide +kernel
theorem d1_65 : decode prog_6_method_1_code 65 = .ok (.putfield 21, 3) := by decide +kernel
theorem d1_68 : decode prog_6_method_1_code 68 = .ok (.aload_n 0, 1) := by decide +kernel
theorem d1_69 : decode prog_6_method_1_code 69 = .ok (.iload_n 2, 1) := by decide +kernel
theorem d1_70 : decode prog_6_method_1_code 70 = .ok (.putfield 25, 3) := by decide +kernel
theorem d1_73 : decode prog_6_method_1_code 73 = .ok (.aload_n 0, 1) := by decide +kernel
theorem d1_74 : decode prog_6_method_1_code 74 = .ok (.aload_n 3, 1) := by decide +kernel
theorem d1_75 : decode prog_6_method_1_code 75 = .ok (.putfield 29, 3) := by decide +kernel
theorem d1_78 : decode prog_6_method_1_code 78 = .ok (.return_, 1) := by decide +kernel
theorem d1_32 : decode prog_6_method_1_code 32 = .ok (.aload_n 3, 1) := by decide +kernel
theorem d1_33 : decode prog_6_method_1_code 33 = .ok (.arraylength, 1) := by decide +kernel
theorem d1_34 : decode prog_6_method_1_code 34 = .ok (.iconst 2, 1) := by decide +kernel
theorem d1_35 : decode prog_6_method_1_code 35 = .ok (.if_icmp .eq 28, 3) := by decide +kernel
theorem pn_org_keymoot_Attribute : plainName "org/keymoot/Attribute" = true := by first | (simp [plainName, overriddenIn]; done) | decide +kernel
theorem ef_rm1 (m : MethodId) (x0 : Addr) (x1 : Int32) (x2 : Int32) (x3 : Addr) : entryFrame m #[(.ref x0), (.int x1), (.int x2), (.ref x3)] 4 = mkF m 0 #[.val (.ref x0), .val (.int x1), .val (.int x2), .val (.ref x3)] [] := by first | (simp [entryFrame, mkF, argsToLocals, Value.category]; done) | rfl
def Q1 (Z : State) (a : Addr) (p1 : Int32) (h0 : Heap) (n0 : Nat) (v : Option Value) (h : Heap) (L : List Loc) : Prop := v = none ∧ Fr n0 L ∧ Keep h0 h [a] ∧ Exa Z h a "org/keymoot/Attribute" ∧ Fld Z h a "org/keymoot/Attribute" "type" "I" (.int p1)
set_option maxRecDepth 65536 in
set_option maxHeartbeats 40000000 in
theorem rm1 (l : Launch) (Z : State) (a0 : Array Value) (hw : ∀ d ∈ tables_1, d.before a0 Z = true) (ws : List Jvm.Cond) (a : Addr) (p1 : Int32) (p2 : Int32) (a3 : Addr) (N : Nat) (fv : Nat → Int32) (h0 : Heap) (n0 : Nat) (Z0 : n0 ≤ h0.size) (E_a : Exa Z h0 a "org/keymoot/Attribute") (g_a : n0 ≤ a) (F_type_a : Fld Z h0 a "org/keymoot/Attribute" "type" "I" (.int (0 : Int32))) (F_basic_a : Fld Z h0 a "org/keymoot/Attribute" "basic" "Z" (.int (0 : Int32))) (F_value_a : Fld Z h0 a "org/keymoot/Attribute" "value" "[B" .null) (V_a3 : IA Z h0 a3 .byte N fv) (ne_a3 : a3 ≠ a) (ht1 : ¬ p1 < 0) (ht2 : p1 < 32768) (hbs : ¬ p2 = 0 → N = 2) (hN : N ≤ 2) :
    MetFree l (⟨"org/keymoot/Attribute", "<init>", "(IZ[B)V"⟩ : MethodName) (head1 (Jvm.Cond.code (⟨"org/keymoot/Attribute", "<init>", "(IZ[B)V"⟩ : MethodName) prog_6_method_1_code 4 none :: ws) ({ frames := 2, cells := 0, slots := 0, locals := 24 } : Room)) (fun av' U => av' = #[(.ref a), (.int p1), (.int p2), (.ref a3)] ∧ Z.Warmed39 U.vm ∧ U.heap = h0) (fun _ _ _ _ _ => True) (fun _ U o U' => ∃ v L, o = .returned v ∧ Q1 Z a p1 h0 n0 v U'.heap L ∧ FrameEnd U o U' L ({ frames := 2, cells := 0, slots := 0, locals := 24 } : Room).cells ({ frames := 2, cells := 0, slots := 0, locals := 24 } : Room).slots) := by
  refine MetFree.of_bodySF (plainFor_of_name pn_org_keymoot_Attribute) hisR ?_
  intro p e s m args below meth c s₁ Bd hml0 hP hK
  obtain ⟨rfl, hZ, hh⟩ := hP
  have hx := Bd.exec
  have hby := Bd.bytes
  have hlk := Bd.notSynchronized
  have hml : c.maxLocals = 4 := hml0
  have hown : s.vm.findClass "org/keymoot/Attribute" = some m.cls := findClass_of_methodNamed Bd.named
  have hnm := (name_of_methodNamed Bd.named Bd.method).1
  have X0 : Stand p l e ({ frames := 2, cells := 0, slots := 0, locals := 24 } : Room) s m #[(.ref a), (.int p1), (.int p2), (.ref a3)] below meth c s₁ [] 0 0 := Stand.of_body Bd
  have e0 : s₁.heap = h0 := by rw [← hh, Bd.state]; rfl
  have N0 := Fr.nil n0
  show Go p e below (Kq s (Q1 Z a p1 h0 n0) ({ frames := 2, cells := 0, slots := 0, locals := 24 } : Room).cells ({ frames := 2, cells := 0, slots := 0, locals := 24 } : Room).slots) _
  refine go (fun t kt => castTop (ef_rm1 m a p1 p2 a3) kt) ?_
  have K0 := Keep.refl h0 [a]
  show Go p e below _ (s₁.setTop (mkF m 0 #[.val (.ref a), .val (.int p1), .val (.int p2), .val (.ref a3)] []))
  refine go (fun t kt' => by refine XS.aloadN X0.here hx rfl (hb hby d1_0) rfl rfl ?_; exact kt') ?_
  show Go p e below _ (s₁.setTop (mkF m 1 #[.val (.ref a), .val (.int p1), .val (.int p2), .val (.ref a3)] [(.ref a)]))
  obtain ⟨_, _, ⟨T1, L1, k1, n1⟩, -, X1, ⟨Lc1, hQ1, l1, y1, z1⟩, st1⟩ := X0.specialBack hx (y := (⟨"java/lang/Record", "<init>", "()V"⟩ : MethodName)) rfl hown (mvT hZ (hw _ (List.mem_of_getElem? (i := 7) rfl))) (mvT hZ (hw _ (List.mem_of_getElem? (i := 8) rfl))) (mvT hZ (hw _ (List.mem_of_getElem? (i := 11) rfl))) (by decide) (backOf (W := 0) (rm2 l Z a0 hw [] a h0 n0 Z0) hZ (hw _ (List.mem_of_getElem? (i := 11) rfl)) (hw _ (List.mem_of_getElem? (i := 10) rfl)) (by decide) (by decide)) (g := (mkF m 1 #[.val (.ref a), .val (.int p1), .val (.int p2), .val (.ref a3)] [(.ref a)])) rfl (by rw [hml]; rfl) (Steps.refl _) (a := a) (argsL := []) (rest := []) (lenOf pd_0 rfl) rfl (by show 2 * 0 + _ ≤ _; exact Nat.le_of_eq rfl) (hb hby d1_1) (fun _ _ => ⟨rfl, e0, (by decide : 0 + 0 ≤ _), (by decide : 0 + 0 ≤ _)⟩)
  dsimp only [Pt.U, Pt.locs, Pt.cells, Pt.slots] at X1 l1 y1 z1 st1 hQ1
  subst l1 y1 z1
  obtain ⟨rfl, N1q, e1⟩ := hQ1
  have N1 := Fr.app N0 N1q
  refine go (fun t kt => st1.trans kt) ?_
  show Go p e below _ (T1.setTop (mkF m 4 #[.val (.ref a), .val (.int p1), .val (.int p2), .val (.ref a3)] []))
  refine go (fun t kt' => by refine XS.iloadN X1.here hx rfl (hb hby d1_4) rfl ?_; exact kt') ?_
  show Go p e below _ (T1.setTop (mkF m 5 #[.val (.ref a), .val (.int p1), .val (.int p2), .val (.ref a3)] [(.int p1)]))
  have c5_2 : ¬ (p1 < (0 : Int32)) := ht1
  refine go (fun t kt' => by refine XS.ifNo X1.here hx rfl (hb hby d1_5) rfl ((if0 _ _).trans (flt c5_2).1) ?_; exact kt') ?_
  show Go p e below _ (T1.setTop (mkF m 8 #[.val (.ref a), .val (.int p1), .val (.int p2), .val (.ref a3)] []))
  refine go (fun t kt' => by refine XS.iloadN X1.here hx rfl (hb hby d1_8) rfl ?_; exact kt') ?_
  show Go p e below _ (T1.setTop (mkF m 9 #[.val (.ref a), .val (.int p1), .val (.int p2), .val (.ref a3)] [(.int p1)]))
  refine go (fun t kt' => by refine X1.ldcI hx hown (mvT hZ (hw _ (List.mem_of_getElem? (i := 15) rfl))) rfl (hb hby d1_9) ?_; exact kt') ?_
  show Go p e below _ (T1.setTop (mkF m 11 #[.val (.ref a), .val (.int p1), .val (.int p2), .val (.ref a3)] [(.int (32768 : Int32)), (.int p1)]))
  have c11_3 : p1 < (32768 : Int32) := ht2
  refine go (fun t kt' => by refine XS.icmpYes X1.here hx rfl (pc0 := 11) (pc' := 28) rfl (hb hby d1_11) rfl (tlt c11_3).1 (by decide) (by decide) ?_; exact kt') ?_
  show Go p e below _ (T1.setTop (mkF m 28 #[.val (.ref a), .val (.int p1), .val (.int p2), .val (.ref a3)] []))
  refine go (fun t kt' => by refine XS.iloadN X1.here hx rfl (hb hby d1_28) rfl ?_; exact kt') ?_
  show Go p e below _ (T1.setTop (mkF m 29 #[.val (.ref a), .val (.int p1), .val (.int p2), .val (.ref a3)] [(.int p2)]))
  by_cases c29_4 : p2 = (0 : Int32)
  · skip
    refine go (fun t kt' => by refine XS.ifYes X1.here hx rfl (pc0 := 29) (pc' := 41) rfl (hb hby d1_29) rfl ((if0 _ _).trans (teq c29_4).1) (by decide) (by decide) ?_; exact kt') ?_
    show Go p e below _ (T1.setTop (mkF m 41 #[.val (.ref a), .val (.int p1), .val (.int p2), .val (.ref a3)] []))
    refine go (fun t kt' => by refine XS.aloadN X1.here hx rfl (hb hby d1_41) rfl rfl ?_; exact kt') ?_
    show Go p e below _ (T1.setTop (mkF m 42 #[.val (.ref a), .val (.int p1), .val (.int p2), .val (.ref a3)] [(.ref a3)]))
    refine go (fun t kt' => by refine lenIA X1 hx hZ e1 V_a3 (g := (mkF m 42 #[.val (.ref a), .val (.int p1), .val (.int p2), .val (.ref a3)] [(.ref a3)])) rfl rfl (hb hby d1_42) t ?_; exact kt') ?_
    show Go p e below _ (T1.setTop (mkF m 43 #[.val (.ref a), .val (.int p1), .val (.int p2), .val (.ref a3)] [(.int (Nat.toInt32 N))]))
    refine go (fun t kt' => by refine X1.ldcI hx hown (mvT hZ (hw _ (List.mem_of_getElem? (i := 32) rfl))) rfl (hb hby d1_43) ?_; exact kt') ?_
    show Go p e below _ (T1.setTop (mkF m 45 #[.val (.ref a), .val (.int p1), .val (.int p2), .val (.ref a3)] [(.int (65535 : Int32)), (.int (Nat.toInt32 N))]))
    have c45_5 : ¬ (65535 : Int32) < (Nat.toInt32 N) := own_len2 N hN
    refine go (fun t kt' => by refine XS.icmpYes X1.here hx rfl (pc0 := 45) (pc' := 63) rfl (hb hby d1_45) rfl (flt c45_5).2.2.2 (by decide) (by decide) ?_; exact kt') ?_
    show Go p e below _ (T1.setTop (mkF m 63 #[.val (.ref a), .val (.int p1), .val (.int p2), .val (.ref a3)] []))
    refine go (fun t kt' => by refine XS.aloadN X1.here hx rfl (hb hby d1_63) rfl rfl ?_; exact kt') ?_
    show Go p e below _ (T1.setTop (mkF m 64 #[.val (.ref a), .val (.int p1), .val (.int p2), .val (.ref a3)] [(.ref a)]))
    refine go (fun t kt' => by refine XS.iloadN X1.here hx rfl (hb hby d1_64) rfl ?_; exact kt') ?_
    show Go p e below _ (T1.setTop (mkF m 65 #[.val (.ref a), .val (.int p1), .val (.int p2), .val (.ref a3)] [(.int p1), (.ref a)]))
    obtain ⟨T6, h6, X6, e6, W6, st6⟩ := putF X1 hx hZ hown (host := "") (Or.inl (hw _ (List.mem_of_getElem? (i := 16) rfl))) Via.refl e1 F_type_a E_a (Or.inr ⟨(hw _ (List.mem_of_getElem? (i := 17) rfl)), rfl, hnm⟩) (hw _ (List.mem_of_getElem? (i := 2) rfl)) (ty := .int) (by decide) rfl rfl (g := (mkF m 65 #[.val (.ref a), .val (.int p1), .val (.int p2), .val (.ref a3)] [(.int p1), (.ref a)])) rfl rfl (hb hby d1_65)
    have N6 := Fr.snoc X6 N1 g_a
    have f7_Z := Nat.le_trans Z0 (Keep.of_wr W6).1
    have f8_K := K0.wr W6 (Or.inl (List.mem_of_getElem? (i := 0) rfl))
    have f9_E_a := E_a.wr W6
    have f10_F_a_type := F_type_a.same W6
    have f11_F_a_basic := F_basic_a.other W6 (Or.inr (slot_ne (Or.inr (hw _ (List.mem_of_getElem? (i := 19) rfl))) (Or.inr (hw _ (List.mem_of_getElem? (i := 17) rfl))) (by decide) (t := .boolean) (t' := .int) (by decide) (by decide)))
    have f12_F_a_value := F_value_a.other W6 (Or.inr (slot_ne (Or.inr (hw _ (List.mem_of_getElem? (i := 21) rfl))) (Or.inr (hw _ (List.mem_of_getElem? (i := 17) rfl))) (by decide) (t := (.array .byte)) (t' := .int) (by decide) (by decide)))
    have f13_A_a3 := V_a3.other W6 ne_a3
    refine go st6 ?_
    show Go p e below _ (T6.setTop (mkF m 68 #[.val (.ref a), .val (.int p1), .val (.int p2), .val (.ref a3)] []))
    refine go (fun t kt' => by refine XS.aloadN X6.here hx rfl (hb hby d1_68) rfl rfl ?_; exact kt') ?_
    show Go p e below _ (T6.setTop (mkF m 69 #[.val (.ref a), .val (.int p1), .val (.int p2), .val (.ref a3)] [(.ref a)]))
    refine go (fun t kt' => by refine XS.iloadN X6.here hx rfl (hb hby d1_69) rfl ?_; exact kt') ?_
    show Go p e below _ (T6.setTop (mkF m 70 #[.val (.ref a), .val (.int p1), .val (.int p2), .val (.ref a3)] [(.int p2), (.ref a)]))
    obtain ⟨T14, h14, X14, e14, W14, st14⟩ := putFN X6 hx hZ hown (hw _ (List.mem_of_getElem? (i := 18) rfl)) Via.refl e6 f11_F_a_basic f9_E_a (Or.inr ⟨(hw _ (List.mem_of_getElem? (i := 19) rfl)), rfl, hnm⟩) (hw _ (List.mem_of_getElem? (i := 2) rfl)) (ty := .boolean) (v' := (.int (nar .boolean p2))) (by decide) rfl (fits_nar_bool _) (g := (mkF m 70 #[.val (.ref a), .val (.int p1), .val (.int p2), .val (.ref a3)] [(.int p2), (.ref a)])) rfl rfl (hb hby d1_70)
    have N14 := Fr.snoc X14 N6 g_a
    have f15_Z := Nat.le_trans f7_Z (Keep.of_wr W14).1
    have f16_K := f8_K.wr W14 (Or.inl (List.mem_of_getElem? (i := 0) rfl))
    have f17_E_a := f9_E_a.wr W14
    have f18_F_a_type := f10_F_a_type.other W14 (Or.inr (slot_ne (Or.inr (hw _ (List.mem_of_getElem? (i := 17) rfl))) (Or.inr (hw _ (List.mem_of_getElem? (i := 19) rfl))) (by decide) (t := .int) (t' := .boolean) (by decide) (by decide)))
    have f19_F_a_basic := f11_F_a_basic.same W14
    have f20_F_a_value := f12_F_a_value.other W14 (Or.inr (slot_ne (Or.inr (hw _ (List.mem_of_getElem? (i := 21) rfl))) (Or.inr (hw _ (List.mem_of_getElem? (i := 19) rfl))) (by decide) (t := (.array .byte)) (t' := .boolean) (by decide) (by decide)))
    have f21_A_a3 := f13_A_a3.other W14 ne_a3
    refine go st14 ?_
    show Go p e below _ (T14.setTop (mkF m 73 #[.val (.ref a), .val (.int p1), .val (.int p2), .val (.ref a3)] []))
    refine go (fun t kt' => by refine XS.aloadN X14.here hx rfl (hb hby d1_73) rfl rfl ?_; exact kt') ?_
    show Go p e below _ (T14.setTop (mkF m 74 #[.val (.ref a), .val (.int p1), .val (.int p2), .val (.ref a3)] [(.ref a)]))
    refine go (fun t kt' => by refine XS.aloadN X14.here hx rfl (hb hby d1_74) rfl rfl ?_; exact kt') ?_
    show Go p e below _ (T14.setTop (mkF m 75 #[.val (.ref a), .val (.int p1), .val (.int p2), .val (.ref a3)] [(.ref a3), (.ref a)]))
    obtain ⟨T22, h22, X22, e22, W22, st22⟩ := putF X14 hx hZ hown (host := "") (Or.inl (hw _ (List.mem_of_getElem? (i := 20) rfl))) Via.refl e14 f20_F_a_value f17_E_a (Or.inr ⟨(hw _ (List.mem_of_getElem? (i := 21) rfl)), rfl, hnm⟩) (hw _ (List.mem_of_getElem? (i := 2) rfl)) (ty := (.array .byte)) (by decide) rfl rfl (g := (mkF m 75 #[.val (.ref a), .val (.int p1), .val (.int p2), .val (.ref a3)] [(.ref a3), (.ref a)])) rfl rfl (hb hby d1_75)
    have N22 := Fr.snoc X22 N14 g_a
    have f23_Z := Nat.le_trans f15_Z (Keep.of_wr W22).1
    have f24_K := f16_K.wr W22 (Or.inl (List.mem_of_getElem? (i := 0) rfl))
    have f25_E_a := f17_E_a.wr W22
    have f26_F_a_type := f18_F_a_type.other W22 (Or.inr (slot_ne (Or.inr (hw _ (List.mem_of_getElem? (i := 17) rfl))) (Or.inr (hw _ (List.mem_of_getElem? (i := 21) rfl))) (by decide) (t := .int) (t' := (.array .byte)) (by decide) (by decide)))
    have f27_F_a_basic := f19_F_a_basic.other W22 (Or.inr (slot_ne (Or.inr (hw _ (List.mem_of_getElem? (i := 19) rfl))) (Or.inr (hw _ (List.mem_of_getElem? (i := 21) rfl))) (by decide) (t := .boolean) (t' := (.array .byte)) (by decide) (by decide)))
    have f28_F_a_value := f20_F_a_value.same W22
    have f29_A_a3 := f21_A_a3.other W22 ne_a3
    refine go st22 ?_
    show Go p e below _ (T22.setTop (mkF m 78 #[.val (.ref a), .val (.int p1), .val (.int p2), .val (.ref a3)] []))
    refine goOut X22 (fun _ => rfl) hlk (fun fs hr => X22.returnOut hx Bd.returns (hb hby d1_78) hr) (by decide) (by decide) ?_
    rw [e22]
    exact ⟨rfl, N22, f24_K, f25_E_a, f26_F_a_type⟩
  · skip
    refine go (fun t kt' => by refine XS.ifNo X1.here hx rfl (hb hby d1_29) rfl ((if0 _ _).trans (feq c29_4).1) ?_; exact kt') ?_
    show Go p e below _ (T1.setTop (mkF m 32 #[.val (.ref a), .val (.int p1), .val (.int p2), .val (.ref a3)] []))
    refine go (fun t kt' => by refine XS.aloadN X1.here hx rfl (hb hby d1_32) rfl rfl ?_; exact kt') ?_
    show Go p e below _ (T1.setTop (mkF m 33 #[.val (.ref a), .val (.int p1), .val (.int p2), .val (.ref a3)] [(.ref a3)]))
    refine go (fun t kt' => by refine lenIA X1 hx hZ e1 V_a3 (g := (mkF m 33 #[.val (.ref a), .val (.int p1), .val (.int p2), .val (.ref a3)] [(.ref a3)])) rfl rfl (hb hby d1_33) t ?_; exact kt') ?_
    show Go p e below _ (T1.setTop (mkF m 34 #[.val (.ref a), .val (.int p1), .val (.int p2), .val (.ref a3)] [(.int (Nat.toInt32 N))]))
    refine go (fun t kt' => by refine XS.iconst X1.here hx rfl (hb hby d1_34) ?_; exact kt') ?_
    show Go p e below _ (T1.setTop (mkF m 35 #[.val (.ref a), .val (.int p1), .val (.int p2), .val (.ref a3)] [(.int (2 : Int32)), (.int (Nat.toInt32 N))]))
    have c35_30 : (Nat.toInt32 N) = (2 : Int32) := by rw [hbs c29_4]; rfl
    refine go (fun t kt' => by refine XS.icmpYes X1.here hx rfl (pc0 := 35) (pc' := 63) rfl (hb hby d1_35) rfl (teq c35_30).1 (by decide) (by decide) ?_; exact kt') ?_
    show Go p e below _ (T1.setTop (mkF m 63 #[.val (.ref a), .val (.int p1), .val (.int p2), .val (.ref a3)] []))
    refine go (fun t kt' => by refine XS.aloadN X1.here hx rfl (hb hby d1_63) rfl rfl ?_; exact kt') ?_
    show Go p e below _ (T1.setTop (mkF m 64 #[.val (.ref a), .val (.int p1), .val (.int p2), .val (.ref a3)] [(.ref a)]))
    refine go (fun t kt' => by refine XS.iloadN X1.here hx rfl (hb hby d1_64) rfl ?_; exact kt') ?_
    show Go p e below _ (T1.setTop (mkF m 65 #[.val (.ref a), .val (.int p1), .val (.int p2), .val (.ref a3)] [(.int p1), (.ref a)]))
    obtain ⟨T31, h31, X31, e31, W31, st31⟩ := putF X1 hx hZ hown (host := "") (Or.inl (hw _ (List.mem_of_getElem? (i := 16) rfl))) Via.refl e1 F_type_a E_a (Or.inr ⟨(hw _ (List.mem_of_getElem? (i := 17) rfl)), rfl, hnm⟩) (hw _ (List.mem_of_getElem? (i := 2) rfl)) (ty := .int) (by decide) rfl rfl (g := (mkF m 65 #[.val (.ref a), .val (.int p1), .val (.int p2), .val (.ref a3)] [(.int p1), (.ref a)])) rfl rfl (hb hby d1_65)
    have N31 := Fr.snoc X31 N1 g_a
    have f32_Z := Nat.le_trans Z0 (Keep.of_wr W31).1
    have f33_K := K0.wr W31 (Or.inl (List.mem_of_getElem? (i := 0) rfl))
    have f34_E_a := E_a.wr W31
    have f35_F_a_type := F_type_a.same W31
    have f36_F_a_basic := F_basic_a.other W31 (Or.inr (slot_ne (Or.inr (hw _ (List.mem_of_getElem? (i := 19) rfl))) (Or.inr (hw _ (List.mem_of_getElem? (i := 17) rfl))) (by decide) (t := .boolean) (t' := .int) (by decide) (by decide)))
    have f37_F_a_value := F_value_a.other W31 (Or.inr (slot_ne (Or.inr (hw _ (List.mem_of_getElem? (i := 21) rfl))) (Or.inr (hw _ (List.mem_of_getElem? (i := 17) rfl))) (by decide) (t := (.array .byte)) (t' := .int) (by decide) (by decide)))
    have f38_A_a3 := V_a3.other W31 ne_a3
    refine go st31 ?_
    show Go p e below _ (T31.setTop (mkF m 68 #[.val (.ref a), .val (.int p1), .val (.int p2), .val (.ref a3)] []))
    refine go (fun t kt' => by refine XS.aloadN X31.here hx rfl (hb hby d1_68) rfl rfl ?_; exact kt') ?_
    show Go p e below _ (T31.setTop (mkF m 69 #[.val (.ref a), .val (.int p1), .val (.int p2), .val (.ref a3)] [(.ref a)]))
    refine go (fun t kt' => by refine XS.iloadN X31.here hx rfl (hb hby d1_69) rfl ?_; exact kt') ?_
    show Go p e below _ (T31.setTop (mkF m 70 #[.val (.ref a), .val (.int p1), .val (.int p2), .val (.ref a3)] [(.int p2), (.ref a)]))
    obtain ⟨T39, h39, X39, e39, W39, st39⟩ := putFN X31 hx hZ hown (hw _ (List.mem_of_getElem? (i := 18) rfl)) Via.refl e31 f36_F_a_basic f34_E_a (Or.inr ⟨(hw _ (List.mem_of_getElem? (i := 19) rfl)), rfl, hnm⟩) (hw _ (List.mem_of_getElem? (i := 2) rfl)) (ty := .boolean) (v' := (.int (nar .boolean p2))) (by decide) rfl (fits_nar_bool _) (g := (mkF m 70 #[.val (.ref a), .val (.int p1), .val (.int p2), .val (.ref a3)] [(.int p2), (.ref a)])) rfl rfl (hb hby d1_70)
    have N39 := Fr.snoc X39 N31 g_a
    have f40_Z := Nat.le_trans f32_Z (Keep.of_wr W39).1
    have f41_K := f33_K.wr W39 (Or.inl (List.mem_of_getElem? (i := 0) rfl))
    have f42_E_a := f34_E_a.wr W39
    have f43_F_a_type := f35_F_a_type.other W39 (Or.inr (slot_ne (Or.inr (hw _ (List.mem_of_getElem? (i := 17) rfl))) (Or.inr (hw _ (List.mem_of_getElem? (i := 19) rfl))) (by decide) (t := .int) (t' := .boolean) (by decide) (by decide)))
    have f44_F_a_basic := f36_F_a_basic.same W39
    have f45_F_a_value := f37_F_a_value.other W39 (Or.inr (slot_ne (Or.inr (hw _ (List.mem_of_getElem? (i := 21) rfl))) (Or.inr (hw _ (List.mem_of_getElem? (i := 19) rfl))) (by decide) (t := (.array .byte)) (t' := .boolean) (by decide) (by decide)))
    have f46_A_a3 := f38_A_a3.other W39 ne_a3
    refine go st39 ?_
    show Go p e below _ (T39.setTop (mkF m 73 #[.val (.ref a), .val (.int p1), .val (.int p2), .val (.ref a3)] []))
    refine go (fun t kt' => by refine XS.aloadN X39.here hx rfl (hb hby d1_73) rfl rfl ?_; exact kt') ?_
    show Go p e below _ (T39.setTop (mkF m 74 #[.val (.ref a), .val (.int p1), .val (.int p2), .val (.ref a3)] [(.ref a)]))
    refine go (fun t kt' => by refine XS.aloadN X39.here hx rfl (hb hby d1_74) rfl rfl ?_; exact kt') ?_
    show Go p e below _ (T39.setTop (mkF m 75 #[.val (.ref a), .val (.int p1), .val (.int p2), .val (.ref a3)] [(.ref a3), (.ref a)]))
    obtain ⟨T47, h47, X47, e47, W47, st47⟩ := putF X39 hx hZ hown (host := "") (Or.inl (hw _ (List.mem_of_getElem? (i := 20) rfl))) Via.refl e39 f45_F_a_value f42_E_a (Or.inr ⟨(hw _ (List.mem_of_getElem? (i := 21) rfl)), rfl, hnm⟩) (hw _ (List.mem_of_getElem? (i := 2) rfl)) (ty := (.array .byte)) (by decide) rfl rfl (g := (mkF m 75 #[.val (.ref a), .val (.int p1), .val (.int p2), .val (.ref a3)] [(.ref a3), (.ref a)])) rfl rfl (hb hby d1_75)
    have N47 := Fr.snoc X47 N39 g_a
    have f48_Z := Nat.le_trans f40_Z (Keep.of_wr W47).1
    have f49_K := f41_K.wr W47 (Or.inl (List.mem_of_getElem? (i := 0) rfl))
    have f50_E_a := f42_E_a.wr W47
    have f51_F_a_type := f43_F_a_type.other W47 (Or.inr (slot_ne (Or.inr (hw _ (List.mem_of_getElem? (i := 17) rfl))) (Or.inr (hw _ (List.mem_of_getElem? (i := 21) rfl))) (by decide) (t := .int) (t' := (.array .byte)) (by decide) (by decide)))
    have f52_F_a_basic := f44_F_a_basic.other W47 (Or.inr (slot_ne (Or.inr (hw _ (List.mem_of_getElem? (i := 19) rfl))) (Or.inr (hw _ (List.mem_of_getElem? (i := 21) rfl))) (by decide) (t := .boolean) (t' := (.array .byte)) (by decide) (by decide)))
    have f53_F_a_value := f45_F_a_value.same W47
    have f54_A_a3 := f46_A_a3.other W47 ne_a3
    refine go st47 ?_
    show Go p e below _ (T47.setTop (mkF m 78 #[.val (.ref a), .val (.int p1), .val (.int p2), .val (.ref a3)] []))
    refine goOut X47 (fun _ => rfl) hlk (fun fs hr => X47.returnOut hx Bd.returns (hb hby d1_78) hr) (by decide) (by decide) ?_
    rw [e47]
    exact ⟨rfl, N47, f49_K, f50_E_a, f51_F_a_type⟩
def own_il (t pr : Int32) : Int32 := if pr = 1 then (if t = 11 ∨ t = 12 then 1 else 0) else (if t = 1 ∨ t = 2 then 1 else 0)
theorem d5_0 : decode prog_6_method_4_code 0 = .ok (.iload_n 1, 1) := by decide +kernel
theorem d5_1 : decode prog_6_method_4_code 1 = .ok (.iconst 1, 1) := by decide +kernel
theorem d5_2 : decode prog_6_method_4_code 2 = .ok (.if_icmp .ne 29, 3) := by decide +kernel
theorem d5_31 : decode prog_6_method_4_code 31 = .ok (.aload_n 0, 1) := by decide +kernel
theorem d5_32 : decode prog_6_method_4_code 32 = .ok (.getfield 21, 3) := by decide +kernel
theorem d5_35 : decode prog_6_method_4_code 35 = .ok (.iconst 1, 1) := by decide +kernel
theorem d5_36 : decode prog_6_method_4_code 36 = .ok (.if_icmp .eq 11, 3) := by decide +kernel
theorem d5_47 : decode prog_6_method_4_code 47 = .ok (.iconst 1, 1) := by decide +kernel
theorem d5_48 : decode prog_6_method_4_code 48 = .ok (.goto 4, 3) := by decide +kernel
theorem d5_52 : decode prog_6_method_4_code 52 = .ok (.ireturn, 1) := by decide +kernel
theorem d5_39 : decode prog_6_method_4_code 39 = .ok (.aload_n 0, 1) := by decide +kernel
theorem d5_40 : decode prog_6_method_4_code 40 = .ok (.getfield 21, 3) := by decide +kernel
theorem d5_43 : decode prog_6_method_4_code 43 = .ok (.iconst 2, 1) := by decide +kernel
theorem d5_44 : decode prog_6_method_4_code 44 = .ok (.if_icmp .ne 7, 3) := by decide +kernel
theorem d5_51 : decode prog_6_method_4_code 51 = .ok (.iconst 0, 1) := by decide +kernel
theorem d5_5 : decode prog_6_method_4_code 5 = .ok (.aload_n 0, 1) := by decide +kernel
theorem d5_6 : decode prog_6_method_4_code 6 = .ok (.getfield 21, 3) := by decide +kernel
theorem d5_9 : decode prog_6_method_4_code 9 = .ok (.bipush 11, 2) := by decide +kernel
theorem d5_11 : decode prog_6_method_4_code 11 = .ok (.if_icmp .eq 12, 3) := by decide +kernel
theorem d5_23 : decode prog_6_method_4_code 23 = .ok (.iconst 1, 1) := by decide +kernel
theorem d5_24 : decode prog_6_method_4_code 24 = .ok (.goto 28, 3) := by decide +kernel
theorem d5_14 : decode prog_6_method_4_code 14 = .ok (.aload_n 0, 1) := by decide +kernel
theorem d5_15 : decode prog_6_method_4_code 15 = .ok (.getfield 21, 3) := by decide +kernel
theorem d5_18 : decode prog_6_method_4_code 18 = .ok (.bipush 12, 2) := by decide +kernel
theorem d5_20 : decode prog_6_method_4_code 20 = .ok (.if_icmp .ne 7, 3) := by decide +kernel
theorem d5_27 : decode prog_6_method_4_code 27 = .ok (.iconst 0, 1) := by decide +kernel
theorem d5_28 : decode prog_6_method_4_code 28 = .ok (.goto 24, 3) := by decide +kernel
theorem ef_rm5 (m : MethodId) (x0 : Addr) (x1 : Int32) : entryFrame m #[(.ref x0), (.int x1)] 2 = mkF m 0 #[.val (.ref x0), .val (.int x1)] [] := by first | (simp [entryFrame, mkF, argsToLocals, Value.category]; done) | rfl
def Q5 (Z : State) (tt p1 : Int32) (h0 : Heap) (n0 : Nat) (v : Option Value) (h : Heap) (L : List Loc) : Prop := v = some (.int (own_il tt p1)) ∧ Fr n0 L ∧ h = h0
set_option maxRecDepth 65536 in
set_option maxHeartbeats 40000000 in
theorem rm5 (l : Launch) (Z : State) (a0 : Array Value) (hw : ∀ d ∈ tables_1, d.before a0 Z = true) (ws : List Jvm.Cond) (a : Addr) (p1 : Int32) (tt : Int32) (h0 : Heap) (n0 : Nat) (Z0 : n0 ≤ h0.size) (E_a : Exa Z h0 a "org/keymoot/Attribute") (F_type_a : Fld Z h0 a "org/keymoot/Attribute" "type" "I" (.int tt)) :
    MetFree l (⟨"org/keymoot/Attribute", "isLife", "(I)Z"⟩ : MethodName) (head1 (Jvm.Cond.code (⟨"org/keymoot/Attribute", "isLife", "(I)Z"⟩ : MethodName) prog_6_method_4_code 2 (some .boolean) :: ws) ({ frames := 0, cells := 0, slots := 0, locals := 0 } : Room)) (fun av' U => av' = #[(.ref a), (.int p1)] ∧ Z.Warmed39 U.vm ∧ U.heap = h0) (fun _ _ _ _ _ => True) (fun _ U o U' => ∃ v L, o = .returned v ∧ Q5 Z tt p1 h0 n0 v U'.heap L ∧ FrameEnd U o U' L ({ frames := 0, cells := 0, slots := 0, locals := 0 } : Room).cells ({ frames := 0, cells := 0, slots := 0, locals := 0 } : Room).slots) := by
  refine MetFree.of_bodySF (plainFor_of_name pn_org_keymoot_Attribute) hisR ?_
  intro p e s m args below meth c s₁ Bd hml0 hP hK
  obtain ⟨rfl, hZ, hh⟩ := hP
  have hx := Bd.exec
  have hby := Bd.bytes
  have hlk := Bd.notSynchronized
  have hml : c.maxLocals = 2 := hml0
  have hown : s.vm.findClass "org/keymoot/Attribute" = some m.cls := findClass_of_methodNamed Bd.named
  have hnm := (name_of_methodNamed Bd.named Bd.method).1
  have X0 : Stand p l e ({ frames := 0, cells := 0, slots := 0, locals := 0 } : Room) s m #[(.ref a), (.int p1)] below meth c s₁ [] 0 0 := Stand.of_body Bd
  have e0 : s₁.heap = h0 := by rw [← hh, Bd.state]; rfl
  have N0 := Fr.nil n0
  show Go p e below (Kq s (Q5 Z tt p1 h0 n0) ({ frames := 0, cells := 0, slots := 0, locals := 0 } : Room).cells ({ frames := 0, cells := 0, slots := 0, locals := 0 } : Room).slots) _
  refine go (fun t kt => castTop (ef_rm5 m a p1) kt) ?_
  show Go p e below _ (s₁.setTop (mkF m 0 #[.val (.ref a), .val (.int p1)] []))
  refine go (fun t kt' => by refine XS.iloadN X0.here hx rfl (hb hby d5_0) rfl ?_; exact kt') ?_
  show Go p e below _ (s₁.setTop (mkF m 1 #[.val (.ref a), .val (.int p1)] [(.int p1)]))
  refine go (fun t kt' => by refine XS.iconst X0.here hx rfl (hb hby d5_1) ?_; exact kt') ?_
  show Go p e below _ (s₁.setTop (mkF m 2 #[.val (.ref a), .val (.int p1)] [(.int (1 : Int32)), (.int p1)]))
  by_cases c2_1 : ¬ p1 = (1 : Int32)
  · skip
    refine go (fun t kt' => by refine XS.icmpYes X0.here hx rfl (pc0 := 2) (pc' := 31) rfl (hb hby d5_2) rfl (feq c2_1).2 (by decide) (by decide) ?_; exact kt') ?_
    show Go p e below _ (s₁.setTop (mkF m 31 #[.val (.ref a), .val (.int p1)] []))
    refine go (fun t kt' => by refine XS.aloadN X0.here hx rfl (hb hby d5_31) rfl rfl ?_; exact kt') ?_
    show Go p e below _ (s₁.setTop (mkF m 32 #[.val (.ref a), .val (.int p1)] [(.ref a)]))
    obtain ⟨T2, X2, e2, st2⟩ := getF X0 hx hZ hown (host := "") (Or.inl (hw _ (List.mem_of_getElem? (i := 16) rfl))) Via.refl e0 F_type_a (g := (mkF m 32 #[.val (.ref a), .val (.int p1)] [(.ref a)])) rfl rfl (hb hby d5_32)
    refine go st2 ?_
    show Go p e below _ (T2.setTop (mkF m 35 #[.val (.ref a), .val (.int p1)] [(.int tt)]))
    refine go (fun t kt' => by refine XS.iconst X2.here hx rfl (hb hby d5_35) ?_; exact kt') ?_
    show Go p e below _ (T2.setTop (mkF m 36 #[.val (.ref a), .val (.int p1)] [(.int (1 : Int32)), (.int tt)]))
    by_cases c36_3 : tt = (1 : Int32)
    · skip
      refine go (fun t kt' => by refine XS.icmpYes X2.here hx rfl (pc0 := 36) (pc' := 47) rfl (hb hby d5_36) rfl (teq c36_3).1 (by decide) (by decide) ?_; exact kt') ?_
      show Go p e below _ (T2.setTop (mkF m 47 #[.val (.ref a), .val (.int p1)] []))
      refine go (fun t kt' => by refine XS.iconst X2.here hx rfl (hb hby d5_47) ?_; exact kt') ?_
      show Go p e below _ (T2.setTop (mkF m 48 #[.val (.ref a), .val (.int p1)] [(.int (1 : Int32))]))
      refine go (fun t kt' => by refine XS.goto X2.here hx rfl (pc0 := 48) (pc' := 52) rfl (hb hby d5_48) (by decide) (by decide) ?_; exact kt') ?_
      show Go p e below _ (T2.setTop (mkF m 52 #[.val (.ref a), .val (.int p1)] [(.int (1 : Int32))]))
      refine goOut X2 (fun h => by rw [Bd.returns] at h; cases h) hlk (fun fs hr => retN X2 hx (t := .boolean) Bd.returns (by simp) (hb hby d5_52) hr) (by decide) (by decide) ?_
      rw [e2]
      exact ⟨by simp [own_il, c2_1, c36_3, nar], N0, rfl⟩
    · skip
      refine go (fun t kt' => by refine XS.icmpNo X2.here hx rfl (hb hby d5_36) rfl (feq c36_3).1 ?_; exact kt') ?_
      show Go p e below _ (T2.setTop (mkF m 39 #[.val (.ref a), .val (.int p1)] []))
      refine go (fun t kt' => by refine XS.aloadN X2.here hx rfl (hb hby d5_39) rfl rfl ?_; exact kt') ?_
      show Go p e below _ (T2.setTop (mkF m 40 #[.val (.ref a), .val (.int p1)] [(.ref a)]))
      obtain ⟨T4, X4, e4, st4⟩ := getF X2 hx hZ hown (host := "") (Or.inl (hw _ (List.mem_of_getElem? (i := 16) rfl))) Via.refl e2 F_type_a (g := (mkF m 40 #[.val (.ref a), .val (.int p1)] [(.ref a)])) rfl rfl (hb hby d5_40)
      refine go st4 ?_
      show Go p e below _ (T4.setTop (mkF m 43 #[.val (.ref a), .val (.int p1)] [(.int tt)]))
      refine go (fun t kt' => by refine XS.iconst X4.here hx rfl (hb hby d5_43) ?_; exact kt') ?_
      show Go p e below _ (T4.setTop (mkF m 44 #[.val (.ref a), .val (.int p1)] [(.int (2 : Int32)), (.int tt)]))
      by_cases c44_5 : ¬ tt = (2 : Int32)
      · skip
        refine go (fun t kt' => by refine XS.icmpYes X4.here hx rfl (pc0 := 44) (pc' := 51) rfl (hb hby d5_44) rfl (feq c44_5).2 (by decide) (by decide) ?_; exact kt') ?_
        show Go p e below _ (T4.setTop (mkF m 51 #[.val (.ref a), .val (.int p1)] []))
        refine go (fun t kt' => by refine XS.iconst X4.here hx rfl (hb hby d5_51) ?_; exact kt') ?_
        show Go p e below _ (T4.setTop (mkF m 52 #[.val (.ref a), .val (.int p1)] [(.int (0 : Int32))]))
        refine goOut X4 (fun h => by rw [Bd.returns] at h; cases h) hlk (fun fs hr => retN X4 hx (t := .boolean) Bd.returns (by simp) (hb hby d5_52) hr) (by decide) (by decide) ?_
        rw [e4]
        exact ⟨by simp [own_il, c2_1, c36_3, c44_5, nar], N0, rfl⟩
      · skip
        refine go (fun t kt' => by refine XS.icmpNo X4.here hx rfl (hb hby d5_44) rfl (teq (Decidable.not_not.mp c44_5)).2 ?_; exact kt') ?_
        show Go p e below _ (T4.setTop (mkF m 47 #[.val (.ref a), .val (.int p1)] []))
        refine go (fun t kt' => by refine XS.iconst X4.here hx rfl (hb hby d5_47) ?_; exact kt') ?_
        show Go p e below _ (T4.setTop (mkF m 48 #[.val (.ref a), .val (.int p1)] [(.int (1 : Int32))]))
        refine go (fun t kt' => by refine XS.goto X4.here hx rfl (pc0 := 48) (pc' := 52) rfl (hb hby d5_48) (by decide) (by decide) ?_; exact kt') ?_
        show Go p e below _ (T4.setTop (mkF m 52 #[.val (.ref a), .val (.int p1)] [(.int (1 : Int32))]))
        refine goOut X4 (fun h => by rw [Bd.returns] at h; cases h) hlk (fun fs hr => retN X4 hx (t := .boolean) Bd.returns (by simp) (hb hby d5_52) hr) (by decide) (by decide) ?_
        rw [e4]
        exact ⟨by simp [own_il, c2_1, c36_3, Decidable.not_not.mp c44_5, nar], N0, rfl⟩
  · skip
    refine go (fun t kt' => by refine XS.icmpNo X0.here hx rfl (hb hby d5_2) rfl (teq (Decidable.not_not.mp c2_1)).2 ?_; exact kt') ?_
    show Go p e below _ (s₁.setTop (mkF m 5 #[.val (.ref a), .val (.int p1)] []))
    refine go (fun t kt' => by refine XS.aloadN X0.here hx rfl (hb hby d5_5) rfl rfl ?_; exact kt') ?_
    show Go p e below _ (s₁.setTop (mkF m 6 #[.val (.ref a), .val (.int p1)] [(.ref a)]))
    obtain ⟨T6, X6, e6, st6⟩ := getF X0 hx hZ hown (host := "") (Or.inl (hw _ (List.mem_of_getElem? (i := 16) rfl))) Via.refl e0 F_type_a (g := (mkF m 6 #[.val (.ref a), .val (.int p1)] [(.ref a)])) rfl rfl (hb hby d5_6)
    refine go st6 ?_
    show Go p e below _ (T6.setTop (mkF m 9 #[.val (.ref a), .val (.int p1)] [(.int tt)]))
    refine go (fun t kt' => by refine XS.bipush X6.here hx rfl (hb hby d5_9) ?_; exact kt') ?_
    show Go p e below _ (T6.setTop (mkF m 11 #[.val (.ref a), .val (.int p1)] [(.int (11 : Int32)), (.int tt)]))
    by_cases c11_7 : tt = (11 : Int32)
    · skip
      refine go (fun t kt' => by refine XS.icmpYes X6.here hx rfl (pc0 := 11) (pc' := 23) rfl (hb hby d5_11) rfl (teq c11_7).1 (by decide) (by decide) ?_; exact kt') ?_
      show Go p e below _ (T6.setTop (mkF m 23 #[.val (.ref a), .val (.int p1)] []))
      refine go (fun t kt' => by refine XS.iconst X6.here hx rfl (hb hby d5_23) ?_; exact kt') ?_
      show Go p e below _ (T6.setTop (mkF m 24 #[.val (.ref a), .val (.int p1)] [(.int (1 : Int32))]))
      refine go (fun t kt' => by refine XS.goto X6.here hx rfl (pc0 := 24) (pc' := 52) rfl (hb hby d5_24) (by decide) (by decide) ?_; exact kt') ?_
      show Go p e below _ (T6.setTop (mkF m 52 #[.val (.ref a), .val (.int p1)] [(.int (1 : Int32))]))
      refine goOut X6 (fun h => by rw [Bd.returns] at h; cases h) hlk (fun fs hr => retN X6 hx (t := .boolean) Bd.returns (by simp) (hb hby d5_52) hr) (by decide) (by decide) ?_
      rw [e6]
      exact ⟨by simp [own_il, Decidable.not_not.mp c2_1, c11_7, nar], N0, rfl⟩
    · skip
      refine go (fun t kt' => by refine XS.icmpNo X6.here hx rfl (hb hby d5_11) rfl (feq c11_7).1 ?_; exact kt') ?_
      show Go p e below _ (T6.setTop (mkF m 14 #[.val (.ref a), .val (.int p1)] []))
      refine go (fun t kt' => by refine XS.aloadN X6.here hx rfl (hb hby d5_14) rfl rfl ?_; exact kt') ?_
      show Go p e below _ (T6.setTop (mkF m 15 #[.val (.ref a), .val (.int p1)] [(.ref a)]))
      obtain ⟨T8, X8, e8, st8⟩ := getF X6 hx hZ hown (host := "") (Or.inl (hw _ (List.mem_of_getElem? (i := 16) rfl))) Via.refl e6 F_type_a (g := (mkF m 15 #[.val (.ref a), .val (.int p1)] [(.ref a)])) rfl rfl (hb hby d5_15)
      refine go st8 ?_
      show Go p e below _ (T8.setTop (mkF m 18 #[.val (.ref a), .val (.int p1)] [(.int tt)]))
      refine go (fun t kt' => by refine XS.bipush X8.here hx rfl (hb hby d5_18) ?_; exact kt') ?_
      show Go p e below _ (T8.setTop (mkF m 20 #[.val (.ref a), .val (.int p1)] [(.int (12 : Int32)), (.int tt)]))
      by_cases c20_9 : ¬ tt = (12 : Int32)
      · skip
        refine go (fun t kt' => by refine XS.icmpYes X8.here hx rfl (pc0 := 20) (pc' := 27) rfl (hb hby d5_20) rfl (feq c20_9).2 (by decide) (by decide) ?_; exact kt') ?_
        show Go p e below _ (T8.setTop (mkF m 27 #[.val (.ref a), .val (.int p1)] []))
        refine go (fun t kt' => by refine XS.iconst X8.here hx rfl (hb hby d5_27) ?_; exact kt') ?_
        show Go p e below _ (T8.setTop (mkF m 28 #[.val (.ref a), .val (.int p1)] [(.int (0 : Int32))]))
        refine go (fun t kt' => by refine XS.goto X8.here hx rfl (pc0 := 28) (pc' := 52) rfl (hb hby d5_28) (by decide) (by decide) ?_; exact kt') ?_
        show Go p e below _ (T8.setTop (mkF m 52 #[.val (.ref a), .val (.int p1)] [(.int (0 : Int32))]))
        refine goOut X8 (fun h => by rw [Bd.returns] at h; cases h) hlk (fun fs hr => retN X8 hx (t := .boolean) Bd.returns (by simp) (hb hby d5_52) hr) (by decide) (by decide) ?_
        rw [e8]
        exact ⟨by simp [own_il, Decidable.not_not.mp c2_1, c11_7, c20_9, nar], N0, rfl⟩
      · skip
        refine go (fun t kt' => by refine XS.icmpNo X8.here hx rfl (hb hby d5_20) rfl (teq (Decidable.not_not.mp c20_9)).2 ?_; exact kt') ?_
        show Go p e below _ (T8.setTop (mkF m 23 #[.val (.ref a), .val (.int p1)] []))
        refine go (fun t kt' => by refine XS.iconst X8.here hx rfl (hb hby d5_23) ?_; exact kt') ?_
        show Go p e below _ (T8.setTop (mkF m 24 #[.val (.ref a), .val (.int p1)] [(.int (1 : Int32))]))
        refine go (fun t kt' => by refine XS.goto X8.here hx rfl (pc0 := 24) (pc' := 52) rfl (hb hby d5_24) (by decide) (by decide) ?_; exact kt') ?_
        show Go p e below _ (T8.setTop (mkF m 52 #[.val (.ref a), .val (.int p1)] [(.int (1 : Int32))]))
        refine goOut X8 (fun h => by rw [Bd.returns] at h; cases h) hlk (fun fs hr => retN X8 hx (t := .boolean) Bd.returns (by simp) (hb hby d5_52) hr) (by decide) (by decide) ?_
        rw [e8]
        exact ⟨by simp [own_il, Decidable.not_not.mp c2_1, c11_7, Decidable.not_not.mp c20_9, nar], N0, rfl⟩
def own_lt (t pr : Int32) : Int32 := if pr = 1 then (if t = 11 then 1 else 0) else (if t = 1 then 1 else 0)
theorem d4_0 : decode prog_6_method_5_code 0 = .ok (.aload_n 0, 1) := by decide +kernel
theorem d4_1 : decode prog_6_method_5_code 1 = .ok (.getfield 21, 3) := by decide +kernel
theorem d4_4 : decode prog_6_method_5_code 4 = .ok (.iload_n 1, 1) := by decide +kernel
theorem d4_5 : decode prog_6_method_5_code 5 = .ok (.iconst 1, 1) := by decide +kernel
theorem d4_6 : decode prog_6_method_5_code 6 = .ok (.if_icmp .ne 8, 3) := by decide +kernel
theorem d4_14 : decode prog_6_method_5_code 14 = .ok (.iconst 1, 1) := by decide +kernel
theorem d4_15 : decode prog_6_method_5_code 15 = .ok (.if_icmp .ne 7, 3) := by decide +kernel
theorem d4_22 : decode prog_6_method_5_code 22 = .ok (.iconst 0, 1) := by decide +kernel
theorem d4_23 : decode prog_6_method_5_code 23 = .ok (.ireturn, 1) := by decide +kernel
theorem d4_18 : decode prog_6_method_5_code 18 = .ok (.iconst 1, 1) := by decide +kernel
theorem d4_19 : decode prog_6_method_5_code 19 = .ok (.goto 4, 3) := by decide +kernel
theorem d4_9 : decode prog_6_method_5_code 9 = .ok (.bipush 11, 2) := by decide +kernel
theorem d4_11 : decode prog_6_method_5_code 11 = .ok (.goto 4, 3) := by decide +kernel
theorem ef_rm4 (m : MethodId) (x0 : Addr) (x1 : Int32) : entryFrame m #[(.ref x0), (.int x1)] 2 = mkF m 0 #[.val (.ref x0), .val (.int x1)] [] := by first | (simp [entryFrame, mkF, argsToLocals, Value.category]; done) | rfl
def Q4 (Z : State) (tt p1 : Int32) (h0 : Heap) (n0 : Nat) (v : Option Value) (h : Heap) (L : List Loc) : Prop := v = some (.int (own_lt tt p1)) ∧ Fr n0 L ∧ h = h0
set_option maxRecDepth 65536 in
set_option maxHeartbeats 40000000 in
theorem rm4 (l : Launch) (Z : State) (a0 : Array Value) (hw : ∀ d ∈ tables_1, d.before a0 Z = true) (ws : List Jvm.Cond) (a : Addr) (p1 : Int32) (tt : Int32) (h0 : Heap) (n0 : Nat) (Z0 : n0 ≤ h0.size) (E_a : Exa Z h0 a "org/keymoot/Attribute") (F_type_a : Fld Z h0 a "org/keymoot/Attribute" "type" "I" (.int tt)) :
    MetFree l (⟨"org/keymoot/Attribute", "isLifeType", "(I)Z"⟩ : MethodName) (head1 (Jvm.Cond.code (⟨"org/keymoot/Attribute", "isLifeType", "(I)Z"⟩ : MethodName) prog_6_method_5_code 2 (some .boolean) :: ws) ({ frames := 0, cells := 0, slots := 0, locals := 0 } : Room)) (fun av' U => av' = #[(.ref a), (.int p1)] ∧ Z.Warmed39 U.vm ∧ U.heap = h0) (fun _ _ _ _ _ => True) (fun _ U o U' => ∃ v L, o = .returned v ∧ Q4 Z tt p1 h0 n0 v U'.heap L ∧ FrameEnd U o U' L ({ frames := 0, cells := 0, slots := 0, locals := 0 } : Room).cells ({ frames := 0, cells := 0, slots := 0, locals := 0 } : Room).slots) := by
  refine MetFree.of_bodySF (plainFor_of_name pn_org_keymoot_Attribute) hisR ?_
  intro p e s m args below meth c s₁ Bd hml0 hP hK
  obtain ⟨rfl, hZ, hh⟩ := hP
  have hx := Bd.exec
  have hby := Bd.bytes
  have hlk := Bd.notSynchronized
  have hml : c.maxLocals = 2 := hml0
  have hown : s.vm.findClass "org/keymoot/Attribute" = some m.cls := findClass_of_methodNamed Bd.named
  have hnm := (name_of_methodNamed Bd.named Bd.method).1
  have X0 : Stand p l e ({ frames := 0, cells := 0, slots := 0, locals := 0 } : Room) s m #[(.ref a), (.int p1)] below meth c s₁ [] 0 0 := Stand.of_body Bd
  have e0 : s₁.heap = h0 := by rw [← hh, Bd.state]; rfl
  have N0 := Fr.nil n0
  show Go p e below (Kq s (Q4 Z tt p1 h0 n0) ({ frames := 0, cells := 0, slots := 0, locals := 0 } : Room).cells ({ frames := 0, cells := 0, slots := 0, locals := 0 } : Room).slots) _
  refine go (fun t kt => castTop (ef_rm4 m a p1) kt) ?_
  show Go p e below _ (s₁.setTop (mkF m 0 #[.val (.ref a), .val (.int p1)] []))
  refine go (fun t kt' => by refine XS.aloadN X0.here hx rfl (hb hby d4_0) rfl rfl ?_; exact kt') ?_
  show Go p e below _ (s₁.setTop (mkF m 1 #[.val (.ref a), .val (.int p1)] [(.ref a)]))
  obtain ⟨T1, X1, e1, st1⟩ := getF X0 hx hZ hown (host := "") (Or.inl (hw _ (List.mem_of_getElem? (i := 16) rfl))) Via.refl e0 F_type_a (g := (mkF m 1 #[.val (.ref a), .val (.int p1)] [(.ref a)])) rfl rfl (hb hby d4_1)
  refine go st1 ?_
  show Go p e below _ (T1.setTop (mkF m 4 #[.val (.ref a), .val (.int p1)] [(.int tt)]))
  refine go (fun t kt' => by refine XS.iloadN X1.here hx rfl (hb hby d4_4) rfl ?_; exact kt') ?_
  show Go p e below _ (T1.setTop (mkF m 5 #[.val (.ref a), .val (.int p1)] [(.int p1), (.int tt)]))
  refine go (fun t kt' => by refine XS.iconst X1.here hx rfl (hb hby d4_5) ?_; exact kt') ?_
  show Go p e below _ (T1.setTop (mkF m 6 #[.val (.ref a), .val (.int p1)] [(.int (1 : Int32)), (.int p1), (.int tt)]))
  by_cases c6_2 : ¬ p1 = (1 : Int32)
  · skip
    refine go (fun t kt' => by refine XS.icmpYes X1.here hx rfl (pc0 := 6) (pc' := 14) rfl (hb hby d4_6) rfl (feq c6_2).2 (by decide) (by decide) ?_; exact kt') ?_
    show Go p e below _ (T1.setTop (mkF m 14 #[.val (.ref a), .val (.int p1)] [(.int tt)]))
    refine go (fun t kt' => by refine XS.iconst X1.here hx rfl (hb hby d4_14) ?_; exact kt') ?_
    show Go p e below _ (T1.setTop (mkF m 15 #[.val (.ref a), .val (.int p1)] [(.int (1 : Int32)), (.int tt)]))
    by_cases c15_3 : ¬ tt = (1 : Int32)
    · skip
      refine go (fun t kt' => by refine XS.icmpYes X1.here hx rfl (pc0 := 15) (pc' := 22) rfl (hb hby d4_15) rfl (feq c15_3).2 (by decide) (by decide) ?_; exact kt') ?_
      show Go p e below _ (T1.setTop (mkF m 22 #[.val (.ref a), .val (.int p1)] []))
      refine go (fun t kt' => by refine XS.iconst X1.here hx rfl (hb hby d4_22) ?_; exact kt') ?_
      show Go p e below _ (T1.setTop (mkF m 23 #[.val (.ref a), .val (.int p1)] [(.int (0 : Int32))]))
      refine goOut X1 (fun h => by rw [Bd.returns] at h; cases h) hlk (fun fs hr => retN X1 hx (t := .boolean) Bd.returns (by simp) (hb hby d4_23) hr) (by decide) (by decide) ?_
      rw [e1]
      exact ⟨by simp [own_lt, c6_2, c15_3, nar], N0, rfl⟩
    · skip
      refine go (fun t kt' => by refine XS.icmpNo X1.here hx rfl (hb hby d4_15) rfl (teq (Decidable.not_not.mp c15_3)).2 ?_; exact kt') ?_
      show Go p e below _ (T1.setTop (mkF m 18 #[.val (.ref a), .val (.int p1)] []))
      refine go (fun t kt' => by refine XS.iconst X1.here hx rfl (hb hby d4_18) ?_; exact kt') ?_
      show Go p e below _ (T1.setTop (mkF m 19 #[.val (.ref a), .val (.int p1)] [(.int (1 : Int32))]))
      refine go (fun t kt' => by refine XS.goto X1.here hx rfl (pc0 := 19) (pc' := 23) rfl (hb hby d4_19) (by decide) (by decide) ?_; exact kt') ?_
      show Go p e below _ (T1.setTop (mkF m 23 #[.val (.ref a), .val (.int p1)] [(.int (1 : Int32))]))
      refine goOut X1 (fun h => by rw [Bd.returns] at h; cases h) hlk (fun fs hr => retN X1 hx (t := .boolean) Bd.returns (by simp) (hb hby d4_23) hr) (by decide) (by decide) ?_
      rw [e1]
      exact ⟨by simp [own_lt, c6_2, Decidable.not_not.mp c15_3, nar], N0, rfl⟩
  · skip
    refine go (fun t kt' => by refine XS.icmpNo X1.here hx rfl (hb hby d4_6) rfl (teq (Decidable.not_not.mp c6_2)).2 ?_; exact kt') ?_
    show Go p e below _ (T1.setTop (mkF m 9 #[.val (.ref a), .val (.int p1)] [(.int tt)]))
    refine go (fun t kt' => by refine XS.bipush X1.here hx rfl (hb hby d4_9) ?_; exact kt') ?_
    show Go p e below _ (T1.setTop (mkF m 11 #[.val (.ref a), .val (.int p1)] [(.int (11 : Int32)), (.int tt)]))
    refine go (fun t kt' => by refine XS.goto X1.here hx rfl (pc0 := 11) (pc' := 15) rfl (hb hby d4_11) (by decide) (by decide) ?_; exact kt') ?_
    show Go p e below _ (T1.setTop (mkF m 15 #[.val (.ref a), .val (.int p1)] [(.int (11 : Int32)), (.int tt)]))
    by_cases c15_4 : ¬ tt = (11 : Int32)
    · skip
      refine go (fun t kt' => by refine XS.icmpYes X1.here hx rfl (pc0 := 15) (pc' := 22) rfl (hb hby d4_15) rfl (feq c15_4).2 (by decide) (by decide) ?_; exact kt') ?_
      show Go p e below _ (T1.setTop (mkF m 22 #[.val (.ref a), .val (.int p1)] []))
      refine go (fun t kt' => by refine XS.iconst X1.here hx rfl (hb hby d4_22) ?_; exact kt') ?_
      show Go p e below _ (T1.setTop (mkF m 23 #[.val (.ref a), .val (.int p1)] [(.int (0 : Int32))]))
      refine goOut X1 (fun h => by rw [Bd.returns] at h; cases h) hlk (fun fs hr => retN X1 hx (t := .boolean) Bd.returns (by simp) (hb hby d4_23) hr) (by decide) (by decide) ?_
      rw [e1]
      exact ⟨by simp [own_lt, Decidable.not_not.mp c6_2, c15_4, nar], N0, rfl⟩
    · skip
      refine go (fun t kt' => by refine XS.icmpNo X1.here hx rfl (hb hby d4_15) rfl (teq (Decidable.not_not.mp c15_4)).2 ?_; exact kt') ?_
      show Go p e below _ (T1.setTop (mkF m 18 #[.val (.ref a), .val (.int p1)] []))
      refine go (fun t kt' => by refine XS.iconst X1.here hx rfl (hb hby d4_18) ?_; exact kt') ?_
      show Go p e below _ (T1.setTop (mkF m 19 #[.val (.ref a), .val (.int p1)] [(.int (1 : Int32))]))
      refine go (fun t kt' => by refine XS.goto X1.here hx rfl (pc0 := 19) (pc' := 23) rfl (hb hby d4_19) (by decide) (by decide) ?_; exact kt') ?_
      show Go p e below _ (T1.setTop (mkF m 23 #[.val (.ref a), .val (.int p1)] [(.int (1 : Int32))]))
      refine goOut X1 (fun h => by rw [Bd.returns] at h; cases h) hlk (fun fs hr => retN X1 hx (t := .boolean) Bd.returns (by simp) (hb hby d4_23) hr) (by decide) (by decide) ?_
      rw [e1]
      exact ⟨by simp [own_lt, Decidable.not_not.mp c6_2, Decidable.not_not.mp c15_4, nar], N0, rfl⟩
theorem own_t2 (t : Int32) : ¬ (t &&& (32767 : Int32)) < 0 ∧ (t &&& (32767 : Int32)) < 32768 := by
  have h : (t &&& (32767 : Int32)).toInt = t.toInt % (2 ^ 15 : Nat) := c_mask t 32767 15 (by decide) (by decide)
  simp only [Int32.lt_iff_toInt_lt, Int32.reduceToInt, h]; omega
theorem own_life (t pr : Int32) (h : ¬ own_lt t pr = 0) : ¬ own_il t pr = 0 := by
  unfold own_lt at h; unfold own_il
  by_cases c : pr = 1
  · by_cases d : t = 11
    · simp [c, d]
    · simp [c, d] at h
  · by_cases d : t = 1
    · simp [c, d]
    · simp [c, d] at h
theorem pd_1 : parseMethodDescriptor "(IZ[B)V" = some ⟨[.int, .boolean, (.array .byte)], none⟩ := by decide +kernel
theorem pd_2 : parseMethodDescriptor "(I)Z" = some ⟨[.int], some .boolean⟩ := by decide +kernel
theorem pn_org_keymoot_AttributeIsLifeTypePinLaw : plainName "org/keymoot/AttributeIsLifeTypePinLaw" = true := by first | (simp [plainName, overriddenIn]; done) | decide +kernel
theorem ef_rm0 (m : MethodId) (x0 : Int32) (x1 : Int32) (x2 : Int32) (x3 : Int32) : entryFrame m #[(.int x0), (.int x1), (.int x2), (.int x3)] maxLocals = mkF m 0 #[.val (.int x0), .val (.int x1), .val (.int x2), .val (.int x3), .unset, .unset, .unset, .unset, .unset, .unset, .unset, .unset, .unset] [] := by first | (simp [entryFrame, mkF, argsToLocals, Value.category, maxLocals]; done) | rfl
def Q0 (Z : State) (p0 : Int32) (p1 : Int32) (p2 : Int32) (p3 : Int32) (h0 : Heap) (n0 : Nat) (v : Option Value) (h : Heap) (L : List Loc) : Prop := v = some (.int 1) ∧ Fr n0 L
set_option maxRecDepth 65536 in
set_option maxHeartbeats 40000000 in
theorem rm0 (l : Launch) (Z : State) (a0 : Array Value) (hw : ∀ d ∈ tables_1, d.before a0 Z = true) (ws : List Jvm.Cond) (p0 : Int32) (p1 : Int32) (p2 : Int32) (p3 : Int32)  (h0 : Heap) (n0 : Nat) (Z0 : n0 ≤ h0.size)  :
    MetFree l x (head1 (Jvm.Cond.code x code maxLocals ret :: ws) room_1) (fun av' U => av' = #[(.int p0), (.int p1), (.int p2), (.int p3)] ∧ Z.Warmed39 U.vm ∧ U.heap = h0) (fun _ _ _ _ _ => True) (fun _ U o U' => ∃ v L, o = .returned v ∧ Q0 Z p0 p1 p2 p3 h0 n0 v U'.heap L ∧ FrameEnd U o U' L room_1.cells room_1.slots) := by
  refine MetFree.of_bodySF (plainFor_of_name pn_org_keymoot_AttributeIsLifeTypePinLaw) hisR ?_
  intro p e s m args below meth c s₁ Bd hml0 hP hK
  obtain ⟨rfl, hZ, hh⟩ := hP
  have hx := Bd.exec
  have hby := Bd.bytes
  have hlk := Bd.notSynchronized
  have hml : c.maxLocals = 13 := hml0
  have hown : s.vm.findClass "org/keymoot/AttributeIsLifeTypePinLaw" = some m.cls := findClass_of_methodNamed Bd.named
  have hnm := (name_of_methodNamed Bd.named Bd.method).1
  have X0 : Stand p l e room_1 s m #[(.int p0), (.int p1), (.int p2), (.int p3)] below meth c s₁ [] 0 0 := Stand.of_body Bd
  have e0 : s₁.heap = h0 := by rw [← hh, Bd.state]; rfl
  have N0 := Fr.nil n0
  show Go p e below (Kq s (Q0 Z p0 p1 p2 p3 h0 n0) room_1.cells room_1.slots) _
  refine go (fun t kt => castTop (ef_rm0 m p0 p1 p2 p3) kt) ?_
  show Go p e below _ (s₁.setTop (mkF m 0 #[.val (.int p0), .val (.int p1), .val (.int p2), .val (.int p3), .unset, .unset, .unset, .unset, .unset, .unset, .unset, .unset, .unset] []))
  refine go (fun t kt' => by refine XS.iloadN X0.here hx rfl (hb hby at_0) rfl ?_; exact kt') ?_
  show Go p e below _ (s₁.setTop (mkF m 1 #[.val (.int p0), .val (.int p1), .val (.int p2), .val (.int p3), .unset, .unset, .unset, .unset, .unset, .unset, .unset, .unset, .unset] [(.int p0)]))
  refine go (fun t kt' => by refine XS.bipush X0.here hx rfl (hb hby at_1) ?_; exact kt') ?_
  show Go p e below _ (s₁.setTop (mkF m 3 #[.val (.int p0), .val (.int p1), .val (.int p2), .val (.int p3), .unset, .unset, .unset, .unset, .unset, .unset, .unset, .unset, .unset] [(.int (7 : Int32)), (.int p0)]))
  refine go (fun t kt' => by refine XS.iand X0.here hx rfl (hb hby at_3) rfl ?_; exact kt') ?_
  show Go p e below _ (s₁.setTop (mkF m 4 #[.val (.int p0), .val (.int p1), .val (.int p2), .val (.int p3), .unset, .unset, .unset, .unset, .unset, .unset, .unset, .unset, .unset] [(.int (p0 &&& (7 : Int32)))]))
  refine go (fun t kt' => by refine XS.istore X0.here hx rfl (hb hby at_4) rfl (l' := #[.val (.int p0), .val (.int p1), .val (.int p2), .val (.int p3), .val (.int (p0 &&& (7 : Int32))), .unset, .unset, .unset, .unset, .unset, .unset, .unset, .unset]) rfl ?_; exact kt') ?_
  show Go p e below _ (s₁.setTop (mkF m 6 #[.val (.int p0), .val (.int p1), .val (.int p2), .val (.int p3), .val (.int (p0 &&& (7 : Int32))), .unset, .unset, .unset, .unset, .unset, .unset, .unset, .unset] []))
  generalize hsl : (p0 &&& (7 : Int32)) = sl
  show Go p e below _ (s₁.setTop (mkF m 6 #[.val (.int p0), .val (.int p1), .val (.int p2), .val (.int p3), .val (.int sl), .unset, .unset, .unset, .unset, .unset, .unset, .unset, .unset] []))
  refine go (fun t kt' => by refine XS.iload X0.here hx rfl (hb hby at_6) rfl ?_; exact kt') ?_
  show Go p e below _ (s₁.setTop (mkF m 8 #[.val (.int p0), .val (.int p1), .val (.int p2), .val (.int p3), .val (.int sl), .unset, .unset, .unset, .unset, .unset, .unset, .unset, .unset] [(.int sl)]))
  have J62_1 : ∀ ty : Int32, (¬ ty < 0 ∧ ty < 32768) → Go p e below (Kq s (Q0 Z p0 p1 p2 p3 h0 n0) room_1.cells room_1.slots) (s₁.setTop (mkF m 62 #[.val (.int p0), .val (.int p1), .val (.int p2), .val (.int p3), .val (.int sl), .val (.int ty), .unset, .unset, .unset, .unset, .unset, .unset, .unset] [])) := by
    intro ty hty
    show Go p e below _ (s₁.setTop (mkF m 62 #[.val (.int p0), .val (.int p1), .val (.int p2), .val (.int p3), .val (.int sl), .val (.int ty), .unset, .unset, .unset, .unset, .unset, .unset, .unset] []))
    refine go (fun t kt' => by refine XS.iloadN X0.here hx rfl (hb hby at_62) rfl ?_; exact kt') ?_
    show Go p e below _ (s₁.setTop (mkF m 63 #[.val (.int p0), .val (.int p1), .val (.int p2), .val (.int p3), .val (.int sl), .val (.int ty), .unset, .unset, .unset, .unset, .unset, .unset, .unset] [(.int p3)]))
    refine go (fun t kt' => by refine XS.iconst X0.here hx rfl (hb hby at_63) ?_; exact kt') ?_
    show Go p e below _ (s₁.setTop (mkF m 64 #[.val (.int p0), .val (.int p1), .val (.int p2), .val (.int p3), .val (.int sl), .val (.int ty), .unset, .unset, .unset, .unset, .unset, .unset, .unset] [(.int (2 : Int32)), (.int p3)]))
    refine go (fun t kt' => by refine XS.iand X0.here hx rfl (hb hby at_64) rfl ?_; exact kt') ?_
    show Go p e below _ (s₁.setTop (mkF m 65 #[.val (.int p0), .val (.int p1), .val (.int p2), .val (.int p3), .val (.int sl), .val (.int ty), .unset, .unset, .unset, .unset, .unset, .unset, .unset] [(.int (p3 &&& (2 : Int32)))]))
    have J73_2 : ∀ pr : Int32, Go p e below (Kq s (Q0 Z p0 p1 p2 p3 h0 n0) room_1.cells room_1.slots) (s₁.setTop (mkF m 73 #[.val (.int p0), .val (.int p1), .val (.int p2), .val (.int p3), .val (.int sl), .val (.int ty), .unset, .unset, .unset, .unset, .unset, .unset, .unset] [(.int pr)])) := by
      intro pr
      show Go p e below _ (s₁.setTop (mkF m 73 #[.val (.int p0), .val (.int p1), .val (.int p2), .val (.int p3), .val (.int sl), .val (.int ty), .unset, .unset, .unset, .unset, .unset, .unset, .unset] [(.int pr)]))
      refine go (fun t kt' => by refine XS.istore X0.here hx rfl (hb hby at_73) rfl (l' := #[.val (.int p0), .val (.int p1), .val (.int p2), .val (.int p3), .val (.int sl), .val (.int ty), .val (.int pr), .unset, .unset, .unset, .unset, .unset, .unset]) rfl ?_; exact kt') ?_
      show Go p e below _ (s₁.setTop (mkF m 75 #[.val (.int p0), .val (.int p1), .val (.int p2), .val (.int p3), .val (.int sl), .val (.int ty), .val (.int pr), .unset, .unset, .unset, .unset, .unset, .unset] []))
      refine go (fun t kt' => by refine XS.iloadN X0.here hx rfl (hb hby at_75) rfl ?_; exact kt') ?_
      show Go p e below _ (s₁.setTop (mkF m 76 #[.val (.int p0), .val (.int p1), .val (.int p2), .val (.int p3), .val (.int sl), .val (.int ty), .val (.int pr), .unset, .unset, .unset, .unset, .unset, .unset] [(.int p3)]))
      refine go (fun t kt' => by refine XS.iconst X0.here hx rfl (hb hby at_76) ?_; exact kt') ?_
      show Go p e below _ (s₁.setTop (mkF m 77 #[.val (.int p0), .val (.int p1), .val (.int p2), .val (.int p3), .val (.int sl), .val (.int ty), .val (.int pr), .unset, .unset, .unset, .unset, .unset, .unset] [(.int (1 : Int32)), (.int p3)]))
      refine go (fun t kt' => by refine XS.iand X0.here hx rfl (hb hby at_77) rfl ?_; exact kt') ?_
      show Go p e below _ (s₁.setTop (mkF m 78 #[.val (.int p0), .val (.int p1), .val (.int p2), .val (.int p3), .val (.int sl), .val (.int ty), .val (.int pr), .unset, .unset, .unset, .unset, .unset, .unset] [(.int (p3 &&& (1 : Int32)))]))
      have J86_3 : ∀ bz : Int32, Go p e below (Kq s (Q0 Z p0 p1 p2 p3 h0 n0) room_1.cells room_1.slots) (s₁.setTop (mkF m 86 #[.val (.int p0), .val (.int p1), .val (.int p2), .val (.int p3), .val (.int sl), .val (.int ty), .val (.int pr), .unset, .unset, .unset, .unset, .unset, .unset] [(.int bz)])) := by
        intro bz
        show Go p e below _ (s₁.setTop (mkF m 86 #[.val (.int p0), .val (.int p1), .val (.int p2), .val (.int p3), .val (.int sl), .val (.int ty), .val (.int pr), .unset, .unset, .unset, .unset, .unset, .unset] [(.int bz)]))
        refine go (fun t kt' => by refine XS.istore X0.here hx rfl (hb hby at_86) rfl (l' := #[.val (.int p0), .val (.int p1), .val (.int p2), .val (.int p3), .val (.int sl), .val (.int ty), .val (.int pr), .val (.int bz), .unset, .unset, .unset, .unset, .unset]) rfl ?_; exact kt') ?_
        show Go p e below _ (s₁.setTop (mkF m 88 #[.val (.int p0), .val (.int p1), .val (.int p2), .val (.int p3), .val (.int sl), .val (.int ty), .val (.int pr), .val (.int bz), .unset, .unset, .unset, .unset, .unset] []))
        refine go (fun t kt' => by refine XS.iconst X0.here hx rfl (hb hby at_88) ?_; exact kt') ?_
        show Go p e below _ (s₁.setTop (mkF m 89 #[.val (.int p0), .val (.int p1), .val (.int p2), .val (.int p3), .val (.int sl), .val (.int ty), .val (.int pr), .val (.int bz), .unset, .unset, .unset, .unset, .unset] [(.int (2 : Int32))]))
        obtain ⟨T4, h4, k4, X4, e4, E4, A4, st4⟩ := newP X0 hx hZ (hw _ (List.mem_of_getElem? (i := 0) rfl)) e0 (g := (mkF m 89 #[.val (.int p0), .val (.int p1), .val (.int p2), .val (.int p3), .val (.int sl), .val (.int ty), .val (.int pr), .val (.int bz), .unset, .unset, .unset, .unset, .unset] [(.int (2 : Int32))])) rfl (hb hby at_89) rfl (by decide) (cap := 2) (by decide) (by decide) (by decide) (by decide)
        obtain ⟨b4, g4⟩ : ∃ z, z = h0.size := ⟨_, rfl⟩
        have n0_b4 : n0 ≤ b4 := Nat.le_trans Z0 (Nat.le_of_eq g4.symm)
        rw [← g4] at A4 st4
        have f5_Z := Nat.le_trans Z0 E4.1
        have V4 : IA Z h4 b4 .byte 2 (fun _ => 0) := IA.new A4 rfl rfl
        refine go st4 ?_
        show Go p e below _ (T4.setTop (mkF m 91 #[.val (.int p0), .val (.int p1), .val (.int p2), .val (.int p3), .val (.int sl), .val (.int ty), .val (.int pr), .val (.int bz), .unset, .unset, .unset, .unset, .unset] [(.ref b4)]))
        refine go (fun t kt' => by refine XS.dup X4.here hx rfl (hb hby at_91) rfl rfl ?_; exact kt') ?_
        show Go p e below _ (T4.setTop (mkF m 92 #[.val (.int p0), .val (.int p1), .val (.int p2), .val (.int p3), .val (.int sl), .val (.int ty), .val (.int pr), .val (.int bz), .unset, .unset, .unset, .unset, .unset] [(.ref b4), (.ref b4)]))
        refine go (fun t kt' => by refine XS.iconst X4.here hx rfl (hb hby at_92) ?_; exact kt') ?_
        show Go p e below _ (T4.setTop (mkF m 93 #[.val (.int p0), .val (.int p1), .val (.int p2), .val (.int p3), .val (.int sl), .val (.int ty), .val (.int pr), .val (.int bz), .unset, .unset, .unset, .unset, .unset] [(.int (0 : Int32)), (.ref b4), (.ref b4)]))
        refine go (fun t kt' => by refine XS.iloadN X4.here hx rfl (hb hby at_93) rfl ?_; exact kt') ?_
        show Go p e below _ (T4.setTop (mkF m 94 #[.val (.int p0), .val (.int p1), .val (.int p2), .val (.int p3), .val (.int sl), .val (.int ty), .val (.int pr), .val (.int bz), .unset, .unset, .unset, .unset, .unset] [(.int p1), (.int (0 : Int32)), (.ref b4), (.ref b4)]))
        refine go (fun t kt' => by refine XS.bipush X4.here hx rfl (hb hby at_94) ?_; exact kt') ?_
        show Go p e below _ (T4.setTop (mkF m 96 #[.val (.int p0), .val (.int p1), .val (.int p2), .val (.int p3), .val (.int sl), .val (.int ty), .val (.int pr), .val (.int bz), .unset, .unset, .unset, .unset, .unset] [(.int (8 : Int32)), (.int p1), (.int (0 : Int32)), (.ref b4), (.ref b4)]))
        refine go (fun t kt' => by refine XS.iushr X4.here hx rfl (hb hby at_96) rfl ?_; exact kt') ?_
        show Go p e below _ (T4.setTop (mkF m 97 #[.val (.int p0), .val (.int p1), .val (.int p2), .val (.int p3), .val (.int sl), .val (.int ty), .val (.int pr), .val (.int bz), .unset, .unset, .unset, .unset, .unset] [(.int ((p1.toUInt32 >>> ((8 : Int32) &&& 31).toUInt32).toInt32)), (.int (0 : Int32)), (.ref b4), (.ref b4)]))
        refine go (fun t kt' => by refine XS.i2b X4.here hx rfl (hb hby at_97) rfl ?_; exact kt') ?_
        show Go p e below _ (T4.setTop (mkF m 98 #[.val (.int p0), .val (.int p1), .val (.int p2), .val (.int p3), .val (.int sl), .val (.int ty), .val (.int pr), .val (.int bz), .unset, .unset, .unset, .unset, .unset] [(.int (((p1.toUInt32 >>> ((8 : Int32) &&& 31).toUInt32).toInt32).toInt8.toInt32)), (.int (0 : Int32)), (.ref b4), (.ref b4)]))
        obtain ⟨T6, h6, X6, e6, W6, V6, st6⟩ := stBA X4 hx hZ e4 V4 (j := (0 : Int32)) (x := (((p1.toUInt32 >>> ((8 : Int32) &&& 31).toUInt32).toInt32).toInt8.toInt32)) ⟨by decide, by decide⟩ (g := (mkF m 98 #[.val (.int p0), .val (.int p1), .val (.int p2), .val (.int p3), .val (.int sl), .val (.int ty), .val (.int pr), .val (.int bz), .unset, .unset, .unset, .unset, .unset] [(.int (((p1.toUInt32 >>> ((8 : Int32) &&& 31).toUInt32).toInt32).toInt8.toInt32)), (.int (0 : Int32)), (.ref b4), (.ref b4)])) rfl rfl (hb hby at_98)
        have N6 := Fr.snoc X6 N0 n0_b4
        have f7_Z := Nat.le_trans f5_Z (Keep.of_wr W6).1
        have f8_A_b4 := V6
        refine go st6 ?_
        show Go p e below _ (T6.setTop (mkF m 99 #[.val (.int p0), .val (.int p1), .val (.int p2), .val (.int p3), .val (.int sl), .val (.int ty), .val (.int pr), .val (.int bz), .unset, .unset, .unset, .unset, .unset] [(.ref b4)]))
        refine go (fun t kt' => by refine XS.dup X6.here hx rfl (hb hby at_99) rfl rfl ?_; exact kt') ?_
        show Go p e below _ (T6.setTop (mkF m 100 #[.val (.int p0), .val (.int p1), .val (.int p2), .val (.int p3), .val (.int sl), .val (.int ty), .val (.int pr), .val (.int bz), .unset, .unset, .unset, .unset, .unset] [(.ref b4), (.ref b4)]))
        refine go (fun t kt' => by refine XS.iconst X6.here hx rfl (hb hby at_100) ?_; exact kt') ?_
        show Go p e below _ (T6.setTop (mkF m 101 #[.val (.int p0), .val (.int p1), .val (.int p2), .val (.int p3), .val (.int sl), .val (.int ty), .val (.int pr), .val (.int bz), .unset, .unset, .unset, .unset, .unset] [(.int (1 : Int32)), (.ref b4), (.ref b4)]))
        refine go (fun t kt' => by refine XS.iloadN X6.here hx rfl (hb hby at_101) rfl ?_; exact kt') ?_
        show Go p e below _ (T6.setTop (mkF m 102 #[.val (.int p0), .val (.int p1), .val (.int p2), .val (.int p3), .val (.int sl), .val (.int ty), .val (.int pr), .val (.int bz), .unset, .unset, .unset, .unset, .unset] [(.int p1), (.int (1 : Int32)), (.ref b4), (.ref b4)]))
        refine go (fun t kt' => by refine XS.i2b X6.here hx rfl (hb hby at_102) rfl ?_; exact kt') ?_
        show Go p e below _ (T6.setTop (mkF m 103 #[.val (.int p0), .val (.int p1), .val (.int p2), .val (.int p3), .val (.int sl), .val (.int ty), .val (.int pr), .val (.int bz), .unset, .unset, .unset, .unset, .unset] [(.int (p1.toInt8.toInt32)), (.int (1 : Int32)), (.ref b4), (.ref b4)]))
        obtain ⟨T9, h9, X9, e9, W9, V9, st9⟩ := stBA X6 hx hZ e6 f8_A_b4 (j := (1 : Int32)) (x := (p1.toInt8.toInt32)) ⟨by decide, by decide⟩ (g := (mkF m 103 #[.val (.int p0), .val (.int p1), .val (.int p2), .val (.int p3), .val (.int sl), .val (.int ty), .val (.int pr), .val (.int bz), .unset, .unset, .unset, .unset, .unset] [(.int (p1.toInt8.toInt32)), (.int (1 : Int32)), (.ref b4), (.ref b4)])) rfl rfl (hb hby at_103)
        have N9 := Fr.snoc X9 N6 n0_b4
        have f10_Z := Nat.le_trans f7_Z (Keep.of_wr W9).1
        have f11_A_b4 := V9
        refine go st9 ?_
        show Go p e below _ (T9.setTop (mkF m 104 #[.val (.int p0), .val (.int p1), .val (.int p2), .val (.int p3), .val (.int sl), .val (.int ty), .val (.int pr), .val (.int bz), .unset, .unset, .unset, .unset, .unset] [(.ref b4)]))
        obtain ⟨fv12, V12⟩ : ∃ f : Nat → Int32, IA Z h9 b4 .byte 2 f := ⟨_, f11_A_b4⟩
        refine go (fun t kt' => by refine XS.astore X9.here hx rfl (hb hby at_104) rfl rfl (l' := #[.val (.int p0), .val (.int p1), .val (.int p2), .val (.int p3), .val (.int sl), .val (.int ty), .val (.int pr), .val (.int bz), .val (.ref b4), .unset, .unset, .unset, .unset]) rfl ?_; exact kt') ?_
        show Go p e below _ (T9.setTop (mkF m 106 #[.val (.int p0), .val (.int p1), .val (.int p2), .val (.int p3), .val (.int sl), .val (.int ty), .val (.int pr), .val (.int bz), .val (.ref b4), .unset, .unset, .unset, .unset] []))
        obtain ⟨T13, h13, X13, e13, E13, A13, D13, -, st13⟩ := newO X9 hx hZ hown (hw _ (List.mem_of_getElem? (i := 1) rfl)) (hw _ (List.mem_of_getElem? (i := 2) rfl)) (hw _ (List.mem_of_getElem? (i := 3) rfl)) e9 (g := (mkF m 106 #[.val (.int p0), .val (.int p1), .val (.int p2), .val (.int p3), .val (.int sl), .val (.int ty), .val (.int pr), .val (.int bz), .val (.ref b4), .unset, .unset, .unset, .unset] [])) rfl (hb hby at_106) (by decide) (by decide)
        obtain ⟨b13, g13⟩ : ∃ z, z = h9.size := ⟨_, rfl⟩
        have n0_b13 : n0 ≤ b13 := Nat.le_trans f10_Z (Nat.le_of_eq g13.symm)
        have ne13_b4_b13 : b4 ≠ b13 := Nat.ne_of_lt (Nat.lt_of_lt_of_le V12.lt (Nat.le_of_eq g13.symm))
        rw [← g13] at A13 D13 st13
        have f14_Z := Nat.le_trans f10_Z E13.1
        have f15_A_b4 := V12.ext E13
        have F13_type : Fld Z h13 b13 "org/keymoot/Attribute" "type" "I" (.int (0 : Int32)) := D13 (Or.inr (hw _ (List.mem_of_getElem? (i := 17) rfl))) (ty := .int) (by decide)
        have F13_basic : Fld Z h13 b13 "org/keymoot/Attribute" "basic" "Z" (.int (0 : Int32)) := D13 (Or.inr (hw _ (List.mem_of_getElem? (i := 19) rfl))) (ty := .boolean) (by decide)
        have F13_value : Fld Z h13 b13 "org/keymoot/Attribute" "value" "[B" .null := D13 (Or.inr (hw _ (List.mem_of_getElem? (i := 21) rfl))) (ty := (.array .byte)) (by decide)
        refine go st13 ?_
        show Go p e below _ (T13.setTop (mkF m 109 #[.val (.int p0), .val (.int p1), .val (.int p2), .val (.int p3), .val (.int sl), .val (.int ty), .val (.int pr), .val (.int bz), .val (.ref b4), .unset, .unset, .unset, .unset] [(.ref b13)]))
        refine go (fun t kt' => by refine XS.dup X13.here hx rfl (hb hby at_109) rfl rfl ?_; exact kt') ?_
        show Go p e below _ (T13.setTop (mkF m 110 #[.val (.int p0), .val (.int p1), .val (.int p2), .val (.int p3), .val (.int sl), .val (.int ty), .val (.int pr), .val (.int bz), .val (.ref b4), .unset, .unset, .unset, .unset] [(.ref b13), (.ref b13)]))
        refine go (fun t kt' => by refine XS.iload X13.here hx rfl (hb hby at_110) rfl ?_; exact kt') ?_
        show Go p e below _ (T13.setTop (mkF m 112 #[.val (.int p0), .val (.int p1), .val (.int p2), .val (.int p3), .val (.int sl), .val (.int ty), .val (.int pr), .val (.int bz), .val (.ref b4), .unset, .unset, .unset, .unset] [(.int ty), (.ref b13), (.ref b13)]))
        refine go (fun t kt' => by refine XS.iload X13.here hx rfl (hb hby at_112) rfl ?_; exact kt') ?_
        show Go p e below _ (T13.setTop (mkF m 114 #[.val (.int p0), .val (.int p1), .val (.int p2), .val (.int p3), .val (.int sl), .val (.int ty), .val (.int pr), .val (.int bz), .val (.ref b4), .unset, .unset, .unset, .unset] [(.int bz), (.int ty), (.ref b13), (.ref b13)]))
        refine go (fun t kt' => by refine XS.aload X13.here hx rfl (hb hby at_114) rfl rfl ?_; exact kt') ?_
        show Go p e below _ (T13.setTop (mkF m 116 #[.val (.int p0), .val (.int p1), .val (.int p2), .val (.int p3), .val (.int sl), .val (.int ty), .val (.int pr), .val (.int bz), .val (.ref b4), .unset, .unset, .unset, .unset] [(.ref b4), (.int bz), (.int ty), (.ref b13), (.ref b13)]))
        obtain ⟨_, _, ⟨T16, L16, k16, n16⟩, -, X16, ⟨Lc16, hQ16, l16, y16, z16⟩, st16⟩ := X13.specialBack hx (y := (⟨"org/keymoot/Attribute", "<init>", "(IZ[B)V"⟩ : MethodName)) rfl hown (mvT hZ (hw _ (List.mem_of_getElem? (i := 4) rfl))) (mvT hZ (hw _ (List.mem_of_getElem? (i := 5) rfl))) (mvT hZ (hw _ (List.mem_of_getElem? (i := 6) rfl))) (by decide) (backOf (W := 1) (rm1 l Z a0 hw [] b13 ty bz b4 2 fv12 h13 n0 f14_Z A13 n0_b13 F13_type F13_basic F13_value f15_A_b4 ne13_b4_b13 hty.1 hty.2 (fun _ => rfl) (by decide)) hZ (hw _ (List.mem_of_getElem? (i := 6) rfl)) (hw _ (List.mem_of_getElem? (i := 3) rfl)) (by decide) (by decide)) (g := (mkF m 116 #[.val (.int p0), .val (.int p1), .val (.int p2), .val (.int p3), .val (.int sl), .val (.int ty), .val (.int pr), .val (.int bz), .val (.ref b4), .unset, .unset, .unset, .unset] [(.ref b4), (.int bz), (.int ty), (.ref b13), (.ref b13)])) rfl (by rw [hml]; rfl) (Steps.refl _) (a := b13) (argsL := [(.int ty), (.int bz), (.ref b4)]) (rest := [(.ref b13)]) (lenOf pd_1 rfl) rfl (by show 2 * 0 + _ ≤ _; exact Nat.le_of_eq rfl) (hb hby at_116) (fun _ _ => ⟨rfl, e13, (by decide : 2 + 0 ≤ _), (by decide : 5 + 0 ≤ _)⟩)
        dsimp only [Pt.U, Pt.locs, Pt.cells, Pt.slots] at X16 l16 y16 z16 st16 hQ16
        subst l16 y16 z16
        obtain ⟨rfl, N16q, K16, P16_0, P16_1⟩ := hQ16
        have N16 := Fr.app N9 N16q
        have f17_Z := Nat.le_trans f14_Z K16.1
        have f18_A_b4 := f15_A_b4.keep K16 (ninS ne13_b4_b13 nin0)
        refine go (fun t kt => st16.trans kt) ?_
        show Go p e below _ (T16.setTop (mkF m 119 #[.val (.int p0), .val (.int p1), .val (.int p2), .val (.int p3), .val (.int sl), .val (.int ty), .val (.int pr), .val (.int bz), .val (.ref b4), .unset, .unset, .unset, .unset] [(.ref b13)]))
        refine go (fun t kt' => by refine XS.astore X16.here hx rfl (hb hby at_119) rfl rfl (l' := #[.val (.int p0), .val (.int p1), .val (.int p2), .val (.int p3), .val (.int sl), .val (.int ty), .val (.int pr), .val (.int bz), .val (.ref b4), .val (.ref b13), .unset, .unset, .unset]) rfl ?_; exact kt') ?_
        show Go p e below _ (T16.setTop (mkF m 121 #[.val (.int p0), .val (.int p1), .val (.int p2), .val (.int p3), .val (.int sl), .val (.int ty), .val (.int pr), .val (.int bz), .val (.ref b4), .val (.ref b13), .unset, .unset, .unset] []))
        refine go (fun t kt' => by refine XS.aload X16.here hx rfl (hb hby at_121) rfl rfl ?_; exact kt') ?_
        show Go p e below _ (T16.setTop (mkF m 123 #[.val (.int p0), .val (.int p1), .val (.int p2), .val (.int p3), .val (.int sl), .val (.int ty), .val (.int pr), .val (.int bz), .val (.ref b4), .val (.ref b13), .unset, .unset, .unset] [(.ref b13)]))
        refine go (fun t kt' => by refine XS.iload X16.here hx rfl (hb hby at_123) rfl ?_; exact kt') ?_
        show Go p e below _ (T16.setTop (mkF m 125 #[.val (.int p0), .val (.int p1), .val (.int p2), .val (.int p3), .val (.int sl), .val (.int ty), .val (.int pr), .val (.int bz), .val (.ref b4), .val (.ref b13), .unset, .unset, .unset] [(.int pr), (.ref b13)]))
        obtain ⟨cq19, kq19, q19a, q19b, q19c⟩ := isOf hZ rfl P16_0
        obtain ⟨_, _, ⟨T19, L19, k19, n19⟩, -, X19, ⟨Lc19, hQ19, l19, y19, z19⟩, st19⟩ := X16.virtualBack hx (y := (⟨"org/keymoot/Attribute", "isLifeType", "(I)Z"⟩ : MethodName)) (z := (⟨"org/keymoot/Attribute", "isLifeType", "(I)Z"⟩ : MethodName)) hown (mvT hZ (hw _ (List.mem_of_getElem? (i := 22) rfl))) (mvT hZ (hw _ (List.mem_of_getElem? (i := 23) rfl))) (notFace_of_selects (args := #[]) (mvT hZ (hw _ (List.mem_of_getElem? (i := 25) rfl)))) (mvT hZ (hw _ (List.mem_of_getElem? (i := 25) rfl))) (mvT hZ (hw _ (List.mem_of_getElem? (i := 24) rfl))) (by decide) (backOf (W := 0) (rm4 l Z a0 hw [] b13 pr ty T16.heap n0 f17_Z P16_0 P16_1) hZ (hw _ (List.mem_of_getElem? (i := 26) rfl)) (hw _ (List.mem_of_getElem? (i := 3) rfl)) (by decide) (by decide)) q19a q19c (g := (mkF m 125 #[.val (.int p0), .val (.int p1), .val (.int p2), .val (.int p3), .val (.int sl), .val (.int ty), .val (.int pr), .val (.int bz), .val (.ref b4), .val (.ref b13), .unset, .unset, .unset] [(.int pr), (.ref b13)])) rfl (by rw [hml]; rfl) (Steps.refl _) (argsL := [(.int pr)]) (rest := []) (lenOf pd_2 rfl) rfl (by show 2 * 0 + _ ≤ _; exact Nat.le_of_eq rfl) (hb hby at_125) (fun _ _ => ⟨rfl, rfl, (by decide : 2 + 0 ≤ _), (by decide : 5 + 0 ≤ _)⟩)
        dsimp only [Pt.U, Pt.locs, Pt.cells, Pt.slots] at X19 l19 y19 z19 st19 hQ19
        subst l19 y19 z19
        obtain ⟨rfl, N19q, e19⟩ := hQ19
        have N19 := Fr.app N16 N19q
        refine go (fun t kt => st19.trans kt) ?_
        show Go p e below _ (T19.setTop (mkF m 128 #[.val (.int p0), .val (.int p1), .val (.int p2), .val (.int p3), .val (.int sl), .val (.int ty), .val (.int pr), .val (.int bz), .val (.ref b4), .val (.ref b13), .unset, .unset, .unset] [(.int (own_lt ty pr))]))
        refine go (fun t kt' => by refine XS.istore X19.here hx rfl (hb hby at_128) rfl (l' := #[.val (.int p0), .val (.int p1), .val (.int p2), .val (.int p3), .val (.int sl), .val (.int ty), .val (.int pr), .val (.int bz), .val (.ref b4), .val (.ref b13), .val (.int (own_lt ty pr)), .unset, .unset]) rfl ?_; exact kt') ?_
        show Go p e below _ (T19.setTop (mkF m 130 #[.val (.int p0), .val (.int p1), .val (.int p2), .val (.int p3), .val (.int sl), .val (.int ty), .val (.int pr), .val (.int bz), .val (.ref b4), .val (.ref b13), .val (.int (own_lt ty pr)), .unset, .unset] []))
        refine go (fun t kt' => by refine XS.iload X19.here hx rfl (hb hby at_130) rfl ?_; exact kt') ?_
        show Go p e below _ (T19.setTop (mkF m 132 #[.val (.int p0), .val (.int p1), .val (.int p2), .val (.int p3), .val (.int sl), .val (.int ty), .val (.int pr), .val (.int bz), .val (.ref b4), .val (.ref b13), .val (.int (own_lt ty pr)), .unset, .unset] [(.int pr)]))
        refine go (fun t kt' => by refine XS.iconst X19.here hx rfl (hb hby at_132) ?_; exact kt') ?_
        show Go p e below _ (T19.setTop (mkF m 133 #[.val (.int p0), .val (.int p1), .val (.int p2), .val (.int p3), .val (.int sl), .val (.int ty), .val (.int pr), .val (.int bz), .val (.ref b4), .val (.ref b13), .val (.int (own_lt ty pr)), .unset, .unset] [(.int (1 : Int32)), (.int pr)]))
        by_cases c133_20 : ¬ pr = (1 : Int32)
        · skip
          refine go (fun t kt' => by refine XS.icmpYes X19.here hx rfl (pc0 := 133) (pc' := 153) rfl (hb hby at_133) rfl (feq c133_20).2 (by decide) (by decide) ?_; exact kt') ?_
          show Go p e below _ (T19.setTop (mkF m 153 #[.val (.int p0), .val (.int p1), .val (.int p2), .val (.int p3), .val (.int sl), .val (.int ty), .val (.int pr), .val (.int bz), .val (.ref b4), .val (.ref b13), .val (.int (own_lt ty pr)), .unset, .unset] []))
          refine go (fun t kt' => by refine XS.iload X19.here hx rfl (hb hby at_153) rfl ?_; exact kt') ?_
          show Go p e below _ (T19.setTop (mkF m 155 #[.val (.int p0), .val (.int p1), .val (.int p2), .val (.int p3), .val (.int sl), .val (.int ty), .val (.int pr), .val (.int bz), .val (.ref b4), .val (.ref b13), .val (.int (own_lt ty pr)), .unset, .unset] [(.int ty)]))
          refine go (fun t kt' => by refine XS.iconst X19.here hx rfl (hb hby at_155) ?_; exact kt') ?_
          show Go p e below _ (T19.setTop (mkF m 156 #[.val (.int p0), .val (.int p1), .val (.int p2), .val (.int p3), .val (.int sl), .val (.int ty), .val (.int pr), .val (.int bz), .val (.ref b4), .val (.ref b13), .val (.int (own_lt ty pr)), .unset, .unset] [(.int (1 : Int32)), (.int ty)]))
          by_cases c156_21 : ¬ ty = (1 : Int32)
          · skip
            refine go (fun t kt' => by refine XS.icmpYes X19.here hx rfl (pc0 := 156) (pc' := 163) rfl (hb hby at_156) rfl (feq c156_21).2 (by decide) (by decide) ?_; exact kt') ?_
            show Go p e below _ (T19.setTop (mkF m 163 #[.val (.int p0), .val (.int p1), .val (.int p2), .val (.int p3), .val (.int sl), .val (.int ty), .val (.int pr), .val (.int bz), .val (.ref b4), .val (.ref b13), .val (.int (own_lt ty pr)), .unset, .unset] []))
            refine go (fun t kt' => by refine XS.iconst X19.here hx rfl (hb hby at_163) ?_; exact kt') ?_
            show Go p e below _ (T19.setTop (mkF m 164 #[.val (.int p0), .val (.int p1), .val (.int p2), .val (.int p3), .val (.int sl), .val (.int ty), .val (.int pr), .val (.int bz), .val (.ref b4), .val (.ref b13), .val (.int (own_lt ty pr)), .unset, .unset] [(.int (0 : Int32))]))
            refine go (fun t kt' => by refine XS.istore X19.here hx rfl (hb hby at_164) rfl (l' := #[.val (.int p0), .val (.int p1), .val (.int p2), .val (.int p3), .val (.int sl), .val (.int ty), .val (.int pr), .val (.int bz), .val (.ref b4), .val (.ref b13), .val (.int (own_lt ty pr)), .val (.int (0 : Int32)), .unset]) rfl ?_; exact kt') ?_
            show Go p e below _ (T19.setTop (mkF m 166 #[.val (.int p0), .val (.int p1), .val (.int p2), .val (.int p3), .val (.int sl), .val (.int ty), .val (.int pr), .val (.int bz), .val (.ref b4), .val (.ref b13), .val (.int (own_lt ty pr)), .val (.int (0 : Int32)), .unset] []))
            refine go (fun t kt' => by refine XS.aload X19.here hx rfl (hb hby at_166) rfl rfl ?_; exact kt') ?_
            show Go p e below _ (T19.setTop (mkF m 168 #[.val (.int p0), .val (.int p1), .val (.int p2), .val (.int p3), .val (.int sl), .val (.int ty), .val (.int pr), .val (.int bz), .val (.ref b4), .val (.ref b13), .val (.int (own_lt ty pr)), .val (.int (0 : Int32)), .unset] [(.ref b13)]))
            refine go (fun t kt' => by refine XS.iload X19.here hx rfl (hb hby at_168) rfl ?_; exact kt') ?_
            show Go p e below _ (T19.setTop (mkF m 170 #[.val (.int p0), .val (.int p1), .val (.int p2), .val (.int p3), .val (.int sl), .val (.int ty), .val (.int pr), .val (.int bz), .val (.ref b4), .val (.ref b13), .val (.int (own_lt ty pr)), .val (.int (0 : Int32)), .unset] [(.int pr), (.ref b13)]))
            obtain ⟨cq22, kq22, q22a, q22b, q22c⟩ := isOf hZ e19 P16_0
            obtain ⟨_, _, ⟨T22, L22, k22, n22⟩, -, X22, ⟨Lc22, hQ22, l22, y22, z22⟩, st22⟩ := X19.virtualBack hx (y := (⟨"org/keymoot/Attribute", "isLife", "(I)Z"⟩ : MethodName)) (z := (⟨"org/keymoot/Attribute", "isLife", "(I)Z"⟩ : MethodName)) hown (mvT hZ (hw _ (List.mem_of_getElem? (i := 27) rfl))) (mvT hZ (hw _ (List.mem_of_getElem? (i := 28) rfl))) (notFace_of_selects (args := #[]) (mvT hZ (hw _ (List.mem_of_getElem? (i := 30) rfl)))) (mvT hZ (hw _ (List.mem_of_getElem? (i := 30) rfl))) (mvT hZ (hw _ (List.mem_of_getElem? (i := 29) rfl))) (by decide) (backOf (W := 0) (rm5 l Z a0 hw [] b13 pr ty T16.heap n0 f17_Z P16_0 P16_1) hZ (hw _ (List.mem_of_getElem? (i := 31) rfl)) (hw _ (List.mem_of_getElem? (i := 3) rfl)) (by decide) (by decide)) q22a q22c (g := (mkF m 170 #[.val (.int p0), .val (.int p1), .val (.int p2), .val (.int p3), .val (.int sl), .val (.int ty), .val (.int pr), .val (.int bz), .val (.ref b4), .val (.ref b13), .val (.int (own_lt ty pr)), .val (.int (0 : Int32)), .unset] [(.int pr), (.ref b13)])) rfl (by rw [hml]; rfl) (Steps.refl _) (argsL := [(.int pr)]) (rest := []) (lenOf pd_2 rfl) rfl (by show 2 * 0 + _ ≤ _; exact Nat.le_of_eq rfl) (hb hby at_170) (fun _ _ => ⟨rfl, e19, (by decide : 2 + 0 ≤ _), (by decide : 5 + 0 ≤ _)⟩)
            dsimp only [Pt.U, Pt.locs, Pt.cells, Pt.slots] at X22 l22 y22 z22 st22 hQ22
            subst l22 y22 z22
            obtain ⟨rfl, N22q, e22⟩ := hQ22
            have N22 := Fr.app N19 N22q
            refine go (fun t kt => st22.trans kt) ?_
            show Go p e below _ (T22.setTop (mkF m 173 #[.val (.int p0), .val (.int p1), .val (.int p2), .val (.int p3), .val (.int sl), .val (.int ty), .val (.int pr), .val (.int bz), .val (.ref b4), .val (.ref b13), .val (.int (own_lt ty pr)), .val (.int (0 : Int32)), .unset] [(.int (own_il ty pr))]))
            refine go (fun t kt' => by refine XS.istore X22.here hx rfl (hb hby at_173) rfl (l' := #[.val (.int p0), .val (.int p1), .val (.int p2), .val (.int p3), .val (.int sl), .val (.int ty), .val (.int pr), .val (.int bz), .val (.ref b4), .val (.ref b13), .val (.int (own_lt ty pr)), .val (.int (0 : Int32)), .val (.int (own_il ty pr))]) rfl ?_; exact kt') ?_
            show Go p e below _ (T22.setTop (mkF m 175 #[.val (.int p0), .val (.int p1), .val (.int p2), .val (.int p3), .val (.int sl), .val (.int ty), .val (.int pr), .val (.int bz), .val (.ref b4), .val (.ref b13), .val (.int (own_lt ty pr)), .val (.int (0 : Int32)), .val (.int (own_il ty pr))] []))
            refine go (fun t kt' => by refine XS.iload X22.here hx rfl (hb hby at_175) rfl ?_; exact kt') ?_
            show Go p e below _ (T22.setTop (mkF m 177 #[.val (.int p0), .val (.int p1), .val (.int p2), .val (.int p3), .val (.int sl), .val (.int ty), .val (.int pr), .val (.int bz), .val (.ref b4), .val (.ref b13), .val (.int (own_lt ty pr)), .val (.int (0 : Int32)), .val (.int (own_il ty pr))] [(.int (own_lt ty pr))]))
            refine go (fun t kt' => by refine XS.iload X22.here hx rfl (hb hby at_177) rfl ?_; exact kt') ?_
            show Go p e below _ (T22.setTop (mkF m 179 #[.val (.int p0), .val (.int p1), .val (.int p2), .val (.int p3), .val (.int sl), .val (.int ty), .val (.int pr), .val (.int bz), .val (.ref b4), .val (.ref b13), .val (.int (own_lt ty pr)), .val (.int (0 : Int32)), .val (.int (own_il ty pr))] [(.int (0 : Int32)), (.int (own_lt ty pr))]))
            have c179_23 : ¬ (¬ (own_lt ty pr) = (0 : Int32)) := not_not_intro (by simp [own_lt, c133_20, c156_21])
            refine go (fun t kt' => by refine XS.icmpNo X22.here hx rfl (hb hby at_179) rfl (teq (Decidable.not_not.mp c179_23)).2 ?_; exact kt') ?_
            show Go p e below _ (T22.setTop (mkF m 182 #[.val (.int p0), .val (.int p1), .val (.int p2), .val (.int p3), .val (.int sl), .val (.int ty), .val (.int pr), .val (.int bz), .val (.ref b4), .val (.ref b13), .val (.int (own_lt ty pr)), .val (.int (0 : Int32)), .val (.int (own_il ty pr))] []))
            refine go (fun t kt' => by refine XS.iload X22.here hx rfl (hb hby at_182) rfl ?_; exact kt') ?_
            show Go p e below _ (T22.setTop (mkF m 184 #[.val (.int p0), .val (.int p1), .val (.int p2), .val (.int p3), .val (.int sl), .val (.int ty), .val (.int pr), .val (.int bz), .val (.ref b4), .val (.ref b13), .val (.int (own_lt ty pr)), .val (.int (0 : Int32)), .val (.int (own_il ty pr))] [(.int (own_lt ty pr))]))
            by_cases c184_24 : (own_lt ty pr) = (0 : Int32)
            · skip
              refine go (fun t kt' => by refine XS.ifYes X22.here hx rfl (pc0 := 184) (pc' := 192) rfl (hb hby at_184) rfl ((if0 _ _).trans (teq c184_24).1) (by decide) (by decide) ?_; exact kt') ?_
              show Go p e below _ (T22.setTop (mkF m 192 #[.val (.int p0), .val (.int p1), .val (.int p2), .val (.int p3), .val (.int sl), .val (.int ty), .val (.int pr), .val (.int bz), .val (.ref b4), .val (.ref b13), .val (.int (own_lt ty pr)), .val (.int (0 : Int32)), .val (.int (own_il ty pr))] []))
              refine go (fun t kt' => by refine XS.iconst X22.here hx rfl (hb hby at_192) ?_; exact kt') ?_
              show Go p e below _ (T22.setTop (mkF m 193 #[.val (.int p0), .val (.int p1), .val (.int p2), .val (.int p3), .val (.int sl), .val (.int ty), .val (.int pr), .val (.int bz), .val (.ref b4), .val (.ref b13), .val (.int (own_lt ty pr)), .val (.int (0 : Int32)), .val (.int (own_il ty pr))] [(.int (1 : Int32))]))
              refine go (fun t kt' => by refine XS.goto X22.here hx rfl (pc0 := 193) (pc' := 197) rfl (hb hby at_193) (by decide) (by decide) ?_; exact kt') ?_
              show Go p e below _ (T22.setTop (mkF m 197 #[.val (.int p0), .val (.int p1), .val (.int p2), .val (.int p3), .val (.int sl), .val (.int ty), .val (.int pr), .val (.int bz), .val (.ref b4), .val (.ref b13), .val (.int (own_lt ty pr)), .val (.int (0 : Int32)), .val (.int (own_il ty pr))] [(.int (1 : Int32))]))
              refine goOut X22 (fun h => by rw [Bd.returns] at h; cases h) hlk (fun fs hr => retN X22 hx (t := .boolean) Bd.returns (by simp) (hb hby at_197) hr) (by decide) (by decide) ?_
              rw [e22]
              exact ⟨rfl, N22⟩
            · skip
              refine go (fun t kt' => by refine XS.ifNo X22.here hx rfl (hb hby at_184) rfl ((if0 _ _).trans (feq c184_24).1) ?_; exact kt') ?_
              show Go p e below _ (T22.setTop (mkF m 187 #[.val (.int p0), .val (.int p1), .val (.int p2), .val (.int p3), .val (.int sl), .val (.int ty), .val (.int pr), .val (.int bz), .val (.ref b4), .val (.ref b13), .val (.int (own_lt ty pr)), .val (.int (0 : Int32)), .val (.int (own_il ty pr))] []))
              refine go (fun t kt' => by refine XS.iload X22.here hx rfl (hb hby at_187) rfl ?_; exact kt') ?_
              show Go p e below _ (T22.setTop (mkF m 189 #[.val (.int p0), .val (.int p1), .val (.int p2), .val (.int p3), .val (.int sl), .val (.int ty), .val (.int pr), .val (.int bz), .val (.ref b4), .val (.ref b13), .val (.int (own_lt ty pr)), .val (.int (0 : Int32)), .val (.int (own_il ty pr))] [(.int (own_il ty pr))]))
              have c189_25 : ¬ ((own_il ty pr) = (0 : Int32)) := own_life _ _ c184_24
              refine go (fun t kt' => by refine XS.ifNo X22.here hx rfl (hb hby at_189) rfl ((if0 _ _).trans (feq c189_25).1) ?_; exact kt') ?_
              show Go p e below _ (T22.setTop (mkF m 192 #[.val (.int p0), .val (.int p1), .val (.int p2), .val (.int p3), .val (.int sl), .val (.int ty), .val (.int pr), .val (.int bz), .val (.ref b4), .val (.ref b13), .val (.int (own_lt ty pr)), .val (.int (0 : Int32)), .val (.int (own_il ty pr))] []))
              refine go (fun t kt' => by refine XS.iconst X22.here hx rfl (hb hby at_192) ?_; exact kt') ?_
              show Go p e below _ (T22.setTop (mkF m 193 #[.val (.int p0), .val (.int p1), .val (.int p2), .val (.int p3), .val (.int sl), .val (.int ty), .val (.int pr), .val (.int bz), .val (.ref b4), .val (.ref b13), .val (.int (own_lt ty pr)), .val (.int (0 : Int32)), .val (.int (own_il ty pr))] [(.int (1 : Int32))]))
              refine go (fun t kt' => by refine XS.goto X22.here hx rfl (pc0 := 193) (pc' := 197) rfl (hb hby at_193) (by decide) (by decide) ?_; exact kt') ?_
              show Go p e below _ (T22.setTop (mkF m 197 #[.val (.int p0), .val (.int p1), .val (.int p2), .val (.int p3), .val (.int sl), .val (.int ty), .val (.int pr), .val (.int bz), .val (.ref b4), .val (.ref b13), .val (.int (own_lt ty pr)), .val (.int (0 : Int32)), .val (.int (own_il ty pr))] [(.int (1 : Int32))]))
              refine goOut X22 (fun h => by rw [Bd.returns] at h; cases h) hlk (fun fs hr => retN X22 hx (t := .boolean) Bd.returns (by simp) (hb hby at_197) hr) (by decide) (by decide) ?_
              rw [e22]
              exact ⟨rfl, N22⟩
          · skip
            refine go (fun t kt' => by refine XS.icmpNo X19.here hx rfl (hb hby at_156) rfl (teq (Decidable.not_not.mp c156_21)).2 ?_; exact kt') ?_
            show Go p e below _ (T19.setTop (mkF m 159 #[.val (.int p0), .val (.int p1), .val (.int p2), .val (.int p3), .val (.int sl), .val (.int ty), .val (.int pr), .val (.int bz), .val (.ref b4), .val (.ref b13), .val (.int (own_lt ty pr)), .unset, .unset] []))
            refine go (fun t kt' => by refine XS.iconst X19.here hx rfl (hb hby at_159) ?_; exact kt') ?_
            show Go p e below _ (T19.setTop (mkF m 160 #[.val (.int p0), .val (.int p1), .val (.int p2), .val (.int p3), .val (.int sl), .val (.int ty), .val (.int pr), .val (.int bz), .val (.ref b4), .val (.ref b13), .val (.int (own_lt ty pr)), .unset, .unset] [(.int (1 : Int32))]))
            refine go (fun t kt' => by refine XS.goto X19.here hx rfl (pc0 := 160) (pc' := 164) rfl (hb hby at_160) (by decide) (by decide) ?_; exact kt') ?_
            show Go p e below _ (T19.setTop (mkF m 164 #[.val (.int p0), .val (.int p1), .val (.int p2), .val (.int p3), .val (.int sl), .val (.int ty), .val (.int pr), .val (.int bz), .val (.ref b4), .val (.ref b13), .val (.int (own_lt ty pr)), .unset, .unset] [(.int (1 : Int32))]))
            refine go (fun t kt' => by refine XS.istore X19.here hx rfl (hb hby at_164) rfl (l' := #[.val (.int p0), .val (.int p1), .val (.int p2), .val (.int p3), .val (.int sl), .val (.int ty), .val (.int pr), .val (.int bz), .val (.ref b4), .val (.ref b13), .val (.int (own_lt ty pr)), .val (.int (1 : Int32)), .unset]) rfl ?_; exact kt') ?_
            show Go p e below _ (T19.setTop (mkF m 166 #[.val (.int p0), .val (.int p1), .val (.int p2), .val (.int p3), .val (.int sl), .val (.int ty), .val (.int pr), .val (.int bz), .val (.ref b4), .val (.ref b13), .val (.int (own_lt ty pr)), .val (.int (1 : Int32)), .unset] []))
            refine go (fun t kt' => by refine XS.aload X19.here hx rfl (hb hby at_166) rfl rfl ?_; exact kt') ?_
            show Go p e below _ (T19.setTop (mkF m 168 #[.val (.int p0), .val (.int p1), .val (.int p2), .val (.int p3), .val (.int sl), .val (.int ty), .val (.int pr), .val (.int bz), .val (.ref b4), .val (.ref b13), .val (.int (own_lt ty pr)), .val (.int (1 : Int32)), .unset] [(.ref b13)]))
            refine go (fun t kt' => by refine XS.iload X19.here hx rfl (hb hby at_168) rfl ?_; exact kt') ?_
            show Go p e below _ (T19.setTop (mkF m 170 #[.val (.int p0), .val (.int p1), .val (.int p2), .val (.int p3), .val (.int sl), .val (.int ty), .val (.int pr), .val (.int bz), .val (.ref b4), .val (.ref b13), .val (.int (own_lt ty pr)), .val (.int (1 : Int32)), .unset] [(.int pr), (.ref b13)]))
            obtain ⟨cq26, kq26, q26a, q26b, q26c⟩ := isOf hZ e19 P16_0
            obtain ⟨_, _, ⟨T26, L26, k26, n26⟩, -, X26, ⟨Lc26, hQ26, l26, y26, z26⟩, st26⟩ := X19.virtualBack hx (y := (⟨"org/keymoot/Attribute", "isLife", "(I)Z"⟩ : MethodName)) (z := (⟨"org/keymoot/Attribute", "isLife", "(I)Z"⟩ : MethodName)) hown (mvT hZ (hw _ (List.mem_of_getElem? (i := 27) rfl))) (mvT hZ (hw _ (List.mem_of_getElem? (i := 28) rfl))) (notFace_of_selects (args := #[]) (mvT hZ (hw _ (List.mem_of_getElem? (i := 30) rfl)))) (mvT hZ (hw _ (List.mem_of_getElem? (i := 30) rfl))) (mvT hZ (hw _ (List.mem_of_getElem? (i := 29) rfl))) (by decide) (backOf (W := 0) (rm5 l Z a0 hw [] b13 pr ty T16.heap n0 f17_Z P16_0 P16_1) hZ (hw _ (List.mem_of_getElem? (i := 31) rfl)) (hw _ (List.mem_of_getElem? (i := 3) rfl)) (by decide) (by decide)) q26a q26c (g := (mkF m 170 #[.val (.int p0), .val (.int p1), .val (.int p2), .val (.int p3), .val (.int sl), .val (.int ty), .val (.int pr), .val (.int bz), .val (.ref b4), .val (.ref b13), .val (.int (own_lt ty pr)), .val (.int (1 : Int32)), .unset] [(.int pr), (.ref b13)])) rfl (by rw [hml]; rfl) (Steps.refl _) (argsL := [(.int pr)]) (rest := []) (lenOf pd_2 rfl) rfl (by show 2 * 0 + _ ≤ _; exact Nat.le_of_eq rfl) (hb hby at_170) (fun _ _ => ⟨rfl, e19, (by decide : 2 + 0 ≤ _), (by decide : 5 + 0 ≤ _)⟩)
            dsimp only [Pt.U, Pt.locs, Pt.cells, Pt.slots] at X26 l26 y26 z26 st26 hQ26
            subst l26 y26 z26
            obtain ⟨rfl, N26q, e26⟩ := hQ26
            have N26 := Fr.app N19 N26q
            refine go (fun t kt => st26.trans kt) ?_
            show Go p e below _ (T26.setTop (mkF m 173 #[.val (.int p0), .val (.int p1), .val (.int p2), .val (.int p3), .val (.int sl), .val (.int ty), .val (.int pr), .val (.int bz), .val (.ref b4), .val (.ref b13), .val (.int (own_lt ty pr)), .val (.int (1 : Int32)), .unset] [(.int (own_il ty pr))]))
            refine go (fun t kt' => by refine XS.istore X26.here hx rfl (hb hby at_173) rfl (l' := #[.val (.int p0), .val (.int p1), .val (.int p2), .val (.int p3), .val (.int sl), .val (.int ty), .val (.int pr), .val (.int bz), .val (.ref b4), .val (.ref b13), .val (.int (own_lt ty pr)), .val (.int (1 : Int32)), .val (.int (own_il ty pr))]) rfl ?_; exact kt') ?_
            show Go p e below _ (T26.setTop (mkF m 175 #[.val (.int p0), .val (.int p1), .val (.int p2), .val (.int p3), .val (.int sl), .val (.int ty), .val (.int pr), .val (.int bz), .val (.ref b4), .val (.ref b13), .val (.int (own_lt ty pr)), .val (.int (1 : Int32)), .val (.int (own_il ty pr))] []))
            refine go (fun t kt' => by refine XS.iload X26.here hx rfl (hb hby at_175) rfl ?_; exact kt') ?_
            show Go p e below _ (T26.setTop (mkF m 177 #[.val (.int p0), .val (.int p1), .val (.int p2), .val (.int p3), .val (.int sl), .val (.int ty), .val (.int pr), .val (.int bz), .val (.ref b4), .val (.ref b13), .val (.int (own_lt ty pr)), .val (.int (1 : Int32)), .val (.int (own_il ty pr))] [(.int (own_lt ty pr))]))
            refine go (fun t kt' => by refine XS.iload X26.here hx rfl (hb hby at_177) rfl ?_; exact kt') ?_
            show Go p e below _ (T26.setTop (mkF m 179 #[.val (.int p0), .val (.int p1), .val (.int p2), .val (.int p3), .val (.int sl), .val (.int ty), .val (.int pr), .val (.int bz), .val (.ref b4), .val (.ref b13), .val (.int (own_lt ty pr)), .val (.int (1 : Int32)), .val (.int (own_il ty pr))] [(.int (1 : Int32)), (.int (own_lt ty pr))]))
            have c179_27 : ¬ (¬ (own_lt ty pr) = (1 : Int32)) := not_not_intro (by simp [own_lt, c133_20, Decidable.not_not.mp c156_21])
            refine go (fun t kt' => by refine XS.icmpNo X26.here hx rfl (hb hby at_179) rfl (teq (Decidable.not_not.mp c179_27)).2 ?_; exact kt') ?_
            show Go p e below _ (T26.setTop (mkF m 182 #[.val (.int p0), .val (.int p1), .val (.int p2), .val (.int p3), .val (.int sl), .val (.int ty), .val (.int pr), .val (.int bz), .val (.ref b4), .val (.ref b13), .val (.int (own_lt ty pr)), .val (.int (1 : Int32)), .val (.int (own_il ty pr))] []))
            refine go (fun t kt' => by refine XS.iload X26.here hx rfl (hb hby at_182) rfl ?_; exact kt') ?_
            show Go p e below _ (T26.setTop (mkF m 184 #[.val (.int p0), .val (.int p1), .val (.int p2), .val (.int p3), .val (.int sl), .val (.int ty), .val (.int pr), .val (.int bz), .val (.ref b4), .val (.ref b13), .val (.int (own_lt ty pr)), .val (.int (1 : Int32)), .val (.int (own_il ty pr))] [(.int (own_lt ty pr))]))
            by_cases c184_28 : (own_lt ty pr) = (0 : Int32)
            · skip
              refine go (fun t kt' => by refine XS.ifYes X26.here hx rfl (pc0 := 184) (pc' := 192) rfl (hb hby at_184) rfl ((if0 _ _).trans (teq c184_28).1) (by decide) (by decide) ?_; exact kt') ?_
              show Go p e below _ (T26.setTop (mkF m 192 #[.val (.int p0), .val (.int p1), .val (.int p2), .val (.int p3), .val (.int sl), .val (.int ty), .val (.int pr), .val (.int bz), .val (.ref b4), .val (.ref b13), .val (.int (own_lt ty pr)), .val (.int (1 : Int32)), .val (.int (own_il ty pr))] []))
              refine go (fun t kt' => by refine XS.iconst X26.here hx rfl (hb hby at_192) ?_; exact kt') ?_
              show Go p e below _ (T26.setTop (mkF m 193 #[.val (.int p0), .val (.int p1), .val (.int p2), .val (.int p3), .val (.int sl), .val (.int ty), .val (.int pr), .val (.int bz), .val (.ref b4), .val (.ref b13), .val (.int (own_lt ty pr)), .val (.int (1 : Int32)), .val (.int (own_il ty pr))] [(.int (1 : Int32))]))
              refine go (fun t kt' => by refine XS.goto X26.here hx rfl (pc0 := 193) (pc' := 197) rfl (hb hby at_193) (by decide) (by decide) ?_; exact kt') ?_
              show Go p e below _ (T26.setTop (mkF m 197 #[.val (.int p0), .val (.int p1), .val (.int p2), .val (.int p3), .val (.int sl), .val (.int ty), .val (.int pr), .val (.int bz), .val (.ref b4), .val (.ref b13), .val (.int (own_lt ty pr)), .val (.int (1 : Int32)), .val (.int (own_il ty pr))] [(.int (1 : Int32))]))
              refine goOut X26 (fun h => by rw [Bd.returns] at h; cases h) hlk (fun fs hr => retN X26 hx (t := .boolean) Bd.returns (by simp) (hb hby at_197) hr) (by decide) (by decide) ?_
              rw [e26]
              exact ⟨rfl, N26⟩
            · skip
              refine go (fun t kt' => by refine XS.ifNo X26.here hx rfl (hb hby at_184) rfl ((if0 _ _).trans (feq c184_28).1) ?_; exact kt') ?_
              show Go p e below _ (T26.setTop (mkF m 187 #[.val (.int p0), .val (.int p1), .val (.int p2), .val (.int p3), .val (.int sl), .val (.int ty), .val (.int pr), .val (.int bz), .val (.ref b4), .val (.ref b13), .val (.int (own_lt ty pr)), .val (.int (1 : Int32)), .val (.int (own_il ty pr))] []))
              refine go (fun t kt' => by refine XS.iload X26.here hx rfl (hb hby at_187) rfl ?_; exact kt') ?_
              show Go p e below _ (T26.setTop (mkF m 189 #[.val (.int p0), .val (.int p1), .val (.int p2), .val (.int p3), .val (.int sl), .val (.int ty), .val (.int pr), .val (.int bz), .val (.ref b4), .val (.ref b13), .val (.int (own_lt ty pr)), .val (.int (1 : Int32)), .val (.int (own_il ty pr))] [(.int (own_il ty pr))]))
              have c189_29 : ¬ ((own_il ty pr) = (0 : Int32)) := own_life _ _ c184_28
              refine go (fun t kt' => by refine XS.ifNo X26.here hx rfl (hb hby at_189) rfl ((if0 _ _).trans (feq c189_29).1) ?_; exact kt') ?_
              show Go p e below _ (T26.setTop (mkF m 192 #[.val (.int p0), .val (.int p1), .val (.int p2), .val (.int p3), .val (.int sl), .val (.int ty), .val (.int pr), .val (.int bz), .val (.ref b4), .val (.ref b13), .val (.int (own_lt ty pr)), .val (.int (1 : Int32)), .val (.int (own_il ty pr))] []))
              refine go (fun t kt' => by refine XS.iconst X26.here hx rfl (hb hby at_192) ?_; exact kt') ?_
              show Go p e below _ (T26.setTop (mkF m 193 #[.val (.int p0), .val (.int p1), .val (.int p2), .val (.int p3), .val (.int sl), .val (.int ty), .val (.int pr), .val (.int bz), .val (.ref b4), .val (.ref b13), .val (.int (own_lt ty pr)), .val (.int (1 : Int32)), .val (.int (own_il ty pr))] [(.int (1 : Int32))]))
              refine go (fun t kt' => by refine XS.goto X26.here hx rfl (pc0 := 193) (pc' := 197) rfl (hb hby at_193) (by decide) (by decide) ?_; exact kt') ?_
              show Go p e below _ (T26.setTop (mkF m 197 #[.val (.int p0), .val (.int p1), .val (.int p2), .val (.int p3), .val (.int sl), .val (.int ty), .val (.int pr), .val (.int bz), .val (.ref b4), .val (.ref b13), .val (.int (own_lt ty pr)), .val (.int (1 : Int32)), .val (.int (own_il ty pr))] [(.int (1 : Int32))]))
              refine goOut X26 (fun h => by rw [Bd.returns] at h; cases h) hlk (fun fs hr => retN X26 hx (t := .boolean) Bd.returns (by simp) (hb hby at_197) hr) (by decide) (by decide) ?_
              rw [e26]
              exact ⟨rfl, N26⟩
        · skip
          refine go (fun t kt' => by refine XS.icmpNo X19.here hx rfl (hb hby at_133) rfl (teq (Decidable.not_not.mp c133_20)).2 ?_; exact kt') ?_
          show Go p e below _ (T19.setTop (mkF m 136 #[.val (.int p0), .val (.int p1), .val (.int p2), .val (.int p3), .val (.int sl), .val (.int ty), .val (.int pr), .val (.int bz), .val (.ref b4), .val (.ref b13), .val (.int (own_lt ty pr)), .unset, .unset] []))
          refine go (fun t kt' => by refine XS.iload X19.here hx rfl (hb hby at_136) rfl ?_; exact kt') ?_
          show Go p e below _ (T19.setTop (mkF m 138 #[.val (.int p0), .val (.int p1), .val (.int p2), .val (.int p3), .val (.int sl), .val (.int ty), .val (.int pr), .val (.int bz), .val (.ref b4), .val (.ref b13), .val (.int (own_lt ty pr)), .unset, .unset] [(.int ty)]))
          refine go (fun t kt' => by refine XS.bipush X19.here hx rfl (hb hby at_138) ?_; exact kt') ?_
          show Go p e below _ (T19.setTop (mkF m 140 #[.val (.int p0), .val (.int p1), .val (.int p2), .val (.int p3), .val (.int sl), .val (.int ty), .val (.int pr), .val (.int bz), .val (.ref b4), .val (.ref b13), .val (.int (own_lt ty pr)), .unset, .unset] [(.int (11 : Int32)), (.int ty)]))
          by_cases c140_30 : ¬ ty = (11 : Int32)
          · skip
            refine go (fun t kt' => by refine XS.icmpYes X19.here hx rfl (pc0 := 140) (pc' := 147) rfl (hb hby at_140) rfl (feq c140_30).2 (by decide) (by decide) ?_; exact kt') ?_
            show Go p e below _ (T19.setTop (mkF m 147 #[.val (.int p0), .val (.int p1), .val (.int p2), .val (.int p3), .val (.int sl), .val (.int ty), .val (.int pr), .val (.int bz), .val (.ref b4), .val (.ref b13), .val (.int (own_lt ty pr)), .unset, .unset] []))
            refine go (fun t kt' => by refine XS.iconst X19.here hx rfl (hb hby at_147) ?_; exact kt') ?_
            show Go p e below _ (T19.setTop (mkF m 148 #[.val (.int p0), .val (.int p1), .val (.int p2), .val (.int p3), .val (.int sl), .val (.int ty), .val (.int pr), .val (.int bz), .val (.ref b4), .val (.ref b13), .val (.int (own_lt ty pr)), .unset, .unset] [(.int (0 : Int32))]))
            refine go (fun t kt' => by refine XS.istore X19.here hx rfl (hb hby at_148) rfl (l' := #[.val (.int p0), .val (.int p1), .val (.int p2), .val (.int p3), .val (.int sl), .val (.int ty), .val (.int pr), .val (.int bz), .val (.ref b4), .val (.ref b13), .val (.int (own_lt ty pr)), .val (.int (0 : Int32)), .unset]) rfl ?_; exact kt') ?_
            show Go p e below _ (T19.setTop (mkF m 150 #[.val (.int p0), .val (.int p1), .val (.int p2), .val (.int p3), .val (.int sl), .val (.int ty), .val (.int pr), .val (.int bz), .val (.ref b4), .val (.ref b13), .val (.int (own_lt ty pr)), .val (.int (0 : Int32)), .unset] []))
            refine go (fun t kt' => by refine XS.goto X19.here hx rfl (pc0 := 150) (pc' := 166) rfl (hb hby at_150) (by decide) (by decide) ?_; exact kt') ?_
            show Go p e below _ (T19.setTop (mkF m 166 #[.val (.int p0), .val (.int p1), .val (.int p2), .val (.int p3), .val (.int sl), .val (.int ty), .val (.int pr), .val (.int bz), .val (.ref b4), .val (.ref b13), .val (.int (own_lt ty pr)), .val (.int (0 : Int32)), .unset] []))
            refine go (fun t kt' => by refine XS.aload X19.here hx rfl (hb hby at_166) rfl rfl ?_; exact kt') ?_
            show Go p e below _ (T19.setTop (mkF m 168 #[.val (.int p0), .val (.int p1), .val (.int p2), .val (.int p3), .val (.int sl), .val (.int ty), .val (.int pr), .val (.int bz), .val (.ref b4), .val (.ref b13), .val (.int (own_lt ty pr)), .val (.int (0 : Int32)), .unset] [(.ref b13)]))
            refine go (fun t kt' => by refine XS.iload X19.here hx rfl (hb hby at_168) rfl ?_; exact kt') ?_
            show Go p e below _ (T19.setTop (mkF m 170 #[.val (.int p0), .val (.int p1), .val (.int p2), .val (.int p3), .val (.int sl), .val (.int ty), .val (.int pr), .val (.int bz), .val (.ref b4), .val (.ref b13), .val (.int (own_lt ty pr)), .val (.int (0 : Int32)), .unset] [(.int pr), (.ref b13)]))
            obtain ⟨cq31, kq31, q31a, q31b, q31c⟩ := isOf hZ e19 P16_0
            obtain ⟨_, _, ⟨T31, L31, k31, n31⟩, -, X31, ⟨Lc31, hQ31, l31, y31, z31⟩, st31⟩ := X19.virtualBack hx (y := (⟨"org/keymoot/Attribute", "isLife", "(I)Z"⟩ : MethodName)) (z := (⟨"org/keymoot/Attribute", "isLife", "(I)Z"⟩ : MethodName)) hown (mvT hZ (hw _ (List.mem_of_getElem? (i := 27) rfl))) (mvT hZ (hw _ (List.mem_of_getElem? (i := 28) rfl))) (notFace_of_selects (args := #[]) (mvT hZ (hw _ (List.mem_of_getElem? (i := 30) rfl)))) (mvT hZ (hw _ (List.mem_of_getElem? (i := 30) rfl))) (mvT hZ (hw _ (List.mem_of_getElem? (i := 29) rfl))) (by decide) (backOf (W := 0) (rm5 l Z a0 hw [] b13 pr ty T16.heap n0 f17_Z P16_0 P16_1) hZ (hw _ (List.mem_of_getElem? (i := 31) rfl)) (hw _ (List.mem_of_getElem? (i := 3) rfl)) (by decide) (by decide)) q31a q31c (g := (mkF m 170 #[.val (.int p0), .val (.int p1), .val (.int p2), .val (.int p3), .val (.int sl), .val (.int ty), .val (.int pr), .val (.int bz), .val (.ref b4), .val (.ref b13), .val (.int (own_lt ty pr)), .val (.int (0 : Int32)), .unset] [(.int pr), (.ref b13)])) rfl (by rw [hml]; rfl) (Steps.refl _) (argsL := [(.int pr)]) (rest := []) (lenOf pd_2 rfl) rfl (by show 2 * 0 + _ ≤ _; exact Nat.le_of_eq rfl) (hb hby at_170) (fun _ _ => ⟨rfl, e19, (by decide : 2 + 0 ≤ _), (by decide : 5 + 0 ≤ _)⟩)
            dsimp only [Pt.U, Pt.locs, Pt.cells, Pt.slots] at X31 l31 y31 z31 st31 hQ31
            subst l31 y31 z31
            obtain ⟨rfl, N31q, e31⟩ := hQ31
            have N31 := Fr.app N19 N31q
            refine go (fun t kt => st31.trans kt) ?_
            show Go p e below _ (T31.setTop (mkF m 173 #[.val (.int p0), .val (.int p1), .val (.int p2), .val (.int p3), .val (.int sl), .val (.int ty), .val (.int pr), .val (.int bz), .val (.ref b4), .val (.ref b13), .val (.int (own_lt ty pr)), .val (.int (0 : Int32)), .unset] [(.int (own_il ty pr))]))
            refine go (fun t kt' => by refine XS.istore X31.here hx rfl (hb hby at_173) rfl (l' := #[.val (.int p0), .val (.int p1), .val (.int p2), .val (.int p3), .val (.int sl), .val (.int ty), .val (.int pr), .val (.int bz), .val (.ref b4), .val (.ref b13), .val (.int (own_lt ty pr)), .val (.int (0 : Int32)), .val (.int (own_il ty pr))]) rfl ?_; exact kt') ?_
            show Go p e below _ (T31.setTop (mkF m 175 #[.val (.int p0), .val (.int p1), .val (.int p2), .val (.int p3), .val (.int sl), .val (.int ty), .val (.int pr), .val (.int bz), .val (.ref b4), .val (.ref b13), .val (.int (own_lt ty pr)), .val (.int (0 : Int32)), .val (.int (own_il ty pr))] []))
            refine go (fun t kt' => by refine XS.iload X31.here hx rfl (hb hby at_175) rfl ?_; exact kt') ?_
            show Go p e below _ (T31.setTop (mkF m 177 #[.val (.int p0), .val (.int p1), .val (.int p2), .val (.int p3), .val (.int sl), .val (.int ty), .val (.int pr), .val (.int bz), .val (.ref b4), .val (.ref b13), .val (.int (own_lt ty pr)), .val (.int (0 : Int32)), .val (.int (own_il ty pr))] [(.int (own_lt ty pr))]))
            refine go (fun t kt' => by refine XS.iload X31.here hx rfl (hb hby at_177) rfl ?_; exact kt') ?_
            show Go p e below _ (T31.setTop (mkF m 179 #[.val (.int p0), .val (.int p1), .val (.int p2), .val (.int p3), .val (.int sl), .val (.int ty), .val (.int pr), .val (.int bz), .val (.ref b4), .val (.ref b13), .val (.int (own_lt ty pr)), .val (.int (0 : Int32)), .val (.int (own_il ty pr))] [(.int (0 : Int32)), (.int (own_lt ty pr))]))
            have c179_32 : ¬ (¬ (own_lt ty pr) = (0 : Int32)) := not_not_intro (by simp [own_lt, Decidable.not_not.mp c133_20, c140_30])
            refine go (fun t kt' => by refine XS.icmpNo X31.here hx rfl (hb hby at_179) rfl (teq (Decidable.not_not.mp c179_32)).2 ?_; exact kt') ?_
            show Go p e below _ (T31.setTop (mkF m 182 #[.val (.int p0), .val (.int p1), .val (.int p2), .val (.int p3), .val (.int sl), .val (.int ty), .val (.int pr), .val (.int bz), .val (.ref b4), .val (.ref b13), .val (.int (own_lt ty pr)), .val (.int (0 : Int32)), .val (.int (own_il ty pr))] []))
            refine go (fun t kt' => by refine XS.iload X31.here hx rfl (hb hby at_182) rfl ?_; exact kt') ?_
            show Go p e below _ (T31.setTop (mkF m 184 #[.val (.int p0), .val (.int p1), .val (.int p2), .val (.int p3), .val (.int sl), .val (.int ty), .val (.int pr), .val (.int bz), .val (.ref b4), .val (.ref b13), .val (.int (own_lt ty pr)), .val (.int (0 : Int32)), .val (.int (own_il ty pr))] [(.int (own_lt ty pr))]))
            by_cases c184_33 : (own_lt ty pr) = (0 : Int32)
            · skip
              refine go (fun t kt' => by refine XS.ifYes X31.here hx rfl (pc0 := 184) (pc' := 192) rfl (hb hby at_184) rfl ((if0 _ _).trans (teq c184_33).1) (by decide) (by decide) ?_; exact kt') ?_
              show Go p e below _ (T31.setTop (mkF m 192 #[.val (.int p0), .val (.int p1), .val (.int p2), .val (.int p3), .val (.int sl), .val (.int ty), .val (.int pr), .val (.int bz), .val (.ref b4), .val (.ref b13), .val (.int (own_lt ty pr)), .val (.int (0 : Int32)), .val (.int (own_il ty pr))] []))
              refine go (fun t kt' => by refine XS.iconst X31.here hx rfl (hb hby at_192) ?_; exact kt') ?_
              show Go p e below _ (T31.setTop (mkF m 193 #[.val (.int p0), .val (.int p1), .val (.int p2), .val (.int p3), .val (.int sl), .val (.int ty), .val (.int pr), .val (.int bz), .val (.ref b4), .val (.ref b13), .val (.int (own_lt ty pr)), .val (.int (0 : Int32)), .val (.int (own_il ty pr))] [(.int (1 : Int32))]))
              refine go (fun t kt' => by refine XS.goto X31.here hx rfl (pc0 := 193) (pc' := 197) rfl (hb hby at_193) (by decide) (by decide) ?_; exact kt') ?_
              show Go p e below _ (T31.setTop (mkF m 197 #[.val (.int p0), .val (.int p1), .val (.int p2), .val (.int p3), .val (.int sl), .val (.int ty), .val (.int pr), .val (.int bz), .val (.ref b4), .val (.ref b13), .val (.int (own_lt ty pr)), .val (.int (0 : Int32)), .val (.int (own_il ty pr))] [(.int (1 : Int32))]))
              refine goOut X31 (fun h => by rw [Bd.returns] at h; cases h) hlk (fun fs hr => retN X31 hx (t := .boolean) Bd.returns (by simp) (hb hby at_197) hr) (by decide) (by decide) ?_
              rw [e31]
              exact ⟨rfl, N31⟩
            · skip
              refine go (fun t kt' => by refine XS.ifNo X31.here hx rfl (hb hby at_184) rfl ((if0 _ _).trans (feq c184_33).1) ?_; exact kt') ?_
              show Go p e below _ (T31.setTop (mkF m 187 #[.val (.int p0), .val (.int p1), .val (.int p2), .val (.int p3), .val (.int sl), .val (.int ty), .val (.int pr), .val (.int bz), .val (.ref b4), .val (.ref b13), .val (.int (own_lt ty pr)), .val (.int (0 : Int32)), .val (.int (own_il ty pr))] []))
              refine go (fun t kt' => by refine XS.iload X31.here hx rfl (hb hby at_187) rfl ?_; exact kt') ?_
              show Go p e below _ (T31.setTop (mkF m 189 #[.val (.int p0), .val (.int p1), .val (.int p2), .val (.int p3), .val (.int sl), .val (.int ty), .val (.int pr), .val (.int bz), .val (.ref b4), .val (.ref b13), .val (.int (own_lt ty pr)), .val (.int (0 : Int32)), .val (.int (own_il ty pr))] [(.int (own_il ty pr))]))
              have c189_34 : ¬ ((own_il ty pr) = (0 : Int32)) := own_life _ _ c184_33
              refine go (fun t kt' => by refine XS.ifNo X31.here hx rfl (hb hby at_189) rfl ((if0 _ _).trans (feq c189_34).1) ?_; exact kt') ?_
              show Go p e below _ (T31.setTop (mkF m 192 #[.val (.int p0), .val (.int p1), .val (.int p2), .val (.int p3), .val (.int sl), .val (.int ty), .val (.int pr), .val (.int bz), .val (.ref b4), .val (.ref b13), .val (.int (own_lt ty pr)), .val (.int (0 : Int32)), .val (.int (own_il ty pr))] []))
              refine go (fun t kt' => by refine XS.iconst X31.here hx rfl (hb hby at_192) ?_; exact kt') ?_
              show Go p e below _ (T31.setTop (mkF m 193 #[.val (.int p0), .val (.int p1), .val (.int p2), .val (.int p3), .val (.int sl), .val (.int ty), .val (.int pr), .val (.int bz), .val (.ref b4), .val (.ref b13), .val (.int (own_lt ty pr)), .val (.int (0 : Int32)), .val (.int (own_il ty pr))] [(.int (1 : Int32))]))
              refine go (fun t kt' => by refine XS.goto X31.here hx rfl (pc0 := 193) (pc' := 197) rfl (hb hby at_193) (by decide) (by decide) ?_; exact kt') ?_
              show Go p e below _ (T31.setTop (mkF m 197 #[.val (.int p0), .val (.int p1), .val (.int p2), .val (.int p3), .val (.int sl), .val (.int ty), .val (.int pr), .val (.int bz), .val (.ref b4), .val (.ref b13), .val (.int (own_lt ty pr)), .val (.int (0 : Int32)), .val (.int (own_il ty pr))] [(.int (1 : Int32))]))
              refine goOut X31 (fun h => by rw [Bd.returns] at h; cases h) hlk (fun fs hr => retN X31 hx (t := .boolean) Bd.returns (by simp) (hb hby at_197) hr) (by decide) (by decide) ?_
              rw [e31]
              exact ⟨rfl, N31⟩
          · skip
            refine go (fun t kt' => by refine XS.icmpNo X19.here hx rfl (hb hby at_140) rfl (teq (Decidable.not_not.mp c140_30)).2 ?_; exact kt') ?_
            show Go p e below _ (T19.setTop (mkF m 143 #[.val (.int p0), .val (.int p1), .val (.int p2), .val (.int p3), .val (.int sl), .val (.int ty), .val (.int pr), .val (.int bz), .val (.ref b4), .val (.ref b13), .val (.int (own_lt ty pr)), .unset, .unset] []))
            refine go (fun t kt' => by refine XS.iconst X19.here hx rfl (hb hby at_143) ?_; exact kt') ?_
            show Go p e below _ (T19.setTop (mkF m 144 #[.val (.int p0), .val (.int p1), .val (.int p2), .val (.int p3), .val (.int sl), .val (.int ty), .val (.int pr), .val (.int bz), .val (.ref b4), .val (.ref b13), .val (.int (own_lt ty pr)), .unset, .unset] [(.int (1 : Int32))]))
            refine go (fun t kt' => by refine XS.goto X19.here hx rfl (pc0 := 144) (pc' := 148) rfl (hb hby at_144) (by decide) (by decide) ?_; exact kt') ?_
            show Go p e below _ (T19.setTop (mkF m 148 #[.val (.int p0), .val (.int p1), .val (.int p2), .val (.int p3), .val (.int sl), .val (.int ty), .val (.int pr), .val (.int bz), .val (.ref b4), .val (.ref b13), .val (.int (own_lt ty pr)), .unset, .unset] [(.int (1 : Int32))]))
            refine go (fun t kt' => by refine XS.istore X19.here hx rfl (hb hby at_148) rfl (l' := #[.val (.int p0), .val (.int p1), .val (.int p2), .val (.int p3), .val (.int sl), .val (.int ty), .val (.int pr), .val (.int bz), .val (.ref b4), .val (.ref b13), .val (.int (own_lt ty pr)), .val (.int (1 : Int32)), .unset]) rfl ?_; exact kt') ?_
            show Go p e below _ (T19.setTop (mkF m 150 #[.val (.int p0), .val (.int p1), .val (.int p2), .val (.int p3), .val (.int sl), .val (.int ty), .val (.int pr), .val (.int bz), .val (.ref b4), .val (.ref b13), .val (.int (own_lt ty pr)), .val (.int (1 : Int32)), .unset] []))
            refine go (fun t kt' => by refine XS.goto X19.here hx rfl (pc0 := 150) (pc' := 166) rfl (hb hby at_150) (by decide) (by decide) ?_; exact kt') ?_
            show Go p e below _ (T19.setTop (mkF m 166 #[.val (.int p0), .val (.int p1), .val (.int p2), .val (.int p3), .val (.int sl), .val (.int ty), .val (.int pr), .val (.int bz), .val (.ref b4), .val (.ref b13), .val (.int (own_lt ty pr)), .val (.int (1 : Int32)), .unset] []))
            refine go (fun t kt' => by refine XS.aload X19.here hx rfl (hb hby at_166) rfl rfl ?_; exact kt') ?_
            show Go p e below _ (T19.setTop (mkF m 168 #[.val (.int p0), .val (.int p1), .val (.int p2), .val (.int p3), .val (.int sl), .val (.int ty), .val (.int pr), .val (.int bz), .val (.ref b4), .val (.ref b13), .val (.int (own_lt ty pr)), .val (.int (1 : Int32)), .unset] [(.ref b13)]))
            refine go (fun t kt' => by refine XS.iload X19.here hx rfl (hb hby at_168) rfl ?_; exact kt') ?_
            show Go p e below _ (T19.setTop (mkF m 170 #[.val (.int p0), .val (.int p1), .val (.int p2), .val (.int p3), .val (.int sl), .val (.int ty), .val (.int pr), .val (.int bz), .val (.ref b4), .val (.ref b13), .val (.int (own_lt ty pr)), .val (.int (1 : Int32)), .unset] [(.int pr), (.ref b13)]))
            obtain ⟨cq35, kq35, q35a, q35b, q35c⟩ := isOf hZ e19 P16_0
            obtain ⟨_, _, ⟨T35, L35, k35, n35⟩, -, X35, ⟨Lc35, hQ35, l35, y35, z35⟩, st35⟩ := X19.virtualBack hx (y := (⟨"org/keymoot/Attribute", "isLife", "(I)Z"⟩ : MethodName)) (z := (⟨"org/keymoot/Attribute", "isLife", "(I)Z"⟩ : MethodName)) hown (mvT hZ (hw _ (List.mem_of_getElem? (i := 27) rfl))) (mvT hZ (hw _ (List.mem_of_getElem? (i := 28) rfl))) (notFace_of_selects (args := #[]) (mvT hZ (hw _ (List.mem_of_getElem? (i := 30) rfl)))) (mvT hZ (hw _ (List.mem_of_getElem? (i := 30) rfl))) (mvT hZ (hw _ (List.mem_of_getElem? (i := 29) rfl))) (by decide) (backOf (W := 0) (rm5 l Z a0 hw [] b13 pr ty T16.heap n0 f17_Z P16_0 P16_1) hZ (hw _ (List.mem_of_getElem? (i := 31) rfl)) (hw _ (List.mem_of_getElem? (i := 3) rfl)) (by decide) (by decide)) q35a q35c (g := (mkF m 170 #[.val (.int p0), .val (.int p1), .val (.int p2), .val (.int p3), .val (.int sl), .val (.int ty), .val (.int pr), .val (.int bz), .val (.ref b4), .val (.ref b13), .val (.int (own_lt ty pr)), .val (.int (1 : Int32)), .unset] [(.int pr), (.ref b13)])) rfl (by rw [hml]; rfl) (Steps.refl _) (argsL := [(.int pr)]) (rest := []) (lenOf pd_2 rfl) rfl (by show 2 * 0 + _ ≤ _; exact Nat.le_of_eq rfl) (hb hby at_170) (fun _ _ => ⟨rfl, e19, (by decide : 2 + 0 ≤ _), (by decide : 5 + 0 ≤ _)⟩)
            dsimp only [Pt.U, Pt.locs, Pt.cells, Pt.slots] at X35 l35 y35 z35 st35 hQ35
            subst l35 y35 z35
            obtain ⟨rfl, N35q, e35⟩ := hQ35
            have N35 := Fr.app N19 N35q
            refine go (fun t kt => st35.trans kt) ?_
            show Go p e below _ (T35.setTop (mkF m 173 #[.val (.int p0), .val (.int p1), .val (.int p2), .val (.int p3), .val (.int sl), .val (.int ty), .val (.int pr), .val (.int bz), .val (.ref b4), .val (.ref b13), .val (.int (own_lt ty pr)), .val (.int (1 : Int32)), .unset] [(.int (own_il ty pr))]))
            refine go (fun t kt' => by refine XS.istore X35.here hx rfl (hb hby at_173) rfl (l' := #[.val (.int p0), .val (.int p1), .val (.int p2), .val (.int p3), .val (.int sl), .val (.int ty), .val (.int pr), .val (.int bz), .val (.ref b4), .val (.ref b13), .val (.int (own_lt ty pr)), .val (.int (1 : Int32)), .val (.int (own_il ty pr))]) rfl ?_; exact kt') ?_
            show Go p e below _ (T35.setTop (mkF m 175 #[.val (.int p0), .val (.int p1), .val (.int p2), .val (.int p3), .val (.int sl), .val (.int ty), .val (.int pr), .val (.int bz), .val (.ref b4), .val (.ref b13), .val (.int (own_lt ty pr)), .val (.int (1 : Int32)), .val (.int (own_il ty pr))] []))
            refine go (fun t kt' => by refine XS.iload X35.here hx rfl (hb hby at_175) rfl ?_; exact kt') ?_
            show Go p e below _ (T35.setTop (mkF m 177 #[.val (.int p0), .val (.int p1), .val (.int p2), .val (.int p3), .val (.int sl), .val (.int ty), .val (.int pr), .val (.int bz), .val (.ref b4), .val (.ref b13), .val (.int (own_lt ty pr)), .val (.int (1 : Int32)), .val (.int (own_il ty pr))] [(.int (own_lt ty pr))]))
            refine go (fun t kt' => by refine XS.iload X35.here hx rfl (hb hby at_177) rfl ?_; exact kt') ?_
            show Go p e below _ (T35.setTop (mkF m 179 #[.val (.int p0), .val (.int p1), .val (.int p2), .val (.int p3), .val (.int sl), .val (.int ty), .val (.int pr), .val (.int bz), .val (.ref b4), .val (.ref b13), .val (.int (own_lt ty pr)), .val (.int (1 : Int32)), .val (.int (own_il ty pr))] [(.int (1 : Int32)), (.int (own_lt ty pr))]))
            have c179_36 : ¬ (¬ (own_lt ty pr) = (1 : Int32)) := not_not_intro (by simp [own_lt, Decidable.not_not.mp c133_20, Decidable.not_not.mp c140_30])
            refine go (fun t kt' => by refine XS.icmpNo X35.here hx rfl (hb hby at_179) rfl (teq (Decidable.not_not.mp c179_36)).2 ?_; exact kt') ?_
            show Go p e below _ (T35.setTop (mkF m 182 #[.val (.int p0), .val (.int p1), .val (.int p2), .val (.int p3), .val (.int sl), .val (.int ty), .val (.int pr), .val (.int bz), .val (.ref b4), .val (.ref b13), .val (.int (own_lt ty pr)), .val (.int (1 : Int32)), .val (.int (own_il ty pr))] []))
            refine go (fun t kt' => by refine XS.iload X35.here hx rfl (hb hby at_182) rfl ?_; exact kt') ?_
            show Go p e below _ (T35.setTop (mkF m 184 #[.val (.int p0), .val (.int p1), .val (.int p2), .val (.int p3), .val (.int sl), .val (.int ty), .val (.int pr), .val (.int bz), .val (.ref b4), .val (.ref b13), .val (.int (own_lt ty pr)), .val (.int (1 : Int32)), .val (.int (own_il ty pr))] [(.int (own_lt ty pr))]))
            by_cases c184_37 : (own_lt ty pr) = (0 : Int32)
            · skip
              refine go (fun t kt' => by refine XS.ifYes X35.here hx rfl (pc0 := 184) (pc' := 192) rfl (hb hby at_184) rfl ((if0 _ _).trans (teq c184_37).1) (by decide) (by decide) ?_; exact kt') ?_
              show Go p e below _ (T35.setTop (mkF m 192 #[.val (.int p0), .val (.int p1), .val (.int p2), .val (.int p3), .val (.int sl), .val (.int ty), .val (.int pr), .val (.int bz), .val (.ref b4), .val (.ref b13), .val (.int (own_lt ty pr)), .val (.int (1 : Int32)), .val (.int (own_il ty pr))] []))
              refine go (fun t kt' => by refine XS.iconst X35.here hx rfl (hb hby at_192) ?_; exact kt') ?_
              show Go p e below _ (T35.setTop (mkF m 193 #[.val (.int p0), .val (.int p1), .val (.int p2), .val (.int p3), .val (.int sl), .val (.int ty), .val (.int pr), .val (.int bz), .val (.ref b4), .val (.ref b13), .val (.int (own_lt ty pr)), .val (.int (1 : Int32)), .val (.int (own_il ty pr))] [(.int (1 : Int32))]))
              refine go (fun t kt' => by refine XS.goto X35.here hx rfl (pc0 := 193) (pc' := 197) rfl (hb hby at_193) (by decide) (by decide) ?_; exact kt') ?_
              show Go p e below _ (T35.setTop (mkF m 197 #[.val (.int p0), .val (.int p1), .val (.int p2), .val (.int p3), .val (.int sl), .val (.int ty), .val (.int pr), .val (.int bz), .val (.ref b4), .val (.ref b13), .val (.int (own_lt ty pr)), .val (.int (1 : Int32)), .val (.int (own_il ty pr))] [(.int (1 : Int32))]))
              refine goOut X35 (fun h => by rw [Bd.returns] at h; cases h) hlk (fun fs hr => retN X35 hx (t := .boolean) Bd.returns (by simp) (hb hby at_197) hr) (by decide) (by decide) ?_
              rw [e35]
              exact ⟨rfl, N35⟩
            · skip
              refine go (fun t kt' => by refine XS.ifNo X35.here hx rfl (hb hby at_184) rfl ((if0 _ _).trans (feq c184_37).1) ?_; exact kt') ?_
              show Go p e below _ (T35.setTop (mkF m 187 #[.val (.int p0), .val (.int p1), .val (.int p2), .val (.int p3), .val (.int sl), .val (.int ty), .val (.int pr), .val (.int bz), .val (.ref b4), .val (.ref b13), .val (.int (own_lt ty pr)), .val (.int (1 : Int32)), .val (.int (own_il ty pr))] []))
              refine go (fun t kt' => by refine XS.iload X35.here hx rfl (hb hby at_187) rfl ?_; exact kt') ?_
              show Go p e below _ (T35.setTop (mkF m 189 #[.val (.int p0), .val (.int p1), .val (.int p2), .val (.int p3), .val (.int sl), .val (.int ty), .val (.int pr), .val (.int bz), .val (.ref b4), .val (.ref b13), .val (.int (own_lt ty pr)), .val (.int (1 : Int32)), .val (.int (own_il ty pr))] [(.int (own_il ty pr))]))
              have c189_38 : ¬ ((own_il ty pr) = (0 : Int32)) := own_life _ _ c184_37
              refine go (fun t kt' => by refine XS.ifNo X35.here hx rfl (hb hby at_189) rfl ((if0 _ _).trans (feq c189_38).1) ?_; exact kt') ?_
              show Go p e below _ (T35.setTop (mkF m 192 #[.val (.int p0), .val (.int p1), .val (.int p2), .val (.int p3), .val (.int sl), .val (.int ty), .val (.int pr), .val (.int bz), .val (.ref b4), .val (.ref b13), .val (.int (own_lt ty pr)), .val (.int (1 : Int32)), .val (.int (own_il ty pr))] []))
              refine go (fun t kt' => by refine XS.iconst X35.here hx rfl (hb hby at_192) ?_; exact kt') ?_
              show Go p e below _ (T35.setTop (mkF m 193 #[.val (.int p0), .val (.int p1), .val (.int p2), .val (.int p3), .val (.int sl), .val (.int ty), .val (.int pr), .val (.int bz), .val (.ref b4), .val (.ref b13), .val (.int (own_lt ty pr)), .val (.int (1 : Int32)), .val (.int (own_il ty pr))] [(.int (1 : Int32))]))
              refine go (fun t kt' => by refine XS.goto X35.here hx rfl (pc0 := 193) (pc' := 197) rfl (hb hby at_193) (by decide) (by decide) ?_; exact kt') ?_
              show Go p e below _ (T35.setTop (mkF m 197 #[.val (.int p0), .val (.int p1), .val (.int p2), .val (.int p3), .val (.int sl), .val (.int ty), .val (.int pr), .val (.int bz), .val (.ref b4), .val (.ref b13), .val (.int (own_lt ty pr)), .val (.int (1 : Int32)), .val (.int (own_il ty pr))] [(.int (1 : Int32))]))
              refine goOut X35 (fun h => by rw [Bd.returns] at h; cases h) hlk (fun fs hr => retN X35 hx (t := .boolean) Bd.returns (by simp) (hb hby at_197) hr) (by decide) (by decide) ?_
              rw [e35]
              exact ⟨rfl, N35⟩
      by_cases c78_39 : (p3 &&& (1 : Int32)) = (0 : Int32)
      · skip
        refine go (fun t kt' => by refine XS.ifYes X0.here hx rfl (pc0 := 78) (pc' := 85) rfl (hb hby at_78) rfl ((if0 _ _).trans (teq c78_39).1) (by decide) (by decide) ?_; exact kt') ?_
        show Go p e below _ (s₁.setTop (mkF m 85 #[.val (.int p0), .val (.int p1), .val (.int p2), .val (.int p3), .val (.int sl), .val (.int ty), .val (.int pr), .unset, .unset, .unset, .unset, .unset, .unset] []))
        refine go (fun t kt' => by refine XS.iconst X0.here hx rfl (hb hby at_85) ?_; exact kt') ?_
        show Go p e below _ (s₁.setTop (mkF m 86 #[.val (.int p0), .val (.int p1), .val (.int p2), .val (.int p3), .val (.int sl), .val (.int ty), .val (.int pr), .unset, .unset, .unset, .unset, .unset, .unset] [(.int (0 : Int32))]))
        exact J86_3 _
      · skip
        refine go (fun t kt' => by refine XS.ifNo X0.here hx rfl (hb hby at_78) rfl ((if0 _ _).trans (feq c78_39).1) ?_; exact kt') ?_
        show Go p e below _ (s₁.setTop (mkF m 81 #[.val (.int p0), .val (.int p1), .val (.int p2), .val (.int p3), .val (.int sl), .val (.int ty), .val (.int pr), .unset, .unset, .unset, .unset, .unset, .unset] []))
        refine go (fun t kt' => by refine XS.iconst X0.here hx rfl (hb hby at_81) ?_; exact kt') ?_
        show Go p e below _ (s₁.setTop (mkF m 82 #[.val (.int p0), .val (.int p1), .val (.int p2), .val (.int p3), .val (.int sl), .val (.int ty), .val (.int pr), .unset, .unset, .unset, .unset, .unset, .unset] [(.int (1 : Int32))]))
        refine go (fun t kt' => by refine XS.goto X0.here hx rfl (pc0 := 82) (pc' := 86) rfl (hb hby at_82) (by decide) (by decide) ?_; exact kt') ?_
        show Go p e below _ (s₁.setTop (mkF m 86 #[.val (.int p0), .val (.int p1), .val (.int p2), .val (.int p3), .val (.int sl), .val (.int ty), .val (.int pr), .unset, .unset, .unset, .unset, .unset, .unset] [(.int (1 : Int32))]))
        exact J86_3 _
    by_cases c65_40 : (p3 &&& (2 : Int32)) = (0 : Int32)
    · skip
      refine go (fun t kt' => by refine XS.ifYes X0.here hx rfl (pc0 := 65) (pc' := 72) rfl (hb hby at_65) rfl ((if0 _ _).trans (teq c65_40).1) (by decide) (by decide) ?_; exact kt') ?_
      show Go p e below _ (s₁.setTop (mkF m 72 #[.val (.int p0), .val (.int p1), .val (.int p2), .val (.int p3), .val (.int sl), .val (.int ty), .unset, .unset, .unset, .unset, .unset, .unset, .unset] []))
      refine go (fun t kt' => by refine XS.iloadN X0.here hx rfl (hb hby at_72) rfl ?_; exact kt') ?_
      show Go p e below _ (s₁.setTop (mkF m 73 #[.val (.int p0), .val (.int p1), .val (.int p2), .val (.int p3), .val (.int sl), .val (.int ty), .unset, .unset, .unset, .unset, .unset, .unset, .unset] [(.int p2)]))
      exact J73_2 _
    · skip
      refine go (fun t kt' => by refine XS.ifNo X0.here hx rfl (hb hby at_65) rfl ((if0 _ _).trans (feq c65_40).1) ?_; exact kt') ?_
      show Go p e below _ (s₁.setTop (mkF m 68 #[.val (.int p0), .val (.int p1), .val (.int p2), .val (.int p3), .val (.int sl), .val (.int ty), .unset, .unset, .unset, .unset, .unset, .unset, .unset] []))
      refine go (fun t kt' => by refine XS.iconst X0.here hx rfl (hb hby at_68) ?_; exact kt') ?_
      show Go p e below _ (s₁.setTop (mkF m 69 #[.val (.int p0), .val (.int p1), .val (.int p2), .val (.int p3), .val (.int sl), .val (.int ty), .unset, .unset, .unset, .unset, .unset, .unset, .unset] [(.int (1 : Int32))]))
      refine go (fun t kt' => by refine XS.goto X0.here hx rfl (pc0 := 69) (pc' := 73) rfl (hb hby at_69) (by decide) (by decide) ?_; exact kt') ?_
      show Go p e below _ (s₁.setTop (mkF m 73 #[.val (.int p0), .val (.int p1), .val (.int p2), .val (.int p3), .val (.int sl), .val (.int ty), .unset, .unset, .unset, .unset, .unset, .unset, .unset] [(.int (1 : Int32))]))
      exact J73_2 _
  by_cases c8_41 : ¬ sl = (0 : Int32)
  · skip
    refine go (fun t kt' => by refine XS.ifYes X0.here hx rfl (pc0 := 8) (pc' := 17) rfl (hb hby at_8) rfl ((if0 _ _).trans (feq c8_41).2) (by decide) (by decide) ?_; exact kt') ?_
    show Go p e below _ (s₁.setTop (mkF m 17 #[.val (.int p0), .val (.int p1), .val (.int p2), .val (.int p3), .val (.int sl), .unset, .unset, .unset, .unset, .unset, .unset, .unset, .unset] []))
    refine go (fun t kt' => by refine XS.iload X0.here hx rfl (hb hby at_17) rfl ?_; exact kt') ?_
    show Go p e below _ (s₁.setTop (mkF m 19 #[.val (.int p0), .val (.int p1), .val (.int p2), .val (.int p3), .val (.int sl), .unset, .unset, .unset, .unset, .unset, .unset, .unset, .unset] [(.int sl)]))
    refine go (fun t kt' => by refine XS.iconst X0.here hx rfl (hb hby at_19) ?_; exact kt') ?_
    show Go p e below _ (s₁.setTop (mkF m 20 #[.val (.int p0), .val (.int p1), .val (.int p2), .val (.int p3), .val (.int sl), .unset, .unset, .unset, .unset, .unset, .unset, .unset, .unset] [(.int (1 : Int32)), (.int sl)]))
    by_cases c20_42 : ¬ sl = (1 : Int32)
    · skip
      refine go (fun t kt' => by refine XS.icmpYes X0.here hx rfl (pc0 := 20) (pc' := 30) rfl (hb hby at_20) rfl (feq c20_42).2 (by decide) (by decide) ?_; exact kt') ?_
      show Go p e below _ (s₁.setTop (mkF m 30 #[.val (.int p0), .val (.int p1), .val (.int p2), .val (.int p3), .val (.int sl), .unset, .unset, .unset, .unset, .unset, .unset, .unset, .unset] []))
      refine go (fun t kt' => by refine XS.iload X0.here hx rfl (hb hby at_30) rfl ?_; exact kt') ?_
      show Go p e below _ (s₁.setTop (mkF m 32 #[.val (.int p0), .val (.int p1), .val (.int p2), .val (.int p3), .val (.int sl), .unset, .unset, .unset, .unset, .unset, .unset, .unset, .unset] [(.int sl)]))
      refine go (fun t kt' => by refine XS.iconst X0.here hx rfl (hb hby at_32) ?_; exact kt') ?_
      show Go p e below _ (s₁.setTop (mkF m 33 #[.val (.int p0), .val (.int p1), .val (.int p2), .val (.int p3), .val (.int sl), .unset, .unset, .unset, .unset, .unset, .unset, .unset, .unset] [(.int (2 : Int32)), (.int sl)]))
      by_cases c33_43 : ¬ sl = (2 : Int32)
      · skip
        refine go (fun t kt' => by refine XS.icmpYes X0.here hx rfl (pc0 := 33) (pc' := 42) rfl (hb hby at_33) rfl (feq c33_43).2 (by decide) (by decide) ?_; exact kt') ?_
        show Go p e below _ (s₁.setTop (mkF m 42 #[.val (.int p0), .val (.int p1), .val (.int p2), .val (.int p3), .val (.int sl), .unset, .unset, .unset, .unset, .unset, .unset, .unset, .unset] []))
        refine go (fun t kt' => by refine XS.iload X0.here hx rfl (hb hby at_42) rfl ?_; exact kt') ?_
        show Go p e below _ (s₁.setTop (mkF m 44 #[.val (.int p0), .val (.int p1), .val (.int p2), .val (.int p3), .val (.int sl), .unset, .unset, .unset, .unset, .unset, .unset, .unset, .unset] [(.int sl)]))
        refine go (fun t kt' => by refine XS.iconst X0.here hx rfl (hb hby at_44) ?_; exact kt') ?_
        show Go p e below _ (s₁.setTop (mkF m 45 #[.val (.int p0), .val (.int p1), .val (.int p2), .val (.int p3), .val (.int sl), .unset, .unset, .unset, .unset, .unset, .unset, .unset, .unset] [(.int (3 : Int32)), (.int sl)]))
        by_cases c45_44 : ¬ sl = (3 : Int32)
        · skip
          refine go (fun t kt' => by refine XS.icmpYes X0.here hx rfl (pc0 := 45) (pc' := 55) rfl (hb hby at_45) rfl (feq c45_44).2 (by decide) (by decide) ?_; exact kt') ?_
          show Go p e below _ (s₁.setTop (mkF m 55 #[.val (.int p0), .val (.int p1), .val (.int p2), .val (.int p3), .val (.int sl), .unset, .unset, .unset, .unset, .unset, .unset, .unset, .unset] []))
          refine go (fun t kt' => by refine XS.iloadN X0.here hx rfl (hb hby at_55) rfl ?_; exact kt') ?_
          show Go p e below _ (s₁.setTop (mkF m 56 #[.val (.int p0), .val (.int p1), .val (.int p2), .val (.int p3), .val (.int sl), .unset, .unset, .unset, .unset, .unset, .unset, .unset, .unset] [(.int p1)]))
          refine go (fun t kt' => by refine XS.sipush X0.here hx rfl (hb hby at_56) ?_; exact kt') ?_
          show Go p e below _ (s₁.setTop (mkF m 59 #[.val (.int p0), .val (.int p1), .val (.int p2), .val (.int p3), .val (.int sl), .unset, .unset, .unset, .unset, .unset, .unset, .unset, .unset] [(.int (32767 : Int32)), (.int p1)]))
          refine go (fun t kt' => by refine XS.iand X0.here hx rfl (hb hby at_59) rfl ?_; exact kt') ?_
          show Go p e below _ (s₁.setTop (mkF m 60 #[.val (.int p0), .val (.int p1), .val (.int p2), .val (.int p3), .val (.int sl), .unset, .unset, .unset, .unset, .unset, .unset, .unset, .unset] [(.int (p1 &&& (32767 : Int32)))]))
          refine go (fun t kt' => by refine XS.istore X0.here hx rfl (hb hby at_60) rfl (l' := #[.val (.int p0), .val (.int p1), .val (.int p2), .val (.int p3), .val (.int sl), .val (.int (p1 &&& (32767 : Int32))), .unset, .unset, .unset, .unset, .unset, .unset, .unset]) rfl ?_; exact kt') ?_
          show Go p e below _ (s₁.setTop (mkF m 62 #[.val (.int p0), .val (.int p1), .val (.int p2), .val (.int p3), .val (.int sl), .val (.int (p1 &&& (32767 : Int32))), .unset, .unset, .unset, .unset, .unset, .unset, .unset] []))
          exact J62_1 _ (own_t2 _)
        · skip
          refine go (fun t kt' => by refine XS.icmpNo X0.here hx rfl (hb hby at_45) rfl (teq (Decidable.not_not.mp c45_44)).2 ?_; exact kt') ?_
          show Go p e below _ (s₁.setTop (mkF m 48 #[.val (.int p0), .val (.int p1), .val (.int p2), .val (.int p3), .val (.int sl), .unset, .unset, .unset, .unset, .unset, .unset, .unset, .unset] []))
          refine go (fun t kt' => by refine XS.bipush X0.here hx rfl (hb hby at_48) ?_; exact kt') ?_
          show Go p e below _ (s₁.setTop (mkF m 50 #[.val (.int p0), .val (.int p1), .val (.int p2), .val (.int p3), .val (.int sl), .unset, .unset, .unset, .unset, .unset, .unset, .unset, .unset] [(.int (12 : Int32))]))
          refine go (fun t kt' => by refine XS.istore X0.here hx rfl (hb hby at_50) rfl (l' := #[.val (.int p0), .val (.int p1), .val (.int p2), .val (.int p3), .val (.int sl), .val (.int (12 : Int32)), .unset, .unset, .unset, .unset, .unset, .unset, .unset]) rfl ?_; exact kt') ?_
          show Go p e below _ (s₁.setTop (mkF m 52 #[.val (.int p0), .val (.int p1), .val (.int p2), .val (.int p3), .val (.int sl), .val (.int (12 : Int32)), .unset, .unset, .unset, .unset, .unset, .unset, .unset] []))
          refine go (fun t kt' => by refine XS.goto X0.here hx rfl (pc0 := 52) (pc' := 62) rfl (hb hby at_52) (by decide) (by decide) ?_; exact kt') ?_
          show Go p e below _ (s₁.setTop (mkF m 62 #[.val (.int p0), .val (.int p1), .val (.int p2), .val (.int p3), .val (.int sl), .val (.int (12 : Int32)), .unset, .unset, .unset, .unset, .unset, .unset, .unset] []))
          exact J62_1 _ (by decide)
      · skip
        refine go (fun t kt' => by refine XS.icmpNo X0.here hx rfl (hb hby at_33) rfl (teq (Decidable.not_not.mp c33_43)).2 ?_; exact kt') ?_
        show Go p e below _ (s₁.setTop (mkF m 36 #[.val (.int p0), .val (.int p1), .val (.int p2), .val (.int p3), .val (.int sl), .unset, .unset, .unset, .unset, .unset, .unset, .unset, .unset] []))
        refine go (fun t kt' => by refine XS.iconst X0.here hx rfl (hb hby at_36) ?_; exact kt') ?_
        show Go p e below _ (s₁.setTop (mkF m 37 #[.val (.int p0), .val (.int p1), .val (.int p2), .val (.int p3), .val (.int sl), .unset, .unset, .unset, .unset, .unset, .unset, .unset, .unset] [(.int (2 : Int32))]))
        refine go (fun t kt' => by refine XS.istore X0.here hx rfl (hb hby at_37) rfl (l' := #[.val (.int p0), .val (.int p1), .val (.int p2), .val (.int p3), .val (.int sl), .val (.int (2 : Int32)), .unset, .unset, .unset, .unset, .unset, .unset, .unset]) rfl ?_; exact kt') ?_
        show Go p e below _ (s₁.setTop (mkF m 39 #[.val (.int p0), .val (.int p1), .val (.int p2), .val (.int p3), .val (.int sl), .val (.int (2 : Int32)), .unset, .unset, .unset, .unset, .unset, .unset, .unset] []))
        refine go (fun t kt' => by refine XS.goto X0.here hx rfl (pc0 := 39) (pc' := 62) rfl (hb hby at_39) (by decide) (by decide) ?_; exact kt') ?_
        show Go p e below _ (s₁.setTop (mkF m 62 #[.val (.int p0), .val (.int p1), .val (.int p2), .val (.int p3), .val (.int sl), .val (.int (2 : Int32)), .unset, .unset, .unset, .unset, .unset, .unset, .unset] []))
        exact J62_1 _ (by decide)
    · skip
      refine go (fun t kt' => by refine XS.icmpNo X0.here hx rfl (hb hby at_20) rfl (teq (Decidable.not_not.mp c20_42)).2 ?_; exact kt') ?_
      show Go p e below _ (s₁.setTop (mkF m 23 #[.val (.int p0), .val (.int p1), .val (.int p2), .val (.int p3), .val (.int sl), .unset, .unset, .unset, .unset, .unset, .unset, .unset, .unset] []))
      refine go (fun t kt' => by refine XS.bipush X0.here hx rfl (hb hby at_23) ?_; exact kt') ?_
      show Go p e below _ (s₁.setTop (mkF m 25 #[.val (.int p0), .val (.int p1), .val (.int p2), .val (.int p3), .val (.int sl), .unset, .unset, .unset, .unset, .unset, .unset, .unset, .unset] [(.int (11 : Int32))]))
      refine go (fun t kt' => by refine XS.istore X0.here hx rfl (hb hby at_25) rfl (l' := #[.val (.int p0), .val (.int p1), .val (.int p2), .val (.int p3), .val (.int sl), .val (.int (11 : Int32)), .unset, .unset, .unset, .unset, .unset, .unset, .unset]) rfl ?_; exact kt') ?_
      show Go p e below _ (s₁.setTop (mkF m 27 #[.val (.int p0), .val (.int p1), .val (.int p2), .val (.int p3), .val (.int sl), .val (.int (11 : Int32)), .unset, .unset, .unset, .unset, .unset, .unset, .unset] []))
      refine go (fun t kt' => by refine XS.goto X0.here hx rfl (pc0 := 27) (pc' := 62) rfl (hb hby at_27) (by decide) (by decide) ?_; exact kt') ?_
      show Go p e below _ (s₁.setTop (mkF m 62 #[.val (.int p0), .val (.int p1), .val (.int p2), .val (.int p3), .val (.int sl), .val (.int (11 : Int32)), .unset, .unset, .unset, .unset, .unset, .unset, .unset] []))
      exact J62_1 _ (by decide)
  · skip
    refine go (fun t kt' => by refine XS.ifNo X0.here hx rfl (hb hby at_8) rfl ((if0 _ _).trans (teq (Decidable.not_not.mp c8_41)).2) ?_; exact kt') ?_
    show Go p e below _ (s₁.setTop (mkF m 11 #[.val (.int p0), .val (.int p1), .val (.int p2), .val (.int p3), .val (.int sl), .unset, .unset, .unset, .unset, .unset, .unset, .unset, .unset] []))
    refine go (fun t kt' => by refine XS.iconst X0.here hx rfl (hb hby at_11) ?_; exact kt') ?_
    show Go p e below _ (s₁.setTop (mkF m 12 #[.val (.int p0), .val (.int p1), .val (.int p2), .val (.int p3), .val (.int sl), .unset, .unset, .unset, .unset, .unset, .unset, .unset, .unset] [(.int (1 : Int32))]))
    refine go (fun t kt' => by refine XS.istore X0.here hx rfl (hb hby at_12) rfl (l' := #[.val (.int p0), .val (.int p1), .val (.int p2), .val (.int p3), .val (.int sl), .val (.int (1 : Int32)), .unset, .unset, .unset, .unset, .unset, .unset, .unset]) rfl ?_; exact kt') ?_
    show Go p e below _ (s₁.setTop (mkF m 14 #[.val (.int p0), .val (.int p1), .val (.int p2), .val (.int p3), .val (.int sl), .val (.int (1 : Int32)), .unset, .unset, .unset, .unset, .unset, .unset, .unset] []))
    refine go (fun t kt' => by refine XS.goto X0.here hx rfl (pc0 := 14) (pc' := 62) rfl (hb hby at_14) (by decide) (by decide) ?_; exact kt') ?_
    show Go p e below _ (s₁.setTop (mkF m 62 #[.val (.int p0), .val (.int p1), .val (.int p2), .val (.int p3), .val (.int sl), .val (.int (1 : Int32)), .unset, .unset, .unset, .unset, .unset, .unset, .unset] []))
    exact J62_1 _ (by decide)
set_option maxRecDepth 65536 in
set_option maxHeartbeats 40000000 in
theorem comes_1 {Post : Tables → Env → Array Value → State → Outcome → State → Prop} (hpost : ∀ tb e args s v u, (limb_1_1.after args s (.returned v) u = true ∧ limb_1_2.after args s (.returned v) u = true ∧ True) → FrameEnd s (.returned v) u (Jvm.fieldLocs frame_1_writes args s ++ Jvm.arrayLocs frame_1_arrays args s ++ Jvm.staticLocs frame_1_statics s) 16 128 → Post tb e args s (.returned v) u) :
    ArmFor flags0 classFile x code maxLocals ret World_1 tables_1 room_1 Calls_1 rest_1 Pre_1 Post := by
  intro l hfl _ _ p e ha hc hk s m args below hf hA hF happ hP
  obtain ⟨hcalls, hrest, hpre⟩ := hP
  obtain ⟨-, -, -, hnamed, -, -, -, hat⟩ := (Spec.applies_iff hf).mp happ
  obtain ⟨hg, hn⟩ := and_e (Cond.before_iff.mp (show (Jvm.Cond.and given_1 narrow_1).before args s = true from hpre))
  obtain ⟨g1, g2⟩ := and_e hg
  obtain ⟨g3, g4⟩ := and_e g2
  obtain ⟨g5, g6⟩ := and_e g4
  obtain ⟨g7, g8⟩ := and_e g6
  obtain ⟨w0, w1, w2, w3, rfl⟩ : ∃ w0 w1 w2 w3 : Value, args = #[w0, w1, w2, w3] := by
    have hs : args.size = 4 := by simpa [Cond.value, given_1] using g1
    obtain ⟨L⟩ := args
    match L, hs with
    | [w0, w1, w2, w3], _ => exact ⟨w0, w1, w2, w3, rfl⟩
  have hw := fun d (hd : d ∈ tables_1) => atoms_spec (ws := Jvm.Cond.code x code maxLocals ret :: tables_1) hat d (List.mem_cons_of_mem _ hd)
  have hfit : Fit s := fun {y c} hc i hi => by
    obtain ⟨ha, rfl⟩ := Array.getElem?_eq_some_iff.mp hc
    have q := List.all_eq_true.mp ((Array.all_eq_true_iff_forall_mem.mp hF) _ (Array.getElem_mem ha)) i (List.mem_range.mpr hi)
    simpa [Array.getElem?_eq_getElem hi] using q
  obtain ⟨i0, ei0⟩ := is_v g3
  obtain rfl : w0 = (.int i0) := Option.some.inj ei0
  obtain ⟨i1, ei1⟩ := is_v g5
  obtain rfl : w1 = (.int i1) := Option.some.inj ei1
  obtain ⟨i2, ei2⟩ := is_v g7
  obtain rfl : w2 = (.int i2) := Option.some.inj ei2
  obtain ⟨i3, ei3⟩ := is_v g8
  obtain rfl : w3 = (.int i3) := Option.some.inj ei3
  obtain ⟨n, o, h1, h2, h3, _, L, rfl, ⟨rfl, N⟩, hq⟩ := rm0 l s _ hw tables_1 i0 i1 i2 i3  s.heap s.heap.size (Nat.le_refl _)  p e ha hc hk s m _ below hf ((Spec.applies_iff_loose hf).mp happ).1 ⟨rfl, State.Warmed39.refl s, rfl⟩ trivial
  refine ⟨n, _, h1, h2, h3, hpost _ _ _ _ _ _ ⟨Cond.after_iff.mpr rfl, Cond.after_iff.mpr (eq_i res_at (Term.int_eval (1)) rfl), trivial⟩ ⟨hq.1, hq.2.1, (hq.2.2.sift fun y hy => Or.inr (N y hy)).mono (by decide) (by decide)⟩⟩
theorem main_1_1 : Claimed_1_1 := comes_1 fun _ _ _ _ _ _ h hF => ⟨h.1, hF⟩
theorem main_1_2 : Claimed_1_2 := comes_1 fun _ _ _ _ _ _ h hF => ⟨h.2.1, hF⟩
end Jvm.Pilot.@@N@@
namespace Jvm.Pilot.@@N@@
open Jvm Jvm.ClassFile Sem Op Lib Jvm.Free Jvm.Stand Jvm.Pilot.@@N@@.Jvm.D
/-! MADE BY PROGRAM (witnessworld.py) out of the Statement's table words and the real class files: 10 classes; the members and pool entries that the words name. The judged class is class 1, her method 1. -/
namespace start1
open Jvm.ClassFile
def u (s : String) : CpInfo := .utf8 (stringToUtf16 s)
/-- a pool by its gaps: so many unusable entries, then the entry; so many at the end -/
def gap : Nat → List CpInfo → List CpInfo
  | 0, r => r
  | n + 1, r => .unusable :: gap n r
def poolList (es : List (Nat × CpInfo)) (last : Nat) : List CpInfo := es.foldr (fun e r => gap e.1 (e.2 :: r)) (gap last [])
def pool (es : List (Nat × CpInfo)) (last : Nat) : Array CpInfo := ⟨poolList es last⟩
def fileOf (pool : Array CpInfo) (this : Nat) (attrs : Array Attribute := #[]) (ms : Array MethodInfo := #[]) (fl : Nat := 33) (sup : Nat := 0) (ifs : Array Nat := #[]) (fds : Array FieldInfo := #[]) : ClassFile where
  minorVersion := 0
  majorVersion := 65
  constantPool := pool
  accessFlags := fl
  thisClass := this
  superClass := sup
  interfaces := ifs
  fields := fds
  methods := ms
  attributes := attrs
def plain (name : String) (sup : Option ClassId) : Class where
  name := name
  kind := .ordinary
  loader := none
  accessFlags := 33
  super := sup
  interfaces := #[]
  cf := none
  fields := #[]
  methods := #[]
  instanceTypes := #[]
  staticTypes := #[]
  resolved := #[]
  callSites := []
  init := .initialized
  statics := none
  mirror := none

def pool0 : Array CpInfo := pool [(5, u "<init>"), (0, u "()V"), (1, .class_ 10), (1, u "java/lang/Object")] 113

def k0c0 : Code := { maxStack := 0, maxLocals := 1, code := object_method_1_code, exceptionTable := #[], attributes := #[] }
def k0m0 : Method := { name := "<init>", desc := "()V", sig := { parameters := [], returnType := none }, accessFlags := 1, code := some k0c0 }
/-- java/lang/Object -/
def k0 : Class := { plain "java/lang/Object" none with
  accessFlags := 33
  interfaces := #[]
  cf := some (fileOf pool0 8 #[] #[{ accessFlags := 1, nameIndex := 5, descriptorIndex := 6, attributes := #[] }] 33 0 #[] #[])
  fields := #[]
  methods := #[k0m0]
  instanceTypes := #[]
  staticTypes := #[]
  resolved := Array.replicate 124 none
  statics := none }

def pool1 : Array CpInfo := pool [(2, .class_ 4), (1, u "java/lang/Object"), (0, u "<init>"), (0, u "()V"), (0, .class_ 8), (0, u "org/keymoot/Attribute"), (0, .methodref 7 10), (0, .nameAndType 5 11), (0, u "(IZ[B)V"), (0, .methodref 7 13), (0, .nameAndType 14 15), (0, u "isLifeType"), (0, u "(I)Z"), (0, .methodref 7 17), (0, .nameAndType 18 15), (0, u "isLife"), (0, .class_ 20), (0, u "org/keymoot/AttributeIsLifeTypePinLaw"), (2, u "law"), (0, u "(IIII)Z")] 5

def k1m0 : Method := { name := "<init>", desc := "()V", sig := { parameters := [], returnType := none }, accessFlags := 2, code := none }
def k1c1 : Code := { maxStack := 5, maxLocals := 13, code := code, exceptionTable := #[], attributes := #[] }
def k1m1 : Method := { name := "law", desc := "(IIII)Z", sig := { parameters := [.int, .int, .int, .int], returnType := some .boolean }, accessFlags := 9, code := some k1c1 }
/-- org/keymoot/AttributeIsLifeTypePinLaw -/
def k1 : Class := { plain "org/keymoot/AttributeIsLifeTypePinLaw" (some 0) with
  accessFlags := 49
  interfaces := #[]
  cf := some (fileOf pool1 19 #[] #[{ accessFlags := 2, nameIndex := 5, descriptorIndex := 6, attributes := #[] }, { accessFlags := 9, nameIndex := 23, descriptorIndex := 24, attributes := #[] }] 49 2 #[] #[])
  fields := #[]
  methods := #[k1m0, k1m1]
  instanceTypes := #[]
  staticTypes := #[]
  resolved := Array.replicate 30 none
  statics := none }

def pool2 : Array CpInfo := pool [(1, .methodref 2 3), (0, .class_ 4), (0, .nameAndType 5 6), (0, u "java/lang/Object"), (0, u "<init>"), (0, u "()V"), (0, .class_ 8), (0, u "java/lang/Record")] 13

def k2c0 : Code := { maxStack := 1, maxLocals := 1, code := jdk_30_method_1_code, exceptionTable := #[], attributes := #[] }
def k2m0 : Method := { name := "<init>", desc := "()V", sig := { parameters := [], returnType := none }, accessFlags := 4, code := some k2c0 }
/-- java/lang/Record -/
def k2 : Class := { plain "java/lang/Record" (some 0) with
  accessFlags := 1057
  interfaces := #[]
  cf := some (fileOf pool2 7 #[] #[{ accessFlags := 4, nameIndex := 5, descriptorIndex := 6, attributes := #[] }] 1057 2 #[] #[])
  fields := #[]
  methods := #[k2m0]
  instanceTypes := #[]
  staticTypes := #[]
  resolved := Array.replicate 22 none
  statics := none }

def pool3 : Array CpInfo := pool [(1, .methodref 2 3), (0, .class_ 4), (0, .nameAndType 5 6), (0, u "java/lang/Record"), (0, u "<init>"), (0, u "()V"), (0, .class_ 8), (0, u "org/keymoot/Attribute"), (0, .integer 32768), (9, .integer 65535), (1, .fieldref 7 22), (0, .nameAndType 23 24), (0, u "type"), (0, u "I"), (0, .fieldref 7 26), (0, .nameAndType 27 28), (0, u "basic"), (0, u "Z"), (0, .fieldref 7 30), (0, .nameAndType 31 32), (0, u "value"), (0, u "[B"), (2, u "(IZ[B)V"), (39, u "isLifeType"), (0, u "(I)Z"), (6, u "isLife"), (95, u "ENCRYPTION"), (2, u "HASH"), (1, u "AUTHENTICATION_METHOD"), (1, u "GROUP"), (1, u "LIFE_TYPE"), (1, u "LIFE_DURATION"), (1, u "SA_LIFE_TYPE"), (0, u "SA_LIFE_DURATION"), (0, u "GROUP_DESCRIPTION"), (0, u "ENCAPSULATION_MODE"), (0, u "AUTHENTICATION_ALGORITHM"), (1, u "SECONDS"), (0, u "DEFAULT_LIFETIME"), (1, u "TUNNEL"), (0, u "FORMAT_BASIC")] 58

def k3c0 : Code := { maxStack := 3, maxLocals := 4, code := prog_6_method_1_code, exceptionTable := #[], attributes := #[] }
def k3m0 : Method := { name := "<init>", desc := "(IZ[B)V", sig := { parameters := [.int, .boolean, (.array .byte)], returnType := none }, accessFlags := 0, code := some k3c0 }
def k3c1 : Code := { maxStack := 2, maxLocals := 2, code := prog_6_method_4_code, exceptionTable := #[], attributes := #[] }
def k3m1 : Method := { name := "isLife", desc := "(I)Z", sig := { parameters := [.int], returnType := some .boolean }, accessFlags := 0, code := some k3c1 }
def k3c2 : Code := { maxStack := 3, maxLocals := 2, code := prog_6_method_5_code, exceptionTable := #[], attributes := #[] }
def k3m2 : Method := { name := "isLifeType", desc := "(I)Z", sig := { parameters := [.int], returnType := some .boolean }, accessFlags := 0, code := some k3c2 }
/-- org/keymoot/Attribute -/
def k3 : Class := { plain "org/keymoot/Attribute" (some 2) with
  accessFlags := 48
  interfaces := #[]
  cf := some (fileOf pool3 7 #[] #[{ accessFlags := 0, nameIndex := 5, descriptorIndex := 35, attributes := #[] }, { accessFlags := 0, nameIndex := 83, descriptorIndex := 76, attributes := #[] }, { accessFlags := 0, nameIndex := 75, descriptorIndex := 76, attributes := #[] }] 48 2 #[] #[{ accessFlags := 18, nameIndex := 23, descriptorIndex := 24, attributes := #[] }, { accessFlags := 18, nameIndex := 27, descriptorIndex := 28, attributes := #[] }, { accessFlags := 18, nameIndex := 31, descriptorIndex := 32, attributes := #[] }, { accessFlags := 24, nameIndex := 179, descriptorIndex := 24, attributes := #[] }, { accessFlags := 24, nameIndex := 182, descriptorIndex := 24, attributes := #[] }, { accessFlags := 24, nameIndex := 184, descriptorIndex := 24, attributes := #[] }, { accessFlags := 24, nameIndex := 186, descriptorIndex := 24, attributes := #[] }, { accessFlags := 24, nameIndex := 188, descriptorIndex := 24, attributes := #[] }, { accessFlags := 24, nameIndex := 190, descriptorIndex := 24, attributes := #[] }, { accessFlags := 24, nameIndex := 192, descriptorIndex := 24, attributes := #[] }, { accessFlags := 24, nameIndex := 193, descriptorIndex := 24, attributes := #[] }, { accessFlags := 24, nameIndex := 194, descriptorIndex := 24, attributes := #[] }, { accessFlags := 24, nameIndex := 195, descriptorIndex := 24, attributes := #[] }, { accessFlags := 24, nameIndex := 196, descriptorIndex := 24, attributes := #[] }, { accessFlags := 24, nameIndex := 198, descriptorIndex := 24, attributes := #[] }, { accessFlags := 24, nameIndex := 199, descriptorIndex := 24, attributes := #[] }, { accessFlags := 24, nameIndex := 201, descriptorIndex := 24, attributes := #[] }, { accessFlags := 26, nameIndex := 202, descriptorIndex := 24, attributes := #[] }])
  fields := #[{ name := "type", type := .int, accessFlags := 18, slot := 0, constantValue := 0 }, { name := "basic", type := .boolean, accessFlags := 18, slot := 1, constantValue := 0 }, { name := "value", type := (.array .byte), accessFlags := 18, slot := 2, constantValue := 0 }, { name := "ENCRYPTION", type := .int, accessFlags := 24, slot := 0, constantValue := 0 }, { name := "HASH", type := .int, accessFlags := 24, slot := 1, constantValue := 0 }, { name := "AUTHENTICATION_METHOD", type := .int, accessFlags := 24, slot := 2, constantValue := 0 }, { name := "GROUP", type := .int, accessFlags := 24, slot := 3, constantValue := 0 }, { name := "LIFE_TYPE", type := .int, accessFlags := 24, slot := 4, constantValue := 0 }, { name := "LIFE_DURATION", type := .int, accessFlags := 24, slot := 5, constantValue := 0 }, { name := "SA_LIFE_TYPE", type := .int, accessFlags := 24, slot := 6, constantValue := 0 }, { name := "SA_LIFE_DURATION", type := .int, accessFlags := 24, slot := 7, constantValue := 0 }, { name := "GROUP_DESCRIPTION", type := .int, accessFlags := 24, slot := 8, constantValue := 0 }, { name := "ENCAPSULATION_MODE", type := .int, accessFlags := 24, slot := 9, constantValue := 0 }, { name := "AUTHENTICATION_ALGORITHM", type := .int, accessFlags := 24, slot := 10, constantValue := 0 }, { name := "SECONDS", type := .int, accessFlags := 24, slot := 11, constantValue := 0 }, { name := "DEFAULT_LIFETIME", type := .int, accessFlags := 24, slot := 12, constantValue := 0 }, { name := "TUNNEL", type := .int, accessFlags := 24, slot := 13, constantValue := 0 }, { name := "FORMAT_BASIC", type := .int, accessFlags := 26, slot := 14, constantValue := 0 }]
  methods := #[k3m0, k3m1, k3m2]
  instanceTypes := #[.int, .boolean, (.array .byte)]
  staticTypes := #[.int, .int, .int, .int, .int, .int, .int, .int, .int, .int, .int, .int, .int, .int, .int]
  resolved := Array.replicate 261 none
  statics := none }

def pool4 : Array CpInfo := pool [(1, u "java/lang/Cloneable"), (0, .class_ 1), (0, u "java/lang/Object"), (0, .class_ 3)] 3

/-- java/lang/Cloneable -/
def k4 : Class := { plain "java/lang/Cloneable" (some 0) with
  accessFlags := 1537
  interfaces := #[]
  cf := some (fileOf pool4 2 #[] #[] 1537 4 #[] #[])
  fields := #[]
  methods := #[]
  instanceTypes := #[]
  staticTypes := #[]
  resolved := Array.replicate 8 none
  statics := none }

def pool5 : Array CpInfo := pool [(1, u "java/io/Serializable"), (0, .class_ 1), (0, u "java/lang/Object"), (0, .class_ 3)] 3

/-- java/io/Serializable -/
def k5 : Class := { plain "java/io/Serializable" (some 0) with
  accessFlags := 1537
  interfaces := #[]
  cf := some (fileOf pool5 2 #[] #[] 1537 4 #[] #[])
  fields := #[]
  methods := #[]
  instanceTypes := #[]
  staticTypes := #[]
  resolved := Array.replicate 8 none
  statics := none }

/-- the primitive byte -/
def k6 : Class := { plain "byte" none with kind := .primitive 'B', accessFlags := 0x411 }
/-- [B -/
def k7 : Class := { plain "[B" (some 0) with kind := .array 6 .byte, interfaces := #[4, 5], accessFlags := 1041 }

/-- the primitive int -/
def k8 : Class := { plain "int" none with kind := .primitive 'I', accessFlags := 0x411 }
/-- [I -/
def k9 : Class := { plain "[I" (some 0) with kind := .array 8 .int, interfaces := #[4, 5], accessFlags := 1041 }

def heap : Heap := #[]
def classes : Array Class := #[k0, k1, k2, k3, k4, k5, k6, k7, k8, k9]
def interned : List (Array UInt16 × Addr) := []
def slotsUsed : Nat := 0
def theMethod : MethodId := ⟨1, 1⟩
def args0 : Array Value := #[.int 5, .int 7, .int 1, .int 2]
def aboutOver (below : List Frame) : State where
  vm := { classes := classes, interned := interned.toArray }
  heap := heap
  slotsUsed := slotsUsed
  threads := #[{ frames := .invoking theMethod args0 :: below }]
def below0 : List Frame := [.native { method := ⟨0, 0⟩, args := #[] }]
def about1 : State := aboutOver below0
def p0 : Program := .bare "" "" ""
def e0 : Env := launch0.env 0 0 0
theorem w_frames : about1.frames = Frame.invoking theMethod args0 :: below0 := rfl
set_option maxRecDepth 65536 in
theorem w_args : argsFit about1.vm theMethod args0 = true := by decide +kernel
set_option maxRecDepth 65536 in
theorem w_heap : heapFits about1 = true := by decide +kernel
set_option maxRecDepth 65536 in
theorem w_runnable : about1.curStatus? = some .runnable := by decide +kernel
set_option maxRecDepth 65536 in
theorem w_alone : about1.alone = true := by decide +kernel
set_option maxRecDepth 65536 in
theorem w_named : about1.methodNamed? x = some theMethod := by decide +kernel
set_option maxRecDepth 65536 in
theorem w_hears : about1.hears theMethod below0 = true := by decide +kernel
set_option maxRecDepth 65536 in
theorem w_ripe : about1.ripe theMethod args0 below0 = true := by decide +kernel
theorem w_running : about1.status = .running := rfl
set_option maxRecDepth 65536 in
theorem w_room : about1.hasRoom e0.platform room_1 = true :=
  launch0.hasRoom_least _ room_1 (by decide +kernel) (by decide +kernel) (by decide +kernel) (by decide +kernel) (by decide +kernel) (by decide +kernel)
theorem allAtoms_all (ts : List Jvm.Cond) (a : Array Jvm.Value) (st : Jvm.State) : (allAtoms ts).before a st = ts.all (fun c => c.before a st) := by
  induction ts with
  | nil => rfl
  | cons c t ih =>
    show (Jvm.Cond.and c (allAtoms t)).before a st = _
    rw [Jvm.Cond.before_and, ih, List.all_cons]
def words1 : List Jvm.Cond := Jvm.Cond.code x code maxLocals ret :: tables_1
/-- a 'code' word, met by the world's own term for the bytes: nothing is compared byte by byte -/
theorem code_word {y : MethodName} {bytes : ByteArray} {mx : Nat} {rt : Option FieldType} {a : Array Value} {s : State} {m : MethodId} {meth : Method} {c : Code} (h1 : s.methodNamed? y = some m) (h2 : s.vm.method? m = some meth) (h3 : meth.code = some c) (h4 : c.code = bytes)
    (h5 : (c.maxLocals == mx && c.exceptionTable.isEmpty && decide (c.maxStack ≤ mostOperands) && decide (meth.sig.returnType = rt) && !meth.locks && decide (parseMethodDescriptor y.desc = some meth.sig)) = true) : (Jvm.Cond.code y bytes mx rt).before a s = true := by
  simp only [Bool.and_eq_true, beq_iff_eq, Bool.not_eq_true', decide_eq_true_eq] at h5
  obtain ⟨⟨⟨⟨⟨g1, g2⟩, g3⟩, g4⟩, g5⟩, g6⟩ := h5
  simp [Cond.before, Cond.holds, Cond.value, h1, h2, h3, h4, g1, g2, g3, g4, g5, g6]
def isCode : Jvm.Cond → Bool
  | .code _ _ _ _ => true
  | _ => false
theorem all_split {L : List Jvm.Cond} {P : Jvm.Cond → Bool} (h1 : L.all (fun c => isCode c || P c) = true) (h2 : ∀ c ∈ L.filter isCode, P c = true) : L.all P = true := by
  refine List.all_eq_true.mpr fun c hc => ?_
  have h := List.all_eq_true.mp h1 c hc
  rcases Bool.eq_false_or_eq_true (isCode c) with hi | hi
  · exact h2 c (List.mem_filter.mpr ⟨hc, hi⟩)
  · simpa [hi] using h
set_option maxRecDepth 65536 in
theorem w_c0 : (Jvm.Cond.code x code maxLocals ret).before args0 about1 = true := code_word (m := ⟨1, 1⟩) (meth := k1m1) (c := k1c1) (by decide +kernel) rfl rfl rfl (by decide +kernel)
set_option maxRecDepth 65536 in
theorem w_c1 : (Jvm.Cond.code ({ cls := "org/keymoot/Attribute", name := "<init>", desc := "(IZ[B)V" } : Jvm.MethodName) prog_6_method_1_code (4 : Nat) (Option.none : Option Jvm.ClassFile.FieldType)).before args0 about1 = true := code_word (m := ⟨3, 0⟩) (meth := k3m0) (c := k3c0) (by decide +kernel) rfl rfl rfl (by decide +kernel)
set_option maxRecDepth 65536 in
theorem w_c2 : (Jvm.Cond.code ({ cls := "java/lang/Record", name := "<init>", desc := "()V" } : Jvm.MethodName) jdk_30_method_1_code (1 : Nat) (Option.none : Option Jvm.ClassFile.FieldType)).before args0 about1 = true := code_word (m := ⟨2, 0⟩) (meth := k2m0) (c := k2c0) (by decide +kernel) rfl rfl rfl (by decide +kernel)
set_option maxRecDepth 65536 in
theorem w_c3 : (Jvm.Cond.code ({ cls := "java/lang/Object", name := "<init>", desc := "()V" } : Jvm.MethodName) object_method_1_code (1 : Nat) (Option.none : Option Jvm.ClassFile.FieldType)).before args0 about1 = true := code_word (m := ⟨0, 0⟩) (meth := k0m0) (c := k0c0) (by decide +kernel) rfl rfl rfl (by decide +kernel)
set_option maxRecDepth 65536 in
theorem w_c4 : (Jvm.Cond.code ({ cls := "org/keymoot/Attribute", name := "isLifeType", desc := "(I)Z" } : Jvm.MethodName) prog_6_method_5_code (2 : Nat) (Option.some Jvm.ClassFile.FieldType.boolean)).before args0 about1 = true := code_word (m := ⟨3, 2⟩) (meth := k3m2) (c := k3c2) (by decide +kernel) rfl rfl rfl (by decide +kernel)
set_option maxRecDepth 65536 in
theorem w_c5 : (Jvm.Cond.code ({ cls := "org/keymoot/Attribute", name := "isLife", desc := "(I)Z" } : Jvm.MethodName) prog_6_method_4_code (2 : Nat) (Option.some Jvm.ClassFile.FieldType.boolean)).before args0 about1 = true := code_word (m := ⟨3, 1⟩) (meth := k3m1) (c := k3c1) (by decide +kernel) rfl rfl rfl (by decide +kernel)
def codes1 : List Jvm.Cond := [Jvm.Cond.code x code maxLocals ret, Jvm.Cond.code ({ cls := "org/keymoot/Attribute", name := "<init>", desc := "(IZ[B)V" } : Jvm.MethodName) prog_6_method_1_code (4 : Nat) (Option.none : Option Jvm.ClassFile.FieldType), Jvm.Cond.code ({ cls := "java/lang/Record", name := "<init>", desc := "()V" } : Jvm.MethodName) jdk_30_method_1_code (1 : Nat) (Option.none : Option Jvm.ClassFile.FieldType), Jvm.Cond.code ({ cls := "java/lang/Object", name := "<init>", desc := "()V" } : Jvm.MethodName) object_method_1_code (1 : Nat) (Option.none : Option Jvm.ClassFile.FieldType), Jvm.Cond.code ({ cls := "org/keymoot/Attribute", name := "isLifeType", desc := "(I)Z" } : Jvm.MethodName) prog_6_method_5_code (2 : Nat) (Option.some Jvm.ClassFile.FieldType.boolean), Jvm.Cond.code ({ cls := "org/keymoot/Attribute", name := "isLife", desc := "(I)Z" } : Jvm.MethodName) prog_6_method_4_code (2 : Nat) (Option.some Jvm.ClassFile.FieldType.boolean)]
set_option maxRecDepth 65536 in
theorem codes_eq : words1.filter isCode = codes1 := rfl
theorem w_codes : ∀ c ∈ words1.filter isCode, c.before args0 about1 = true := by
  rw [codes_eq]
  intro c hc
  simp only [codes1, List.mem_cons, List.not_mem_nil, or_false] at hc
  rcases hc with rfl | rfl | rfl | rfl | rfl | rfl
  · exact w_c0
  · exact w_c1
  · exact w_c2
  · exact w_c3
  · exact w_c4
  · exact w_c5
set_option maxRecDepth 65536 in
theorem w_t1 : (words1.take 24).all (fun c => isCode c || c.before args0 about1) = true := by decide +kernel
set_option maxRecDepth 65536 in
theorem w_t2 : (words1.drop 24).all (fun c => isCode c || c.before args0 about1) = true := by decide +kernel
theorem w_tables : (allAtoms (Jvm.Cond.code x code maxLocals ret :: tables_1)).before args0 about1 = true := by
  rw [allAtoms_all]
  show words1.all (fun c => c.before args0 about1) = true
  refine all_split ?_ w_codes
  rw [← List.take_append_drop 24 words1, List.all_append, w_t1, w_t2]
  rfl
set_option maxRecDepth 65536 in
theorem w_case : (Jvm.Cond.and given_1 narrow_1).before args0 about1 = true := by decide +kernel
theorem w_applies : (headSpec (Jvm.Cond.code x code maxLocals ret :: tables_1) room_1).applies x e0.platform about1 = true :=
  (Spec.applies_iff w_frames).mpr ⟨w_running, w_runnable, w_alone, w_named, w_hears, w_ripe, w_room, w_tables⟩
theorem atStart : AtStart classFile x code maxLocals ret World_1 tables_1 room_1 Calls_1 rest_1 Pre_1 launch0 p0 e0 about1 theMethod args0 below0 :=
  ⟨lists_1, trivial, launch0.admits_env _ _ _, launch0.least_env, fairChoices_fair.cas, fairChoices_fair.clock, w_frames, w_args, w_heap, w_applies, trivial, trivial, w_case⟩
end start1
theorem witness_1 : WitnessClaimed_1 := ⟨start1.p0, start1.e0, start1.about1, start1.theMethod, start1.args0, start1.below0, start1.atStart⟩
end Jvm.Pilot.@@N@@
