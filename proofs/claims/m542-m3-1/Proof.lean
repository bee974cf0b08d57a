import JvmDerived
import JvmDerived.Pilot.@@N@@Statement
import JvmDerived.Pilot.@@N@@Code
set_option linter.unusedVariables false
set_option linter.unusedSimpArgs false
namespace Jvm.RoadKit
open Sem ClassFile Op Lib Jvm.Stand Jvm.Free Jvm.LawKit
section Own
variable {p : Program} {l : Launch} {e : Env} {R : Room} {s : State} {m : MethodId} {args : Array Value} {below : List Frame} {meth : Method} {c : Code} {T : State} {locs : List Loc} {cells slots : Nat}
/-- from S the run comes to the end of the call, and K holds there -/
def Go (p : Program) (e : Env) (below : List Frame) (K : State → Outcome → Prop) (S : State) : Prop := ∃ s₂ o, Steps p.tables e below S s₂ ∧ s₂.status = .running ∧ Ended s₂ below o ∧ K s₂ o
def Kq (s : State) (Q : Option Value → Heap → List Loc → Prop) (k n : Nat) (t : State) (o : Outcome) : Prop := ∃ v L, o = .returned v ∧ Q v t.heap L ∧ FrameEnd s o t L k n
theorem go {K : State → Outcome → Prop} {S S' : State} (h : ∀ t, Steps p.tables e below S' t → Steps p.tables e below S t) (g : Go p e below K S') : Go p e below K S := by
  obtain ⟨t, o, h1, h2⟩ := g
  exact ⟨t, o, h _ h1, h2⟩
theorem goOut (X : Stand p l e R s m args below meth c T locs cells slots) {Q : Option Value → Heap → List Loc → Prop} {k n : Nat} {S : State} {v : Option Value} (hv : meth.sig.returnType = none → v = none) (hlocks : meth.locks = false)
    (hs : ∀ fs, (∀ (f : JFrame) (acts : List Action), f.method = m → f.locked = none → f.entered = [] → (doReturn e (T.setTop f) acts v).1 = T.setFrames fs) → Steps p.tables e below S (T.setFrames fs))
    (hk : cells ≤ k) (hn : slots ≤ n) (hq : Q v T.heap locs) : Go p e below (Kq s Q k n) S := by
  obtain ⟨fs, hr, hrun, hended, hW, hsame⟩ := X.leave (v := v) hv hlocks
  exact ⟨_, _, hs fs hr, hrun, hended, _, _, rfl, hq, ⟨_, rfl⟩, hW, hsame.mono hk hn⟩
end Own
end Jvm.RoadKit
namespace Jvm.RoadKit
open Sem ClassFile Op Lib Jvm.Stand Jvm.Free Jvm.LawKit
section OwnArr
variable {p : Program} {l : Launch} {e : Env} {R : Room} {s : State} {m : MethodId} {args : Array Value} {below : List Frame} {meth : Method} {c : Code} {T : State} {locs : List Loc} {cells slots : Nat} {Z : State} {h h' : Heap} {a b : Addr} {ty : FieldType} {n : Nat} {f : Nat → Int32} {v : Value} {sl : Nat} {ws : List Addr}
/-- an array of n places, of a kind that lies on the stack as an int, that holds f -/
def IA (Z : State) (h : Heap) (a : Addr) (ty : FieldType) (n : Nat) (f : Nat → Int32) : Prop := ∃ c : Cell, Arr Z h a c ty ∧ c.slots.size = n ∧ ∀ j, j < n → c.slots[j]? = some (.int (f j))
def upI (f : Nat → Int32) (j : Nat) (x : Int32) : Nat → Int32 := fun i => if i = j then x else f i
theorem IA.lt (F : IA Z h a ty n f) : a < h.size := by obtain ⟨c, A, -⟩ := F; exact A.lt
theorem IA.ext (F : IA Z h a ty n f) (E : Ext h h') : IA Z h' a ty n f := by obtain ⟨c, A, r⟩ := F; exact ⟨c, A.ext E, r⟩
theorem IA.other (F : IA Z h b ty n f) (W : Wr h h' a sl v) (q : b ≠ a) : IA Z h' b ty n f := by obtain ⟨c, A, r⟩ := F; exact ⟨c, A.other W q, r⟩
theorem IA.keep (F : IA Z h a ty n f) (K : Keep h h' ws) (q : a ∉ ws) : IA Z h' a ty n f := by obtain ⟨c, A, r⟩ := F; exact ⟨c, ⟨K.2.1 a c A.1 q, A.2⟩, r⟩
theorem IA.new {k : ClassId} {z : Int32} (A : Arr Z h a (newA k ty z) ty) (q : z.toNatClampNeg = n) (hd : defaultValue ty = .int 0) : IA Z h a ty n (fun _ => 0) := by
  refine ⟨_, A, (sz_new _ _ _).trans q, fun j hj => ?_⟩
  simp [newA, hd, q, hj]
theorem IA.put {j x : Int32} {cl : Cell} (A : Arr Z h a cl ty) (S : cl.slots.size = n) (H : ∀ j, j < n → cl.slots[j]? = some (.int (f j))) (W : Wr h h' a j.toNatClampNeg (.int x)) : IA Z h' a ty n (upI f j.toNatClampNeg x) := by
  refine ⟨_, A.same W, by rw [sz_set]; exact S, fun i hi => ?_⟩
  by_cases q : i = j.toNatClampNeg
  · subst q; simp [upI, Cell.setSlot, S, hi]
  · rw [show (cl.setSlot j.toNatClampNeg (.int x)).slots[i]? = cl.slots[i]? from Array.getElem?_setIfInBounds_ne (Ne.symm q), H i hi]; simp [upI, q]
theorem in_of {j : Int32} {cl : Cell} (S : cl.slots.size = n) (hj : 0 ≤ j.toInt ∧ j.toInt < n) : ¬ (j < 0 ∨ cl.slots.size ≤ j.toNatClampNeg) := by
  have h0 : ¬ j < 0 := by rw [Int32.lt_iff_toInt_lt]; have : (0 : Int32).toInt = 0 := rfl; omega
  have h1 := nat_of h0
  rw [S]; intro q; rcases q with q | q
  · exact h0 q
  · omega
theorem nat_in {j : Int32} (hj : 0 ≤ j.toInt ∧ j.toInt < n) : j.toNatClampNeg < n := by
  have h0 : ¬ j < 0 := by rw [Int32.lt_iff_toInt_lt]; have : (0 : Int32).toInt = 0 := rfl; omega
  have h1 := nat_of h0; omega
theorem ldIA (X : Stand p l e R s m args below meth c T locs cells slots) (hx : p.tables.exec = Jvm.exec) (hZ : Z.Warmed39 s.vm) (eT : T.heap = h) (A : IA Z h a .int n f) {j : Int32} (hj : 0 ≤ j.toInt ∧ j.toInt < n) {g : JFrame} (hg : g.method = m) {rest : List Value} (hs : g.stack = .int j :: .ref a :: rest) (hd : decode c.code g.pc = .ok (.iaload, 1)) :
    ∀ target, Steps p.tables e below (T.setTop { g with pc := g.pc + 1, stack := .int (f j.toNatClampNeg) :: rest }) target → Steps p.tables e below (T.setTop g) target := by
  obtain ⟨cl, A, S, H⟩ := A
  exact X.iaload hx (by rw [eT]; exact A.1) (State.isArrayOf_alike hZ.alike A.2.1) A.2.2 (in_of S hj) (H _ (nat_in hj)) hg hs hd
theorem ldCA (X : Stand p l e R s m args below meth c T locs cells slots) (hx : p.tables.exec = Jvm.exec) (hZ : Z.Warmed39 s.vm) (eT : T.heap = h) (A : IA Z h a .char n f) {j : Int32} (hj : 0 ≤ j.toInt ∧ j.toInt < n) {g : JFrame} (hg : g.method = m) {rest : List Value} (hs : g.stack = .int j :: .ref a :: rest) (hd : decode c.code g.pc = .ok (.caload, 1)) :
    ∀ target, Steps p.tables e below (T.setTop { g with pc := g.pc + 1, stack := .int (f j.toNatClampNeg) :: rest }) target → Steps p.tables e below (T.setTop g) target := by
  obtain ⟨cl, A, S, H⟩ := A
  exact X.caload hx (by rw [eT]; exact A.1) (State.isArrayOf_alike hZ.alike A.2.1) A.2.2 (in_of S hj) (H _ (nat_in hj)) hg hs hd
theorem lenIA (X : Stand p l e R s m args below meth c T locs cells slots) (hx : p.tables.exec = Jvm.exec) (hZ : Z.Warmed39 s.vm) (eT : T.heap = h) (A : IA Z h a ty n f) {g : JFrame} (hg : g.method = m) {rest : List Value} (hs : g.stack = .ref a :: rest) (hd : decode c.code g.pc = .ok (.arraylength, 1)) :
    ∀ target, Steps p.tables e below (T.setTop { g with pc := g.pc + 1, stack := .int n.toInt32 :: rest }) target → Steps p.tables e below (T.setTop g) target := by
  obtain ⟨cl, A, S, H⟩ := A
  intro target k
  refine X.arraylength hx (by rw [eT]; exact A.1) (State.isArrayOf_alike hZ.alike A.2.1) hg hs hd target ?_
  rw [S]; exact k
theorem stIA (X : Stand p l e R s m args below meth c T locs cells slots) (hx : p.tables.exec = Jvm.exec) (hZ : Z.Warmed39 s.vm) (eT : T.heap = h) (A : IA Z h a .int n f) {j x : Int32} (hj : 0 ≤ j.toInt ∧ j.toInt < n) {g : JFrame} (hg : g.method = m) {rest : List Value} (hs : g.stack = .int x :: .int j :: .ref a :: rest) (hd : decode c.code g.pc = .ok (.iastore, 1)) :
    ∃ T' h', Stand p l e R s m args below meth c T' (locs ++ [⟨a, j.toNatClampNeg⟩]) cells slots ∧ T'.heap = h' ∧ Wr h h' a j.toNatClampNeg (.int x) ∧ IA Z h' a .int n (upI f j.toNatClampNeg x) ∧ ∀ target, Steps p.tables e below (T'.setTop { g with pc := g.pc + 1, stack := rest }) target → Steps p.tables e below (T.setTop g) target := by
  obtain ⟨cl, A, S, H⟩ := A
  obtain ⟨T', h', X', e', W, st⟩ := stI X hx hZ eT A (in_of S hj) hg hs hd
  exact ⟨T', h', X', e', W, IA.put A S H W, st⟩
theorem stCA (X : Stand p l e R s m args below meth c T locs cells slots) (hx : p.tables.exec = Jvm.exec) (hZ : Z.Warmed39 s.vm) (eT : T.heap = h) (A : IA Z h a .char n f) {j x : Int32} (hj : 0 ≤ j.toInt ∧ j.toInt < n) {g : JFrame} (hg : g.method = m) {rest : List Value} (hs : g.stack = .int x :: .int j :: .ref a :: rest) (hd : decode c.code g.pc = .ok (.castore, 1)) :
    ∃ T' h', Stand p l e R s m args below meth c T' (locs ++ [⟨a, j.toNatClampNeg⟩]) cells slots ∧ T'.heap = h' ∧ Wr h h' a j.toNatClampNeg (.int (nar .char x)) ∧ IA Z h' a .char n (upI f j.toNatClampNeg (nar .char x)) ∧ ∀ target, Steps p.tables e below (T'.setTop { g with pc := g.pc + 1, stack := rest }) target → Steps p.tables e below (T.setTop g) target := by
  obtain ⟨cl, A, S, H⟩ := A
  obtain ⟨T', h', X', e', W, st⟩ := stC X hx hZ eT A (in_of S hj) hg hs hd
  exact ⟨T', h', X', e', W, IA.put A S H W, st⟩
theorem stBA (X : Stand p l e R s m args below meth c T locs cells slots) (hx : p.tables.exec = Jvm.exec) (hZ : Z.Warmed39 s.vm) (eT : T.heap = h) (A : IA Z h a .byte n f) {j x : Int32} (hj : 0 ≤ j.toInt ∧ j.toInt < n) {g : JFrame} (hg : g.method = m) {rest : List Value} (hs : g.stack = .int x :: .int j :: .ref a :: rest) (hd : decode c.code g.pc = .ok (.bastore, 1)) :
    ∃ T' h', Stand p l e R s m args below meth c T' (locs ++ [⟨a, j.toNatClampNeg⟩]) cells slots ∧ T'.heap = h' ∧ Wr h h' a j.toNatClampNeg (.int (nar .byte x)) ∧ IA Z h' a .byte n (upI f j.toNatClampNeg (nar .byte x)) ∧ ∀ target, Steps p.tables e below (T'.setTop { g with pc := g.pc + 1, stack := rest }) target → Steps p.tables e below (T.setTop g) target := by
  obtain ⟨cl, A, S, H⟩ := A
  obtain ⟨T', h', X', e', W, st⟩ := stB X hx hZ eT A (in_of S hj) hg hs hd
  exact ⟨T', h', X', e', W, IA.put A S H W, st⟩
end OwnArr
end Jvm.RoadKit
namespace Jvm.Pilot.@@N@@
open Jvm Jvm.ClassFile Sem Op Lib Jvm.Free Jvm.Stand Jvm.LawKit Jvm.RoadKit Bundle Jvm.Pilot.@@N@@.Jvm.D
def own_core (Z : State) (n0 : Nat) (h : Heap) (a b1 b2 b3 : Addr) (f1 f2 f3 : Nat → Int32) : Prop := Exa Z h a "com/example/coreloom/coreloom/Core" ∧ Fld Z h a "com/example/coreloom/coreloom/Core" "opcodes" "[I" (.ref b1) ∧ Fld Z h a "com/example/coreloom/coreloom/Core" "fieldsA" "[I" (.ref b2) ∧ Fld Z h a "com/example/coreloom/coreloom/Core" "fieldsB" "[I" (.ref b3) ∧ IA Z h b1 .int 16 f1 ∧ IA Z h b2 .int 16 f2 ∧ IA Z h b3 .int 16 f3 ∧ (n0 ≤ b1 ∧ n0 ≤ b2 ∧ n0 ≤ b3) ∧ a ≠ b1 ∧ a ≠ b2 ∧ a ≠ b3 ∧ b1 ≠ b2 ∧ b1 ≠ b3 ∧ b2 ≠ b3
theorem d1_0 : decode prog_9_method_1_code 0 = .ok (.aload_n 0, 1) := by decide +kernel
theorem d1_1 : decode prog_9_method_1_code 1 = .ok (.invokespecial 1, 3) := by decide +kernel
theorem d1_4 : decode prog_9_method_1_code 4 = .ok (.iload_n 1, 1) := by decide +kernel
theorem d1_5 : decode prog_9_method_1_code 5 = .ok (.bipush 16, 2) := by decide +kernel
theorem d1_7 : decode prog_9_method_1_code 7 = .ok (.if_icmp .ge 17, 3) := by decide +kernel
theorem d1_24 : decode prog_9_method_1_code 24 = .ok (.aload_n 0, 1) := by decide +kernel
theorem d1_25 : decode prog_9_method_1_code 25 = .ok (.iload_n 1, 1) := by decide +kernel
theorem d1_26 : decode prog_9_method_1_code 26 = .ok (.putfield 18, 3) := by decide +kernel
theorem d1_29 : decode prog_9_method_1_code 29 = .ok (.aload_n 0, 1) := by decide +kernel
theorem d1_30 : decode prog_9_method_1_code 30 = .ok (.iload_n 1, 1) := by decide +kernel
theorem d1_31 : decode prog_9_method_1_code 31 = .ok (.newarray .int, 2) := by decide +kernel
theorem d1_33 : decode prog_9_method_1_code 33 = .ok (.putfield 22, 3) := by decide +kernel
theorem d1_36 : decode prog_9_method_1_code 36 = .ok (.aload_n 0, 1) := by decide +kernel
theorem d1_37 : decode prog_9_method_1_code 37 = .ok (.iload_n 1, 1) := by decide +kernel
theorem d1_38 : decode prog_9_method_1_code 38 = .ok (.newarray .int, 2) := by decide +kernel
theorem d1_40 : decode prog_9_method_1_code 40 = .ok (.putfield 26, 3) := by decide +kernel
theorem d1_43 : decode prog_9_method_1_code 43 = .ok (.aload_n 0, 1) := by decide +kernel
theorem d1_44 : decode prog_9_method_1_code 44 = .ok (.iload_n 1, 1) := by decide +kernel
theorem d1_45 : decode prog_9_method_1_code 45 = .ok (.newarray .int, 2) := by decide +kernel
theorem d1_47 : decode prog_9_method_1_code 47 = .ok (.putfield 29, 3) := by decide +kernel
theorem d1_50 : decode prog_9_method_1_code 50 = .ok (.return_, 1) := by decide +kernel
theorem pn_com_example_coreloom_coreloom_Core : plainName "com/example/coreloom/coreloom/Core" = true := by first | (simp [plainName, overriddenIn]; done) | decide +kernel
theorem ef_rm1 (m : MethodId) (x0 : Addr) : entryFrame m #[(.ref x0), (.int (16 : Int32))] 2 = mkF m 0 #[.val (.ref x0), .val (.int (16 : Int32))] [] := by first | (simp [entryFrame, mkF, argsToLocals, Value.category]; done) | rfl
def Q1 (Z : State) (a : Addr) (h0 : Heap) (n0 : Nat) (v : Option Value) (h : Heap) (L : List Loc) : Prop := v = none ∧ Fr n0 L ∧ Keep h0 h [a] ∧ Exa Z h a "com/example/coreloom/coreloom/Core" ∧ ∃ b1 b2 b3 : Addr, own_core Z n0 h a b1 b2 b3 (fun _ => 0) (fun _ => 0) (fun _ => 0)
set_option maxRecDepth 65536 in
set_option maxHeartbeats 40000000 in
theorem rm1 (l : Launch) (Z : State) (a0 : Array Value) (hw : ∀ d ∈ tables_1, d.before a0 Z = true) (ws : List Jvm.Cond) (a : Addr)  (h0 : Heap) (n0 : Nat) (Z0 : n0 ≤ h0.size) (E_a : Exa Z h0 a "com/example/coreloom/coreloom/Core") (g_a : n0 ≤ a) (F_size_a : Fld Z h0 a "com/example/coreloom/coreloom/Core" "size" "I" (.int (0 : Int32))) (F_opcodes_a : Fld Z h0 a "com/example/coreloom/coreloom/Core" "opcodes" "[I" .null) (F_fieldsA_a : Fld Z h0 a "com/example/coreloom/coreloom/Core" "fieldsA" "[I" .null) (F_fieldsB_a : Fld Z h0 a "com/example/coreloom/coreloom/Core" "fieldsB" "[I" .null) :
    MetFree l (⟨"com/example/coreloom/coreloom/Core", "<init>", "(I)V"⟩ : MethodName) (head1 (Jvm.Cond.code (⟨"com/example/coreloom/coreloom/Core", "<init>", "(I)V"⟩ : MethodName) prog_9_method_1_code 2 none :: ws) ({ frames := 1, cells := 3, slots := 48, locals := 12 } : Room)) (fun av' U => av' = #[(.ref a), (.int (16 : Int32))] ∧ Z.Warmed39 U.vm ∧ U.heap = h0) (fun _ _ _ _ _ => True) (fun _ U o U' => ∃ v L, o = .returned v ∧ Q1 Z a h0 n0 v U'.heap L ∧ FrameEnd U o U' L ({ frames := 1, cells := 3, slots := 48, locals := 12 } : Room).cells ({ frames := 1, cells := 3, slots := 48, locals := 12 } : Room).slots) := by
  refine MetFree.of_bodySF (plainFor_of_name pn_com_example_coreloom_coreloom_Core) hisR ?_
  intro p e s m args below meth c s₁ Bd hml0 hP hK
  obtain ⟨rfl, hZ, hh⟩ := hP
  have hx := Bd.exec
  have hby := Bd.bytes
  have hlk := Bd.notSynchronized
  have hml : c.maxLocals = 2 := hml0
  have hown : s.vm.findClass "com/example/coreloom/coreloom/Core" = some m.cls := findClass_of_methodNamed Bd.named
  have hnm := (name_of_methodNamed Bd.named Bd.method).1
  have X0 : Stand p l e ({ frames := 1, cells := 3, slots := 48, locals := 12 } : Room) s m #[(.ref a), (.int (16 : Int32))] below meth c s₁ [] 0 0 := Stand.of_body Bd
  have e0 : s₁.heap = h0 := by rw [← hh, Bd.state]; rfl
  have N0 := Fr.nil n0
  show Go p e below (Kq s (Q1 Z a h0 n0) ({ frames := 1, cells := 3, slots := 48, locals := 12 } : Room).cells ({ frames := 1, cells := 3, slots := 48, locals := 12 } : Room).slots) _
  refine go (fun t kt => castTop (ef_rm1 m a) kt) ?_
  have K0 := Keep.refl h0 [a]
  show Go p e below _ (s₁.setTop (mkF m 0 #[.val (.ref a), .val (.int (16 : Int32))] []))
  refine go (fun t kt' => by refine XS.aloadN X0.here hx rfl (hb hby d1_0) rfl rfl ?_; exact kt') ?_
  show Go p e below _ (s₁.setTop (mkF m 1 #[.val (.ref a), .val (.int (16 : Int32))] [(.ref a)]))
  obtain ⟨T1, X1, e1, st1⟩ := initO X0 hx hZ hown (hw _ (List.mem_of_getElem? (i := 6) rfl)) (hw _ (List.mem_of_getElem? (i := 7) rfl)) (hw _ (List.mem_of_getElem? (i := 8) rfl)) e0 (g := (mkF m 1 #[.val (.ref a), .val (.int (16 : Int32))] [(.ref a)])) rfl (by rw [hml]; rfl) rfl (hb hby d1_1) (by decide) (W := 0) (by show 2 * 0 + _ ≤ _; exact Nat.le_of_eq rfl) (by decide)
  refine go st1 ?_
  show Go p e below _ (T1.setTop (mkF m 4 #[.val (.ref a), .val (.int (16 : Int32))] []))
  refine go (fun t kt' => by refine XS.iloadN X1.here hx rfl (hb hby d1_4) rfl ?_; exact kt') ?_
  show Go p e below _ (T1.setTop (mkF m 5 #[.val (.ref a), .val (.int (16 : Int32))] [(.int (16 : Int32))]))
  refine go (fun t kt' => by refine XS.bipush X1.here hx rfl (hb hby d1_5) ?_; exact kt') ?_
  show Go p e below _ (T1.setTop (mkF m 7 #[.val (.ref a), .val (.int (16 : Int32))] [(.int (16 : Int32)), (.int (16 : Int32))]))
  have c7_2 : ¬ (16 : Int32) < (16 : Int32) := by decide
  refine go (fun t kt' => by refine XS.icmpYes X1.here hx rfl (pc0 := 7) (pc' := 24) rfl (hb hby d1_7) rfl (flt c7_2).2.1 (by decide) (by decide) ?_; exact kt') ?_
  show Go p e below _ (T1.setTop (mkF m 24 #[.val (.ref a), .val (.int (16 : Int32))] []))
  refine go (fun t kt' => by refine XS.aloadN X1.here hx rfl (hb hby d1_24) rfl rfl ?_; exact kt') ?_
  show Go p e below _ (T1.setTop (mkF m 25 #[.val (.ref a), .val (.int (16 : Int32))] [(.ref a)]))
  refine go (fun t kt' => by refine XS.iloadN X1.here hx rfl (hb hby d1_25) rfl ?_; exact kt') ?_
  show Go p e below _ (T1.setTop (mkF m 26 #[.val (.ref a), .val (.int (16 : Int32))] [(.int (16 : Int32)), (.ref a)]))
  obtain ⟨T3, h3, X3, e3, W3, st3⟩ := putF X1 hx hZ hown (host := "") (Or.inl (hw _ (List.mem_of_getElem? (i := 9) rfl))) Via.refl e1 F_size_a E_a (Or.inr ⟨(hw _ (List.mem_of_getElem? (i := 10) rfl)), rfl, hnm⟩) (hw _ (List.mem_of_getElem? (i := 1) rfl)) (ty := .int) (by decide) rfl rfl (g := (mkF m 26 #[.val (.ref a), .val (.int (16 : Int32))] [(.int (16 : Int32)), (.ref a)])) rfl rfl (hb hby d1_26)
  have N3 := Fr.snoc X3 N0 g_a
  have f4_Z := Nat.le_trans Z0 (Keep.of_wr W3).1
  have f5_K := K0.wr W3 (Or.inl (List.mem_of_getElem? (i := 0) rfl))
  have f6_E_a := E_a.wr W3
  have f7_F_a_size := F_size_a.same W3
  have f8_F_a_opcodes := F_opcodes_a.other W3 (Or.inr (slot_ne (Or.inr (hw _ (List.mem_of_getElem? (i := 13) rfl))) (Or.inr (hw _ (List.mem_of_getElem? (i := 10) rfl))) (by decide) (t := (.array .int)) (t' := .int) (by decide) (by decide)))
  have f9_F_a_fieldsA := F_fieldsA_a.other W3 (Or.inr (slot_ne (Or.inr (hw _ (List.mem_of_getElem? (i := 15) rfl))) (Or.inr (hw _ (List.mem_of_getElem? (i := 10) rfl))) (by decide) (t := (.array .int)) (t' := .int) (by decide) (by decide)))
  have f10_F_a_fieldsB := F_fieldsB_a.other W3 (Or.inr (slot_ne (Or.inr (hw _ (List.mem_of_getElem? (i := 17) rfl))) (Or.inr (hw _ (List.mem_of_getElem? (i := 10) rfl))) (by decide) (t := (.array .int)) (t' := .int) (by decide) (by decide)))
  refine go st3 ?_
  show Go p e below _ (T3.setTop (mkF m 29 #[.val (.ref a), .val (.int (16 : Int32))] []))
  refine go (fun t kt' => by refine XS.aloadN X3.here hx rfl (hb hby d1_29) rfl rfl ?_; exact kt') ?_
  show Go p e below _ (T3.setTop (mkF m 30 #[.val (.ref a), .val (.int (16 : Int32))] [(.ref a)]))
  refine go (fun t kt' => by refine XS.iloadN X3.here hx rfl (hb hby d1_30) rfl ?_; exact kt') ?_
  show Go p e below _ (T3.setTop (mkF m 31 #[.val (.ref a), .val (.int (16 : Int32))] [(.int (16 : Int32)), (.ref a)]))
  obtain ⟨T11, h11, k11, X11, e11, E11, A11, st11⟩ := newP X3 hx hZ (hw _ (List.mem_of_getElem? (i := 11) rfl)) e3 (g := (mkF m 31 #[.val (.ref a), .val (.int (16 : Int32))] [(.int (16 : Int32)), (.ref a)])) rfl (hb hby d1_31) rfl (by decide) (cap := 16) (by decide) (by decide) (by decide) (by decide)
  obtain ⟨b11, g11⟩ : ∃ z, z = h3.size := ⟨_, rfl⟩
  have n0_b11 : n0 ≤ b11 := Nat.le_trans f4_Z (Nat.le_of_eq g11.symm)
  have sz_b11 : h0.size ≤ b11 := Nat.le_trans f5_K.1 (Nat.le_of_eq g11.symm)
  have ne11_a_b11 : a ≠ b11 := Nat.ne_of_lt (Nat.lt_of_lt_of_le f6_E_a.lt (Nat.le_of_eq g11.symm))
  rw [← g11] at A11 st11
  have f12_Z := Nat.le_trans f4_Z E11.1
  have f13_K := f5_K.ext E11
  have f14_E_a := f6_E_a.ext E11
  have f15_F_a_size := f7_F_a_size.ext E11
  have f16_F_a_opcodes := f8_F_a_opcodes.ext E11
  have f17_F_a_fieldsA := f9_F_a_fieldsA.ext E11
  have f18_F_a_fieldsB := f10_F_a_fieldsB.ext E11
  have V11 : IA Z h11 b11 .int 16 (fun _ => 0) := IA.new A11 rfl rfl
  refine go st11 ?_
  show Go p e below _ (T11.setTop (mkF m 33 #[.val (.ref a), .val (.int (16 : Int32))] [(.ref b11), (.ref a)]))
  obtain ⟨T19, h19, X19, e19, W19, st19⟩ := putF X11 hx hZ hown (host := "") (Or.inl (hw _ (List.mem_of_getElem? (i := 12) rfl))) Via.refl e11 f16_F_a_opcodes f14_E_a (Or.inr ⟨(hw _ (List.mem_of_getElem? (i := 13) rfl)), rfl, hnm⟩) (hw _ (List.mem_of_getElem? (i := 1) rfl)) (ty := (.array .int)) (by decide) rfl rfl (g := (mkF m 33 #[.val (.ref a), .val (.int (16 : Int32))] [(.ref b11), (.ref a)])) rfl rfl (hb hby d1_33)
  have N19 := Fr.snoc X19 N3 g_a
  have f20_Z := Nat.le_trans f12_Z (Keep.of_wr W19).1
  have f21_K := f13_K.wr W19 (Or.inl (List.mem_of_getElem? (i := 0) rfl))
  have f22_E_a := f14_E_a.wr W19
  have f23_F_a_size := f15_F_a_size.other W19 (Or.inr (slot_ne (Or.inr (hw _ (List.mem_of_getElem? (i := 10) rfl))) (Or.inr (hw _ (List.mem_of_getElem? (i := 13) rfl))) (by decide) (t := .int) (t' := (.array .int)) (by decide) (by decide)))
  have f24_F_a_opcodes := f16_F_a_opcodes.same W19
  have f25_F_a_fieldsA := f17_F_a_fieldsA.other W19 (Or.inr (slot_ne (Or.inr (hw _ (List.mem_of_getElem? (i := 15) rfl))) (Or.inr (hw _ (List.mem_of_getElem? (i := 13) rfl))) (by decide) (t := (.array .int)) (t' := (.array .int)) (by decide) (by decide)))
  have f26_F_a_fieldsB := f18_F_a_fieldsB.other W19 (Or.inr (slot_ne (Or.inr (hw _ (List.mem_of_getElem? (i := 17) rfl))) (Or.inr (hw _ (List.mem_of_getElem? (i := 13) rfl))) (by decide) (t := (.array .int)) (t' := (.array .int)) (by decide) (by decide)))
  have f27_A_b11 := V11.other W19 (Ne.symm ne11_a_b11)
  refine go st19 ?_
  show Go p e below _ (T19.setTop (mkF m 36 #[.val (.ref a), .val (.int (16 : Int32))] []))
  refine go (fun t kt' => by refine XS.aloadN X19.here hx rfl (hb hby d1_36) rfl rfl ?_; exact kt') ?_
  show Go p e below _ (T19.setTop (mkF m 37 #[.val (.ref a), .val (.int (16 : Int32))] [(.ref a)]))
  refine go (fun t kt' => by refine XS.iloadN X19.here hx rfl (hb hby d1_37) rfl ?_; exact kt') ?_
  show Go p e below _ (T19.setTop (mkF m 38 #[.val (.ref a), .val (.int (16 : Int32))] [(.int (16 : Int32)), (.ref a)]))
  obtain ⟨T28, h28, k28, X28, e28, E28, A28, st28⟩ := newP X19 hx hZ (hw _ (List.mem_of_getElem? (i := 11) rfl)) e19 (g := (mkF m 38 #[.val (.ref a), .val (.int (16 : Int32))] [(.int (16 : Int32)), (.ref a)])) rfl (hb hby d1_38) rfl (by decide) (cap := 16) (by decide) (by decide) (by decide) (by decide)
  obtain ⟨b28, g28⟩ : ∃ z, z = h19.size := ⟨_, rfl⟩
  have n0_b28 : n0 ≤ b28 := Nat.le_trans f20_Z (Nat.le_of_eq g28.symm)
  have sz_b28 : h0.size ≤ b28 := Nat.le_trans f21_K.1 (Nat.le_of_eq g28.symm)
  have ne28_a_b28 : a ≠ b28 := Nat.ne_of_lt (Nat.lt_of_lt_of_le f22_E_a.lt (Nat.le_of_eq g28.symm))
  have ne28_b11_b28 : b11 ≠ b28 := Nat.ne_of_lt (Nat.lt_of_lt_of_le f27_A_b11.lt (Nat.le_of_eq g28.symm))
  rw [← g28] at A28 st28
  have f29_Z := Nat.le_trans f20_Z E28.1
  have f30_K := f21_K.ext E28
  have f31_E_a := f22_E_a.ext E28
  have f32_F_a_size := f23_F_a_size.ext E28
  have f33_F_a_opcodes := f24_F_a_opcodes.ext E28
  have f34_F_a_fieldsA := f25_F_a_fieldsA.ext E28
  have f35_F_a_fieldsB := f26_F_a_fieldsB.ext E28
  have f36_A_b11 := f27_A_b11.ext E28
  have V28 : IA Z h28 b28 .int 16 (fun _ => 0) := IA.new A28 rfl rfl
  refine go st28 ?_
  show Go p e below _ (T28.setTop (mkF m 40 #[.val (.ref a), .val (.int (16 : Int32))] [(.ref b28), (.ref a)]))
  obtain ⟨T37, h37, X37, e37, W37, st37⟩ := putF X28 hx hZ hown (host := "") (Or.inl (hw _ (List.mem_of_getElem? (i := 14) rfl))) Via.refl e28 f34_F_a_fieldsA f31_E_a (Or.inr ⟨(hw _ (List.mem_of_getElem? (i := 15) rfl)), rfl, hnm⟩) (hw _ (List.mem_of_getElem? (i := 1) rfl)) (ty := (.array .int)) (by decide) rfl rfl (g := (mkF m 40 #[.val (.ref a), .val (.int (16 : Int32))] [(.ref b28), (.ref a)])) rfl rfl (hb hby d1_40)
  have N37 := Fr.snoc X37 N19 g_a
  have f38_Z := Nat.le_trans f29_Z (Keep.of_wr W37).1
  have f39_K := f30_K.wr W37 (Or.inl (List.mem_of_getElem? (i := 0) rfl))
  have f40_E_a := f31_E_a.wr W37
  have f41_F_a_size := f32_F_a_size.other W37 (Or.inr (slot_ne (Or.inr (hw _ (List.mem_of_getElem? (i := 10) rfl))) (Or.inr (hw _ (List.mem_of_getElem? (i := 15) rfl))) (by decide) (t := .int) (t' := (.array .int)) (by decide) (by decide)))
  have f42_F_a_opcodes := f33_F_a_opcodes.other W37 (Or.inr (slot_ne (Or.inr (hw _ (List.mem_of_getElem? (i := 13) rfl))) (Or.inr (hw _ (List.mem_of_getElem? (i := 15) rfl))) (by decide) (t := (.array .int)) (t' := (.array .int)) (by decide) (by decide)))
  have f43_F_a_fieldsA := f34_F_a_fieldsA.same W37
  have f44_F_a_fieldsB := f35_F_a_fieldsB.other W37 (Or.inr (slot_ne (Or.inr (hw _ (List.mem_of_getElem? (i := 17) rfl))) (Or.inr (hw _ (List.mem_of_getElem? (i := 15) rfl))) (by decide) (t := (.array .int)) (t' := (.array .int)) (by decide) (by decide)))
  have f45_A_b11 := f36_A_b11.other W37 (Ne.symm ne11_a_b11)
  have f46_A_b28 := V28.other W37 (Ne.symm ne28_a_b28)
  refine go st37 ?_
  show Go p e below _ (T37.setTop (mkF m 43 #[.val (.ref a), .val (.int (16 : Int32))] []))
  refine go (fun t kt' => by refine XS.aloadN X37.here hx rfl (hb hby d1_43) rfl rfl ?_; exact kt') ?_
  show Go p e below _ (T37.setTop (mkF m 44 #[.val (.ref a), .val (.int (16 : Int32))] [(.ref a)]))
  refine go (fun t kt' => by refine XS.iloadN X37.here hx rfl (hb hby d1_44) rfl ?_; exact kt') ?_
  show Go p e below _ (T37.setTop (mkF m 45 #[.val (.ref a), .val (.int (16 : Int32))] [(.int (16 : Int32)), (.ref a)]))
  obtain ⟨T47, h47, k47, X47, e47, E47, A47, st47⟩ := newP X37 hx hZ (hw _ (List.mem_of_getElem? (i := 11) rfl)) e37 (g := (mkF m 45 #[.val (.ref a), .val (.int (16 : Int32))] [(.int (16 : Int32)), (.ref a)])) rfl (hb hby d1_45) rfl (by decide) (cap := 16) (by decide) (by decide) (by decide) (by decide)
  obtain ⟨b47, g47⟩ : ∃ z, z = h37.size := ⟨_, rfl⟩
  have n0_b47 : n0 ≤ b47 := Nat.le_trans f38_Z (Nat.le_of_eq g47.symm)
  have sz_b47 : h0.size ≤ b47 := Nat.le_trans f39_K.1 (Nat.le_of_eq g47.symm)
  have ne47_a_b47 : a ≠ b47 := Nat.ne_of_lt (Nat.lt_of_lt_of_le f40_E_a.lt (Nat.le_of_eq g47.symm))
  have ne47_b11_b47 : b11 ≠ b47 := Nat.ne_of_lt (Nat.lt_of_lt_of_le f45_A_b11.lt (Nat.le_of_eq g47.symm))
  have ne47_b28_b47 : b28 ≠ b47 := Nat.ne_of_lt (Nat.lt_of_lt_of_le f46_A_b28.lt (Nat.le_of_eq g47.symm))
  rw [← g47] at A47 st47
  have f48_Z := Nat.le_trans f38_Z E47.1
  have f49_K := f39_K.ext E47
  have f50_E_a := f40_E_a.ext E47
  have f51_F_a_size := f41_F_a_size.ext E47
  have f52_F_a_opcodes := f42_F_a_opcodes.ext E47
  have f53_F_a_fieldsA := f43_F_a_fieldsA.ext E47
  have f54_F_a_fieldsB := f44_F_a_fieldsB.ext E47
  have f55_A_b11 := f45_A_b11.ext E47
  have f56_A_b28 := f46_A_b28.ext E47
  have V47 : IA Z h47 b47 .int 16 (fun _ => 0) := IA.new A47 rfl rfl
  refine go st47 ?_
  show Go p e below _ (T47.setTop (mkF m 47 #[.val (.ref a), .val (.int (16 : Int32))] [(.ref b47), (.ref a)]))
  obtain ⟨T57, h57, X57, e57, W57, st57⟩ := putF X47 hx hZ hown (host := "") (Or.inl (hw _ (List.mem_of_getElem? (i := 16) rfl))) Via.refl e47 f54_F_a_fieldsB f50_E_a (Or.inr ⟨(hw _ (List.mem_of_getElem? (i := 17) rfl)), rfl, hnm⟩) (hw _ (List.mem_of_getElem? (i := 1) rfl)) (ty := (.array .int)) (by decide) rfl rfl (g := (mkF m 47 #[.val (.ref a), .val (.int (16 : Int32))] [(.ref b47), (.ref a)])) rfl rfl (hb hby d1_47)
  have N57 := Fr.snoc X57 N37 g_a
  have f58_Z := Nat.le_trans f48_Z (Keep.of_wr W57).1
  have f59_K := f49_K.wr W57 (Or.inl (List.mem_of_getElem? (i := 0) rfl))
  have f60_E_a := f50_E_a.wr W57
  have f61_F_a_size := f51_F_a_size.other W57 (Or.inr (slot_ne (Or.inr (hw _ (List.mem_of_getElem? (i := 10) rfl))) (Or.inr (hw _ (List.mem_of_getElem? (i := 17) rfl))) (by decide) (t := .int) (t' := (.array .int)) (by decide) (by decide)))
  have f62_F_a_opcodes := f52_F_a_opcodes.other W57 (Or.inr (slot_ne (Or.inr (hw _ (List.mem_of_getElem? (i := 13) rfl))) (Or.inr (hw _ (List.mem_of_getElem? (i := 17) rfl))) (by decide) (t := (.array .int)) (t' := (.array .int)) (by decide) (by decide)))
  have f63_F_a_fieldsA := f53_F_a_fieldsA.other W57 (Or.inr (slot_ne (Or.inr (hw _ (List.mem_of_getElem? (i := 15) rfl))) (Or.inr (hw _ (List.mem_of_getElem? (i := 17) rfl))) (by decide) (t := (.array .int)) (t' := (.array .int)) (by decide) (by decide)))
  have f64_F_a_fieldsB := f54_F_a_fieldsB.same W57
  have f65_A_b11 := f55_A_b11.other W57 (Ne.symm ne11_a_b11)
  have f66_A_b28 := f56_A_b28.other W57 (Ne.symm ne28_a_b28)
  have f67_A_b47 := V47.other W57 (Ne.symm ne47_a_b47)
  refine go st57 ?_
  show Go p e below _ (T57.setTop (mkF m 50 #[.val (.ref a), .val (.int (16 : Int32))] []))
  refine goOut X57 (fun _ => rfl) hlk (fun fs hr => X57.returnOut hx Bd.returns (hb hby d1_50) hr) (by decide) (by decide) ?_
  rw [e57]
  exact ⟨rfl, N57, f59_K, f60_E_a, b11, b28, b47, f60_E_a, f62_F_a_opcodes, f63_F_a_fieldsA, f64_F_a_fieldsB, f65_A_b11, f66_A_b28, f67_A_b47, ⟨n0_b11, n0_b28, n0_b47⟩, ne11_a_b11, ne28_a_b28, ne47_a_b47, ne28_b11_b28, ne47_b11_b47, ne47_b28_b47⟩
theorem d3_0 : decode prog_9_method_10_code 0 = .ok (.aload_n 0, 1) := by decide +kernel
theorem d3_1 : decode prog_9_method_10_code 1 = .ok (.getfield 22, 3) := by decide +kernel
theorem d3_4 : decode prog_9_method_10_code 4 = .ok (.iload_n 1, 1) := by decide +kernel
theorem d3_5 : decode prog_9_method_10_code 5 = .ok (.iload_n 2, 1) := by decide +kernel
theorem d3_6 : decode prog_9_method_10_code 6 = .ok (.iastore, 1) := by decide +kernel
theorem d3_7 : decode prog_9_method_10_code 7 = .ok (.aload_n 0, 1) := by decide +kernel
theorem d3_8 : decode prog_9_method_10_code 8 = .ok (.getfield 26, 3) := by decide +kernel
theorem d3_11 : decode prog_9_method_10_code 11 = .ok (.iload_n 1, 1) := by decide +kernel
theorem d3_12 : decode prog_9_method_10_code 12 = .ok (.iload_n 3, 1) := by decide +kernel
theorem d3_13 : decode prog_9_method_10_code 13 = .ok (.iastore, 1) := by decide +kernel
theorem d3_14 : decode prog_9_method_10_code 14 = .ok (.aload_n 0, 1) := by decide +kernel
theorem d3_15 : decode prog_9_method_10_code 15 = .ok (.getfield 29, 3) := by decide +kernel
theorem d3_18 : decode prog_9_method_10_code 18 = .ok (.iload_n 1, 1) := by decide +kernel
theorem d3_19 : decode prog_9_method_10_code 19 = .ok (.iload 4, 2) := by decide +kernel
theorem d3_21 : decode prog_9_method_10_code 21 = .ok (.iastore, 1) := by decide +kernel
theorem d3_22 : decode prog_9_method_10_code 22 = .ok (.return_, 1) := by decide +kernel
theorem ef_rm3 (m : MethodId) (x0 : Addr) (x1 : Int32) (x2 : Int32) (x3 : Int32) (x4 : Int32) : entryFrame m #[(.ref x0), (.int x1), (.int x2), (.int x3), (.int x4)] 5 = mkF m 0 #[.val (.ref x0), .val (.int x1), .val (.int x2), .val (.int x3), .val (.int x4)] [] := by first | (simp [entryFrame, mkF, argsToLocals, Value.category]; done) | rfl
def Q3 (Z : State) (a : Addr) (p1 p2 p3 p4 : Int32) (b1' b2' b3' : Addr) (f1 f2 f3 : Nat → Int32) (h0 : Heap) (n0 : Nat) (v : Option Value) (h : Heap) (L : List Loc) : Prop := v = none ∧ Fr n0 L ∧ Keep h0 h [b1', b2', b3'] ∧ own_core Z n0 h a b1' b2' b3' (upI f1 (p1).toNatClampNeg p2) (upI f2 (p1).toNatClampNeg p3) (upI f3 (p1).toNatClampNeg p4)
set_option maxRecDepth 65536 in
set_option maxHeartbeats 40000000 in
theorem rm3 (l : Launch) (Z : State) (a0 : Array Value) (hw : ∀ d ∈ tables_1, d.before a0 Z = true) (ws : List Jvm.Cond) (a : Addr) (p1 : Int32) (p2 : Int32) (p3 : Int32) (p4 : Int32) (b1' b2' b3' : Addr) (f1 f2 f3 : Nat → Int32) (h0 : Heap) (n0 : Nat) (Z0 : n0 ≤ h0.size) (HC : own_core Z n0 h0 a b1' b2' b3' f1 f2 f3) (hi : 0 ≤ p1.toInt ∧ p1.toInt < (16 : Nat)) :
    MetFree l (⟨"com/example/coreloom/coreloom/Core", "write", "(IIII)V"⟩ : MethodName) (head1 (Jvm.Cond.code (⟨"com/example/coreloom/coreloom/Core", "write", "(IIII)V"⟩ : MethodName) prog_9_method_10_code 5 none :: ws) ({ frames := 0, cells := 0, slots := 0, locals := 0 } : Room)) (fun av' U => av' = #[(.ref a), (.int p1), (.int p2), (.int p3), (.int p4)] ∧ Z.Warmed39 U.vm ∧ U.heap = h0) (fun _ _ _ _ _ => True) (fun _ U o U' => ∃ v L, o = .returned v ∧ Q3 Z a p1 p2 p3 p4 b1' b2' b3' f1 f2 f3 h0 n0 v U'.heap L ∧ FrameEnd U o U' L ({ frames := 0, cells := 0, slots := 0, locals := 0 } : Room).cells ({ frames := 0, cells := 0, slots := 0, locals := 0 } : Room).slots) := by
  refine MetFree.of_bodySF (plainFor_of_name pn_com_example_coreloom_coreloom_Core) hisR ?_
  intro p e s m args below meth c s₁ Bd hml0 hP hK
  obtain ⟨rfl, hZ, hh⟩ := hP
  have hx := Bd.exec
  have hby := Bd.bytes
  have hlk := Bd.notSynchronized
  have hml : c.maxLocals = 5 := hml0
  have hown : s.vm.findClass "com/example/coreloom/coreloom/Core" = some m.cls := findClass_of_methodNamed Bd.named
  have hnm := (name_of_methodNamed Bd.named Bd.method).1
  have X0 : Stand p l e ({ frames := 0, cells := 0, slots := 0, locals := 0 } : Room) s m #[(.ref a), (.int p1), (.int p2), (.int p3), (.int p4)] below meth c s₁ [] 0 0 := Stand.of_body Bd
  have e0 : s₁.heap = h0 := by rw [← hh, Bd.state]; rfl
  have N0 := Fr.nil n0
  show Go p e below (Kq s (Q3 Z a p1 p2 p3 p4 b1' b2' b3' f1 f2 f3 h0 n0) ({ frames := 0, cells := 0, slots := 0, locals := 0 } : Room).cells ({ frames := 0, cells := 0, slots := 0, locals := 0 } : Room).slots) _
  refine go (fun t kt => castTop (ef_rm3 m a p1 p2 p3 p4) kt) ?_
  have K0 := Keep.refl h0 [b1', b2', b3']
  obtain ⟨E_a, FF1, FF2, FF3, VV1, VV2, VV3, ⟨m1, m2, m3⟩, na1, na2, na3, n12, n13, n23⟩ := HC
  show Go p e below _ (s₁.setTop (mkF m 0 #[.val (.ref a), .val (.int p1), .val (.int p2), .val (.int p3), .val (.int p4)] []))
  refine go (fun t kt' => by refine XS.aloadN X0.here hx rfl (hb hby d3_0) rfl rfl ?_; exact kt') ?_
  show Go p e below _ (s₁.setTop (mkF m 1 #[.val (.ref a), .val (.int p1), .val (.int p2), .val (.int p3), .val (.int p4)] [(.ref a)]))
  obtain ⟨T1, X1, e1, st1⟩ := getF X0 hx hZ hown (host := "") (Or.inl (hw _ (List.mem_of_getElem? (i := 12) rfl))) Via.refl e0 FF1 (g := (mkF m 1 #[.val (.ref a), .val (.int p1), .val (.int p2), .val (.int p3), .val (.int p4)] [(.ref a)])) rfl rfl (hb hby d3_1)
  refine go st1 ?_
  show Go p e below _ (T1.setTop (mkF m 4 #[.val (.ref a), .val (.int p1), .val (.int p2), .val (.int p3), .val (.int p4)] [(.ref b1')]))
  refine go (fun t kt' => by refine XS.iloadN X1.here hx rfl (hb hby d3_4) rfl ?_; exact kt') ?_
  show Go p e below _ (T1.setTop (mkF m 5 #[.val (.ref a), .val (.int p1), .val (.int p2), .val (.int p3), .val (.int p4)] [(.int p1), (.ref b1')]))
  refine go (fun t kt' => by refine XS.iloadN X1.here hx rfl (hb hby d3_5) rfl ?_; exact kt') ?_
  show Go p e below _ (T1.setTop (mkF m 6 #[.val (.ref a), .val (.int p1), .val (.int p2), .val (.int p3), .val (.int p4)] [(.int p2), (.int p1), (.ref b1')]))
  obtain ⟨T2, h2, X2, e2, W2, V2, st2⟩ := stIA X1 hx hZ e1 VV1 (j := p1) (x := p2) hi (g := (mkF m 6 #[.val (.ref a), .val (.int p1), .val (.int p2), .val (.int p3), .val (.int p4)] [(.int p2), (.int p1), (.ref b1')])) rfl rfl (hb hby d3_6)
  have N2 := Fr.snoc X2 N0 m1
  have f3_Z := Nat.le_trans Z0 (Keep.of_wr W2).1
  have f4_K := K0.wr W2 (Or.inl (List.mem_of_getElem? (i := 0) rfl))
  have f5_E_a := E_a.wr W2
  have f6_F_a_opcodes := FF1.other W2 (Or.inl na1)
  have f7_A_b1_ := V2
  have f8_F_a_fieldsA := FF2.other W2 (Or.inl na1)
  have f9_A_b2_ := VV2.other W2 (Ne.symm n12)
  have f10_F_a_fieldsB := FF3.other W2 (Or.inl na1)
  have f11_A_b3_ := VV3.other W2 (Ne.symm n13)
  refine go st2 ?_
  show Go p e below _ (T2.setTop (mkF m 7 #[.val (.ref a), .val (.int p1), .val (.int p2), .val (.int p3), .val (.int p4)] []))
  refine go (fun t kt' => by refine XS.aloadN X2.here hx rfl (hb hby d3_7) rfl rfl ?_; exact kt') ?_
  show Go p e below _ (T2.setTop (mkF m 8 #[.val (.ref a), .val (.int p1), .val (.int p2), .val (.int p3), .val (.int p4)] [(.ref a)]))
  obtain ⟨T12, X12, e12, st12⟩ := getF X2 hx hZ hown (host := "") (Or.inl (hw _ (List.mem_of_getElem? (i := 14) rfl))) Via.refl e2 f8_F_a_fieldsA (g := (mkF m 8 #[.val (.ref a), .val (.int p1), .val (.int p2), .val (.int p3), .val (.int p4)] [(.ref a)])) rfl rfl (hb hby d3_8)
  refine go st12 ?_
  show Go p e below _ (T12.setTop (mkF m 11 #[.val (.ref a), .val (.int p1), .val (.int p2), .val (.int p3), .val (.int p4)] [(.ref b2')]))
  refine go (fun t kt' => by refine XS.iloadN X12.here hx rfl (hb hby d3_11) rfl ?_; exact kt') ?_
  show Go p e below _ (T12.setTop (mkF m 12 #[.val (.ref a), .val (.int p1), .val (.int p2), .val (.int p3), .val (.int p4)] [(.int p1), (.ref b2')]))
  refine go (fun t kt' => by refine XS.iloadN X12.here hx rfl (hb hby d3_12) rfl ?_; exact kt') ?_
  show Go p e below _ (T12.setTop (mkF m 13 #[.val (.ref a), .val (.int p1), .val (.int p2), .val (.int p3), .val (.int p4)] [(.int p3), (.int p1), (.ref b2')]))
  obtain ⟨T13, h13, X13, e13, W13, V13, st13⟩ := stIA X12 hx hZ e12 f9_A_b2_ (j := p1) (x := p3) hi (g := (mkF m 13 #[.val (.ref a), .val (.int p1), .val (.int p2), .val (.int p3), .val (.int p4)] [(.int p3), (.int p1), (.ref b2')])) rfl rfl (hb hby d3_13)
  have N13 := Fr.snoc X13 N2 m2
  have f14_Z := Nat.le_trans f3_Z (Keep.of_wr W13).1
  have f15_K := f4_K.wr W13 (Or.inl (List.mem_of_getElem? (i := 1) rfl))
  have f16_E_a := f5_E_a.wr W13
  have f17_F_a_opcodes := f6_F_a_opcodes.other W13 (Or.inl na2)
  have f18_A_b1_ := f7_A_b1_.other W13 n12
  have f19_F_a_fieldsA := f8_F_a_fieldsA.other W13 (Or.inl na2)
  have f20_A_b2_ := V13
  have f21_F_a_fieldsB := f10_F_a_fieldsB.other W13 (Or.inl na2)
  have f22_A_b3_ := f11_A_b3_.other W13 (Ne.symm n23)
  refine go st13 ?_
  show Go p e below _ (T13.setTop (mkF m 14 #[.val (.ref a), .val (.int p1), .val (.int p2), .val (.int p3), .val (.int p4)] []))
  refine go (fun t kt' => by refine XS.aloadN X13.here hx rfl (hb hby d3_14) rfl rfl ?_; exact kt') ?_
  show Go p e below _ (T13.setTop (mkF m 15 #[.val (.ref a), .val (.int p1), .val (.int p2), .val (.int p3), .val (.int p4)] [(.ref a)]))
  obtain ⟨T23, X23, e23, st23⟩ := getF X13 hx hZ hown (host := "") (Or.inl (hw _ (List.mem_of_getElem? (i := 16) rfl))) Via.refl e13 f21_F_a_fieldsB (g := (mkF m 15 #[.val (.ref a), .val (.int p1), .val (.int p2), .val (.int p3), .val (.int p4)] [(.ref a)])) rfl rfl (hb hby d3_15)
  refine go st23 ?_
  show Go p e below _ (T23.setTop (mkF m 18 #[.val (.ref a), .val (.int p1), .val (.int p2), .val (.int p3), .val (.int p4)] [(.ref b3')]))
  refine go (fun t kt' => by refine XS.iloadN X23.here hx rfl (hb hby d3_18) rfl ?_; exact kt') ?_
  show Go p e below _ (T23.setTop (mkF m 19 #[.val (.ref a), .val (.int p1), .val (.int p2), .val (.int p3), .val (.int p4)] [(.int p1), (.ref b3')]))
  refine go (fun t kt' => by refine XS.iload X23.here hx rfl (hb hby d3_19) rfl ?_; exact kt') ?_
  show Go p e below _ (T23.setTop (mkF m 21 #[.val (.ref a), .val (.int p1), .val (.int p2), .val (.int p3), .val (.int p4)] [(.int p4), (.int p1), (.ref b3')]))
  obtain ⟨T24, h24, X24, e24, W24, V24, st24⟩ := stIA X23 hx hZ e23 f22_A_b3_ (j := p1) (x := p4) hi (g := (mkF m 21 #[.val (.ref a), .val (.int p1), .val (.int p2), .val (.int p3), .val (.int p4)] [(.int p4), (.int p1), (.ref b3')])) rfl rfl (hb hby d3_21)
  have N24 := Fr.snoc X24 N13 m3
  have f25_Z := Nat.le_trans f14_Z (Keep.of_wr W24).1
  have f26_K := f15_K.wr W24 (Or.inl (List.mem_of_getElem? (i := 2) rfl))
  have f27_E_a := f16_E_a.wr W24
  have f28_F_a_opcodes := f17_F_a_opcodes.other W24 (Or.inl na3)
  have f29_A_b1_ := f18_A_b1_.other W24 n13
  have f30_F_a_fieldsA := f19_F_a_fieldsA.other W24 (Or.inl na3)
  have f31_A_b2_ := f20_A_b2_.other W24 n23
  have f32_F_a_fieldsB := f21_F_a_fieldsB.other W24 (Or.inl na3)
  have f33_A_b3_ := V24
  refine go st24 ?_
  show Go p e below _ (T24.setTop (mkF m 22 #[.val (.ref a), .val (.int p1), .val (.int p2), .val (.int p3), .val (.int p4)] []))
  refine goOut X24 (fun _ => rfl) hlk (fun fs hr => X24.returnOut hx Bd.returns (hb hby d3_22) hr) (by decide) (by decide) ?_
  rw [e24]
  exact ⟨rfl, N24, f26_K, f27_E_a, f28_F_a_opcodes, f30_F_a_fieldsA, f32_F_a_fieldsB, f29_A_b1_, f31_A_b2_, f33_A_b3_, ⟨m1, m2, m3⟩, na1, na2, na3, n12, n13, n23⟩
theorem d4_0 : decode prog_9_method_13_code 0 = .ok (.aload_n 0, 1) := by decide +kernel
theorem d4_1 : decode prog_9_method_13_code 1 = .ok (.getfield 22, 3) := by decide +kernel
theorem d4_4 : decode prog_9_method_13_code 4 = .ok (.iload_n 2, 1) := by decide +kernel
theorem d4_5 : decode prog_9_method_13_code 5 = .ok (.aload_n 0, 1) := by decide +kernel
theorem d4_6 : decode prog_9_method_13_code 6 = .ok (.getfield 22, 3) := by decide +kernel
theorem d4_9 : decode prog_9_method_13_code 9 = .ok (.iload_n 1, 1) := by decide +kernel
theorem d4_10 : decode prog_9_method_13_code 10 = .ok (.iaload, 1) := by decide +kernel
theorem d4_11 : decode prog_9_method_13_code 11 = .ok (.iastore, 1) := by decide +kernel
theorem d4_12 : decode prog_9_method_13_code 12 = .ok (.aload_n 0, 1) := by decide +kernel
theorem d4_13 : decode prog_9_method_13_code 13 = .ok (.getfield 26, 3) := by decide +kernel
theorem d4_16 : decode prog_9_method_13_code 16 = .ok (.iload_n 2, 1) := by decide +kernel
theorem d4_17 : decode prog_9_method_13_code 17 = .ok (.aload_n 0, 1) := by decide +kernel
theorem d4_18 : decode prog_9_method_13_code 18 = .ok (.getfield 26, 3) := by decide +kernel
theorem d4_21 : decode prog_9_method_13_code 21 = .ok (.iload_n 1, 1) := by decide +kernel
theorem d4_22 : decode prog_9_method_13_code 22 = .ok (.iaload, 1) := by decide +kernel
theorem d4_23 : decode prog_9_method_13_code 23 = .ok (.iastore, 1) := by decide +kernel
theorem d4_24 : decode prog_9_method_13_code 24 = .ok (.aload_n 0, 1) := by decide +kernel
theorem d4_25 : decode prog_9_method_13_code 25 = .ok (.getfield 29, 3) := by decide +kernel
theorem d4_28 : decode prog_9_method_13_code 28 = .ok (.iload_n 2, 1) := by decide +kernel
theorem d4_29 : decode prog_9_method_13_code 29 = .ok (.aload_n 0, 1) := by decide +kernel
theorem d4_30 : decode prog_9_method_13_code 30 = .ok (.getfield 29, 3) := by decide +kernel
theorem d4_33 : decode prog_9_method_13_code 33 = .ok (.iload_n 1, 1) := by decide +kernel
theorem d4_34 : decode prog_9_method_13_code 34 = .ok (.iaload, 1) := by decide +kernel
theorem d4_35 : decode prog_9_method_13_code 35 = .ok (.iastore, 1) := by decide +kernel
theorem d4_36 : decode prog_9_method_13_code 36 = .ok (.return_, 1) := by decide +kernel
theorem ef_rm4 (m : MethodId) (x0 : Addr) (x1 : Int32) (x2 : Int32) : entryFrame m #[(.ref x0), (.int x1), (.int x2)] 3 = mkF m 0 #[.val (.ref x0), .val (.int x1), .val (.int x2)] [] := by first | (simp [entryFrame, mkF, argsToLocals, Value.category]; done) | rfl
def Q4 (Z : State) (a : Addr) (p1 p2 : Int32) (b1' b2' b3' : Addr) (f1 f2 f3 : Nat → Int32) (h0 : Heap) (n0 : Nat) (v : Option Value) (h : Heap) (L : List Loc) : Prop := v = none ∧ Fr n0 L ∧ Keep h0 h [b1', b2', b3'] ∧ own_core Z n0 h a b1' b2' b3' (upI f1 (p2).toNatClampNeg (f1 (p1).toNatClampNeg)) (upI f2 (p2).toNatClampNeg (f2 (p1).toNatClampNeg)) (upI f3 (p2).toNatClampNeg (f3 (p1).toNatClampNeg))
set_option maxRecDepth 65536 in
set_option maxHeartbeats 40000000 in
theorem rm4 (l : Launch) (Z : State) (a0 : Array Value) (hw : ∀ d ∈ tables_1, d.before a0 Z = true) (ws : List Jvm.Cond) (a : Addr) (p1 : Int32) (p2 : Int32) (b1' b2' b3' : Addr) (f1 f2 f3 : Nat → Int32) (h0 : Heap) (n0 : Nat) (Z0 : n0 ≤ h0.size) (HC : own_core Z n0 h0 a b1' b2' b3' f1 f2 f3) (hi1 : 0 ≤ p1.toInt ∧ p1.toInt < (16 : Nat)) (hi2 : 0 ≤ p2.toInt ∧ p2.toInt < (16 : Nat)) :
    MetFree l (⟨"com/example/coreloom/coreloom/Core", "copy", "(II)V"⟩ : MethodName) (head1 (Jvm.Cond.code (⟨"com/example/coreloom/coreloom/Core", "copy", "(II)V"⟩ : MethodName) prog_9_method_13_code 3 none :: ws) ({ frames := 0, cells := 0, slots := 0, locals := 0 } : Room)) (fun av' U => av' = #[(.ref a), (.int p1), (.int p2)] ∧ Z.Warmed39 U.vm ∧ U.heap = h0) (fun _ _ _ _ _ => True) (fun _ U o U' => ∃ v L, o = .returned v ∧ Q4 Z a p1 p2 b1' b2' b3' f1 f2 f3 h0 n0 v U'.heap L ∧ FrameEnd U o U' L ({ frames := 0, cells := 0, slots := 0, locals := 0 } : Room).cells ({ frames := 0, cells := 0, slots := 0, locals := 0 } : Room).slots) := by
  refine MetFree.of_bodySF (plainFor_of_name pn_com_example_coreloom_coreloom_Core) hisR ?_
  intro p e s m args below meth c s₁ Bd hml0 hP hK
  obtain ⟨rfl, hZ, hh⟩ := hP
  have hx := Bd.exec
  have hby := Bd.bytes
  have hlk := Bd.notSynchronized
  have hml : c.maxLocals = 3 := hml0
  have hown : s.vm.findClass "com/example/coreloom/coreloom/Core" = some m.cls := findClass_of_methodNamed Bd.named
  have hnm := (name_of_methodNamed Bd.named Bd.method).1
  have X0 : Stand p l e ({ frames := 0, cells := 0, slots := 0, locals := 0 } : Room) s m #[(.ref a), (.int p1), (.int p2)] below meth c s₁ [] 0 0 := Stand.of_body Bd
  have e0 : s₁.heap = h0 := by rw [← hh, Bd.state]; rfl
  have N0 := Fr.nil n0
  show Go p e below (Kq s (Q4 Z a p1 p2 b1' b2' b3' f1 f2 f3 h0 n0) ({ frames := 0, cells := 0, slots := 0, locals := 0 } : Room).cells ({ frames := 0, cells := 0, slots := 0, locals := 0 } : Room).slots) _
  refine go (fun t kt => castTop (ef_rm4 m a p1 p2) kt) ?_
  have K0 := Keep.refl h0 [b1', b2', b3']
  obtain ⟨E_a, FF1, FF2, FF3, VV1, VV2, VV3, ⟨m1, m2, m3⟩, na1, na2, na3, n12, n13, n23⟩ := HC
  show Go p e below _ (s₁.setTop (mkF m 0 #[.val (.ref a), .val (.int p1), .val (.int p2)] []))
  refine go (fun t kt' => by refine XS.aloadN X0.here hx rfl (hb hby d4_0) rfl rfl ?_; exact kt') ?_
  show Go p e below _ (s₁.setTop (mkF m 1 #[.val (.ref a), .val (.int p1), .val (.int p2)] [(.ref a)]))
  obtain ⟨T1, X1, e1, st1⟩ := getF X0 hx hZ hown (host := "") (Or.inl (hw _ (List.mem_of_getElem? (i := 12) rfl))) Via.refl e0 FF1 (g := (mkF m 1 #[.val (.ref a), .val (.int p1), .val (.int p2)] [(.ref a)])) rfl rfl (hb hby d4_1)
  refine go st1 ?_
  show Go p e below _ (T1.setTop (mkF m 4 #[.val (.ref a), .val (.int p1), .val (.int p2)] [(.ref b1')]))
  refine go (fun t kt' => by refine XS.iloadN X1.here hx rfl (hb hby d4_4) rfl ?_; exact kt') ?_
  show Go p e below _ (T1.setTop (mkF m 5 #[.val (.ref a), .val (.int p1), .val (.int p2)] [(.int p2), (.ref b1')]))
  refine go (fun t kt' => by refine XS.aloadN X1.here hx rfl (hb hby d4_5) rfl rfl ?_; exact kt') ?_
  show Go p e below _ (T1.setTop (mkF m 6 #[.val (.ref a), .val (.int p1), .val (.int p2)] [(.ref a), (.int p2), (.ref b1')]))
  obtain ⟨T2, X2, e2, st2⟩ := getF X1 hx hZ hown (host := "") (Or.inl (hw _ (List.mem_of_getElem? (i := 12) rfl))) Via.refl e1 FF1 (g := (mkF m 6 #[.val (.ref a), .val (.int p1), .val (.int p2)] [(.ref a), (.int p2), (.ref b1')])) rfl rfl (hb hby d4_6)
  refine go st2 ?_
  show Go p e below _ (T2.setTop (mkF m 9 #[.val (.ref a), .val (.int p1), .val (.int p2)] [(.ref b1'), (.int p2), (.ref b1')]))
  refine go (fun t kt' => by refine XS.iloadN X2.here hx rfl (hb hby d4_9) rfl ?_; exact kt') ?_
  show Go p e below _ (T2.setTop (mkF m 10 #[.val (.ref a), .val (.int p1), .val (.int p2)] [(.int p1), (.ref b1'), (.int p2), (.ref b1')]))
  refine go (fun t kt' => by refine ldIA X2 hx hZ e2 VV1 (j := p1) hi1 (g := (mkF m 10 #[.val (.ref a), .val (.int p1), .val (.int p2)] [(.int p1), (.ref b1'), (.int p2), (.ref b1')])) rfl rfl (hb hby d4_10) t ?_; exact kt') ?_
  show Go p e below _ (T2.setTop (mkF m 11 #[.val (.ref a), .val (.int p1), .val (.int p2)] [(.int (f1 (p1).toNatClampNeg)), (.int p2), (.ref b1')]))
  obtain ⟨T3, h3, X3, e3, W3, V3, st3⟩ := stIA X2 hx hZ e2 VV1 (j := p2) (x := (f1 (p1).toNatClampNeg)) hi2 (g := (mkF m 11 #[.val (.ref a), .val (.int p1), .val (.int p2)] [(.int (f1 (p1).toNatClampNeg)), (.int p2), (.ref b1')])) rfl rfl (hb hby d4_11)
  have N3 := Fr.snoc X3 N0 m1
  have f4_Z := Nat.le_trans Z0 (Keep.of_wr W3).1
  have f5_K := K0.wr W3 (Or.inl (List.mem_of_getElem? (i := 0) rfl))
  have f6_E_a := E_a.wr W3
  have f7_F_a_opcodes := FF1.other W3 (Or.inl na1)
  have f8_A_b1_ := V3
  have f9_F_a_fieldsA := FF2.other W3 (Or.inl na1)
  have f10_A_b2_ := VV2.other W3 (Ne.symm n12)
  have f11_F_a_fieldsB := FF3.other W3 (Or.inl na1)
  have f12_A_b3_ := VV3.other W3 (Ne.symm n13)
  refine go st3 ?_
  show Go p e below _ (T3.setTop (mkF m 12 #[.val (.ref a), .val (.int p1), .val (.int p2)] []))
  refine go (fun t kt' => by refine XS.aloadN X3.here hx rfl (hb hby d4_12) rfl rfl ?_; exact kt') ?_
  show Go p e below _ (T3.setTop (mkF m 13 #[.val (.ref a), .val (.int p1), .val (.int p2)] [(.ref a)]))
  obtain ⟨T13, X13, e13, st13⟩ := getF X3 hx hZ hown (host := "") (Or.inl (hw _ (List.mem_of_getElem? (i := 14) rfl))) Via.refl e3 f9_F_a_fieldsA (g := (mkF m 13 #[.val (.ref a), .val (.int p1), .val (.int p2)] [(.ref a)])) rfl rfl (hb hby d4_13)
  refine go st13 ?_
  show Go p e below _ (T13.setTop (mkF m 16 #[.val (.ref a), .val (.int p1), .val (.int p2)] [(.ref b2')]))
  refine go (fun t kt' => by refine XS.iloadN X13.here hx rfl (hb hby d4_16) rfl ?_; exact kt') ?_
  show Go p e below _ (T13.setTop (mkF m 17 #[.val (.ref a), .val (.int p1), .val (.int p2)] [(.int p2), (.ref b2')]))
  refine go (fun t kt' => by refine XS.aloadN X13.here hx rfl (hb hby d4_17) rfl rfl ?_; exact kt') ?_
  show Go p e below _ (T13.setTop (mkF m 18 #[.val (.ref a), .val (.int p1), .val (.int p2)] [(.ref a), (.int p2), (.ref b2')]))
  obtain ⟨T14, X14, e14, st14⟩ := getF X13 hx hZ hown (host := "") (Or.inl (hw _ (List.mem_of_getElem? (i := 14) rfl))) Via.refl e13 f9_F_a_fieldsA (g := (mkF m 18 #[.val (.ref a), .val (.int p1), .val (.int p2)] [(.ref a), (.int p2), (.ref b2')])) rfl rfl (hb hby d4_18)
  refine go st14 ?_
  show Go p e below _ (T14.setTop (mkF m 21 #[.val (.ref a), .val (.int p1), .val (.int p2)] [(.ref b2'), (.int p2), (.ref b2')]))
  refine go (fun t kt' => by refine XS.iloadN X14.here hx rfl (hb hby d4_21) rfl ?_; exact kt') ?_
  show Go p e below _ (T14.setTop (mkF m 22 #[.val (.ref a), .val (.int p1), .val (.int p2)] [(.int p1), (.ref b2'), (.int p2), (.ref b2')]))
  refine go (fun t kt' => by refine ldIA X14 hx hZ e14 f10_A_b2_ (j := p1) hi1 (g := (mkF m 22 #[.val (.ref a), .val (.int p1), .val (.int p2)] [(.int p1), (.ref b2'), (.int p2), (.ref b2')])) rfl rfl (hb hby d4_22) t ?_; exact kt') ?_
  show Go p e below _ (T14.setTop (mkF m 23 #[.val (.ref a), .val (.int p1), .val (.int p2)] [(.int (f2 (p1).toNatClampNeg)), (.int p2), (.ref b2')]))
  obtain ⟨T15, h15, X15, e15, W15, V15, st15⟩ := stIA X14 hx hZ e14 f10_A_b2_ (j := p2) (x := (f2 (p1).toNatClampNeg)) hi2 (g := (mkF m 23 #[.val (.ref a), .val (.int p1), .val (.int p2)] [(.int (f2 (p1).toNatClampNeg)), (.int p2), (.ref b2')])) rfl rfl (hb hby d4_23)
  have N15 := Fr.snoc X15 N3 m2
  have f16_Z := Nat.le_trans f4_Z (Keep.of_wr W15).1
  have f17_K := f5_K.wr W15 (Or.inl (List.mem_of_getElem? (i := 1) rfl))
  have f18_E_a := f6_E_a.wr W15
  have f19_F_a_opcodes := f7_F_a_opcodes.other W15 (Or.inl na2)
  have f20_A_b1_ := f8_A_b1_.other W15 n12
  have f21_F_a_fieldsA := f9_F_a_fieldsA.other W15 (Or.inl na2)
  have f22_A_b2_ := V15
  have f23_F_a_fieldsB := f11_F_a_fieldsB.other W15 (Or.inl na2)
  have f24_A_b3_ := f12_A_b3_.other W15 (Ne.symm n23)
  refine go st15 ?_
  show Go p e below _ (T15.setTop (mkF m 24 #[.val (.ref a), .val (.int p1), .val (.int p2)] []))
  refine go (fun t kt' => by refine XS.aloadN X15.here hx rfl (hb hby d4_24) rfl rfl ?_; exact kt') ?_
  show Go p e below _ (T15.setTop (mkF m 25 #[.val (.ref a), .val (.int p1), .val (.int p2)] [(.ref a)]))
  obtain ⟨T25, X25, e25, st25⟩ := getF X15 hx hZ hown (host := "") (Or.inl (hw _ (List.mem_of_getElem? (i := 16) rfl))) Via.refl e15 f23_F_a_fieldsB (g := (mkF m 25 #[.val (.ref a), .val (.int p1), .val (.int p2)] [(.ref a)])) rfl rfl (hb hby d4_25)
  refine go st25 ?_
  show Go p e below _ (T25.setTop (mkF m 28 #[.val (.ref a), .val (.int p1), .val (.int p2)] [(.ref b3')]))
  refine go (fun t kt' => by refine XS.iloadN X25.here hx rfl (hb hby d4_28) rfl ?_; exact kt') ?_
  show Go p e below _ (T25.setTop (mkF m 29 #[.val (.ref a), .val (.int p1), .val (.int p2)] [(.int p2), (.ref b3')]))
  refine go (fun t kt' => by refine XS.aloadN X25.here hx rfl (hb hby d4_29) rfl rfl ?_; exact kt') ?_
  show Go p e below _ (T25.setTop (mkF m 30 #[.val (.ref a), .val (.int p1), .val (.int p2)] [(.ref a), (.int p2), (.ref b3')]))
  obtain ⟨T26, X26, e26, st26⟩ := getF X25 hx hZ hown (host := "") (Or.inl (hw _ (List.mem_of_getElem? (i := 16) rfl))) Via.refl e25 f23_F_a_fieldsB (g := (mkF m 30 #[.val (.ref a), .val (.int p1), .val (.int p2)] [(.ref a), (.int p2), (.ref b3')])) rfl rfl (hb hby d4_30)
  refine go st26 ?_
  show Go p e below _ (T26.setTop (mkF m 33 #[.val (.ref a), .val (.int p1), .val (.int p2)] [(.ref b3'), (.int p2), (.ref b3')]))
  refine go (fun t kt' => by refine XS.iloadN X26.here hx rfl (hb hby d4_33) rfl ?_; exact kt') ?_
  show Go p e below _ (T26.setTop (mkF m 34 #[.val (.ref a), .val (.int p1), .val (.int p2)] [(.int p1), (.ref b3'), (.int p2), (.ref b3')]))
  refine go (fun t kt' => by refine ldIA X26 hx hZ e26 f24_A_b3_ (j := p1) hi1 (g := (mkF m 34 #[.val (.ref a), .val (.int p1), .val (.int p2)] [(.int p1), (.ref b3'), (.int p2), (.ref b3')])) rfl rfl (hb hby d4_34) t ?_; exact kt') ?_
  show Go p e below _ (T26.setTop (mkF m 35 #[.val (.ref a), .val (.int p1), .val (.int p2)] [(.int (f3 (p1).toNatClampNeg)), (.int p2), (.ref b3')]))
  obtain ⟨T27, h27, X27, e27, W27, V27, st27⟩ := stIA X26 hx hZ e26 f24_A_b3_ (j := p2) (x := (f3 (p1).toNatClampNeg)) hi2 (g := (mkF m 35 #[.val (.ref a), .val (.int p1), .val (.int p2)] [(.int (f3 (p1).toNatClampNeg)), (.int p2), (.ref b3')])) rfl rfl (hb hby d4_35)
  have N27 := Fr.snoc X27 N15 m3
  have f28_Z := Nat.le_trans f16_Z (Keep.of_wr W27).1
  have f29_K := f17_K.wr W27 (Or.inl (List.mem_of_getElem? (i := 2) rfl))
  have f30_E_a := f18_E_a.wr W27
  have f31_F_a_opcodes := f19_F_a_opcodes.other W27 (Or.inl na3)
  have f32_A_b1_ := f20_A_b1_.other W27 n13
  have f33_F_a_fieldsA := f21_F_a_fieldsA.other W27 (Or.inl na3)
  have f34_A_b2_ := f22_A_b2_.other W27 n23
  have f35_F_a_fieldsB := f23_F_a_fieldsB.other W27 (Or.inl na3)
  have f36_A_b3_ := V27
  refine go st27 ?_
  show Go p e below _ (T27.setTop (mkF m 36 #[.val (.ref a), .val (.int p1), .val (.int p2)] []))
  refine goOut X27 (fun _ => rfl) hlk (fun fs hr => X27.returnOut hx Bd.returns (hb hby d4_36) hr) (by decide) (by decide) ?_
  rw [e27]
  exact ⟨rfl, N27, f29_K, f30_E_a, f31_F_a_opcodes, f33_F_a_fieldsA, f35_F_a_fieldsB, f32_A_b1_, f34_A_b2_, f36_A_b3_, ⟨m1, m2, m3⟩, na1, na2, na3, n12, n13, n23⟩
theorem d5_0 : decode prog_9_method_6_code 0 = .ok (.aload_n 0, 1) := by decide +kernel
theorem d5_1 : decode prog_9_method_6_code 1 = .ok (.getfield 22, 3) := by decide +kernel
theorem d5_4 : decode prog_9_method_6_code 4 = .ok (.iload_n 1, 1) := by decide +kernel
theorem d5_5 : decode prog_9_method_6_code 5 = .ok (.iaload, 1) := by decide +kernel
theorem d5_6 : decode prog_9_method_6_code 6 = .ok (.ireturn, 1) := by decide +kernel
theorem ef_rm5 (m : MethodId) (x0 : Addr) (x1 : Int32) : entryFrame m #[(.ref x0), (.int x1)] 2 = mkF m 0 #[.val (.ref x0), .val (.int x1)] [] := by first | (simp [entryFrame, mkF, argsToLocals, Value.category]; done) | rfl
def Q5 (Z : State) (p1 : Int32) (f : Nat → Int32) (h0 : Heap) (n0 : Nat) (v : Option Value) (h : Heap) (L : List Loc) : Prop := v = some (.int (f (p1).toNatClampNeg)) ∧ Fr n0 L ∧ h = h0
set_option maxRecDepth 65536 in
set_option maxHeartbeats 40000000 in
theorem rm5 (l : Launch) (Z : State) (a0 : Array Value) (hw : ∀ d ∈ tables_1, d.before a0 Z = true) (ws : List Jvm.Cond) (a : Addr) (p1 : Int32) (b1' b2' b3' : Addr) (f1 f2 f3 : Nat → Int32) (h0 : Heap) (n0 : Nat) (Z0 : n0 ≤ h0.size) (HC : own_core Z n0 h0 a b1' b2' b3' f1 f2 f3) (hi : 0 ≤ p1.toInt ∧ p1.toInt < (16 : Nat)) :
    MetFree l (⟨"com/example/coreloom/coreloom/Core", "opcode", "(I)I"⟩ : MethodName) (head1 (Jvm.Cond.code (⟨"com/example/coreloom/coreloom/Core", "opcode", "(I)I"⟩ : MethodName) prog_9_method_6_code 2 (some .int) :: ws) ({ frames := 0, cells := 0, slots := 0, locals := 0 } : Room)) (fun av' U => av' = #[(.ref a), (.int p1)] ∧ Z.Warmed39 U.vm ∧ U.heap = h0) (fun _ _ _ _ _ => True) (fun _ U o U' => ∃ v L, o = .returned v ∧ Q5 Z p1 f1 h0 n0 v U'.heap L ∧ FrameEnd U o U' L ({ frames := 0, cells := 0, slots := 0, locals := 0 } : Room).cells ({ frames := 0, cells := 0, slots := 0, locals := 0 } : Room).slots) := by
  refine MetFree.of_bodySF (plainFor_of_name pn_com_example_coreloom_coreloom_Core) hisR ?_
  intro p e s m args below meth c s₁ Bd hml0 hP hK
  obtain ⟨rfl, hZ, hh⟩ := hP
  have hx := Bd.exec
  have hby := Bd.bytes
  have hlk := Bd.notSynchronized
  have hml : c.maxLocals = 2 := hml0
  have hown : s.vm.findClass "com/example/coreloom/coreloom/Core" = some m.cls := findClass_of_methodNamed Bd.named
  have hnm := (name_of_methodNamed Bd.named Bd.method).1
  have X0 : Stand p l e ({ frames := 0, cells := 0, slots := 0, locals := 0 } : Room) s m #[(.ref a), (.int p1)] below meth c s₁ [] 0 0 := Stand.of_body Bd
  have e0 : s₁.heap = h0 := by rw [← hh, Bd.state]; rfl
  have N0 := Fr.nil n0
  show Go p e below (Kq s (Q5 Z p1 f1 h0 n0) ({ frames := 0, cells := 0, slots := 0, locals := 0 } : Room).cells ({ frames := 0, cells := 0, slots := 0, locals := 0 } : Room).slots) _
  refine go (fun t kt => castTop (ef_rm5 m a p1) kt) ?_
  obtain ⟨E_a, FF1, FF2, FF3, VV1, VV2, VV3, ⟨m1, m2, m3⟩, na1, na2, na3, n12, n13, n23⟩ := HC
  show Go p e below _ (s₁.setTop (mkF m 0 #[.val (.ref a), .val (.int p1)] []))
  refine go (fun t kt' => by refine XS.aloadN X0.here hx rfl (hb hby d5_0) rfl rfl ?_; exact kt') ?_
  show Go p e below _ (s₁.setTop (mkF m 1 #[.val (.ref a), .val (.int p1)] [(.ref a)]))
  obtain ⟨T1, X1, e1, st1⟩ := getF X0 hx hZ hown (host := "") (Or.inl (hw _ (List.mem_of_getElem? (i := 12) rfl))) Via.refl e0 FF1 (g := (mkF m 1 #[.val (.ref a), .val (.int p1)] [(.ref a)])) rfl rfl (hb hby d5_1)
  refine go st1 ?_
  show Go p e below _ (T1.setTop (mkF m 4 #[.val (.ref a), .val (.int p1)] [(.ref b1')]))
  refine go (fun t kt' => by refine XS.iloadN X1.here hx rfl (hb hby d5_4) rfl ?_; exact kt') ?_
  show Go p e below _ (T1.setTop (mkF m 5 #[.val (.ref a), .val (.int p1)] [(.int p1), (.ref b1')]))
  refine go (fun t kt' => by refine ldIA X1 hx hZ e1 VV1 (j := p1) hi (g := (mkF m 5 #[.val (.ref a), .val (.int p1)] [(.int p1), (.ref b1')])) rfl rfl (hb hby d5_5) t ?_; exact kt') ?_
  show Go p e below _ (T1.setTop (mkF m 6 #[.val (.ref a), .val (.int p1)] [(.int (f1 (p1).toNatClampNeg))]))
  refine goOut X1 (fun h => by rw [Bd.returns] at h; cases h) hlk (fun fs hr => retOut X1 hx Bd.returns rfl (Or.inl ⟨rfl, Or.inl rfl, _, rfl⟩) (hb hby d5_6) hr) (by decide) (by decide) ?_
  rw [e1]
  exact ⟨rfl, N0, rfl⟩
theorem d6_0 : decode prog_9_method_7_code 0 = .ok (.aload_n 0, 1) := by decide +kernel
theorem d6_1 : decode prog_9_method_7_code 1 = .ok (.getfield 26, 3) := by decide +kernel
theorem d6_4 : decode prog_9_method_7_code 4 = .ok (.iload_n 1, 1) := by decide +kernel
theorem d6_5 : decode prog_9_method_7_code 5 = .ok (.iaload, 1) := by decide +kernel
theorem d6_6 : decode prog_9_method_7_code 6 = .ok (.ireturn, 1) := by decide +kernel
theorem ef_rm6 (m : MethodId) (x0 : Addr) (x1 : Int32) : entryFrame m #[(.ref x0), (.int x1)] 2 = mkF m 0 #[.val (.ref x0), .val (.int x1)] [] := by first | (simp [entryFrame, mkF, argsToLocals, Value.category]; done) | rfl
def Q6 (Z : State) (p1 : Int32) (f : Nat → Int32) (h0 : Heap) (n0 : Nat) (v : Option Value) (h : Heap) (L : List Loc) : Prop := v = some (.int (f (p1).toNatClampNeg)) ∧ Fr n0 L ∧ h = h0
set_option maxRecDepth 65536 in
set_option maxHeartbeats 40000000 in
theorem rm6 (l : Launch) (Z : State) (a0 : Array Value) (hw : ∀ d ∈ tables_1, d.before a0 Z = true) (ws : List Jvm.Cond) (a : Addr) (p1 : Int32) (b1' b2' b3' : Addr) (f1 f2 f3 : Nat → Int32) (h0 : Heap) (n0 : Nat) (Z0 : n0 ≤ h0.size) (HC : own_core Z n0 h0 a b1' b2' b3' f1 f2 f3) (hi : 0 ≤ p1.toInt ∧ p1.toInt < (16 : Nat)) :
    MetFree l (⟨"com/example/coreloom/coreloom/Core", "fieldA", "(I)I"⟩ : MethodName) (head1 (Jvm.Cond.code (⟨"com/example/coreloom/coreloom/Core", "fieldA", "(I)I"⟩ : MethodName) prog_9_method_7_code 2 (some .int) :: ws) ({ frames := 0, cells := 0, slots := 0, locals := 0 } : Room)) (fun av' U => av' = #[(.ref a), (.int p1)] ∧ Z.Warmed39 U.vm ∧ U.heap = h0) (fun _ _ _ _ _ => True) (fun _ U o U' => ∃ v L, o = .returned v ∧ Q6 Z p1 f2 h0 n0 v U'.heap L ∧ FrameEnd U o U' L ({ frames := 0, cells := 0, slots := 0, locals := 0 } : Room).cells ({ frames := 0, cells := 0, slots := 0, locals := 0 } : Room).slots) := by
  refine MetFree.of_bodySF (plainFor_of_name pn_com_example_coreloom_coreloom_Core) hisR ?_
  intro p e s m args below meth c s₁ Bd hml0 hP hK
  obtain ⟨rfl, hZ, hh⟩ := hP
  have hx := Bd.exec
  have hby := Bd.bytes
  have hlk := Bd.notSynchronized
  have hml : c.maxLocals = 2 := hml0
  have hown : s.vm.findClass "com/example/coreloom/coreloom/Core" = some m.cls := findClass_of_methodNamed Bd.named
  have hnm := (name_of_methodNamed Bd.named Bd.method).1
  have X0 : Stand p l e ({ frames := 0, cells := 0, slots := 0, locals := 0 } : Room) s m #[(.ref a), (.int p1)] below meth c s₁ [] 0 0 := Stand.of_body Bd
  have e0 : s₁.heap = h0 := by rw [← hh, Bd.state]; rfl
  have N0 := Fr.nil n0
  show Go p e below (Kq s (Q6 Z p1 f2 h0 n0) ({ frames := 0, cells := 0, slots := 0, locals := 0 } : Room).cells ({ frames := 0, cells := 0, slots := 0, locals := 0 } : Room).slots) _
  refine go (fun t kt => castTop (ef_rm6 m a p1) kt) ?_
  obtain ⟨E_a, FF1, FF2, FF3, VV1, VV2, VV3, ⟨m1, m2, m3⟩, na1, na2, na3, n12, n13, n23⟩ := HC
  show Go p e below _ (s₁.setTop (mkF m 0 #[.val (.ref a), .val (.int p1)] []))
  refine go (fun t kt' => by refine XS.aloadN X0.here hx rfl (hb hby d6_0) rfl rfl ?_; exact kt') ?_
  show Go p e below _ (s₁.setTop (mkF m 1 #[.val (.ref a), .val (.int p1)] [(.ref a)]))
  obtain ⟨T1, X1, e1, st1⟩ := getF X0 hx hZ hown (host := "") (Or.inl (hw _ (List.mem_of_getElem? (i := 14) rfl))) Via.refl e0 FF2 (g := (mkF m 1 #[.val (.ref a), .val (.int p1)] [(.ref a)])) rfl rfl (hb hby d6_1)
  refine go st1 ?_
  show Go p e below _ (T1.setTop (mkF m 4 #[.val (.ref a), .val (.int p1)] [(.ref b2')]))
  refine go (fun t kt' => by refine XS.iloadN X1.here hx rfl (hb hby d6_4) rfl ?_; exact kt') ?_
  show Go p e below _ (T1.setTop (mkF m 5 #[.val (.ref a), .val (.int p1)] [(.int p1), (.ref b2')]))
  refine go (fun t kt' => by refine ldIA X1 hx hZ e1 VV2 (j := p1) hi (g := (mkF m 5 #[.val (.ref a), .val (.int p1)] [(.int p1), (.ref b2')])) rfl rfl (hb hby d6_5) t ?_; exact kt') ?_
  show Go p e below _ (T1.setTop (mkF m 6 #[.val (.ref a), .val (.int p1)] [(.int (f2 (p1).toNatClampNeg))]))
  refine goOut X1 (fun h => by rw [Bd.returns] at h; cases h) hlk (fun fs hr => retOut X1 hx Bd.returns rfl (Or.inl ⟨rfl, Or.inl rfl, _, rfl⟩) (hb hby d6_6) hr) (by decide) (by decide) ?_
  rw [e1]
  exact ⟨rfl, N0, rfl⟩
theorem d7_0 : decode prog_9_method_8_code 0 = .ok (.aload_n 0, 1) := by decide +kernel
theorem d7_1 : decode prog_9_method_8_code 1 = .ok (.getfield 29, 3) := by decide +kernel
theorem d7_4 : decode prog_9_method_8_code 4 = .ok (.iload_n 1, 1) := by decide +kernel
theorem d7_5 : decode prog_9_method_8_code 5 = .ok (.iaload, 1) := by decide +kernel
theorem d7_6 : decode prog_9_method_8_code 6 = .ok (.ireturn, 1) := by decide +kernel
theorem ef_rm7 (m : MethodId) (x0 : Addr) (x1 : Int32) : entryFrame m #[(.ref x0), (.int x1)] 2 = mkF m 0 #[.val (.ref x0), .val (.int x1)] [] := by first | (simp [entryFrame, mkF, argsToLocals, Value.category]; done) | rfl
def Q7 (Z : State) (p1 : Int32) (f : Nat → Int32) (h0 : Heap) (n0 : Nat) (v : Option Value) (h : Heap) (L : List Loc) : Prop := v = some (.int (f (p1).toNatClampNeg)) ∧ Fr n0 L ∧ h = h0
set_option maxRecDepth 65536 in
set_option maxHeartbeats 40000000 in
theorem rm7 (l : Launch) (Z : State) (a0 : Array Value) (hw : ∀ d ∈ tables_1, d.before a0 Z = true) (ws : List Jvm.Cond) (a : Addr) (p1 : Int32) (b1' b2' b3' : Addr) (f1 f2 f3 : Nat → Int32) (h0 : Heap) (n0 : Nat) (Z0 : n0 ≤ h0.size) (HC : own_core Z n0 h0 a b1' b2' b3' f1 f2 f3) (hi : 0 ≤ p1.toInt ∧ p1.toInt < (16 : Nat)) :
    MetFree l (⟨"com/example/coreloom/coreloom/Core", "fieldB", "(I)I"⟩ : MethodName) (head1 (Jvm.Cond.code (⟨"com/example/coreloom/coreloom/Core", "fieldB", "(I)I"⟩ : MethodName) prog_9_method_8_code 2 (some .int) :: ws) ({ frames := 0, cells := 0, slots := 0, locals := 0 } : Room)) (fun av' U => av' = #[(.ref a), (.int p1)] ∧ Z.Warmed39 U.vm ∧ U.heap = h0) (fun _ _ _ _ _ => True) (fun _ U o U' => ∃ v L, o = .returned v ∧ Q7 Z p1 f3 h0 n0 v U'.heap L ∧ FrameEnd U o U' L ({ frames := 0, cells := 0, slots := 0, locals := 0 } : Room).cells ({ frames := 0, cells := 0, slots := 0, locals := 0 } : Room).slots) := by
  refine MetFree.of_bodySF (plainFor_of_name pn_com_example_coreloom_coreloom_Core) hisR ?_
  intro p e s m args below meth c s₁ Bd hml0 hP hK
  obtain ⟨rfl, hZ, hh⟩ := hP
  have hx := Bd.exec
  have hby := Bd.bytes
  have hlk := Bd.notSynchronized
  have hml : c.maxLocals = 2 := hml0
  have hown : s.vm.findClass "com/example/coreloom/coreloom/Core" = some m.cls := findClass_of_methodNamed Bd.named
  have hnm := (name_of_methodNamed Bd.named Bd.method).1
  have X0 : Stand p l e ({ frames := 0, cells := 0, slots := 0, locals := 0 } : Room) s m #[(.ref a), (.int p1)] below meth c s₁ [] 0 0 := Stand.of_body Bd
  have e0 : s₁.heap = h0 := by rw [← hh, Bd.state]; rfl
  have N0 := Fr.nil n0
  show Go p e below (Kq s (Q7 Z p1 f3 h0 n0) ({ frames := 0, cells := 0, slots := 0, locals := 0 } : Room).cells ({ frames := 0, cells := 0, slots := 0, locals := 0 } : Room).slots) _
  refine go (fun t kt => castTop (ef_rm7 m a p1) kt) ?_
  obtain ⟨E_a, FF1, FF2, FF3, VV1, VV2, VV3, ⟨m1, m2, m3⟩, na1, na2, na3, n12, n13, n23⟩ := HC
  show Go p e below _ (s₁.setTop (mkF m 0 #[.val (.ref a), .val (.int p1)] []))
  refine go (fun t kt' => by refine XS.aloadN X0.here hx rfl (hb hby d7_0) rfl rfl ?_; exact kt') ?_
  show Go p e below _ (s₁.setTop (mkF m 1 #[.val (.ref a), .val (.int p1)] [(.ref a)]))
  obtain ⟨T1, X1, e1, st1⟩ := getF X0 hx hZ hown (host := "") (Or.inl (hw _ (List.mem_of_getElem? (i := 16) rfl))) Via.refl e0 FF3 (g := (mkF m 1 #[.val (.ref a), .val (.int p1)] [(.ref a)])) rfl rfl (hb hby d7_1)
  refine go st1 ?_
  show Go p e below _ (T1.setTop (mkF m 4 #[.val (.ref a), .val (.int p1)] [(.ref b3')]))
  refine go (fun t kt' => by refine XS.iloadN X1.here hx rfl (hb hby d7_4) rfl ?_; exact kt') ?_
  show Go p e below _ (T1.setTop (mkF m 5 #[.val (.ref a), .val (.int p1)] [(.int p1), (.ref b3')]))
  refine go (fun t kt' => by refine ldIA X1 hx hZ e1 VV3 (j := p1) hi (g := (mkF m 5 #[.val (.ref a), .val (.int p1)] [(.int p1), (.ref b3')])) rfl rfl (hb hby d7_5) t ?_; exact kt') ?_
  show Go p e below _ (T1.setTop (mkF m 6 #[.val (.ref a), .val (.int p1)] [(.int (f3 (p1).toNatClampNeg))]))
  refine goOut X1 (fun h => by rw [Bd.returns] at h; cases h) hlk (fun fs hr => retOut X1 hx Bd.returns rfl (Or.inl ⟨rfl, Or.inl rfl, _, rfl⟩) (hb hby d7_6) hr) (by decide) (by decide) ?_
  rw [e1]
  exact ⟨rfl, N0, rfl⟩
theorem own_r (t : Int32) : 0 ≤ (t &&& (15 : Int32)).toInt ∧ (t &&& (15 : Int32)).toInt < (16 : Nat) := by
  have h : (t &&& (15 : Int32)).toInt = t.toInt % (2 ^ 4 : Nat) := c_mask t 15 4 (by decide) (by decide)
  omega
theorem own_ne (a b : Int32) (ha : 0 ≤ a.toInt ∧ a.toInt < (16 : Nat)) (hb : 0 ≤ b.toInt ∧ b.toInt < (16 : Nat)) (h : ¬ a = b) : a.toNatClampNeg ≠ b.toNatClampNeg := by
  intro q
  have e0 : (0 : Int32).toInt = 0 := rfl
  have h1 := nat_of (j := a) (by rw [Int32.lt_iff_toInt_lt]; omega)
  have h2 := nat_of (j := b) (by rw [Int32.lt_iff_toInt_lt]; omega)
  exact h (Int32.toInt_inj.mp (by omega))
theorem own_v1 (f : Nat → Int32) (kt kf : Nat) (x y : Int32) : (upI (upI (upI f kt x) kf y) kt ((upI (upI f kt x) kf y) kf)) kt = y := by simp [upI]
theorem own_v2 (f : Nat → Int32) (kt kf : Nat) (x y : Int32) : (upI (upI (upI f kt x) kf y) kt ((upI (upI f kt x) kf y) kf)) kf = y := by simp [upI]
theorem own_v3 (f : Nat → Int32) (kt kf kw : Nat) (x y z : Int32) (h1 : kw ≠ kf) (h2 : kw ≠ kt) (h0 : f kw = 0) : (upI (upI (upI f kt x) kf y) kt z) kw = 0 := by simp [upI, h1, h2, h0]
theorem pd_0 : parseMethodDescriptor "(I)V" = some ⟨[.int], none⟩ := by decide +kernel
theorem pd_1 : parseMethodDescriptor "(IIII)V" = some ⟨[.int, .int, .int, .int], none⟩ := by decide +kernel
theorem pd_2 : parseMethodDescriptor "(II)V" = some ⟨[.int, .int], none⟩ := by decide +kernel
theorem pd_3 : parseMethodDescriptor "(I)I" = some ⟨[.int], some .int⟩ := by decide +kernel
theorem pn_com_example_coreloom_coreloom_CoreCopyPinLaw : plainName "com/example/coreloom/coreloom/CoreCopyPinLaw" = true := by first | (simp [plainName, overriddenIn]; done) | decide +kernel
theorem ef_rm0 (m : MethodId) (x0 : Int32) (x1 : Int32) (x2 : Int32) (x3 : Int32) (x4 : Int32) (x5 : Int32) : entryFrame m #[(.int x0), (.int x1), (.int x2), (.int x3), (.int x4), (.int x5)] maxLocals = mkF m 0 #[.val (.int x0), .val (.int x1), .val (.int x2), .val (.int x3), .val (.int x4), .val (.int x5), .unset, .unset, .unset, .unset, .unset] [] := by first | (simp [entryFrame, mkF, argsToLocals, Value.category, maxLocals]; done) | rfl
def Q0 (Z : State) (p0 : Int32) (p1 : Int32) (p2 : Int32) (p3 : Int32) (p4 : Int32) (p5 : Int32) (h0 : Heap) (n0 : Nat) (v : Option Value) (h : Heap) (L : List Loc) : Prop := v = some (.int 1) ∧ Fr n0 L
set_option maxRecDepth 65536 in
set_option maxHeartbeats 40000000 in
theorem rm0 (l : Launch) (Z : State) (a0 : Array Value) (hw : ∀ d ∈ tables_1, d.before a0 Z = true) (ws : List Jvm.Cond) (p0 : Int32) (p1 : Int32) (p2 : Int32) (p3 : Int32) (p4 : Int32) (p5 : Int32)  (h0 : Heap) (n0 : Nat) (Z0 : n0 ≤ h0.size)  :
    MetFree l x (head1 (Jvm.Cond.code x code maxLocals ret :: ws) room_1) (fun av' U => av' = #[(.int p0), (.int p1), (.int p2), (.int p3), (.int p4), (.int p5)] ∧ Z.Warmed39 U.vm ∧ U.heap = h0) (fun _ _ _ _ _ => True) (fun _ U o U' => ∃ v L, o = .returned v ∧ Q0 Z p0 p1 p2 p3 p4 p5 h0 n0 v U'.heap L ∧ FrameEnd U o U' L room_1.cells room_1.slots) := by
  refine MetFree.of_bodySF (plainFor_of_name pn_com_example_coreloom_coreloom_CoreCopyPinLaw) hisR ?_
  intro p e s m args below meth c s₁ Bd hml0 hP hK
  obtain ⟨rfl, hZ, hh⟩ := hP
  have hx := Bd.exec
  have hby := Bd.bytes
  have hlk := Bd.notSynchronized
  have hml : c.maxLocals = 11 := hml0
  have hown : s.vm.findClass "com/example/coreloom/coreloom/CoreCopyPinLaw" = some m.cls := findClass_of_methodNamed Bd.named
  have hnm := (name_of_methodNamed Bd.named Bd.method).1
  have X0 : Stand p l e room_1 s m #[(.int p0), (.int p1), (.int p2), (.int p3), (.int p4), (.int p5)] below meth c s₁ [] 0 0 := Stand.of_body Bd
  have e0 : s₁.heap = h0 := by rw [← hh, Bd.state]; rfl
  have N0 := Fr.nil n0
  show Go p e below (Kq s (Q0 Z p0 p1 p2 p3 p4 p5 h0 n0) room_1.cells room_1.slots) _
  refine go (fun t kt => castTop (ef_rm0 m p0 p1 p2 p3 p4 p5) kt) ?_
  show Go p e below _ (s₁.setTop (mkF m 0 #[.val (.int p0), .val (.int p1), .val (.int p2), .val (.int p3), .val (.int p4), .val (.int p5), .unset, .unset, .unset, .unset, .unset] []))
  obtain ⟨T1, h1, X1, e1, E1, A1, D1, -, st1⟩ := newO X0 hx hZ hown (hw _ (List.mem_of_getElem? (i := 0) rfl)) (hw _ (List.mem_of_getElem? (i := 1) rfl)) (hw _ (List.mem_of_getElem? (i := 2) rfl)) e0 (g := (mkF m 0 #[.val (.int p0), .val (.int p1), .val (.int p2), .val (.int p3), .val (.int p4), .val (.int p5), .unset, .unset, .unset, .unset, .unset] [])) rfl (hb hby at_0) (by decide) (by decide)
  obtain ⟨b1, g1⟩ : ∃ z, z = h0.size := ⟨_, rfl⟩
  have n0_b1 : n0 ≤ b1 := Nat.le_trans Z0 (Nat.le_of_eq g1.symm)
  rw [← g1] at A1 D1 st1
  have f2_Z := Nat.le_trans Z0 E1.1
  have F1_size : Fld Z h1 b1 "com/example/coreloom/coreloom/Core" "size" "I" (.int (0 : Int32)) := D1 (Or.inr (hw _ (List.mem_of_getElem? (i := 10) rfl))) (ty := .int) (by decide)
  have F1_opcodes : Fld Z h1 b1 "com/example/coreloom/coreloom/Core" "opcodes" "[I" .null := D1 (Or.inr (hw _ (List.mem_of_getElem? (i := 13) rfl))) (ty := (.array .int)) (by decide)
  have F1_fieldsA : Fld Z h1 b1 "com/example/coreloom/coreloom/Core" "fieldsA" "[I" .null := D1 (Or.inr (hw _ (List.mem_of_getElem? (i := 15) rfl))) (ty := (.array .int)) (by decide)
  have F1_fieldsB : Fld Z h1 b1 "com/example/coreloom/coreloom/Core" "fieldsB" "[I" .null := D1 (Or.inr (hw _ (List.mem_of_getElem? (i := 17) rfl))) (ty := (.array .int)) (by decide)
  refine go st1 ?_
  show Go p e below _ (T1.setTop (mkF m 3 #[.val (.int p0), .val (.int p1), .val (.int p2), .val (.int p3), .val (.int p4), .val (.int p5), .unset, .unset, .unset, .unset, .unset] [(.ref b1)]))
  refine go (fun t kt' => by refine XS.dup X1.here hx rfl (hb hby at_3) rfl rfl ?_; exact kt') ?_
  show Go p e below _ (T1.setTop (mkF m 4 #[.val (.int p0), .val (.int p1), .val (.int p2), .val (.int p3), .val (.int p4), .val (.int p5), .unset, .unset, .unset, .unset, .unset] [(.ref b1), (.ref b1)]))
  refine go (fun t kt' => by refine XS.bipush X1.here hx rfl (hb hby at_4) ?_; exact kt') ?_
  show Go p e below _ (T1.setTop (mkF m 6 #[.val (.int p0), .val (.int p1), .val (.int p2), .val (.int p3), .val (.int p4), .val (.int p5), .unset, .unset, .unset, .unset, .unset] [(.int (16 : Int32)), (.ref b1), (.ref b1)]))
  obtain ⟨_, _, ⟨T3, L3, k3, n3⟩, -, X3, ⟨Lc3, hQ3, l3, y3, z3⟩, st3⟩ := X1.specialBack hx (y := (⟨"com/example/coreloom/coreloom/Core", "<init>", "(I)V"⟩ : MethodName)) rfl hown (mvT hZ (hw _ (List.mem_of_getElem? (i := 3) rfl))) (mvT hZ (hw _ (List.mem_of_getElem? (i := 4) rfl))) (mvT hZ (hw _ (List.mem_of_getElem? (i := 5) rfl))) (by decide) (backOf (W := 1) (rm1 l Z a0 hw [] b1 h1 n0 f2_Z A1 n0_b1 F1_size F1_opcodes F1_fieldsA F1_fieldsB) hZ (hw _ (List.mem_of_getElem? (i := 5) rfl)) (hw _ (List.mem_of_getElem? (i := 2) rfl)) (by decide) (by decide)) (g := (mkF m 6 #[.val (.int p0), .val (.int p1), .val (.int p2), .val (.int p3), .val (.int p4), .val (.int p5), .unset, .unset, .unset, .unset, .unset] [(.int (16 : Int32)), (.ref b1), (.ref b1)])) rfl (by rw [hml]; rfl) (Steps.refl _) (a := b1) (argsL := [(.int (16 : Int32))]) (rest := [(.ref b1)]) (lenOf pd_0 rfl) rfl (by show 2 * 0 + _ ≤ _; exact Nat.le_of_eq rfl) (hb hby at_6) (fun _ _ => ⟨rfl, e1, (by decide : 1 + 3 ≤ _), (by decide : 4 + 48 ≤ _)⟩)
  dsimp only [Pt.U, Pt.locs, Pt.cells, Pt.slots] at X3 l3 y3 z3 st3 hQ3
  subst l3 y3 z3
  obtain ⟨rfl, N3q, K3, E3_, b1', b2', b3', HC3⟩ := hQ3
  have N3 := Fr.app N0 N3q
  have f4_Z := Nat.le_trans f2_Z K3.1
  have f5_E_b1 := A1.keep K3
  refine go (fun t kt => st3.trans kt) ?_
  show Go p e below _ (T3.setTop (mkF m 9 #[.val (.int p0), .val (.int p1), .val (.int p2), .val (.int p3), .val (.int p4), .val (.int p5), .unset, .unset, .unset, .unset, .unset] [(.ref b1)]))
  refine go (fun t kt' => by refine XS.astore X3.here hx rfl (hb hby at_9) rfl rfl (l' := #[.val (.int p0), .val (.int p1), .val (.int p2), .val (.int p3), .val (.int p4), .val (.int p5), .val (.ref b1), .unset, .unset, .unset, .unset]) rfl ?_; exact kt') ?_
  show Go p e below _ (T3.setTop (mkF m 11 #[.val (.int p0), .val (.int p1), .val (.int p2), .val (.int p3), .val (.int p4), .val (.int p5), .val (.ref b1), .unset, .unset, .unset, .unset] []))
  refine go (fun t kt' => by refine XS.iloadN X3.here hx rfl (hb hby at_11) rfl ?_; exact kt') ?_
  show Go p e below _ (T3.setTop (mkF m 12 #[.val (.int p0), .val (.int p1), .val (.int p2), .val (.int p3), .val (.int p4), .val (.int p5), .val (.ref b1), .unset, .unset, .unset, .unset] [(.int p0)]))
  refine go (fun t kt' => by refine XS.bipush X3.here hx rfl (hb hby at_12) ?_; exact kt') ?_
  show Go p e below _ (T3.setTop (mkF m 14 #[.val (.int p0), .val (.int p1), .val (.int p2), .val (.int p3), .val (.int p4), .val (.int p5), .val (.ref b1), .unset, .unset, .unset, .unset] [(.int (15 : Int32)), (.int p0)]))
  refine go (fun t kt' => by refine XS.iand X3.here hx rfl (hb hby at_14) rfl ?_; exact kt') ?_
  show Go p e below _ (T3.setTop (mkF m 15 #[.val (.int p0), .val (.int p1), .val (.int p2), .val (.int p3), .val (.int p4), .val (.int p5), .val (.ref b1), .unset, .unset, .unset, .unset] [(.int (p0 &&& (15 : Int32)))]))
  refine go (fun t kt' => by refine XS.istore X3.here hx rfl (hb hby at_15) rfl (l' := #[.val (.int p0), .val (.int p1), .val (.int p2), .val (.int p3), .val (.int p4), .val (.int p5), .val (.ref b1), .val (.int (p0 &&& (15 : Int32))), .unset, .unset, .unset]) rfl ?_; exact kt') ?_
  show Go p e below _ (T3.setTop (mkF m 17 #[.val (.int p0), .val (.int p1), .val (.int p2), .val (.int p3), .val (.int p4), .val (.int p5), .val (.ref b1), .val (.int (p0 &&& (15 : Int32))), .unset, .unset, .unset] []))
  generalize hkf : (p0 &&& (15 : Int32)) = kf
  show Go p e below _ (T3.setTop (mkF m 17 #[.val (.int p0), .val (.int p1), .val (.int p2), .val (.int p3), .val (.int p4), .val (.int p5), .val (.ref b1), .val (.int kf), .unset, .unset, .unset] []))
  have rkf : 0 ≤ kf.toInt ∧ kf.toInt < (16 : Nat) := hkf ▸ own_r p0
  refine go (fun t kt' => by refine XS.iloadN X3.here hx rfl (hb hby at_17) rfl ?_; exact kt') ?_
  show Go p e below _ (T3.setTop (mkF m 18 #[.val (.int p0), .val (.int p1), .val (.int p2), .val (.int p3), .val (.int p4), .val (.int p5), .val (.ref b1), .val (.int kf), .unset, .unset, .unset] [(.int p1)]))
  refine go (fun t kt' => by refine XS.bipush X3.here hx rfl (hb hby at_18) ?_; exact kt') ?_
  show Go p e below _ (T3.setTop (mkF m 20 #[.val (.int p0), .val (.int p1), .val (.int p2), .val (.int p3), .val (.int p4), .val (.int p5), .val (.ref b1), .val (.int kf), .unset, .unset, .unset] [(.int (15 : Int32)), (.int p1)]))
  refine go (fun t kt' => by refine XS.iand X3.here hx rfl (hb hby at_20) rfl ?_; exact kt') ?_
  show Go p e below _ (T3.setTop (mkF m 21 #[.val (.int p0), .val (.int p1), .val (.int p2), .val (.int p3), .val (.int p4), .val (.int p5), .val (.ref b1), .val (.int kf), .unset, .unset, .unset] [(.int (p1 &&& (15 : Int32)))]))
  refine go (fun t kt' => by refine XS.istore X3.here hx rfl (hb hby at_21) rfl (l' := #[.val (.int p0), .val (.int p1), .val (.int p2), .val (.int p3), .val (.int p4), .val (.int p5), .val (.ref b1), .val (.int kf), .val (.int (p1 &&& (15 : Int32))), .unset, .unset]) rfl ?_; exact kt') ?_
  show Go p e below _ (T3.setTop (mkF m 23 #[.val (.int p0), .val (.int p1), .val (.int p2), .val (.int p3), .val (.int p4), .val (.int p5), .val (.ref b1), .val (.int kf), .val (.int (p1 &&& (15 : Int32))), .unset, .unset] []))
  generalize hkt : (p1 &&& (15 : Int32)) = kt
  show Go p e below _ (T3.setTop (mkF m 23 #[.val (.int p0), .val (.int p1), .val (.int p2), .val (.int p3), .val (.int p4), .val (.int p5), .val (.ref b1), .val (.int kf), .val (.int kt), .unset, .unset] []))
  have rkt : 0 ≤ kt.toInt ∧ kt.toInt < (16 : Nat) := hkt ▸ own_r p1
  refine go (fun t kt' => by refine XS.iload X3.here hx rfl (hb hby at_23) rfl ?_; exact kt') ?_
  show Go p e below _ (T3.setTop (mkF m 25 #[.val (.int p0), .val (.int p1), .val (.int p2), .val (.int p3), .val (.int p4), .val (.int p5), .val (.ref b1), .val (.int kf), .val (.int kt), .unset, .unset] [(.int p5)]))
  refine go (fun t kt' => by refine XS.bipush X3.here hx rfl (hb hby at_25) ?_; exact kt') ?_
  show Go p e below _ (T3.setTop (mkF m 27 #[.val (.int p0), .val (.int p1), .val (.int p2), .val (.int p3), .val (.int p4), .val (.int p5), .val (.ref b1), .val (.int kf), .val (.int kt), .unset, .unset] [(.int (15 : Int32)), (.int p5)]))
  refine go (fun t kt' => by refine XS.iand X3.here hx rfl (hb hby at_27) rfl ?_; exact kt') ?_
  show Go p e below _ (T3.setTop (mkF m 28 #[.val (.int p0), .val (.int p1), .val (.int p2), .val (.int p3), .val (.int p4), .val (.int p5), .val (.ref b1), .val (.int kf), .val (.int kt), .unset, .unset] [(.int (p5 &&& (15 : Int32)))]))
  refine go (fun t kt' => by refine XS.istore X3.here hx rfl (hb hby at_28) rfl (l' := #[.val (.int p0), .val (.int p1), .val (.int p2), .val (.int p3), .val (.int p4), .val (.int p5), .val (.ref b1), .val (.int kf), .val (.int kt), .val (.int (p5 &&& (15 : Int32))), .unset]) rfl ?_; exact kt') ?_
  show Go p e below _ (T3.setTop (mkF m 30 #[.val (.int p0), .val (.int p1), .val (.int p2), .val (.int p3), .val (.int p4), .val (.int p5), .val (.ref b1), .val (.int kf), .val (.int kt), .val (.int (p5 &&& (15 : Int32))), .unset] []))
  generalize hkw : (p5 &&& (15 : Int32)) = kw
  show Go p e below _ (T3.setTop (mkF m 30 #[.val (.int p0), .val (.int p1), .val (.int p2), .val (.int p3), .val (.int p4), .val (.int p5), .val (.ref b1), .val (.int kf), .val (.int kt), .val (.int kw), .unset] []))
  have rkw : 0 ≤ kw.toInt ∧ kw.toInt < (16 : Nat) := hkw ▸ own_r p5
  refine go (fun t kt' => by refine XS.aload X3.here hx rfl (hb hby at_30) rfl rfl ?_; exact kt') ?_
  show Go p e below _ (T3.setTop (mkF m 32 #[.val (.int p0), .val (.int p1), .val (.int p2), .val (.int p3), .val (.int p4), .val (.int p5), .val (.ref b1), .val (.int kf), .val (.int kt), .val (.int kw), .unset] [(.ref b1)]))
  refine go (fun t kt' => by refine XS.iload X3.here hx rfl (hb hby at_32) rfl ?_; exact kt') ?_
  show Go p e below _ (T3.setTop (mkF m 34 #[.val (.int p0), .val (.int p1), .val (.int p2), .val (.int p3), .val (.int p4), .val (.int p5), .val (.ref b1), .val (.int kf), .val (.int kt), .val (.int kw), .unset] [(.int kt), (.ref b1)]))
  refine go (fun t kt' => by refine XS.iloadN X3.here hx rfl (hb hby at_34) rfl ?_; exact kt') ?_
  show Go p e below _ (T3.setTop (mkF m 35 #[.val (.int p0), .val (.int p1), .val (.int p2), .val (.int p3), .val (.int p4), .val (.int p5), .val (.ref b1), .val (.int kf), .val (.int kt), .val (.int kw), .unset] [(.int p2), (.int kt), (.ref b1)]))
  refine go (fun t kt' => by refine XS.iconst X3.here hx rfl (hb hby at_35) ?_; exact kt') ?_
  show Go p e below _ (T3.setTop (mkF m 36 #[.val (.int p0), .val (.int p1), .val (.int p2), .val (.int p3), .val (.int p4), .val (.int p5), .val (.ref b1), .val (.int kf), .val (.int kt), .val (.int kw), .unset] [(.int (-1 : Int32)), (.int p2), (.int kt), (.ref b1)]))
  refine go (fun t kt' => by refine XS.ixor X3.here hx rfl (hb hby at_36) rfl ?_; exact kt') ?_
  show Go p e below _ (T3.setTop (mkF m 37 #[.val (.int p0), .val (.int p1), .val (.int p2), .val (.int p3), .val (.int p4), .val (.int p5), .val (.ref b1), .val (.int kf), .val (.int kt), .val (.int kw), .unset] [(.int (p2 ^^^ (-1 : Int32))), (.int kt), (.ref b1)]))
  refine go (fun t kt' => by refine XS.iloadN X3.here hx rfl (hb hby at_37) rfl ?_; exact kt') ?_
  show Go p e below _ (T3.setTop (mkF m 38 #[.val (.int p0), .val (.int p1), .val (.int p2), .val (.int p3), .val (.int p4), .val (.int p5), .val (.ref b1), .val (.int kf), .val (.int kt), .val (.int kw), .unset] [(.int p3), (.int (p2 ^^^ (-1 : Int32))), (.int kt), (.ref b1)]))
  refine go (fun t kt' => by refine XS.iconst X3.here hx rfl (hb hby at_38) ?_; exact kt') ?_
  show Go p e below _ (T3.setTop (mkF m 39 #[.val (.int p0), .val (.int p1), .val (.int p2), .val (.int p3), .val (.int p4), .val (.int p5), .val (.ref b1), .val (.int kf), .val (.int kt), .val (.int kw), .unset] [(.int (-1 : Int32)), (.int p3), (.int (p2 ^^^ (-1 : Int32))), (.int kt), (.ref b1)]))
  refine go (fun t kt' => by refine XS.ixor X3.here hx rfl (hb hby at_39) rfl ?_; exact kt') ?_
  show Go p e below _ (T3.setTop (mkF m 40 #[.val (.int p0), .val (.int p1), .val (.int p2), .val (.int p3), .val (.int p4), .val (.int p5), .val (.ref b1), .val (.int kf), .val (.int kt), .val (.int kw), .unset] [(.int (p3 ^^^ (-1 : Int32))), (.int (p2 ^^^ (-1 : Int32))), (.int kt), (.ref b1)]))
  refine go (fun t kt' => by refine XS.iload X3.here hx rfl (hb hby at_40) rfl ?_; exact kt') ?_
  show Go p e below _ (T3.setTop (mkF m 42 #[.val (.int p0), .val (.int p1), .val (.int p2), .val (.int p3), .val (.int p4), .val (.int p5), .val (.ref b1), .val (.int kf), .val (.int kt), .val (.int kw), .unset] [(.int p4), (.int (p3 ^^^ (-1 : Int32))), (.int (p2 ^^^ (-1 : Int32))), (.int kt), (.ref b1)]))
  refine go (fun t kt' => by refine XS.iconst X3.here hx rfl (hb hby at_42) ?_; exact kt') ?_
  show Go p e below _ (T3.setTop (mkF m 43 #[.val (.int p0), .val (.int p1), .val (.int p2), .val (.int p3), .val (.int p4), .val (.int p5), .val (.ref b1), .val (.int kf), .val (.int kt), .val (.int kw), .unset] [(.int (-1 : Int32)), (.int p4), (.int (p3 ^^^ (-1 : Int32))), (.int (p2 ^^^ (-1 : Int32))), (.int kt), (.ref b1)]))
  refine go (fun t kt' => by refine XS.ixor X3.here hx rfl (hb hby at_43) rfl ?_; exact kt') ?_
  show Go p e below _ (T3.setTop (mkF m 44 #[.val (.int p0), .val (.int p1), .val (.int p2), .val (.int p3), .val (.int p4), .val (.int p5), .val (.ref b1), .val (.int kf), .val (.int kt), .val (.int kw), .unset] [(.int (p4 ^^^ (-1 : Int32))), (.int (p3 ^^^ (-1 : Int32))), (.int (p2 ^^^ (-1 : Int32))), (.int kt), (.ref b1)]))
  obtain ⟨cq6, kq6, q6a, q6b, q6c⟩ := isOf hZ rfl f5_E_b1
  obtain ⟨_, _, ⟨T6, L6, k6, n6⟩, -, X6, ⟨Lc6, hQ6, l6, y6, z6⟩, st6⟩ := X3.virtualBack hx (y := (⟨"com/example/coreloom/coreloom/Core", "write", "(IIII)V"⟩ : MethodName)) (z := (⟨"com/example/coreloom/coreloom/Core", "write", "(IIII)V"⟩ : MethodName)) hown (mvT hZ (hw _ (List.mem_of_getElem? (i := 18) rfl))) (mvT hZ (hw _ (List.mem_of_getElem? (i := 19) rfl))) (notFace_of_selects (args := #[]) (mvT hZ (hw _ (List.mem_of_getElem? (i := 21) rfl)))) (mvT hZ (hw _ (List.mem_of_getElem? (i := 21) rfl))) (mvT hZ (hw _ (List.mem_of_getElem? (i := 20) rfl))) (by decide) (backOf (W := 0) (rm3 l Z a0 hw [] b1 kt (p2 ^^^ (-1 : Int32)) (p3 ^^^ (-1 : Int32)) (p4 ^^^ (-1 : Int32)) b1' b2' b3' (fun _ => (0 : Int32)) (fun _ => (0 : Int32)) (fun _ => (0 : Int32)) T3.heap n0 f4_Z HC3 rkt) hZ (hw _ (List.mem_of_getElem? (i := 22) rfl)) (hw _ (List.mem_of_getElem? (i := 2) rfl)) (by decide) (by decide)) q6a q6c (g := (mkF m 44 #[.val (.int p0), .val (.int p1), .val (.int p2), .val (.int p3), .val (.int p4), .val (.int p5), .val (.ref b1), .val (.int kf), .val (.int kt), .val (.int kw), .unset] [(.int (p4 ^^^ (-1 : Int32))), (.int (p3 ^^^ (-1 : Int32))), (.int (p2 ^^^ (-1 : Int32))), (.int kt), (.ref b1)])) rfl (by rw [hml]; rfl) (Steps.refl _) (argsL := [(.int kt), (.int (p2 ^^^ (-1 : Int32))), (.int (p3 ^^^ (-1 : Int32))), (.int (p4 ^^^ (-1 : Int32)))]) (rest := []) (lenOf pd_1 rfl) rfl (by show 2 * 0 + _ ≤ _; exact Nat.le_of_eq rfl) (hb hby at_44) (fun _ _ => ⟨rfl, rfl, (by decide : 4 + 0 ≤ _), (by decide : 52 + 0 ≤ _)⟩)
  dsimp only [Pt.U, Pt.locs, Pt.cells, Pt.slots] at X6 l6 y6 z6 st6 hQ6
  subst l6 y6 z6
  obtain ⟨rfl, N6q, K6, HC6⟩ := hQ6
  have N6 := Fr.app N3 N6q
  have f7_Z := Nat.le_trans f4_Z K6.1
  have f8_E_b1 := f5_E_b1.keep K6
  refine go (fun t kt => st6.trans kt) ?_
  show Go p e below _ (T6.setTop (mkF m 47 #[.val (.int p0), .val (.int p1), .val (.int p2), .val (.int p3), .val (.int p4), .val (.int p5), .val (.ref b1), .val (.int kf), .val (.int kt), .val (.int kw), .unset] []))
  refine go (fun t kt' => by refine XS.aload X6.here hx rfl (hb hby at_47) rfl rfl ?_; exact kt') ?_
  show Go p e below _ (T6.setTop (mkF m 49 #[.val (.int p0), .val (.int p1), .val (.int p2), .val (.int p3), .val (.int p4), .val (.int p5), .val (.ref b1), .val (.int kf), .val (.int kt), .val (.int kw), .unset] [(.ref b1)]))
  refine go (fun t kt' => by refine XS.iload X6.here hx rfl (hb hby at_49) rfl ?_; exact kt') ?_
  show Go p e below _ (T6.setTop (mkF m 51 #[.val (.int p0), .val (.int p1), .val (.int p2), .val (.int p3), .val (.int p4), .val (.int p5), .val (.ref b1), .val (.int kf), .val (.int kt), .val (.int kw), .unset] [(.int kf), (.ref b1)]))
  refine go (fun t kt' => by refine XS.iloadN X6.here hx rfl (hb hby at_51) rfl ?_; exact kt') ?_
  show Go p e below _ (T6.setTop (mkF m 52 #[.val (.int p0), .val (.int p1), .val (.int p2), .val (.int p3), .val (.int p4), .val (.int p5), .val (.ref b1), .val (.int kf), .val (.int kt), .val (.int kw), .unset] [(.int p2), (.int kf), (.ref b1)]))
  refine go (fun t kt' => by refine XS.iloadN X6.here hx rfl (hb hby at_52) rfl ?_; exact kt') ?_
  show Go p e below _ (T6.setTop (mkF m 53 #[.val (.int p0), .val (.int p1), .val (.int p2), .val (.int p3), .val (.int p4), .val (.int p5), .val (.ref b1), .val (.int kf), .val (.int kt), .val (.int kw), .unset] [(.int p3), (.int p2), (.int kf), (.ref b1)]))
  refine go (fun t kt' => by refine XS.iload X6.here hx rfl (hb hby at_53) rfl ?_; exact kt') ?_
  show Go p e below _ (T6.setTop (mkF m 55 #[.val (.int p0), .val (.int p1), .val (.int p2), .val (.int p3), .val (.int p4), .val (.int p5), .val (.ref b1), .val (.int kf), .val (.int kt), .val (.int kw), .unset] [(.int p4), (.int p3), (.int p2), (.int kf), (.ref b1)]))
  obtain ⟨cq9, kq9, q9a, q9b, q9c⟩ := isOf hZ rfl f8_E_b1
  obtain ⟨_, _, ⟨T9, L9, k9, n9⟩, -, X9, ⟨Lc9, hQ9, l9, y9, z9⟩, st9⟩ := X6.virtualBack hx (y := (⟨"com/example/coreloom/coreloom/Core", "write", "(IIII)V"⟩ : MethodName)) (z := (⟨"com/example/coreloom/coreloom/Core", "write", "(IIII)V"⟩ : MethodName)) hown (mvT hZ (hw _ (List.mem_of_getElem? (i := 18) rfl))) (mvT hZ (hw _ (List.mem_of_getElem? (i := 19) rfl))) (notFace_of_selects (args := #[]) (mvT hZ (hw _ (List.mem_of_getElem? (i := 21) rfl)))) (mvT hZ (hw _ (List.mem_of_getElem? (i := 21) rfl))) (mvT hZ (hw _ (List.mem_of_getElem? (i := 20) rfl))) (by decide) (backOf (W := 0) (rm3 l Z a0 hw [] b1 kf p2 p3 p4 b1' b2' b3' (upI (fun _ => (0 : Int32)) (kt).toNatClampNeg (p2 ^^^ (-1 : Int32))) (upI (fun _ => (0 : Int32)) (kt).toNatClampNeg (p3 ^^^ (-1 : Int32))) (upI (fun _ => (0 : Int32)) (kt).toNatClampNeg (p4 ^^^ (-1 : Int32))) T6.heap n0 f7_Z HC6 rkf) hZ (hw _ (List.mem_of_getElem? (i := 22) rfl)) (hw _ (List.mem_of_getElem? (i := 2) rfl)) (by decide) (by decide)) q9a q9c (g := (mkF m 55 #[.val (.int p0), .val (.int p1), .val (.int p2), .val (.int p3), .val (.int p4), .val (.int p5), .val (.ref b1), .val (.int kf), .val (.int kt), .val (.int kw), .unset] [(.int p4), (.int p3), (.int p2), (.int kf), (.ref b1)])) rfl (by rw [hml]; rfl) (Steps.refl _) (argsL := [(.int kf), (.int p2), (.int p3), (.int p4)]) (rest := []) (lenOf pd_1 rfl) rfl (by show 2 * 0 + _ ≤ _; exact Nat.le_of_eq rfl) (hb hby at_55) (fun _ _ => ⟨rfl, rfl, (by decide : 4 + 0 ≤ _), (by decide : 52 + 0 ≤ _)⟩)
  dsimp only [Pt.U, Pt.locs, Pt.cells, Pt.slots] at X9 l9 y9 z9 st9 hQ9
  subst l9 y9 z9
  obtain ⟨rfl, N9q, K9, HC9⟩ := hQ9
  have N9 := Fr.app N6 N9q
  have f10_Z := Nat.le_trans f7_Z K9.1
  have f11_E_b1 := f8_E_b1.keep K9
  refine go (fun t kt => st9.trans kt) ?_
  show Go p e below _ (T9.setTop (mkF m 58 #[.val (.int p0), .val (.int p1), .val (.int p2), .val (.int p3), .val (.int p4), .val (.int p5), .val (.ref b1), .val (.int kf), .val (.int kt), .val (.int kw), .unset] []))
  refine go (fun t kt' => by refine XS.aload X9.here hx rfl (hb hby at_58) rfl rfl ?_; exact kt') ?_
  show Go p e below _ (T9.setTop (mkF m 60 #[.val (.int p0), .val (.int p1), .val (.int p2), .val (.int p3), .val (.int p4), .val (.int p5), .val (.ref b1), .val (.int kf), .val (.int kt), .val (.int kw), .unset] [(.ref b1)]))
  refine go (fun t kt' => by refine XS.iload X9.here hx rfl (hb hby at_60) rfl ?_; exact kt') ?_
  show Go p e below _ (T9.setTop (mkF m 62 #[.val (.int p0), .val (.int p1), .val (.int p2), .val (.int p3), .val (.int p4), .val (.int p5), .val (.ref b1), .val (.int kf), .val (.int kt), .val (.int kw), .unset] [(.int kf), (.ref b1)]))
  refine go (fun t kt' => by refine XS.iload X9.here hx rfl (hb hby at_62) rfl ?_; exact kt') ?_
  show Go p e below _ (T9.setTop (mkF m 64 #[.val (.int p0), .val (.int p1), .val (.int p2), .val (.int p3), .val (.int p4), .val (.int p5), .val (.ref b1), .val (.int kf), .val (.int kt), .val (.int kw), .unset] [(.int kt), (.int kf), (.ref b1)]))
  obtain ⟨cq12, kq12, q12a, q12b, q12c⟩ := isOf hZ rfl f11_E_b1
  obtain ⟨_, _, ⟨T12, L12, k12, n12⟩, -, X12, ⟨Lc12, hQ12, l12, y12, z12⟩, st12⟩ := X9.virtualBack hx (y := (⟨"com/example/coreloom/coreloom/Core", "copy", "(II)V"⟩ : MethodName)) (z := (⟨"com/example/coreloom/coreloom/Core", "copy", "(II)V"⟩ : MethodName)) hown (mvT hZ (hw _ (List.mem_of_getElem? (i := 23) rfl))) (mvT hZ (hw _ (List.mem_of_getElem? (i := 24) rfl))) (notFace_of_selects (args := #[]) (mvT hZ (hw _ (List.mem_of_getElem? (i := 26) rfl)))) (mvT hZ (hw _ (List.mem_of_getElem? (i := 26) rfl))) (mvT hZ (hw _ (List.mem_of_getElem? (i := 25) rfl))) (by decide) (backOf (W := 0) (rm4 l Z a0 hw [] b1 kf kt b1' b2' b3' (upI (upI (fun _ => (0 : Int32)) (kt).toNatClampNeg (p2 ^^^ (-1 : Int32))) (kf).toNatClampNeg p2) (upI (upI (fun _ => (0 : Int32)) (kt).toNatClampNeg (p3 ^^^ (-1 : Int32))) (kf).toNatClampNeg p3) (upI (upI (fun _ => (0 : Int32)) (kt).toNatClampNeg (p4 ^^^ (-1 : Int32))) (kf).toNatClampNeg p4) T9.heap n0 f10_Z HC9 rkf rkt) hZ (hw _ (List.mem_of_getElem? (i := 27) rfl)) (hw _ (List.mem_of_getElem? (i := 2) rfl)) (by decide) (by decide)) q12a q12c (g := (mkF m 64 #[.val (.int p0), .val (.int p1), .val (.int p2), .val (.int p3), .val (.int p4), .val (.int p5), .val (.ref b1), .val (.int kf), .val (.int kt), .val (.int kw), .unset] [(.int kt), (.int kf), (.ref b1)])) rfl (by rw [hml]; rfl) (Steps.refl _) (argsL := [(.int kf), (.int kt)]) (rest := []) (lenOf pd_2 rfl) rfl (by show 2 * 0 + _ ≤ _; exact Nat.le_of_eq rfl) (hb hby at_64) (fun _ _ => ⟨rfl, rfl, (by decide : 4 + 0 ≤ _), (by decide : 52 + 0 ≤ _)⟩)
  dsimp only [Pt.U, Pt.locs, Pt.cells, Pt.slots] at X12 l12 y12 z12 st12 hQ12
  subst l12 y12 z12
  obtain ⟨rfl, N12q, K12, HC12⟩ := hQ12
  have N12 := Fr.app N9 N12q
  have f13_Z := Nat.le_trans f10_Z K12.1
  have f14_E_b1 := f11_E_b1.keep K12
  refine go (fun t kt => st12.trans kt) ?_
  show Go p e below _ (T12.setTop (mkF m 67 #[.val (.int p0), .val (.int p1), .val (.int p2), .val (.int p3), .val (.int p4), .val (.int p5), .val (.ref b1), .val (.int kf), .val (.int kt), .val (.int kw), .unset] []))
  refine go (fun t kt' => by refine XS.aload X12.here hx rfl (hb hby at_67) rfl rfl ?_; exact kt') ?_
  show Go p e below _ (T12.setTop (mkF m 69 #[.val (.int p0), .val (.int p1), .val (.int p2), .val (.int p3), .val (.int p4), .val (.int p5), .val (.ref b1), .val (.int kf), .val (.int kt), .val (.int kw), .unset] [(.ref b1)]))
  refine go (fun t kt' => by refine XS.iload X12.here hx rfl (hb hby at_69) rfl ?_; exact kt') ?_
  show Go p e below _ (T12.setTop (mkF m 71 #[.val (.int p0), .val (.int p1), .val (.int p2), .val (.int p3), .val (.int p4), .val (.int p5), .val (.ref b1), .val (.int kf), .val (.int kt), .val (.int kw), .unset] [(.int kt), (.ref b1)]))
  obtain ⟨cq15, kq15, q15a, q15b, q15c⟩ := isOf hZ rfl f14_E_b1
  obtain ⟨_, _, ⟨T15, L15, k15, n15⟩, -, X15, ⟨Lc15, hQ15, l15, y15, z15⟩, st15⟩ := X12.virtualBack hx (y := (⟨"com/example/coreloom/coreloom/Core", "opcode", "(I)I"⟩ : MethodName)) (z := (⟨"com/example/coreloom/coreloom/Core", "opcode", "(I)I"⟩ : MethodName)) hown (mvT hZ (hw _ (List.mem_of_getElem? (i := 28) rfl))) (mvT hZ (hw _ (List.mem_of_getElem? (i := 29) rfl))) (notFace_of_selects (args := #[]) (mvT hZ (hw _ (List.mem_of_getElem? (i := 31) rfl)))) (mvT hZ (hw _ (List.mem_of_getElem? (i := 31) rfl))) (mvT hZ (hw _ (List.mem_of_getElem? (i := 30) rfl))) (by decide) (backOf (W := 0) (rm5 l Z a0 hw [] b1 kt b1' b2' b3' (upI (upI (upI (fun _ => (0 : Int32)) (kt).toNatClampNeg (p2 ^^^ (-1 : Int32))) (kf).toNatClampNeg p2) (kt).toNatClampNeg ((upI (upI (fun _ => (0 : Int32)) (kt).toNatClampNeg (p2 ^^^ (-1 : Int32))) (kf).toNatClampNeg p2) (kf).toNatClampNeg)) (upI (upI (upI (fun _ => (0 : Int32)) (kt).toNatClampNeg (p3 ^^^ (-1 : Int32))) (kf).toNatClampNeg p3) (kt).toNatClampNeg ((upI (upI (fun _ => (0 : Int32)) (kt).toNatClampNeg (p3 ^^^ (-1 : Int32))) (kf).toNatClampNeg p3) (kf).toNatClampNeg)) (upI (upI (upI (fun _ => (0 : Int32)) (kt).toNatClampNeg (p4 ^^^ (-1 : Int32))) (kf).toNatClampNeg p4) (kt).toNatClampNeg ((upI (upI (fun _ => (0 : Int32)) (kt).toNatClampNeg (p4 ^^^ (-1 : Int32))) (kf).toNatClampNeg p4) (kf).toNatClampNeg)) T12.heap n0 f13_Z HC12 rkt) hZ (hw _ (List.mem_of_getElem? (i := 32) rfl)) (hw _ (List.mem_of_getElem? (i := 2) rfl)) (by decide) (by decide)) q15a q15c (g := (mkF m 71 #[.val (.int p0), .val (.int p1), .val (.int p2), .val (.int p3), .val (.int p4), .val (.int p5), .val (.ref b1), .val (.int kf), .val (.int kt), .val (.int kw), .unset] [(.int kt), (.ref b1)])) rfl (by rw [hml]; rfl) (Steps.refl _) (argsL := [(.int kt)]) (rest := []) (lenOf pd_3 rfl) rfl (by show 2 * 0 + _ ≤ _; exact Nat.le_of_eq rfl) (hb hby at_71) (fun _ _ => ⟨rfl, rfl, (by decide : 4 + 0 ≤ _), (by decide : 52 + 0 ≤ _)⟩)
  dsimp only [Pt.U, Pt.locs, Pt.cells, Pt.slots] at X15 l15 y15 z15 st15 hQ15
  subst l15 y15 z15
  obtain ⟨rfl, N15q, e15⟩ := hQ15
  have N15 := Fr.app N12 N15q
  refine go (fun t kt => st15.trans kt) ?_
  show Go p e below _ (T15.setTop (mkF m 74 #[.val (.int p0), .val (.int p1), .val (.int p2), .val (.int p3), .val (.int p4), .val (.int p5), .val (.ref b1), .val (.int kf), .val (.int kt), .val (.int kw), .unset] [(.int ((upI (upI (upI (fun _ => (0 : Int32)) (kt).toNatClampNeg (p2 ^^^ (-1 : Int32))) (kf).toNatClampNeg p2) (kt).toNatClampNeg ((upI (upI (fun _ => (0 : Int32)) (kt).toNatClampNeg (p2 ^^^ (-1 : Int32))) (kf).toNatClampNeg p2) (kf).toNatClampNeg)) (kt).toNatClampNeg))]))
  refine go (fun t kt' => by refine XS.iloadN X15.here hx rfl (hb hby at_74) rfl ?_; exact kt') ?_
  show Go p e below _ (T15.setTop (mkF m 75 #[.val (.int p0), .val (.int p1), .val (.int p2), .val (.int p3), .val (.int p4), .val (.int p5), .val (.ref b1), .val (.int kf), .val (.int kt), .val (.int kw), .unset] [(.int p2), (.int ((upI (upI (upI (fun _ => (0 : Int32)) (kt).toNatClampNeg (p2 ^^^ (-1 : Int32))) (kf).toNatClampNeg p2) (kt).toNatClampNeg ((upI (upI (fun _ => (0 : Int32)) (kt).toNatClampNeg (p2 ^^^ (-1 : Int32))) (kf).toNatClampNeg p2) (kf).toNatClampNeg)) (kt).toNatClampNeg))]))
  have c75_16 : ¬ (¬ ((upI (upI (upI (fun _ => (0 : Int32)) (kt).toNatClampNeg (p2 ^^^ (-1 : Int32))) (kf).toNatClampNeg p2) (kt).toNatClampNeg ((upI (upI (fun _ => (0 : Int32)) (kt).toNatClampNeg (p2 ^^^ (-1 : Int32))) (kf).toNatClampNeg p2) (kf).toNatClampNeg)) (kt).toNatClampNeg) = p2) := not_not_intro (own_v1 _ _ _ _ _)
  refine go (fun t kt' => by refine XS.icmpNo X15.here hx rfl (hb hby at_75) rfl (teq (Decidable.not_not.mp c75_16)).2 ?_; exact kt') ?_
  show Go p e below _ (T15.setTop (mkF m 78 #[.val (.int p0), .val (.int p1), .val (.int p2), .val (.int p3), .val (.int p4), .val (.int p5), .val (.ref b1), .val (.int kf), .val (.int kt), .val (.int kw), .unset] []))
  refine go (fun t kt' => by refine XS.aload X15.here hx rfl (hb hby at_78) rfl rfl ?_; exact kt') ?_
  show Go p e below _ (T15.setTop (mkF m 80 #[.val (.int p0), .val (.int p1), .val (.int p2), .val (.int p3), .val (.int p4), .val (.int p5), .val (.ref b1), .val (.int kf), .val (.int kt), .val (.int kw), .unset] [(.ref b1)]))
  refine go (fun t kt' => by refine XS.iload X15.here hx rfl (hb hby at_80) rfl ?_; exact kt') ?_
  show Go p e below _ (T15.setTop (mkF m 82 #[.val (.int p0), .val (.int p1), .val (.int p2), .val (.int p3), .val (.int p4), .val (.int p5), .val (.ref b1), .val (.int kf), .val (.int kt), .val (.int kw), .unset] [(.int kt), (.ref b1)]))
  obtain ⟨cq17, kq17, q17a, q17b, q17c⟩ := isOf hZ e15 f14_E_b1
  obtain ⟨_, _, ⟨T17, L17, k17, n17⟩, -, X17, ⟨Lc17, hQ17, l17, y17, z17⟩, st17⟩ := X15.virtualBack hx (y := (⟨"com/example/coreloom/coreloom/Core", "fieldA", "(I)I"⟩ : MethodName)) (z := (⟨"com/example/coreloom/coreloom/Core", "fieldA", "(I)I"⟩ : MethodName)) hown (mvT hZ (hw _ (List.mem_of_getElem? (i := 33) rfl))) (mvT hZ (hw _ (List.mem_of_getElem? (i := 34) rfl))) (notFace_of_selects (args := #[]) (mvT hZ (hw _ (List.mem_of_getElem? (i := 36) rfl)))) (mvT hZ (hw _ (List.mem_of_getElem? (i := 36) rfl))) (mvT hZ (hw _ (List.mem_of_getElem? (i := 35) rfl))) (by decide) (backOf (W := 0) (rm6 l Z a0 hw [] b1 kt b1' b2' b3' (upI (upI (upI (fun _ => (0 : Int32)) (kt).toNatClampNeg (p2 ^^^ (-1 : Int32))) (kf).toNatClampNeg p2) (kt).toNatClampNeg ((upI (upI (fun _ => (0 : Int32)) (kt).toNatClampNeg (p2 ^^^ (-1 : Int32))) (kf).toNatClampNeg p2) (kf).toNatClampNeg)) (upI (upI (upI (fun _ => (0 : Int32)) (kt).toNatClampNeg (p3 ^^^ (-1 : Int32))) (kf).toNatClampNeg p3) (kt).toNatClampNeg ((upI (upI (fun _ => (0 : Int32)) (kt).toNatClampNeg (p3 ^^^ (-1 : Int32))) (kf).toNatClampNeg p3) (kf).toNatClampNeg)) (upI (upI (upI (fun _ => (0 : Int32)) (kt).toNatClampNeg (p4 ^^^ (-1 : Int32))) (kf).toNatClampNeg p4) (kt).toNatClampNeg ((upI (upI (fun _ => (0 : Int32)) (kt).toNatClampNeg (p4 ^^^ (-1 : Int32))) (kf).toNatClampNeg p4) (kf).toNatClampNeg)) T12.heap n0 f13_Z HC12 rkt) hZ (hw _ (List.mem_of_getElem? (i := 37) rfl)) (hw _ (List.mem_of_getElem? (i := 2) rfl)) (by decide) (by decide)) q17a q17c (g := (mkF m 82 #[.val (.int p0), .val (.int p1), .val (.int p2), .val (.int p3), .val (.int p4), .val (.int p5), .val (.ref b1), .val (.int kf), .val (.int kt), .val (.int kw), .unset] [(.int kt), (.ref b1)])) rfl (by rw [hml]; rfl) (Steps.refl _) (argsL := [(.int kt)]) (rest := []) (lenOf pd_3 rfl) rfl (by show 2 * 0 + _ ≤ _; exact Nat.le_of_eq rfl) (hb hby at_82) (fun _ _ => ⟨rfl, e15, (by decide : 4 + 0 ≤ _), (by decide : 52 + 0 ≤ _)⟩)
  dsimp only [Pt.U, Pt.locs, Pt.cells, Pt.slots] at X17 l17 y17 z17 st17 hQ17
  subst l17 y17 z17
  obtain ⟨rfl, N17q, e17⟩ := hQ17
  have N17 := Fr.app N15 N17q
  refine go (fun t kt => st17.trans kt) ?_
  show Go p e below _ (T17.setTop (mkF m 85 #[.val (.int p0), .val (.int p1), .val (.int p2), .val (.int p3), .val (.int p4), .val (.int p5), .val (.ref b1), .val (.int kf), .val (.int kt), .val (.int kw), .unset] [(.int ((upI (upI (upI (fun _ => (0 : Int32)) (kt).toNatClampNeg (p3 ^^^ (-1 : Int32))) (kf).toNatClampNeg p3) (kt).toNatClampNeg ((upI (upI (fun _ => (0 : Int32)) (kt).toNatClampNeg (p3 ^^^ (-1 : Int32))) (kf).toNatClampNeg p3) (kf).toNatClampNeg)) (kt).toNatClampNeg))]))
  refine go (fun t kt' => by refine XS.iloadN X17.here hx rfl (hb hby at_85) rfl ?_; exact kt') ?_
  show Go p e below _ (T17.setTop (mkF m 86 #[.val (.int p0), .val (.int p1), .val (.int p2), .val (.int p3), .val (.int p4), .val (.int p5), .val (.ref b1), .val (.int kf), .val (.int kt), .val (.int kw), .unset] [(.int p3), (.int ((upI (upI (upI (fun _ => (0 : Int32)) (kt).toNatClampNeg (p3 ^^^ (-1 : Int32))) (kf).toNatClampNeg p3) (kt).toNatClampNeg ((upI (upI (fun _ => (0 : Int32)) (kt).toNatClampNeg (p3 ^^^ (-1 : Int32))) (kf).toNatClampNeg p3) (kf).toNatClampNeg)) (kt).toNatClampNeg))]))
  have c86_18 : ¬ (¬ ((upI (upI (upI (fun _ => (0 : Int32)) (kt).toNatClampNeg (p3 ^^^ (-1 : Int32))) (kf).toNatClampNeg p3) (kt).toNatClampNeg ((upI (upI (fun _ => (0 : Int32)) (kt).toNatClampNeg (p3 ^^^ (-1 : Int32))) (kf).toNatClampNeg p3) (kf).toNatClampNeg)) (kt).toNatClampNeg) = p3) := not_not_intro (own_v1 _ _ _ _ _)
  refine go (fun t kt' => by refine XS.icmpNo X17.here hx rfl (hb hby at_86) rfl (teq (Decidable.not_not.mp c86_18)).2 ?_; exact kt') ?_
  show Go p e below _ (T17.setTop (mkF m 89 #[.val (.int p0), .val (.int p1), .val (.int p2), .val (.int p3), .val (.int p4), .val (.int p5), .val (.ref b1), .val (.int kf), .val (.int kt), .val (.int kw), .unset] []))
  refine go (fun t kt' => by refine XS.aload X17.here hx rfl (hb hby at_89) rfl rfl ?_; exact kt') ?_
  show Go p e below _ (T17.setTop (mkF m 91 #[.val (.int p0), .val (.int p1), .val (.int p2), .val (.int p3), .val (.int p4), .val (.int p5), .val (.ref b1), .val (.int kf), .val (.int kt), .val (.int kw), .unset] [(.ref b1)]))
  refine go (fun t kt' => by refine XS.iload X17.here hx rfl (hb hby at_91) rfl ?_; exact kt') ?_
  show Go p e below _ (T17.setTop (mkF m 93 #[.val (.int p0), .val (.int p1), .val (.int p2), .val (.int p3), .val (.int p4), .val (.int p5), .val (.ref b1), .val (.int kf), .val (.int kt), .val (.int kw), .unset] [(.int kt), (.ref b1)]))
  obtain ⟨cq19, kq19, q19a, q19b, q19c⟩ := isOf hZ e17 f14_E_b1
  obtain ⟨_, _, ⟨T19, L19, k19, n19⟩, -, X19, ⟨Lc19, hQ19, l19, y19, z19⟩, st19⟩ := X17.virtualBack hx (y := (⟨"com/example/coreloom/coreloom/Core", "fieldB", "(I)I"⟩ : MethodName)) (z := (⟨"com/example/coreloom/coreloom/Core", "fieldB", "(I)I"⟩ : MethodName)) hown (mvT hZ (hw _ (List.mem_of_getElem? (i := 38) rfl))) (mvT hZ (hw _ (List.mem_of_getElem? (i := 39) rfl))) (notFace_of_selects (args := #[]) (mvT hZ (hw _ (List.mem_of_getElem? (i := 41) rfl)))) (mvT hZ (hw _ (List.mem_of_getElem? (i := 41) rfl))) (mvT hZ (hw _ (List.mem_of_getElem? (i := 40) rfl))) (by decide) (backOf (W := 0) (rm7 l Z a0 hw [] b1 kt b1' b2' b3' (upI (upI (upI (fun _ => (0 : Int32)) (kt).toNatClampNeg (p2 ^^^ (-1 : Int32))) (kf).toNatClampNeg p2) (kt).toNatClampNeg ((upI (upI (fun _ => (0 : Int32)) (kt).toNatClampNeg (p2 ^^^ (-1 : Int32))) (kf).toNatClampNeg p2) (kf).toNatClampNeg)) (upI (upI (upI (fun _ => (0 : Int32)) (kt).toNatClampNeg (p3 ^^^ (-1 : Int32))) (kf).toNatClampNeg p3) (kt).toNatClampNeg ((upI (upI (fun _ => (0 : Int32)) (kt).toNatClampNeg (p3 ^^^ (-1 : Int32))) (kf).toNatClampNeg p3) (kf).toNatClampNeg)) (upI (upI (upI (fun _ => (0 : Int32)) (kt).toNatClampNeg (p4 ^^^ (-1 : Int32))) (kf).toNatClampNeg p4) (kt).toNatClampNeg ((upI (upI (fun _ => (0 : Int32)) (kt).toNatClampNeg (p4 ^^^ (-1 : Int32))) (kf).toNatClampNeg p4) (kf).toNatClampNeg)) T12.heap n0 f13_Z HC12 rkt) hZ (hw _ (List.mem_of_getElem? (i := 42) rfl)) (hw _ (List.mem_of_getElem? (i := 2) rfl)) (by decide) (by decide)) q19a q19c (g := (mkF m 93 #[.val (.int p0), .val (.int p1), .val (.int p2), .val (.int p3), .val (.int p4), .val (.int p5), .val (.ref b1), .val (.int kf), .val (.int kt), .val (.int kw), .unset] [(.int kt), (.ref b1)])) rfl (by rw [hml]; rfl) (Steps.refl _) (argsL := [(.int kt)]) (rest := []) (lenOf pd_3 rfl) rfl (by show 2 * 0 + _ ≤ _; exact Nat.le_of_eq rfl) (hb hby at_93) (fun _ _ => ⟨rfl, e17, (by decide : 4 + 0 ≤ _), (by decide : 52 + 0 ≤ _)⟩)
  dsimp only [Pt.U, Pt.locs, Pt.cells, Pt.slots] at X19 l19 y19 z19 st19 hQ19
  subst l19 y19 z19
  obtain ⟨rfl, N19q, e19⟩ := hQ19
  have N19 := Fr.app N17 N19q
  refine go (fun t kt => st19.trans kt) ?_
  show Go p e below _ (T19.setTop (mkF m 96 #[.val (.int p0), .val (.int p1), .val (.int p2), .val (.int p3), .val (.int p4), .val (.int p5), .val (.ref b1), .val (.int kf), .val (.int kt), .val (.int kw), .unset] [(.int ((upI (upI (upI (fun _ => (0 : Int32)) (kt).toNatClampNeg (p4 ^^^ (-1 : Int32))) (kf).toNatClampNeg p4) (kt).toNatClampNeg ((upI (upI (fun _ => (0 : Int32)) (kt).toNatClampNeg (p4 ^^^ (-1 : Int32))) (kf).toNatClampNeg p4) (kf).toNatClampNeg)) (kt).toNatClampNeg))]))
  refine go (fun t kt' => by refine XS.iload X19.here hx rfl (hb hby at_96) rfl ?_; exact kt') ?_
  show Go p e below _ (T19.setTop (mkF m 98 #[.val (.int p0), .val (.int p1), .val (.int p2), .val (.int p3), .val (.int p4), .val (.int p5), .val (.ref b1), .val (.int kf), .val (.int kt), .val (.int kw), .unset] [(.int p4), (.int ((upI (upI (upI (fun _ => (0 : Int32)) (kt).toNatClampNeg (p4 ^^^ (-1 : Int32))) (kf).toNatClampNeg p4) (kt).toNatClampNeg ((upI (upI (fun _ => (0 : Int32)) (kt).toNatClampNeg (p4 ^^^ (-1 : Int32))) (kf).toNatClampNeg p4) (kf).toNatClampNeg)) (kt).toNatClampNeg))]))
  have c98_20 : ¬ (¬ ((upI (upI (upI (fun _ => (0 : Int32)) (kt).toNatClampNeg (p4 ^^^ (-1 : Int32))) (kf).toNatClampNeg p4) (kt).toNatClampNeg ((upI (upI (fun _ => (0 : Int32)) (kt).toNatClampNeg (p4 ^^^ (-1 : Int32))) (kf).toNatClampNeg p4) (kf).toNatClampNeg)) (kt).toNatClampNeg) = p4) := not_not_intro (own_v1 _ _ _ _ _)
  refine go (fun t kt' => by refine XS.icmpNo X19.here hx rfl (hb hby at_98) rfl (teq (Decidable.not_not.mp c98_20)).2 ?_; exact kt') ?_
  show Go p e below _ (T19.setTop (mkF m 101 #[.val (.int p0), .val (.int p1), .val (.int p2), .val (.int p3), .val (.int p4), .val (.int p5), .val (.ref b1), .val (.int kf), .val (.int kt), .val (.int kw), .unset] []))
  refine go (fun t kt' => by refine XS.iconst X19.here hx rfl (hb hby at_101) ?_; exact kt') ?_
  show Go p e below _ (T19.setTop (mkF m 102 #[.val (.int p0), .val (.int p1), .val (.int p2), .val (.int p3), .val (.int p4), .val (.int p5), .val (.ref b1), .val (.int kf), .val (.int kt), .val (.int kw), .unset] [(.int (1 : Int32))]))
  refine go (fun t kt' => by refine XS.goto X19.here hx rfl (pc0 := 102) (pc' := 106) rfl (hb hby at_102) (by decide) (by decide) ?_; exact kt') ?_
  show Go p e below _ (T19.setTop (mkF m 106 #[.val (.int p0), .val (.int p1), .val (.int p2), .val (.int p3), .val (.int p4), .val (.int p5), .val (.ref b1), .val (.int kf), .val (.int kt), .val (.int kw), .unset] [(.int (1 : Int32))]))
  refine go (fun t kt' => by refine XS.istore X19.here hx rfl (hb hby at_106) rfl (l' := #[.val (.int p0), .val (.int p1), .val (.int p2), .val (.int p3), .val (.int p4), .val (.int p5), .val (.ref b1), .val (.int kf), .val (.int kt), .val (.int kw), .val (.int (1 : Int32))]) rfl ?_; exact kt') ?_
  show Go p e below _ (T19.setTop (mkF m 108 #[.val (.int p0), .val (.int p1), .val (.int p2), .val (.int p3), .val (.int p4), .val (.int p5), .val (.ref b1), .val (.int kf), .val (.int kt), .val (.int kw), .val (.int (1 : Int32))] []))
  refine go (fun t kt' => by refine XS.iload X19.here hx rfl (hb hby at_108) rfl ?_; exact kt') ?_
  show Go p e below _ (T19.setTop (mkF m 110 #[.val (.int p0), .val (.int p1), .val (.int p2), .val (.int p3), .val (.int p4), .val (.int p5), .val (.ref b1), .val (.int kf), .val (.int kt), .val (.int kw), .val (.int (1 : Int32))] [(.int (1 : Int32))]))
  have c110_21 : ¬ ((1 : Int32) = (0 : Int32)) := by decide
  refine go (fun t kt' => by refine XS.ifNo X19.here hx rfl (hb hby at_110) rfl ((if0 _ _).trans (feq c110_21).1) ?_; exact kt') ?_
  show Go p e below _ (T19.setTop (mkF m 113 #[.val (.int p0), .val (.int p1), .val (.int p2), .val (.int p3), .val (.int p4), .val (.int p5), .val (.ref b1), .val (.int kf), .val (.int kt), .val (.int kw), .val (.int (1 : Int32))] []))
  refine go (fun t kt' => by refine XS.aload X19.here hx rfl (hb hby at_113) rfl rfl ?_; exact kt') ?_
  show Go p e below _ (T19.setTop (mkF m 115 #[.val (.int p0), .val (.int p1), .val (.int p2), .val (.int p3), .val (.int p4), .val (.int p5), .val (.ref b1), .val (.int kf), .val (.int kt), .val (.int kw), .val (.int (1 : Int32))] [(.ref b1)]))
  refine go (fun t kt' => by refine XS.iload X19.here hx rfl (hb hby at_115) rfl ?_; exact kt') ?_
  show Go p e below _ (T19.setTop (mkF m 117 #[.val (.int p0), .val (.int p1), .val (.int p2), .val (.int p3), .val (.int p4), .val (.int p5), .val (.ref b1), .val (.int kf), .val (.int kt), .val (.int kw), .val (.int (1 : Int32))] [(.int kf), (.ref b1)]))
  obtain ⟨cq22, kq22, q22a, q22b, q22c⟩ := isOf hZ e19 f14_E_b1
  obtain ⟨_, _, ⟨T22, L22, k22, n22⟩, -, X22, ⟨Lc22, hQ22, l22, y22, z22⟩, st22⟩ := X19.virtualBack hx (y := (⟨"com/example/coreloom/coreloom/Core", "opcode", "(I)I"⟩ : MethodName)) (z := (⟨"com/example/coreloom/coreloom/Core", "opcode", "(I)I"⟩ : MethodName)) hown (mvT hZ (hw _ (List.mem_of_getElem? (i := 28) rfl))) (mvT hZ (hw _ (List.mem_of_getElem? (i := 29) rfl))) (notFace_of_selects (args := #[]) (mvT hZ (hw _ (List.mem_of_getElem? (i := 31) rfl)))) (mvT hZ (hw _ (List.mem_of_getElem? (i := 31) rfl))) (mvT hZ (hw _ (List.mem_of_getElem? (i := 30) rfl))) (by decide) (backOf (W := 0) (rm5 l Z a0 hw [] b1 kf b1' b2' b3' (upI (upI (upI (fun _ => (0 : Int32)) (kt).toNatClampNeg (p2 ^^^ (-1 : Int32))) (kf).toNatClampNeg p2) (kt).toNatClampNeg ((upI (upI (fun _ => (0 : Int32)) (kt).toNatClampNeg (p2 ^^^ (-1 : Int32))) (kf).toNatClampNeg p2) (kf).toNatClampNeg)) (upI (upI (upI (fun _ => (0 : Int32)) (kt).toNatClampNeg (p3 ^^^ (-1 : Int32))) (kf).toNatClampNeg p3) (kt).toNatClampNeg ((upI (upI (fun _ => (0 : Int32)) (kt).toNatClampNeg (p3 ^^^ (-1 : Int32))) (kf).toNatClampNeg p3) (kf).toNatClampNeg)) (upI (upI (upI (fun _ => (0 : Int32)) (kt).toNatClampNeg (p4 ^^^ (-1 : Int32))) (kf).toNatClampNeg p4) (kt).toNatClampNeg ((upI (upI (fun _ => (0 : Int32)) (kt).toNatClampNeg (p4 ^^^ (-1 : Int32))) (kf).toNatClampNeg p4) (kf).toNatClampNeg)) T12.heap n0 f13_Z HC12 rkf) hZ (hw _ (List.mem_of_getElem? (i := 32) rfl)) (hw _ (List.mem_of_getElem? (i := 2) rfl)) (by decide) (by decide)) q22a q22c (g := (mkF m 117 #[.val (.int p0), .val (.int p1), .val (.int p2), .val (.int p3), .val (.int p4), .val (.int p5), .val (.ref b1), .val (.int kf), .val (.int kt), .val (.int kw), .val (.int (1 : Int32))] [(.int kf), (.ref b1)])) rfl (by rw [hml]; rfl) (Steps.refl _) (argsL := [(.int kf)]) (rest := []) (lenOf pd_3 rfl) rfl (by show 2 * 0 + _ ≤ _; exact Nat.le_of_eq rfl) (hb hby at_117) (fun _ _ => ⟨rfl, e19, (by decide : 4 + 0 ≤ _), (by decide : 52 + 0 ≤ _)⟩)
  dsimp only [Pt.U, Pt.locs, Pt.cells, Pt.slots] at X22 l22 y22 z22 st22 hQ22
  subst l22 y22 z22
  obtain ⟨rfl, N22q, e22⟩ := hQ22
  have N22 := Fr.app N19 N22q
  refine go (fun t kt => st22.trans kt) ?_
  show Go p e below _ (T22.setTop (mkF m 120 #[.val (.int p0), .val (.int p1), .val (.int p2), .val (.int p3), .val (.int p4), .val (.int p5), .val (.ref b1), .val (.int kf), .val (.int kt), .val (.int kw), .val (.int (1 : Int32))] [(.int ((upI (upI (upI (fun _ => (0 : Int32)) (kt).toNatClampNeg (p2 ^^^ (-1 : Int32))) (kf).toNatClampNeg p2) (kt).toNatClampNeg ((upI (upI (fun _ => (0 : Int32)) (kt).toNatClampNeg (p2 ^^^ (-1 : Int32))) (kf).toNatClampNeg p2) (kf).toNatClampNeg)) (kf).toNatClampNeg))]))
  refine go (fun t kt' => by refine XS.iloadN X22.here hx rfl (hb hby at_120) rfl ?_; exact kt') ?_
  show Go p e below _ (T22.setTop (mkF m 121 #[.val (.int p0), .val (.int p1), .val (.int p2), .val (.int p3), .val (.int p4), .val (.int p5), .val (.ref b1), .val (.int kf), .val (.int kt), .val (.int kw), .val (.int (1 : Int32))] [(.int p2), (.int ((upI (upI (upI (fun _ => (0 : Int32)) (kt).toNatClampNeg (p2 ^^^ (-1 : Int32))) (kf).toNatClampNeg p2) (kt).toNatClampNeg ((upI (upI (fun _ => (0 : Int32)) (kt).toNatClampNeg (p2 ^^^ (-1 : Int32))) (kf).toNatClampNeg p2) (kf).toNatClampNeg)) (kf).toNatClampNeg))]))
  have c121_23 : ¬ (¬ ((upI (upI (upI (fun _ => (0 : Int32)) (kt).toNatClampNeg (p2 ^^^ (-1 : Int32))) (kf).toNatClampNeg p2) (kt).toNatClampNeg ((upI (upI (fun _ => (0 : Int32)) (kt).toNatClampNeg (p2 ^^^ (-1 : Int32))) (kf).toNatClampNeg p2) (kf).toNatClampNeg)) (kf).toNatClampNeg) = p2) := not_not_intro (own_v2 _ _ _ _ _)
  refine go (fun t kt' => by refine XS.icmpNo X22.here hx rfl (hb hby at_121) rfl (teq (Decidable.not_not.mp c121_23)).2 ?_; exact kt') ?_
  show Go p e below _ (T22.setTop (mkF m 124 #[.val (.int p0), .val (.int p1), .val (.int p2), .val (.int p3), .val (.int p4), .val (.int p5), .val (.ref b1), .val (.int kf), .val (.int kt), .val (.int kw), .val (.int (1 : Int32))] []))
  refine go (fun t kt' => by refine XS.aload X22.here hx rfl (hb hby at_124) rfl rfl ?_; exact kt') ?_
  show Go p e below _ (T22.setTop (mkF m 126 #[.val (.int p0), .val (.int p1), .val (.int p2), .val (.int p3), .val (.int p4), .val (.int p5), .val (.ref b1), .val (.int kf), .val (.int kt), .val (.int kw), .val (.int (1 : Int32))] [(.ref b1)]))
  refine go (fun t kt' => by refine XS.iload X22.here hx rfl (hb hby at_126) rfl ?_; exact kt') ?_
  show Go p e below _ (T22.setTop (mkF m 128 #[.val (.int p0), .val (.int p1), .val (.int p2), .val (.int p3), .val (.int p4), .val (.int p5), .val (.ref b1), .val (.int kf), .val (.int kt), .val (.int kw), .val (.int (1 : Int32))] [(.int kf), (.ref b1)]))
  obtain ⟨cq24, kq24, q24a, q24b, q24c⟩ := isOf hZ e22 f14_E_b1
  obtain ⟨_, _, ⟨T24, L24, k24, n24⟩, -, X24, ⟨Lc24, hQ24, l24, y24, z24⟩, st24⟩ := X22.virtualBack hx (y := (⟨"com/example/coreloom/coreloom/Core", "fieldA", "(I)I"⟩ : MethodName)) (z := (⟨"com/example/coreloom/coreloom/Core", "fieldA", "(I)I"⟩ : MethodName)) hown (mvT hZ (hw _ (List.mem_of_getElem? (i := 33) rfl))) (mvT hZ (hw _ (List.mem_of_getElem? (i := 34) rfl))) (notFace_of_selects (args := #[]) (mvT hZ (hw _ (List.mem_of_getElem? (i := 36) rfl)))) (mvT hZ (hw _ (List.mem_of_getElem? (i := 36) rfl))) (mvT hZ (hw _ (List.mem_of_getElem? (i := 35) rfl))) (by decide) (backOf (W := 0) (rm6 l Z a0 hw [] b1 kf b1' b2' b3' (upI (upI (upI (fun _ => (0 : Int32)) (kt).toNatClampNeg (p2 ^^^ (-1 : Int32))) (kf).toNatClampNeg p2) (kt).toNatClampNeg ((upI (upI (fun _ => (0 : Int32)) (kt).toNatClampNeg (p2 ^^^ (-1 : Int32))) (kf).toNatClampNeg p2) (kf).toNatClampNeg)) (upI (upI (upI (fun _ => (0 : Int32)) (kt).toNatClampNeg (p3 ^^^ (-1 : Int32))) (kf).toNatClampNeg p3) (kt).toNatClampNeg ((upI (upI (fun _ => (0 : Int32)) (kt).toNatClampNeg (p3 ^^^ (-1 : Int32))) (kf).toNatClampNeg p3) (kf).toNatClampNeg)) (upI (upI (upI (fun _ => (0 : Int32)) (kt).toNatClampNeg (p4 ^^^ (-1 : Int32))) (kf).toNatClampNeg p4) (kt).toNatClampNeg ((upI (upI (fun _ => (0 : Int32)) (kt).toNatClampNeg (p4 ^^^ (-1 : Int32))) (kf).toNatClampNeg p4) (kf).toNatClampNeg)) T12.heap n0 f13_Z HC12 rkf) hZ (hw _ (List.mem_of_getElem? (i := 37) rfl)) (hw _ (List.mem_of_getElem? (i := 2) rfl)) (by decide) (by decide)) q24a q24c (g := (mkF m 128 #[.val (.int p0), .val (.int p1), .val (.int p2), .val (.int p3), .val (.int p4), .val (.int p5), .val (.ref b1), .val (.int kf), .val (.int kt), .val (.int kw), .val (.int (1 : Int32))] [(.int kf), (.ref b1)])) rfl (by rw [hml]; rfl) (Steps.refl _) (argsL := [(.int kf)]) (rest := []) (lenOf pd_3 rfl) rfl (by show 2 * 0 + _ ≤ _; exact Nat.le_of_eq rfl) (hb hby at_128) (fun _ _ => ⟨rfl, e22, (by decide : 4 + 0 ≤ _), (by decide : 52 + 0 ≤ _)⟩)
  dsimp only [Pt.U, Pt.locs, Pt.cells, Pt.slots] at X24 l24 y24 z24 st24 hQ24
  subst l24 y24 z24
  obtain ⟨rfl, N24q, e24⟩ := hQ24
  have N24 := Fr.app N22 N24q
  refine go (fun t kt => st24.trans kt) ?_
  show Go p e below _ (T24.setTop (mkF m 131 #[.val (.int p0), .val (.int p1), .val (.int p2), .val (.int p3), .val (.int p4), .val (.int p5), .val (.ref b1), .val (.int kf), .val (.int kt), .val (.int kw), .val (.int (1 : Int32))] [(.int ((upI (upI (upI (fun _ => (0 : Int32)) (kt).toNatClampNeg (p3 ^^^ (-1 : Int32))) (kf).toNatClampNeg p3) (kt).toNatClampNeg ((upI (upI (fun _ => (0 : Int32)) (kt).toNatClampNeg (p3 ^^^ (-1 : Int32))) (kf).toNatClampNeg p3) (kf).toNatClampNeg)) (kf).toNatClampNeg))]))
  refine go (fun t kt' => by refine XS.iloadN X24.here hx rfl (hb hby at_131) rfl ?_; exact kt') ?_
  show Go p e below _ (T24.setTop (mkF m 132 #[.val (.int p0), .val (.int p1), .val (.int p2), .val (.int p3), .val (.int p4), .val (.int p5), .val (.ref b1), .val (.int kf), .val (.int kt), .val (.int kw), .val (.int (1 : Int32))] [(.int p3), (.int ((upI (upI (upI (fun _ => (0 : Int32)) (kt).toNatClampNeg (p3 ^^^ (-1 : Int32))) (kf).toNatClampNeg p3) (kt).toNatClampNeg ((upI (upI (fun _ => (0 : Int32)) (kt).toNatClampNeg (p3 ^^^ (-1 : Int32))) (kf).toNatClampNeg p3) (kf).toNatClampNeg)) (kf).toNatClampNeg))]))
  have c132_25 : ¬ (¬ ((upI (upI (upI (fun _ => (0 : Int32)) (kt).toNatClampNeg (p3 ^^^ (-1 : Int32))) (kf).toNatClampNeg p3) (kt).toNatClampNeg ((upI (upI (fun _ => (0 : Int32)) (kt).toNatClampNeg (p3 ^^^ (-1 : Int32))) (kf).toNatClampNeg p3) (kf).toNatClampNeg)) (kf).toNatClampNeg) = p3) := not_not_intro (own_v2 _ _ _ _ _)
  refine go (fun t kt' => by refine XS.icmpNo X24.here hx rfl (hb hby at_132) rfl (teq (Decidable.not_not.mp c132_25)).2 ?_; exact kt') ?_
  show Go p e below _ (T24.setTop (mkF m 135 #[.val (.int p0), .val (.int p1), .val (.int p2), .val (.int p3), .val (.int p4), .val (.int p5), .val (.ref b1), .val (.int kf), .val (.int kt), .val (.int kw), .val (.int (1 : Int32))] []))
  refine go (fun t kt' => by refine XS.aload X24.here hx rfl (hb hby at_135) rfl rfl ?_; exact kt') ?_
  show Go p e below _ (T24.setTop (mkF m 137 #[.val (.int p0), .val (.int p1), .val (.int p2), .val (.int p3), .val (.int p4), .val (.int p5), .val (.ref b1), .val (.int kf), .val (.int kt), .val (.int kw), .val (.int (1 : Int32))] [(.ref b1)]))
  refine go (fun t kt' => by refine XS.iload X24.here hx rfl (hb hby at_137) rfl ?_; exact kt') ?_
  show Go p e below _ (T24.setTop (mkF m 139 #[.val (.int p0), .val (.int p1), .val (.int p2), .val (.int p3), .val (.int p4), .val (.int p5), .val (.ref b1), .val (.int kf), .val (.int kt), .val (.int kw), .val (.int (1 : Int32))] [(.int kf), (.ref b1)]))
  obtain ⟨cq26, kq26, q26a, q26b, q26c⟩ := isOf hZ e24 f14_E_b1
  obtain ⟨_, _, ⟨T26, L26, k26, n26⟩, -, X26, ⟨Lc26, hQ26, l26, y26, z26⟩, st26⟩ := X24.virtualBack hx (y := (⟨"com/example/coreloom/coreloom/Core", "fieldB", "(I)I"⟩ : MethodName)) (z := (⟨"com/example/coreloom/coreloom/Core", "fieldB", "(I)I"⟩ : MethodName)) hown (mvT hZ (hw _ (List.mem_of_getElem? (i := 38) rfl))) (mvT hZ (hw _ (List.mem_of_getElem? (i := 39) rfl))) (notFace_of_selects (args := #[]) (mvT hZ (hw _ (List.mem_of_getElem? (i := 41) rfl)))) (mvT hZ (hw _ (List.mem_of_getElem? (i := 41) rfl))) (mvT hZ (hw _ (List.mem_of_getElem? (i := 40) rfl))) (by decide) (backOf (W := 0) (rm7 l Z a0 hw [] b1 kf b1' b2' b3' (upI (upI (upI (fun _ => (0 : Int32)) (kt).toNatClampNeg (p2 ^^^ (-1 : Int32))) (kf).toNatClampNeg p2) (kt).toNatClampNeg ((upI (upI (fun _ => (0 : Int32)) (kt).toNatClampNeg (p2 ^^^ (-1 : Int32))) (kf).toNatClampNeg p2) (kf).toNatClampNeg)) (upI (upI (upI (fun _ => (0 : Int32)) (kt).toNatClampNeg (p3 ^^^ (-1 : Int32))) (kf).toNatClampNeg p3) (kt).toNatClampNeg ((upI (upI (fun _ => (0 : Int32)) (kt).toNatClampNeg (p3 ^^^ (-1 : Int32))) (kf).toNatClampNeg p3) (kf).toNatClampNeg)) (upI (upI (upI (fun _ => (0 : Int32)) (kt).toNatClampNeg (p4 ^^^ (-1 : Int32))) (kf).toNatClampNeg p4) (kt).toNatClampNeg ((upI (upI (fun _ => (0 : Int32)) (kt).toNatClampNeg (p4 ^^^ (-1 : Int32))) (kf).toNatClampNeg p4) (kf).toNatClampNeg)) T12.heap n0 f13_Z HC12 rkf) hZ (hw _ (List.mem_of_getElem? (i := 42) rfl)) (hw _ (List.mem_of_getElem? (i := 2) rfl)) (by decide) (by decide)) q26a q26c (g := (mkF m 139 #[.val (.int p0), .val (.int p1), .val (.int p2), .val (.int p3), .val (.int p4), .val (.int p5), .val (.ref b1), .val (.int kf), .val (.int kt), .val (.int kw), .val (.int (1 : Int32))] [(.int kf), (.ref b1)])) rfl (by rw [hml]; rfl) (Steps.refl _) (argsL := [(.int kf)]) (rest := []) (lenOf pd_3 rfl) rfl (by show 2 * 0 + _ ≤ _; exact Nat.le_of_eq rfl) (hb hby at_139) (fun _ _ => ⟨rfl, e24, (by decide : 4 + 0 ≤ _), (by decide : 52 + 0 ≤ _)⟩)
  dsimp only [Pt.U, Pt.locs, Pt.cells, Pt.slots] at X26 l26 y26 z26 st26 hQ26
  subst l26 y26 z26
  obtain ⟨rfl, N26q, e26⟩ := hQ26
  have N26 := Fr.app N24 N26q
  refine go (fun t kt => st26.trans kt) ?_
  show Go p e below _ (T26.setTop (mkF m 142 #[.val (.int p0), .val (.int p1), .val (.int p2), .val (.int p3), .val (.int p4), .val (.int p5), .val (.ref b1), .val (.int kf), .val (.int kt), .val (.int kw), .val (.int (1 : Int32))] [(.int ((upI (upI (upI (fun _ => (0 : Int32)) (kt).toNatClampNeg (p4 ^^^ (-1 : Int32))) (kf).toNatClampNeg p4) (kt).toNatClampNeg ((upI (upI (fun _ => (0 : Int32)) (kt).toNatClampNeg (p4 ^^^ (-1 : Int32))) (kf).toNatClampNeg p4) (kf).toNatClampNeg)) (kf).toNatClampNeg))]))
  refine go (fun t kt' => by refine XS.iload X26.here hx rfl (hb hby at_142) rfl ?_; exact kt') ?_
  show Go p e below _ (T26.setTop (mkF m 144 #[.val (.int p0), .val (.int p1), .val (.int p2), .val (.int p3), .val (.int p4), .val (.int p5), .val (.ref b1), .val (.int kf), .val (.int kt), .val (.int kw), .val (.int (1 : Int32))] [(.int p4), (.int ((upI (upI (upI (fun _ => (0 : Int32)) (kt).toNatClampNeg (p4 ^^^ (-1 : Int32))) (kf).toNatClampNeg p4) (kt).toNatClampNeg ((upI (upI (fun _ => (0 : Int32)) (kt).toNatClampNeg (p4 ^^^ (-1 : Int32))) (kf).toNatClampNeg p4) (kf).toNatClampNeg)) (kf).toNatClampNeg))]))
  have c144_27 : ¬ (¬ ((upI (upI (upI (fun _ => (0 : Int32)) (kt).toNatClampNeg (p4 ^^^ (-1 : Int32))) (kf).toNatClampNeg p4) (kt).toNatClampNeg ((upI (upI (fun _ => (0 : Int32)) (kt).toNatClampNeg (p4 ^^^ (-1 : Int32))) (kf).toNatClampNeg p4) (kf).toNatClampNeg)) (kf).toNatClampNeg) = p4) := not_not_intro (own_v2 _ _ _ _ _)
  refine go (fun t kt' => by refine XS.icmpNo X26.here hx rfl (hb hby at_144) rfl (teq (Decidable.not_not.mp c144_27)).2 ?_; exact kt') ?_
  show Go p e below _ (T26.setTop (mkF m 147 #[.val (.int p0), .val (.int p1), .val (.int p2), .val (.int p3), .val (.int p4), .val (.int p5), .val (.ref b1), .val (.int kf), .val (.int kt), .val (.int kw), .val (.int (1 : Int32))] []))
  refine go (fun t kt' => by refine XS.iconst X26.here hx rfl (hb hby at_147) ?_; exact kt') ?_
  show Go p e below _ (T26.setTop (mkF m 148 #[.val (.int p0), .val (.int p1), .val (.int p2), .val (.int p3), .val (.int p4), .val (.int p5), .val (.ref b1), .val (.int kf), .val (.int kt), .val (.int kw), .val (.int (1 : Int32))] [(.int (1 : Int32))]))
  refine go (fun t kt' => by refine XS.goto X26.here hx rfl (pc0 := 148) (pc' := 152) rfl (hb hby at_148) (by decide) (by decide) ?_; exact kt') ?_
  show Go p e below _ (T26.setTop (mkF m 152 #[.val (.int p0), .val (.int p1), .val (.int p2), .val (.int p3), .val (.int p4), .val (.int p5), .val (.ref b1), .val (.int kf), .val (.int kt), .val (.int kw), .val (.int (1 : Int32))] [(.int (1 : Int32))]))
  refine go (fun t kt' => by refine XS.istore X26.here hx rfl (hb hby at_152) rfl (l' := #[.val (.int p0), .val (.int p1), .val (.int p2), .val (.int p3), .val (.int p4), .val (.int p5), .val (.ref b1), .val (.int kf), .val (.int kt), .val (.int kw), .val (.int (1 : Int32))]) rfl ?_; exact kt') ?_
  show Go p e below _ (T26.setTop (mkF m 154 #[.val (.int p0), .val (.int p1), .val (.int p2), .val (.int p3), .val (.int p4), .val (.int p5), .val (.ref b1), .val (.int kf), .val (.int kt), .val (.int kw), .val (.int (1 : Int32))] []))
  refine go (fun t kt' => by refine XS.iload X26.here hx rfl (hb hby at_154) rfl ?_; exact kt') ?_
  show Go p e below _ (T26.setTop (mkF m 156 #[.val (.int p0), .val (.int p1), .val (.int p2), .val (.int p3), .val (.int p4), .val (.int p5), .val (.ref b1), .val (.int kf), .val (.int kt), .val (.int kw), .val (.int (1 : Int32))] [(.int kw)]))
  refine go (fun t kt' => by refine XS.iload X26.here hx rfl (hb hby at_156) rfl ?_; exact kt') ?_
  show Go p e below _ (T26.setTop (mkF m 158 #[.val (.int p0), .val (.int p1), .val (.int p2), .val (.int p3), .val (.int p4), .val (.int p5), .val (.ref b1), .val (.int kf), .val (.int kt), .val (.int kw), .val (.int (1 : Int32))] [(.int kf), (.int kw)]))
  by_cases c158_28 : kw = kf
  · skip
    refine go (fun t kt' => by refine XS.icmpYes X26.here hx rfl (pc0 := 158) (pc' := 210) rfl (hb hby at_158) rfl (teq c158_28).1 (by decide) (by decide) ?_; exact kt') ?_
    show Go p e below _ (T26.setTop (mkF m 210 #[.val (.int p0), .val (.int p1), .val (.int p2), .val (.int p3), .val (.int p4), .val (.int p5), .val (.ref b1), .val (.int kf), .val (.int kt), .val (.int kw), .val (.int (1 : Int32))] []))
    refine go (fun t kt' => by refine XS.iload X26.here hx rfl (hb hby at_210) rfl ?_; exact kt') ?_
    show Go p e below _ (T26.setTop (mkF m 212 #[.val (.int p0), .val (.int p1), .val (.int p2), .val (.int p3), .val (.int p4), .val (.int p5), .val (.ref b1), .val (.int kf), .val (.int kt), .val (.int kw), .val (.int (1 : Int32))] [(.int (1 : Int32))]))
    refine goOut X26 (fun h => by rw [Bd.returns] at h; cases h) hlk (fun fs hr => retN X26 hx (t := .boolean) Bd.returns (by simp) (hb hby at_212) hr) (by decide) (by decide) ?_
    rw [e26]
    exact ⟨rfl, N26⟩
  · skip
    refine go (fun t kt' => by refine XS.icmpNo X26.here hx rfl (hb hby at_158) rfl (feq c158_28).1 ?_; exact kt') ?_
    show Go p e below _ (T26.setTop (mkF m 161 #[.val (.int p0), .val (.int p1), .val (.int p2), .val (.int p3), .val (.int p4), .val (.int p5), .val (.ref b1), .val (.int kf), .val (.int kt), .val (.int kw), .val (.int (1 : Int32))] []))
    refine go (fun t kt' => by refine XS.iload X26.here hx rfl (hb hby at_161) rfl ?_; exact kt') ?_
    show Go p e below _ (T26.setTop (mkF m 163 #[.val (.int p0), .val (.int p1), .val (.int p2), .val (.int p3), .val (.int p4), .val (.int p5), .val (.ref b1), .val (.int kf), .val (.int kt), .val (.int kw), .val (.int (1 : Int32))] [(.int kw)]))
    refine go (fun t kt' => by refine XS.iload X26.here hx rfl (hb hby at_163) rfl ?_; exact kt') ?_
    show Go p e below _ (T26.setTop (mkF m 165 #[.val (.int p0), .val (.int p1), .val (.int p2), .val (.int p3), .val (.int p4), .val (.int p5), .val (.ref b1), .val (.int kf), .val (.int kt), .val (.int kw), .val (.int (1 : Int32))] [(.int kt), (.int kw)]))
    by_cases c165_29 : kw = kt
    · skip
      refine go (fun t kt' => by refine XS.icmpYes X26.here hx rfl (pc0 := 165) (pc' := 210) rfl (hb hby at_165) rfl (teq c165_29).1 (by decide) (by decide) ?_; exact kt') ?_
      show Go p e below _ (T26.setTop (mkF m 210 #[.val (.int p0), .val (.int p1), .val (.int p2), .val (.int p3), .val (.int p4), .val (.int p5), .val (.ref b1), .val (.int kf), .val (.int kt), .val (.int kw), .val (.int (1 : Int32))] []))
      refine go (fun t kt' => by refine XS.iload X26.here hx rfl (hb hby at_210) rfl ?_; exact kt') ?_
      show Go p e below _ (T26.setTop (mkF m 212 #[.val (.int p0), .val (.int p1), .val (.int p2), .val (.int p3), .val (.int p4), .val (.int p5), .val (.ref b1), .val (.int kf), .val (.int kt), .val (.int kw), .val (.int (1 : Int32))] [(.int (1 : Int32))]))
      refine goOut X26 (fun h => by rw [Bd.returns] at h; cases h) hlk (fun fs hr => retN X26 hx (t := .boolean) Bd.returns (by simp) (hb hby at_212) hr) (by decide) (by decide) ?_
      rw [e26]
      exact ⟨rfl, N26⟩
    · skip
      refine go (fun t kt' => by refine XS.icmpNo X26.here hx rfl (hb hby at_165) rfl (feq c165_29).1 ?_; exact kt') ?_
      show Go p e below _ (T26.setTop (mkF m 168 #[.val (.int p0), .val (.int p1), .val (.int p2), .val (.int p3), .val (.int p4), .val (.int p5), .val (.ref b1), .val (.int kf), .val (.int kt), .val (.int kw), .val (.int (1 : Int32))] []))
      refine go (fun t kt' => by refine XS.iload X26.here hx rfl (hb hby at_168) rfl ?_; exact kt') ?_
      show Go p e below _ (T26.setTop (mkF m 170 #[.val (.int p0), .val (.int p1), .val (.int p2), .val (.int p3), .val (.int p4), .val (.int p5), .val (.ref b1), .val (.int kf), .val (.int kt), .val (.int kw), .val (.int (1 : Int32))] [(.int (1 : Int32))]))
      have c170_30 : ¬ ((1 : Int32) = (0 : Int32)) := by decide
      refine go (fun t kt' => by refine XS.ifNo X26.here hx rfl (hb hby at_170) rfl ((if0 _ _).trans (feq c170_30).1) ?_; exact kt') ?_
      show Go p e below _ (T26.setTop (mkF m 173 #[.val (.int p0), .val (.int p1), .val (.int p2), .val (.int p3), .val (.int p4), .val (.int p5), .val (.ref b1), .val (.int kf), .val (.int kt), .val (.int kw), .val (.int (1 : Int32))] []))
      refine go (fun t kt' => by refine XS.aload X26.here hx rfl (hb hby at_173) rfl rfl ?_; exact kt') ?_
      show Go p e below _ (T26.setTop (mkF m 175 #[.val (.int p0), .val (.int p1), .val (.int p2), .val (.int p3), .val (.int p4), .val (.int p5), .val (.ref b1), .val (.int kf), .val (.int kt), .val (.int kw), .val (.int (1 : Int32))] [(.ref b1)]))
      refine go (fun t kt' => by refine XS.iload X26.here hx rfl (hb hby at_175) rfl ?_; exact kt') ?_
      show Go p e below _ (T26.setTop (mkF m 177 #[.val (.int p0), .val (.int p1), .val (.int p2), .val (.int p3), .val (.int p4), .val (.int p5), .val (.ref b1), .val (.int kf), .val (.int kt), .val (.int kw), .val (.int (1 : Int32))] [(.int kw), (.ref b1)]))
      obtain ⟨cq31, kq31, q31a, q31b, q31c⟩ := isOf hZ e26 f14_E_b1
      obtain ⟨_, _, ⟨T31, L31, k31, n31⟩, -, X31, ⟨Lc31, hQ31, l31, y31, z31⟩, st31⟩ := X26.virtualBack hx (y := (⟨"com/example/coreloom/coreloom/Core", "opcode", "(I)I"⟩ : MethodName)) (z := (⟨"com/example/coreloom/coreloom/Core", "opcode", "(I)I"⟩ : MethodName)) hown (mvT hZ (hw _ (List.mem_of_getElem? (i := 28) rfl))) (mvT hZ (hw _ (List.mem_of_getElem? (i := 29) rfl))) (notFace_of_selects (args := #[]) (mvT hZ (hw _ (List.mem_of_getElem? (i := 31) rfl)))) (mvT hZ (hw _ (List.mem_of_getElem? (i := 31) rfl))) (mvT hZ (hw _ (List.mem_of_getElem? (i := 30) rfl))) (by decide) (backOf (W := 0) (rm5 l Z a0 hw [] b1 kw b1' b2' b3' (upI (upI (upI (fun _ => (0 : Int32)) (kt).toNatClampNeg (p2 ^^^ (-1 : Int32))) (kf).toNatClampNeg p2) (kt).toNatClampNeg ((upI (upI (fun _ => (0 : Int32)) (kt).toNatClampNeg (p2 ^^^ (-1 : Int32))) (kf).toNatClampNeg p2) (kf).toNatClampNeg)) (upI (upI (upI (fun _ => (0 : Int32)) (kt).toNatClampNeg (p3 ^^^ (-1 : Int32))) (kf).toNatClampNeg p3) (kt).toNatClampNeg ((upI (upI (fun _ => (0 : Int32)) (kt).toNatClampNeg (p3 ^^^ (-1 : Int32))) (kf).toNatClampNeg p3) (kf).toNatClampNeg)) (upI (upI (upI (fun _ => (0 : Int32)) (kt).toNatClampNeg (p4 ^^^ (-1 : Int32))) (kf).toNatClampNeg p4) (kt).toNatClampNeg ((upI (upI (fun _ => (0 : Int32)) (kt).toNatClampNeg (p4 ^^^ (-1 : Int32))) (kf).toNatClampNeg p4) (kf).toNatClampNeg)) T12.heap n0 f13_Z HC12 rkw) hZ (hw _ (List.mem_of_getElem? (i := 32) rfl)) (hw _ (List.mem_of_getElem? (i := 2) rfl)) (by decide) (by decide)) q31a q31c (g := (mkF m 177 #[.val (.int p0), .val (.int p1), .val (.int p2), .val (.int p3), .val (.int p4), .val (.int p5), .val (.ref b1), .val (.int kf), .val (.int kt), .val (.int kw), .val (.int (1 : Int32))] [(.int kw), (.ref b1)])) rfl (by rw [hml]; rfl) (Steps.refl _) (argsL := [(.int kw)]) (rest := []) (lenOf pd_3 rfl) rfl (by show 2 * 0 + _ ≤ _; exact Nat.le_of_eq rfl) (hb hby at_177) (fun _ _ => ⟨rfl, e26, (by decide : 4 + 0 ≤ _), (by decide : 52 + 0 ≤ _)⟩)
      dsimp only [Pt.U, Pt.locs, Pt.cells, Pt.slots] at X31 l31 y31 z31 st31 hQ31
      subst l31 y31 z31
      obtain ⟨rfl, N31q, e31⟩ := hQ31
      have N31 := Fr.app N26 N31q
      refine go (fun t kt => st31.trans kt) ?_
      show Go p e below _ (T31.setTop (mkF m 180 #[.val (.int p0), .val (.int p1), .val (.int p2), .val (.int p3), .val (.int p4), .val (.int p5), .val (.ref b1), .val (.int kf), .val (.int kt), .val (.int kw), .val (.int (1 : Int32))] [(.int ((upI (upI (upI (fun _ => (0 : Int32)) (kt).toNatClampNeg (p2 ^^^ (-1 : Int32))) (kf).toNatClampNeg p2) (kt).toNatClampNeg ((upI (upI (fun _ => (0 : Int32)) (kt).toNatClampNeg (p2 ^^^ (-1 : Int32))) (kf).toNatClampNeg p2) (kf).toNatClampNeg)) (kw).toNatClampNeg))]))
      have c180_32 : ¬ (¬ ((upI (upI (upI (fun _ => (0 : Int32)) (kt).toNatClampNeg (p2 ^^^ (-1 : Int32))) (kf).toNatClampNeg p2) (kt).toNatClampNeg ((upI (upI (fun _ => (0 : Int32)) (kt).toNatClampNeg (p2 ^^^ (-1 : Int32))) (kf).toNatClampNeg p2) (kf).toNatClampNeg)) (kw).toNatClampNeg) = (0 : Int32)) := not_not_intro (own_v3 _ _ _ _ _ _ _ (own_ne _ _ rkw rkf c158_28) (own_ne _ _ rkw rkt c165_29) rfl)
      refine go (fun t kt' => by refine XS.ifNo X31.here hx rfl (hb hby at_180) rfl ((if0 _ _).trans (teq (Decidable.not_not.mp c180_32)).2) ?_; exact kt') ?_
      show Go p e below _ (T31.setTop (mkF m 183 #[.val (.int p0), .val (.int p1), .val (.int p2), .val (.int p3), .val (.int p4), .val (.int p5), .val (.ref b1), .val (.int kf), .val (.int kt), .val (.int kw), .val (.int (1 : Int32))] []))
      refine go (fun t kt' => by refine XS.aload X31.here hx rfl (hb hby at_183) rfl rfl ?_; exact kt') ?_
      show Go p e below _ (T31.setTop (mkF m 185 #[.val (.int p0), .val (.int p1), .val (.int p2), .val (.int p3), .val (.int p4), .val (.int p5), .val (.ref b1), .val (.int kf), .val (.int kt), .val (.int kw), .val (.int (1 : Int32))] [(.ref b1)]))
      refine go (fun t kt' => by refine XS.iload X31.here hx rfl (hb hby at_185) rfl ?_; exact kt') ?_
      show Go p e below _ (T31.setTop (mkF m 187 #[.val (.int p0), .val (.int p1), .val (.int p2), .val (.int p3), .val (.int p4), .val (.int p5), .val (.ref b1), .val (.int kf), .val (.int kt), .val (.int kw), .val (.int (1 : Int32))] [(.int kw), (.ref b1)]))
      obtain ⟨cq33, kq33, q33a, q33b, q33c⟩ := isOf hZ e31 f14_E_b1
      obtain ⟨_, _, ⟨T33, L33, k33, n33⟩, -, X33, ⟨Lc33, hQ33, l33, y33, z33⟩, st33⟩ := X31.virtualBack hx (y := (⟨"com/example/coreloom/coreloom/Core", "fieldA", "(I)I"⟩ : MethodName)) (z := (⟨"com/example/coreloom/coreloom/Core", "fieldA", "(I)I"⟩ : MethodName)) hown (mvT hZ (hw _ (List.mem_of_getElem? (i := 33) rfl))) (mvT hZ (hw _ (List.mem_of_getElem? (i := 34) rfl))) (notFace_of_selects (args := #[]) (mvT hZ (hw _ (List.mem_of_getElem? (i := 36) rfl)))) (mvT hZ (hw _ (List.mem_of_getElem? (i := 36) rfl))) (mvT hZ (hw _ (List.mem_of_getElem? (i := 35) rfl))) (by decide) (backOf (W := 0) (rm6 l Z a0 hw [] b1 kw b1' b2' b3' (upI (upI (upI (fun _ => (0 : Int32)) (kt).toNatClampNeg (p2 ^^^ (-1 : Int32))) (kf).toNatClampNeg p2) (kt).toNatClampNeg ((upI (upI (fun _ => (0 : Int32)) (kt).toNatClampNeg (p2 ^^^ (-1 : Int32))) (kf).toNatClampNeg p2) (kf).toNatClampNeg)) (upI (upI (upI (fun _ => (0 : Int32)) (kt).toNatClampNeg (p3 ^^^ (-1 : Int32))) (kf).toNatClampNeg p3) (kt).toNatClampNeg ((upI (upI (fun _ => (0 : Int32)) (kt).toNatClampNeg (p3 ^^^ (-1 : Int32))) (kf).toNatClampNeg p3) (kf).toNatClampNeg)) (upI (upI (upI (fun _ => (0 : Int32)) (kt).toNatClampNeg (p4 ^^^ (-1 : Int32))) (kf).toNatClampNeg p4) (kt).toNatClampNeg ((upI (upI (fun _ => (0 : Int32)) (kt).toNatClampNeg (p4 ^^^ (-1 : Int32))) (kf).toNatClampNeg p4) (kf).toNatClampNeg)) T12.heap n0 f13_Z HC12 rkw) hZ (hw _ (List.mem_of_getElem? (i := 37) rfl)) (hw _ (List.mem_of_getElem? (i := 2) rfl)) (by decide) (by decide)) q33a q33c (g := (mkF m 187 #[.val (.int p0), .val (.int p1), .val (.int p2), .val (.int p3), .val (.int p4), .val (.int p5), .val (.ref b1), .val (.int kf), .val (.int kt), .val (.int kw), .val (.int (1 : Int32))] [(.int kw), (.ref b1)])) rfl (by rw [hml]; rfl) (Steps.refl _) (argsL := [(.int kw)]) (rest := []) (lenOf pd_3 rfl) rfl (by show 2 * 0 + _ ≤ _; exact Nat.le_of_eq rfl) (hb hby at_187) (fun _ _ => ⟨rfl, e31, (by decide : 4 + 0 ≤ _), (by decide : 52 + 0 ≤ _)⟩)
      dsimp only [Pt.U, Pt.locs, Pt.cells, Pt.slots] at X33 l33 y33 z33 st33 hQ33
      subst l33 y33 z33
      obtain ⟨rfl, N33q, e33⟩ := hQ33
      have N33 := Fr.app N31 N33q
      refine go (fun t kt => st33.trans kt) ?_
      show Go p e below _ (T33.setTop (mkF m 190 #[.val (.int p0), .val (.int p1), .val (.int p2), .val (.int p3), .val (.int p4), .val (.int p5), .val (.ref b1), .val (.int kf), .val (.int kt), .val (.int kw), .val (.int (1 : Int32))] [(.int ((upI (upI (upI (fun _ => (0 : Int32)) (kt).toNatClampNeg (p3 ^^^ (-1 : Int32))) (kf).toNatClampNeg p3) (kt).toNatClampNeg ((upI (upI (fun _ => (0 : Int32)) (kt).toNatClampNeg (p3 ^^^ (-1 : Int32))) (kf).toNatClampNeg p3) (kf).toNatClampNeg)) (kw).toNatClampNeg))]))
      have c190_34 : ¬ (¬ ((upI (upI (upI (fun _ => (0 : Int32)) (kt).toNatClampNeg (p3 ^^^ (-1 : Int32))) (kf).toNatClampNeg p3) (kt).toNatClampNeg ((upI (upI (fun _ => (0 : Int32)) (kt).toNatClampNeg (p3 ^^^ (-1 : Int32))) (kf).toNatClampNeg p3) (kf).toNatClampNeg)) (kw).toNatClampNeg) = (0 : Int32)) := not_not_intro (own_v3 _ _ _ _ _ _ _ (own_ne _ _ rkw rkf c158_28) (own_ne _ _ rkw rkt c165_29) rfl)
      refine go (fun t kt' => by refine XS.ifNo X33.here hx rfl (hb hby at_190) rfl ((if0 _ _).trans (teq (Decidable.not_not.mp c190_34)).2) ?_; exact kt') ?_
      show Go p e below _ (T33.setTop (mkF m 193 #[.val (.int p0), .val (.int p1), .val (.int p2), .val (.int p3), .val (.int p4), .val (.int p5), .val (.ref b1), .val (.int kf), .val (.int kt), .val (.int kw), .val (.int (1 : Int32))] []))
      refine go (fun t kt' => by refine XS.aload X33.here hx rfl (hb hby at_193) rfl rfl ?_; exact kt') ?_
      show Go p e below _ (T33.setTop (mkF m 195 #[.val (.int p0), .val (.int p1), .val (.int p2), .val (.int p3), .val (.int p4), .val (.int p5), .val (.ref b1), .val (.int kf), .val (.int kt), .val (.int kw), .val (.int (1 : Int32))] [(.ref b1)]))
      refine go (fun t kt' => by refine XS.iload X33.here hx rfl (hb hby at_195) rfl ?_; exact kt') ?_
      show Go p e below _ (T33.setTop (mkF m 197 #[.val (.int p0), .val (.int p1), .val (.int p2), .val (.int p3), .val (.int p4), .val (.int p5), .val (.ref b1), .val (.int kf), .val (.int kt), .val (.int kw), .val (.int (1 : Int32))] [(.int kw), (.ref b1)]))
      obtain ⟨cq35, kq35, q35a, q35b, q35c⟩ := isOf hZ e33 f14_E_b1
      obtain ⟨_, _, ⟨T35, L35, k35, n35⟩, -, X35, ⟨Lc35, hQ35, l35, y35, z35⟩, st35⟩ := X33.virtualBack hx (y := (⟨"com/example/coreloom/coreloom/Core", "fieldB", "(I)I"⟩ : MethodName)) (z := (⟨"com/example/coreloom/coreloom/Core", "fieldB", "(I)I"⟩ : MethodName)) hown (mvT hZ (hw _ (List.mem_of_getElem? (i := 38) rfl))) (mvT hZ (hw _ (List.mem_of_getElem? (i := 39) rfl))) (notFace_of_selects (args := #[]) (mvT hZ (hw _ (List.mem_of_getElem? (i := 41) rfl)))) (mvT hZ (hw _ (List.mem_of_getElem? (i := 41) rfl))) (mvT hZ (hw _ (List.mem_of_getElem? (i := 40) rfl))) (by decide) (backOf (W := 0) (rm7 l Z a0 hw [] b1 kw b1' b2' b3' (upI (upI (upI (fun _ => (0 : Int32)) (kt).toNatClampNeg (p2 ^^^ (-1 : Int32))) (kf).toNatClampNeg p2) (kt).toNatClampNeg ((upI (upI (fun _ => (0 : Int32)) (kt).toNatClampNeg (p2 ^^^ (-1 : Int32))) (kf).toNatClampNeg p2) (kf).toNatClampNeg)) (upI (upI (upI (fun _ => (0 : Int32)) (kt).toNatClampNeg (p3 ^^^ (-1 : Int32))) (kf).toNatClampNeg p3) (kt).toNatClampNeg ((upI (upI (fun _ => (0 : Int32)) (kt).toNatClampNeg (p3 ^^^ (-1 : Int32))) (kf).toNatClampNeg p3) (kf).toNatClampNeg)) (upI (upI (upI (fun _ => (0 : Int32)) (kt).toNatClampNeg (p4 ^^^ (-1 : Int32))) (kf).toNatClampNeg p4) (kt).toNatClampNeg ((upI (upI (fun _ => (0 : Int32)) (kt).toNatClampNeg (p4 ^^^ (-1 : Int32))) (kf).toNatClampNeg p4) (kf).toNatClampNeg)) T12.heap n0 f13_Z HC12 rkw) hZ (hw _ (List.mem_of_getElem? (i := 42) rfl)) (hw _ (List.mem_of_getElem? (i := 2) rfl)) (by decide) (by decide)) q35a q35c (g := (mkF m 197 #[.val (.int p0), .val (.int p1), .val (.int p2), .val (.int p3), .val (.int p4), .val (.int p5), .val (.ref b1), .val (.int kf), .val (.int kt), .val (.int kw), .val (.int (1 : Int32))] [(.int kw), (.ref b1)])) rfl (by rw [hml]; rfl) (Steps.refl _) (argsL := [(.int kw)]) (rest := []) (lenOf pd_3 rfl) rfl (by show 2 * 0 + _ ≤ _; exact Nat.le_of_eq rfl) (hb hby at_197) (fun _ _ => ⟨rfl, e33, (by decide : 4 + 0 ≤ _), (by decide : 52 + 0 ≤ _)⟩)
      dsimp only [Pt.U, Pt.locs, Pt.cells, Pt.slots] at X35 l35 y35 z35 st35 hQ35
      subst l35 y35 z35
      obtain ⟨rfl, N35q, e35⟩ := hQ35
      have N35 := Fr.app N33 N35q
      refine go (fun t kt => st35.trans kt) ?_
      show Go p e below _ (T35.setTop (mkF m 200 #[.val (.int p0), .val (.int p1), .val (.int p2), .val (.int p3), .val (.int p4), .val (.int p5), .val (.ref b1), .val (.int kf), .val (.int kt), .val (.int kw), .val (.int (1 : Int32))] [(.int ((upI (upI (upI (fun _ => (0 : Int32)) (kt).toNatClampNeg (p4 ^^^ (-1 : Int32))) (kf).toNatClampNeg p4) (kt).toNatClampNeg ((upI (upI (fun _ => (0 : Int32)) (kt).toNatClampNeg (p4 ^^^ (-1 : Int32))) (kf).toNatClampNeg p4) (kf).toNatClampNeg)) (kw).toNatClampNeg))]))
      have c200_36 : ¬ (¬ ((upI (upI (upI (fun _ => (0 : Int32)) (kt).toNatClampNeg (p4 ^^^ (-1 : Int32))) (kf).toNatClampNeg p4) (kt).toNatClampNeg ((upI (upI (fun _ => (0 : Int32)) (kt).toNatClampNeg (p4 ^^^ (-1 : Int32))) (kf).toNatClampNeg p4) (kf).toNatClampNeg)) (kw).toNatClampNeg) = (0 : Int32)) := not_not_intro (own_v3 _ _ _ _ _ _ _ (own_ne _ _ rkw rkf c158_28) (own_ne _ _ rkw rkt c165_29) rfl)
      refine go (fun t kt' => by refine XS.ifNo X35.here hx rfl (hb hby at_200) rfl ((if0 _ _).trans (teq (Decidable.not_not.mp c200_36)).2) ?_; exact kt') ?_
      show Go p e below _ (T35.setTop (mkF m 203 #[.val (.int p0), .val (.int p1), .val (.int p2), .val (.int p3), .val (.int p4), .val (.int p5), .val (.ref b1), .val (.int kf), .val (.int kt), .val (.int kw), .val (.int (1 : Int32))] []))
      refine go (fun t kt' => by refine XS.iconst X35.here hx rfl (hb hby at_203) ?_; exact kt') ?_
      show Go p e below _ (T35.setTop (mkF m 204 #[.val (.int p0), .val (.int p1), .val (.int p2), .val (.int p3), .val (.int p4), .val (.int p5), .val (.ref b1), .val (.int kf), .val (.int kt), .val (.int kw), .val (.int (1 : Int32))] [(.int (1 : Int32))]))
      refine go (fun t kt' => by refine XS.goto X35.here hx rfl (pc0 := 204) (pc' := 208) rfl (hb hby at_204) (by decide) (by decide) ?_; exact kt') ?_
      show Go p e below _ (T35.setTop (mkF m 208 #[.val (.int p0), .val (.int p1), .val (.int p2), .val (.int p3), .val (.int p4), .val (.int p5), .val (.ref b1), .val (.int kf), .val (.int kt), .val (.int kw), .val (.int (1 : Int32))] [(.int (1 : Int32))]))
      refine go (fun t kt' => by refine XS.istore X35.here hx rfl (hb hby at_208) rfl (l' := #[.val (.int p0), .val (.int p1), .val (.int p2), .val (.int p3), .val (.int p4), .val (.int p5), .val (.ref b1), .val (.int kf), .val (.int kt), .val (.int kw), .val (.int (1 : Int32))]) rfl ?_; exact kt') ?_
      show Go p e below _ (T35.setTop (mkF m 210 #[.val (.int p0), .val (.int p1), .val (.int p2), .val (.int p3), .val (.int p4), .val (.int p5), .val (.ref b1), .val (.int kf), .val (.int kt), .val (.int kw), .val (.int (1 : Int32))] []))
      refine go (fun t kt' => by refine XS.iload X35.here hx rfl (hb hby at_210) rfl ?_; exact kt') ?_
      show Go p e below _ (T35.setTop (mkF m 212 #[.val (.int p0), .val (.int p1), .val (.int p2), .val (.int p3), .val (.int p4), .val (.int p5), .val (.ref b1), .val (.int kf), .val (.int kt), .val (.int kw), .val (.int (1 : Int32))] [(.int (1 : Int32))]))
      refine goOut X35 (fun h => by rw [Bd.returns] at h; cases h) hlk (fun fs hr => retN X35 hx (t := .boolean) Bd.returns (by simp) (hb hby at_212) hr) (by decide) (by decide) ?_
      rw [e35]
      exact ⟨rfl, N35⟩
set_option maxRecDepth 65536 in
set_option maxHeartbeats 40000000 in
theorem comes_1 {Post : Tables → Env → Array Value → State → Outcome → State → Prop} (hpost : ∀ tb e args s v u, (limb_1_1.after args s (.returned v) u = true ∧ limb_1_2.after args s (.returned v) u = true ∧ True) → FrameEnd s (.returned v) u (Jvm.fieldLocs frame_1_writes args s ++ Jvm.arrayLocs frame_1_arrays args s ++ Jvm.staticLocs frame_1_statics s) 16 192 → Post tb e args s (.returned v) u) :
    ArmFor flags0 classFile x code maxLocals ret World_1 tables_1 room_1 Calls_1 rest_1 Pre_1 Post := by
  intro l hfl _ _ p e ha hc hk s m args below hf hA hF happ hP
  obtain ⟨hcalls, hrest, hpre⟩ := hP
  obtain ⟨-, -, -, hnamed, -, -, -, hat⟩ := (Spec.applies_iff hf).mp happ
  obtain ⟨hg, hn⟩ := and_e (Cond.before_iff.mp (show (Jvm.Cond.and given_1 narrow_1).before args s = true from hpre))
  obtain ⟨g1, g2⟩ := and_e hg
  obtain ⟨g3, g4⟩ := and_e g2
  obtain ⟨g5, g6⟩ := and_e g4
  obtain ⟨g7, g8⟩ := and_e g6
  obtain ⟨g9, g10⟩ := and_e g8
  obtain ⟨g11, g12⟩ := and_e g10
  obtain ⟨w0, w1, w2, w3, w4, w5, rfl⟩ : ∃ w0 w1 w2 w3 w4 w5 : Value, args = #[w0, w1, w2, w3, w4, w5] := by
    have hs : args.size = 6 := by simpa [Cond.value, given_1] using g1
    obtain ⟨L⟩ := args
    match L, hs with
    | [w0, w1, w2, w3, w4, w5], _ => exact ⟨w0, w1, w2, w3, w4, w5, rfl⟩
  have hw := fun d (hd : d ∈ tables_1) => atoms_spec (ws := Jvm.Cond.code x code maxLocals ret :: tables_1) hat d (List.mem_cons_of_mem _ hd)
  have hfit : Fit s := fun {y c} hc i hi => by
    obtain ⟨ha, rfl⟩ := Array.getElem?_eq_some_iff.mp hc
    have q := List.all_eq_true.mp ((Array.all_eq_true_iff_forall_mem.mp hF) _ (Array.getElem_mem ha)) i (List.mem_range.mpr hi)
    simpa [Array.getElem?_eq_getElem hi] using q
  obtain ⟨i0, ei0⟩ := is_v g3
  obtain rfl : w0 = (.int i0) := Option.some.inj ei0
  obtain ⟨i1, ei1⟩ := is_v g5
  obtain rfl : w1 = (.int i1) := Option.some.inj ei1
  obtain ⟨i2, ei2⟩ := is_v g7
  obtain rfl : w2 = (.int i2) := Option.some.inj ei2
  obtain ⟨i3, ei3⟩ := is_v g9
  obtain rfl : w3 = (.int i3) := Option.some.inj ei3
  obtain ⟨i4, ei4⟩ := is_v g11
  obtain rfl : w4 = (.int i4) := Option.some.inj ei4
  obtain ⟨i5, ei5⟩ := is_v g12
  obtain rfl : w5 = (.int i5) := Option.some.inj ei5
  obtain ⟨n, o, h1, h2, h3, _, L, rfl, ⟨rfl, N⟩, hq⟩ := rm0 l s _ hw tables_1 i0 i1 i2 i3 i4 i5  s.heap s.heap.size (Nat.le_refl _)  p e ha hc hk s m _ below hf ((Spec.applies_iff_loose hf).mp happ).1 ⟨rfl, State.Warmed39.refl s, rfl⟩ trivial
  refine ⟨n, _, h1, h2, h3, hpost _ _ _ _ _ _ ⟨Cond.after_iff.mpr rfl, Cond.after_iff.mpr (eq_i res_at (Term.int_eval (1)) rfl), trivial⟩ ⟨hq.1, hq.2.1, (hq.2.2.sift fun y hy => Or.inr (N y hy)).mono (by decide) (by decide)⟩⟩
theorem main_1_1 : Claimed_1_1 := comes_1 fun _ _ _ _ _ _ h hF => ⟨h.1, hF⟩
theorem main_1_2 : Claimed_1_2 := comes_1 fun _ _ _ _ _ _ h hF => ⟨h.2.1, hF⟩
end Jvm.Pilot.@@N@@
namespace Jvm.Pilot.@@N@@
open Jvm Jvm.ClassFile Sem Op Lib Jvm.Free Jvm.Stand Jvm.Pilot.@@N@@.Jvm.D
/-! MADE BY PROGRAM (witnessworld.py) out of the Statement's table words and the real class files: 9 classes; the members and pool entries that the words name. The judged class is class 1, her method 1. -/
namespace start1
open Jvm.ClassFile
def u (s : String) : CpInfo := .utf8 (stringToUtf16 s)
/-- a pool by its gaps: so many unusable entries, then the entry; so many at the end -/
def gap : Nat → List CpInfo → List CpInfo
  | 0, r => r
  | n + 1, r => .unusable :: gap n r
def poolList (es : List (Nat × CpInfo)) (last : Nat) : List CpInfo := es.foldr (fun e r => gap e.1 (e.2 :: r)) (gap last [])
def pool (es : List (Nat × CpInfo)) (last : Nat) : Array CpInfo := ⟨poolList es last⟩
def fileOf (pool : Array CpInfo) (this : Nat) (attrs : Array Attribute := #[]) (ms : Array MethodInfo := #[]) (fl : Nat := 33) (sup : Nat := 0) (ifs : Array Nat := #[]) (fds : Array FieldInfo := #[]) : ClassFile where
  minorVersion := 0
  majorVersion := 65
  constantPool := pool
  accessFlags := fl
  thisClass := this
  superClass := sup
  interfaces := ifs
  fields := fds
  methods := ms
  attributes := attrs
def plain (name : String) (sup : Option ClassId) : Class where
  name := name
  kind := .ordinary
  loader := none
  accessFlags := 33
  super := sup
  interfaces := #[]
  cf := none
  fields := #[]
  methods := #[]
  instanceTypes := #[]
  staticTypes := #[]
  resolved := #[]
  callSites := []
  init := .initialized
  statics := none
  mirror := none

def pool0 : Array CpInfo := pool [(5, u "<init>"), (0, u "()V"), (1, .class_ 10), (1, u "java/lang/Object")] 113

def k0c0 : Code := { maxStack := 0, maxLocals := 1, code := object_method_1_code, exceptionTable := #[], attributes := #[] }
def k0m0 : Method := { name := "<init>", desc := "()V", sig := { parameters := [], returnType := none }, accessFlags := 1, code := some k0c0 }
/-- java/lang/Object -/
def k0 : Class := { plain "java/lang/Object" none with
  accessFlags := 33
  interfaces := #[]
  cf := some (fileOf pool0 8 #[] #[{ accessFlags := 1, nameIndex := 5, descriptorIndex := 6, attributes := #[] }] 33 0 #[] #[])
  fields := #[]
  methods := #[k0m0]
  instanceTypes := #[]
  staticTypes := #[]
  resolved := Array.replicate 124 none
  statics := none }

def pool1 : Array CpInfo := pool [(2, .class_ 4), (1, u "java/lang/Object"), (0, u "<init>"), (0, u "()V"), (0, .class_ 8), (0, u "com/example/coreloom/coreloom/Core"), (0, .methodref 7 10), (0, .nameAndType 5 11), (0, u "(I)V"), (0, .methodref 7 13), (0, .nameAndType 14 15), (0, u "write"), (0, u "(IIII)V"), (0, .methodref 7 17), (0, .nameAndType 18 19), (0, u "copy"), (0, u "(II)V"), (0, .methodref 7 21), (0, .nameAndType 22 23), (0, u "opcode"), (0, u "(I)I"), (0, .methodref 7 25), (0, .nameAndType 26 23), (0, u "fieldA"), (0, .methodref 7 28), (0, .nameAndType 29 23), (0, u "fieldB"), (0, .class_ 31), (0, u "com/example/coreloom/coreloom/CoreCopyPinLaw"), (2, u "law"), (0, u "(IIIIII)Z")] 3

def k1m0 : Method := { name := "<init>", desc := "()V", sig := { parameters := [], returnType := none }, accessFlags := 2, code := none }
def k1c1 : Code := { maxStack := 6, maxLocals := 11, code := code, exceptionTable := #[], attributes := #[] }
def k1m1 : Method := { name := "law", desc := "(IIIIII)Z", sig := { parameters := [.int, .int, .int, .int, .int, .int], returnType := some .boolean }, accessFlags := 9, code := some k1c1 }
/-- com/example/coreloom/coreloom/CoreCopyPinLaw -/
def k1 : Class := { plain "com/example/coreloom/coreloom/CoreCopyPinLaw" (some 0) with
  accessFlags := 49
  interfaces := #[]
  cf := some (fileOf pool1 30 #[] #[{ accessFlags := 2, nameIndex := 5, descriptorIndex := 6, attributes := #[] }, { accessFlags := 9, nameIndex := 34, descriptorIndex := 35, attributes := #[] }] 49 2 #[] #[])
  fields := #[]
  methods := #[k1m0, k1m1]
  instanceTypes := #[]
  staticTypes := #[]
  resolved := Array.replicate 39 none
  statics := none }

def pool2 : Array CpInfo := pool [(1, .methodref 2 3), (0, .class_ 4), (0, .nameAndType 5 6), (0, u "java/lang/Object"), (0, u "<init>"), (0, u "()V"), (0, .class_ 8), (0, u "com/example/coreloom/coreloom/Core"), (9, .fieldref 7 19), (0, .nameAndType 20 21), (0, u "size"), (0, u "I"), (0, .fieldref 7 23), (0, .nameAndType 24 25), (0, u "opcodes"), (0, u "[I"), (0, .fieldref 7 27), (0, .nameAndType 28 25), (0, u "fieldsA"), (0, .fieldref 7 30), (0, .nameAndType 31 25), (0, u "fieldsB"), (26, u "opcode"), (9, u "write"), (0, u "(IIII)V"), (0, u "MIN_SIZE"), (2, u "(I)V"), (8, u "(I)I"), (0, u "fieldA"), (0, u "fieldB"), (2, u "(II)V"), (1, u "copy")] 17

def k2c0 : Code := { maxStack := 3, maxLocals := 2, code := prog_9_method_1_code, exceptionTable := #[], attributes := #[] }
def k2m0 : Method := { name := "<init>", desc := "(I)V", sig := { parameters := [.int], returnType := none }, accessFlags := 0, code := some k2c0 }
def k2c1 : Code := { maxStack := 2, maxLocals := 2, code := prog_9_method_6_code, exceptionTable := #[], attributes := #[] }
def k2m1 : Method := { name := "opcode", desc := "(I)I", sig := { parameters := [.int], returnType := some .int }, accessFlags := 0, code := some k2c1 }
def k2c2 : Code := { maxStack := 2, maxLocals := 2, code := prog_9_method_7_code, exceptionTable := #[], attributes := #[] }
def k2m2 : Method := { name := "fieldA", desc := "(I)I", sig := { parameters := [.int], returnType := some .int }, accessFlags := 0, code := some k2c2 }
def k2c3 : Code := { maxStack := 2, maxLocals := 2, code := prog_9_method_8_code, exceptionTable := #[], attributes := #[] }
def k2m3 : Method := { name := "fieldB", desc := "(I)I", sig := { parameters := [.int], returnType := some .int }, accessFlags := 0, code := some k2c3 }
def k2c4 : Code := { maxStack := 3, maxLocals := 5, code := prog_9_method_10_code, exceptionTable := #[], attributes := #[] }
def k2m4 : Method := { name := "write", desc := "(IIII)V", sig := { parameters := [.int, .int, .int, .int], returnType := none }, accessFlags := 0, code := some k2c4 }
def k2c5 : Code := { maxStack := 4, maxLocals := 3, code := prog_9_method_13_code, exceptionTable := #[], attributes := #[] }
def k2m5 : Method := { name := "copy", desc := "(II)V", sig := { parameters := [.int, .int], returnType := none }, accessFlags := 0, code := some k2c5 }
/-- com/example/coreloom/coreloom/Core -/
def k2 : Class := { plain "com/example/coreloom/coreloom/Core" (some 0) with
  accessFlags := 48
  interfaces := #[]
  cf := some (fileOf pool2 7 #[] #[{ accessFlags := 0, nameIndex := 5, descriptorIndex := 73, attributes := #[] }, { accessFlags := 0, nameIndex := 58, descriptorIndex := 82, attributes := #[] }, { accessFlags := 0, nameIndex := 83, descriptorIndex := 82, attributes := #[] }, { accessFlags := 0, nameIndex := 84, descriptorIndex := 82, attributes := #[] }, { accessFlags := 0, nameIndex := 68, descriptorIndex := 69, attributes := #[] }, { accessFlags := 0, nameIndex := 89, descriptorIndex := 87, attributes := #[] }] 48 2 #[] #[{ accessFlags := 24, nameIndex := 70, descriptorIndex := 21, attributes := #[] }, { accessFlags := 18, nameIndex := 20, descriptorIndex := 21, attributes := #[] }, { accessFlags := 18, nameIndex := 24, descriptorIndex := 25, attributes := #[] }, { accessFlags := 18, nameIndex := 28, descriptorIndex := 25, attributes := #[] }, { accessFlags := 18, nameIndex := 31, descriptorIndex := 25, attributes := #[] }])
  fields := #[{ name := "MIN_SIZE", type := .int, accessFlags := 24, slot := 0, constantValue := 0 }, { name := "size", type := .int, accessFlags := 18, slot := 0, constantValue := 0 }, { name := "opcodes", type := (.array .int), accessFlags := 18, slot := 1, constantValue := 0 }, { name := "fieldsA", type := (.array .int), accessFlags := 18, slot := 2, constantValue := 0 }, { name := "fieldsB", type := (.array .int), accessFlags := 18, slot := 3, constantValue := 0 }]
  methods := #[k2m0, k2m1, k2m2, k2m3, k2m4, k2m5]
  instanceTypes := #[.int, (.array .int), (.array .int), (.array .int)]
  staticTypes := #[.int]
  resolved := Array.replicate 107 none
  statics := none }

def pool3 : Array CpInfo := pool [(1, u "java/lang/Cloneable"), (0, .class_ 1), (0, u "java/lang/Object"), (0, .class_ 3)] 3

/-- java/lang/Cloneable -/
def k3 : Class := { plain "java/lang/Cloneable" (some 0) with
  accessFlags := 1537
  interfaces := #[]
  cf := some (fileOf pool3 2 #[] #[] 1537 4 #[] #[])
  fields := #[]
  methods := #[]
  instanceTypes := #[]
  staticTypes := #[]
  resolved := Array.replicate 8 none
  statics := none }

def pool4 : Array CpInfo := pool [(1, u "java/io/Serializable"), (0, .class_ 1), (0, u "java/lang/Object"), (0, .class_ 3)] 3

/-- java/io/Serializable -/
def k4 : Class := { plain "java/io/Serializable" (some 0) with
  accessFlags := 1537
  interfaces := #[]
  cf := some (fileOf pool4 2 #[] #[] 1537 4 #[] #[])
  fields := #[]
  methods := #[]
  instanceTypes := #[]
  staticTypes := #[]
  resolved := Array.replicate 8 none
  statics := none }

/-- the primitive byte -/
def k5 : Class := { plain "byte" none with kind := .primitive 'B', accessFlags := 0x411 }
/-- [B -/
def k6 : Class := { plain "[B" (some 0) with kind := .array 5 .byte, interfaces := #[3, 4], accessFlags := 1041 }

/-- the primitive int -/
def k7 : Class := { plain "int" none with kind := .primitive 'I', accessFlags := 0x411 }
/-- [I -/
def k8 : Class := { plain "[I" (some 0) with kind := .array 7 .int, interfaces := #[3, 4], accessFlags := 1041 }

def heap : Heap := #[]
def classes : Array Class := #[k0, k1, k2, k3, k4, k5, k6, k7, k8]
def interned : List (Array UInt16 × Addr) := []
def slotsUsed : Nat := 0
def theMethod : MethodId := ⟨1, 1⟩
def args0 : Array Value := #[.int 5, .int 7, .int 1, .int 2, .int 3, .int 4]
def aboutOver (below : List Frame) : State where
  vm := { classes := classes, interned := interned.toArray }
  heap := heap
  slotsUsed := slotsUsed
  threads := #[{ frames := .invoking theMethod args0 :: below }]
def below0 : List Frame := [.native { method := ⟨0, 0⟩, args := #[] }]
def about1 : State := aboutOver below0
def p0 : Program := .bare "" "" ""
def e0 : Env := launch0.env 0 0 0
theorem w_frames : about1.frames = Frame.invoking theMethod args0 :: below0 := rfl
set_option maxRecDepth 65536 in
theorem w_args : argsFit about1.vm theMethod args0 = true := by decide +kernel
set_option maxRecDepth 65536 in
theorem w_heap : heapFits about1 = true := by decide +kernel
set_option maxRecDepth 65536 in
theorem w_runnable : about1.curStatus? = some .runnable := by decide +kernel
set_option maxRecDepth 65536 in
theorem w_alone : about1.alone = true := by decide +kernel
set_option maxRecDepth 65536 in
theorem w_named : about1.methodNamed? x = some theMethod := by decide +kernel
set_option maxRecDepth 65536 in
theorem w_hears : about1.hears theMethod below0 = true := by decide +kernel
set_option maxRecDepth 65536 in
theorem w_ripe : about1.ripe theMethod args0 below0 = true := by decide +kernel
theorem w_running : about1.status = .running := rfl
set_option maxRecDepth 65536 in
theorem w_room : about1.hasRoom e0.platform room_1 = true :=
  launch0.hasRoom_least _ room_1 (by decide +kernel) (by decide +kernel) (by decide +kernel) (by decide +kernel) (by decide +kernel) (by decide +kernel)
theorem allAtoms_all (ts : List Jvm.Cond) (a : Array Jvm.Value) (st : Jvm.State) : (allAtoms ts).before a st = ts.all (fun c => c.before a st) := by
  induction ts with
  | nil => rfl
  | cons c t ih =>
    show (Jvm.Cond.and c (allAtoms t)).before a st = _
    rw [Jvm.Cond.before_and, ih, List.all_cons]
def words1 : List Jvm.Cond := Jvm.Cond.code x code maxLocals ret :: tables_1
/-- a 'code' word, met by the world's own term for the bytes: nothing is compared byte by byte -/
theorem code_word {y : MethodName} {bytes : ByteArray} {mx : Nat} {rt : Option FieldType} {a : Array Value} {s : State} {m : MethodId} {meth : Method} {c : Code} (h1 : s.methodNamed? y = some m) (h2 : s.vm.method? m = some meth) (h3 : meth.code = some c) (h4 : c.code = bytes)
    (h5 : (c.maxLocals == mx && c.exceptionTable.isEmpty && decide (c.maxStack ≤ mostOperands) && decide (meth.sig.returnType = rt) && !meth.locks && decide (parseMethodDescriptor y.desc = some meth.sig)) = true) : (Jvm.Cond.code y bytes mx rt).before a s = true := by
  simp only [Bool.and_eq_true, beq_iff_eq, Bool.not_eq_true', decide_eq_true_eq] at h5
  obtain ⟨⟨⟨⟨⟨g1, g2⟩, g3⟩, g4⟩, g5⟩, g6⟩ := h5
  simp [Cond.before, Cond.holds, Cond.value, h1, h2, h3, h4, g1, g2, g3, g4, g5, g6]
def isCode : Jvm.Cond → Bool
  | .code _ _ _ _ => true
  | _ => false
theorem all_split {L : List Jvm.Cond} {P : Jvm.Cond → Bool} (h1 : L.all (fun c => isCode c || P c) = true) (h2 : ∀ c ∈ L.filter isCode, P c = true) : L.all P = true := by
  refine List.all_eq_true.mpr fun c hc => ?_
  have h := List.all_eq_true.mp h1 c hc
  rcases Bool.eq_false_or_eq_true (isCode c) with hi | hi
  · exact h2 c (List.mem_filter.mpr ⟨hc, hi⟩)
  · simpa [hi] using h
set_option maxRecDepth 65536 in
theorem w_c0 : (Jvm.Cond.code x code maxLocals ret).before args0 about1 = true := code_word (m := ⟨1, 1⟩) (meth := k1m1) (c := k1c1) (by decide +kernel) rfl rfl rfl (by decide +kernel)
set_option maxRecDepth 65536 in
theorem w_c1 : (Jvm.Cond.code ({ cls := "com/example/coreloom/coreloom/Core", name := "<init>", desc := "(I)V" } : Jvm.MethodName) prog_9_method_1_code (2 : Nat) (Option.none : Option Jvm.ClassFile.FieldType)).before args0 about1 = true := code_word (m := ⟨2, 0⟩) (meth := k2m0) (c := k2c0) (by decide +kernel) rfl rfl rfl (by decide +kernel)
set_option maxRecDepth 65536 in
theorem w_c2 : (Jvm.Cond.code ({ cls := "java/lang/Object", name := "<init>", desc := "()V" } : Jvm.MethodName) object_method_1_code (1 : Nat) (Option.none : Option Jvm.ClassFile.FieldType)).before args0 about1 = true := code_word (m := ⟨0, 0⟩) (meth := k0m0) (c := k0c0) (by decide +kernel) rfl rfl rfl (by decide +kernel)
set_option maxRecDepth 65536 in
theorem w_c3 : (Jvm.Cond.code ({ cls := "com/example/coreloom/coreloom/Core", name := "write", desc := "(IIII)V" } : Jvm.MethodName) prog_9_method_10_code (5 : Nat) (Option.none : Option Jvm.ClassFile.FieldType)).before args0 about1 = true := code_word (m := ⟨2, 4⟩) (meth := k2m4) (c := k2c4) (by decide +kernel) rfl rfl rfl (by decide +kernel)
set_option maxRecDepth 65536 in
theorem w_c4 : (Jvm.Cond.code ({ cls := "com/example/coreloom/coreloom/Core", name := "copy", desc := "(II)V" } : Jvm.MethodName) prog_9_method_13_code (3 : Nat) (Option.none : Option Jvm.ClassFile.FieldType)).before args0 about1 = true := code_word (m := ⟨2, 5⟩) (meth := k2m5) (c := k2c5) (by decide +kernel) rfl rfl rfl (by decide +kernel)
set_option maxRecDepth 65536 in
theorem w_c5 : (Jvm.Cond.code ({ cls := "com/example/coreloom/coreloom/Core", name := "opcode", desc := "(I)I" } : Jvm.MethodName) prog_9_method_6_code (2 : Nat) (Option.some Jvm.ClassFile.FieldType.int)).before args0 about1 = true := code_word (m := ⟨2, 1⟩) (meth := k2m1) (c := k2c1) (by decide +kernel) rfl rfl rfl (by decide +kernel)
set_option maxRecDepth 65536 in
theorem w_c6 : (Jvm.Cond.code ({ cls := "com/example/coreloom/coreloom/Core", name := "fieldA", desc := "(I)I" } : Jvm.MethodName) prog_9_method_7_code (2 : Nat) (Option.some Jvm.ClassFile.FieldType.int)).before args0 about1 = true := code_word (m := ⟨2, 2⟩) (meth := k2m2) (c := k2c2) (by decide +kernel) rfl rfl rfl (by decide +kernel)
set_option maxRecDepth 65536 in
theorem w_c7 : (Jvm.Cond.code ({ cls := "com/example/coreloom/coreloom/Core", name := "fieldB", desc := "(I)I" } : Jvm.MethodName) prog_9_method_8_code (2 : Nat) (Option.some Jvm.ClassFile.FieldType.int)).before args0 about1 = true := code_word (m := ⟨2, 3⟩) (meth := k2m3) (c := k2c3) (by decide +kernel) rfl rfl rfl (by decide +kernel)
def codes1 : List Jvm.Cond := [Jvm.Cond.code x code maxLocals ret, Jvm.Cond.code ({ cls := "com/example/coreloom/coreloom/Core", name := "<init>", desc := "(I)V" } : Jvm.MethodName) prog_9_method_1_code (2 : Nat) (Option.none : Option Jvm.ClassFile.FieldType), Jvm.Cond.code ({ cls := "java/lang/Object", name := "<init>", desc := "()V" } : Jvm.MethodName) object_method_1_code (1 : Nat) (Option.none : Option Jvm.ClassFile.FieldType), Jvm.Cond.code ({ cls := "com/example/coreloom/coreloom/Core", name := "write", desc := "(IIII)V" } : Jvm.MethodName) prog_9_method_10_code (5 : Nat) (Option.none : Option Jvm.ClassFile.FieldType), Jvm.Cond.code ({ cls := "com/example/coreloom/coreloom/Core", name := "copy", desc := "(II)V" } : Jvm.MethodName) prog_9_method_13_code (3 : Nat) (Option.none : Option Jvm.ClassFile.FieldType), Jvm.Cond.code ({ cls := "com/example/coreloom/coreloom/Core", name := "opcode", desc := "(I)I" } : Jvm.MethodName) prog_9_method_6_code (2 : Nat) (Option.some Jvm.ClassFile.FieldType.int), Jvm.Cond.code ({ cls := "com/example/coreloom/coreloom/Core", name := "fieldA", desc := "(I)I" } : Jvm.MethodName) prog_9_method_7_code (2 : Nat) (Option.some Jvm.ClassFile.FieldType.int), Jvm.Cond.code ({ cls := "com/example/coreloom/coreloom/Core", name := "fieldB", desc := "(I)I" } : Jvm.MethodName) prog_9_method_8_code (2 : Nat) (Option.some Jvm.ClassFile.FieldType.int)]
set_option maxRecDepth 65536 in
theorem codes_eq : words1.filter isCode = codes1 := rfl
theorem w_codes : ∀ c ∈ words1.filter isCode, c.before args0 about1 = true := by
  rw [codes_eq]
  intro c hc
  simp only [codes1, List.mem_cons, List.not_mem_nil, or_false] at hc
  rcases hc with rfl | rfl | rfl | rfl | rfl | rfl | rfl | rfl
  · exact w_c0
  · exact w_c1
  · exact w_c2
  · exact w_c3
  · exact w_c4
  · exact w_c5
  · exact w_c6
  · exact w_c7
set_option maxRecDepth 65536 in
theorem w_t1 : (words1.take 24).all (fun c => isCode c || c.before args0 about1) = true := by decide +kernel
set_option maxRecDepth 65536 in
theorem w_t2 : (words1.drop 24).all (fun c => isCode c || c.before args0 about1) = true := by decide +kernel
theorem w_tables : (allAtoms (Jvm.Cond.code x code maxLocals ret :: tables_1)).before args0 about1 = true := by
  rw [allAtoms_all]
  show words1.all (fun c => c.before args0 about1) = true
  refine all_split ?_ w_codes
  rw [← List.take_append_drop 24 words1, List.all_append, w_t1, w_t2]
  rfl
set_option maxRecDepth 65536 in
theorem w_case : (Jvm.Cond.and given_1 narrow_1).before args0 about1 = true := by decide +kernel
theorem w_applies : (headSpec (Jvm.Cond.code x code maxLocals ret :: tables_1) room_1).applies x e0.platform about1 = true :=
  (Spec.applies_iff w_frames).mpr ⟨w_running, w_runnable, w_alone, w_named, w_hears, w_ripe, w_room, w_tables⟩
theorem atStart : AtStart classFile x code maxLocals ret World_1 tables_1 room_1 Calls_1 rest_1 Pre_1 launch0 p0 e0 about1 theMethod args0 below0 :=
  ⟨lists_1, trivial, launch0.admits_env _ _ _, launch0.least_env, fairChoices_fair.cas, fairChoices_fair.clock, w_frames, w_args, w_heap, w_applies, trivial, trivial, w_case⟩
end start1
theorem witness_1 : WitnessClaimed_1 := ⟨start1.p0, start1.e0, start1.about1, start1.theMethod, start1.args0, start1.below0, start1.atStart⟩
end Jvm.Pilot.@@N@@
