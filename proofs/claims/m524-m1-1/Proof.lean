import JvmDerived
import JvmDerived.Pilot.@@N@@Statement
import JvmDerived.Pilot.@@N@@Code
set_option linter.unusedVariables false
set_option linter.unusedSimpArgs false
namespace Jvm.RoadKit
open Sem ClassFile Op Lib Jvm.Stand Jvm.Free Jvm.LawKit
section Own
variable {p : Program} {l : Launch} {e : Env} {R : Room} {s : State} {m : MethodId} {args : Array Value} {below : List Frame} {meth : Method} {c : Code} {T : State} {locs : List Loc} {cells slots : Nat}
/-- from S the run comes to the end of the call, and K holds there -/
def Go (p : Program) (e : Env) (below : List Frame) (K : State → Outcome → Prop) (S : State) : Prop := ∃ s₂ o, Steps p.tables e below S s₂ ∧ s₂.status = .running ∧ Ended s₂ below o ∧ K s₂ o
def Kq (s : State) (Q : Option Value → Heap → List Loc → Prop) (k n : Nat) (t : State) (o : Outcome) : Prop := ∃ v L, o = .returned v ∧ Q v t.heap L ∧ FrameEnd s o t L k n
theorem go {K : State → Outcome → Prop} {S S' : State} (h : ∀ t, Steps p.tables e below S' t → Steps p.tables e below S t) (g : Go p e below K S') : Go p e below K S := by
  obtain ⟨t, o, h1, h2⟩ := g
  exact ⟨t, o, h _ h1, h2⟩
theorem goOut (X : Stand p l e R s m args below meth c T locs cells slots) {Q : Option Value → Heap → List Loc → Prop} {k n : Nat} {S : State} {v : Option Value} (hv : meth.sig.returnType = none → v = none) (hlocks : meth.locks = false)
    (hs : ∀ fs, (∀ (f : JFrame) (acts : List Action), f.method = m → f.locked = none → f.entered = [] → (doReturn e (T.setTop f) acts v).1 = T.setFrames fs) → Steps p.tables e below S (T.setFrames fs))
    (hk : cells ≤ k) (hn : slots ≤ n) (hq : Q v T.heap locs) : Go p e below (Kq s Q k n) S := by
  obtain ⟨fs, hr, hrun, hended, hW, hsame⟩ := X.leave (v := v) hv hlocks
  exact ⟨_, _, hs fs hr, hrun, hended, _, _, rfl, hq, ⟨_, rfl⟩, hW, hsame.mono hk hn⟩
end Own
end Jvm.RoadKit
namespace Jvm.RoadKit
open Sem ClassFile Op Lib Jvm.Stand Jvm.Free Jvm.LawKit
section OwnArr
variable {p : Program} {l : Launch} {e : Env} {R : Room} {s : State} {m : MethodId} {args : Array Value} {below : List Frame} {meth : Method} {c : Code} {T : State} {locs : List Loc} {cells slots : Nat} {Z : State} {h h' : Heap} {a b : Addr} {ty : FieldType} {n : Nat} {f : Nat → Int32} {v : Value} {sl : Nat} {ws : List Addr}
/-- an array of n places, of a kind that lies on the stack as an int, that holds f -/
def IA (Z : State) (h : Heap) (a : Addr) (ty : FieldType) (n : Nat) (f : Nat → Int32) : Prop := ∃ c : Cell, Arr Z h a c ty ∧ c.slots.size = n ∧ ∀ j, j < n → c.slots[j]? = some (.int (f j))
def upI (f : Nat → Int32) (j : Nat) (x : Int32) : Nat → Int32 := fun i => if i = j then x else f i
theorem IA.lt (F : IA Z h a ty n f) : a < h.size := by obtain ⟨c, A, -⟩ := F; exact A.lt
theorem IA.ext (F : IA Z h a ty n f) (E : Ext h h') : IA Z h' a ty n f := by obtain ⟨c, A, r⟩ := F; exact ⟨c, A.ext E, r⟩
theorem IA.other (F : IA Z h b ty n f) (W : Wr h h' a sl v) (q : b ≠ a) : IA Z h' b ty n f := by obtain ⟨c, A, r⟩ := F; exact ⟨c, A.other W q, r⟩
theorem IA.keep (F : IA Z h a ty n f) (K : Keep h h' ws) (q : a ∉ ws) : IA Z h' a ty n f := by obtain ⟨c, A, r⟩ := F; exact ⟨c, ⟨K.2.1 a c A.1 q, A.2⟩, r⟩
theorem IA.new {k : ClassId} {z : Int32} (A : Arr Z h a (newA k ty z) ty) (q : z.toNatClampNeg = n) (hd : defaultValue ty = .int 0) : IA Z h a ty n (fun _ => 0) := by
  refine ⟨_, A, (sz_new _ _ _).trans q, fun j hj => ?_⟩
  simp [newA, hd, q, hj]
theorem IA.put {j x : Int32} {cl : Cell} (A : Arr Z h a cl ty) (S : cl.slots.size = n) (H : ∀ j, j < n → cl.slots[j]? = some (.int (f j))) (W : Wr h h' a j.toNatClampNeg (.int x)) : IA Z h' a ty n (upI f j.toNatClampNeg x) := by
  refine ⟨_, A.same W, by rw [sz_set]; exact S, fun i hi => ?_⟩
  by_cases q : i = j.toNatClampNeg
  · subst q; simp [upI, Cell.setSlot, S, hi]
  · rw [show (cl.setSlot j.toNatClampNeg (.int x)).slots[i]? = cl.slots[i]? from Array.getElem?_setIfInBounds_ne (Ne.symm q), H i hi]; simp [upI, q]
theorem in_of {j : Int32} {cl : Cell} (S : cl.slots.size = n) (hj : 0 ≤ j.toInt ∧ j.toInt < n) : ¬ (j < 0 ∨ cl.slots.size ≤ j.toNatClampNeg) := by
  have h0 : ¬ j < 0 := by rw [Int32.lt_iff_toInt_lt]; have : (0 : Int32).toInt = 0 := rfl; omega
  have h1 := nat_of h0
  rw [S]; intro q; rcases q with q | q
  · exact h0 q
  · omega
theorem nat_in {j : Int32} (hj : 0 ≤ j.toInt ∧ j.toInt < n) : j.toNatClampNeg < n := by
  have h0 : ¬ j < 0 := by rw [Int32.lt_iff_toInt_lt]; have : (0 : Int32).toInt = 0 := rfl; omega
  have h1 := nat_of h0; omega
theorem ldIA (X : Stand p l e R s m args below meth c T locs cells slots) (hx : p.tables.exec = Jvm.exec) (hZ : Z.Warmed39 s.vm) (eT : T.heap = h) (A : IA Z h a .int n f) {j : Int32} (hj : 0 ≤ j.toInt ∧ j.toInt < n) {g : JFrame} (hg : g.method = m) {rest : List Value} (hs : g.stack = .int j :: .ref a :: rest) (hd : decode c.code g.pc = .ok (.iaload, 1)) :
    ∀ target, Steps p.tables e below (T.setTop { g with pc := g.pc + 1, stack := .int (f j.toNatClampNeg) :: rest }) target → Steps p.tables e below (T.setTop g) target := by
  obtain ⟨cl, A, S, H⟩ := A
  exact X.iaload hx (by rw [eT]; exact A.1) (State.isArrayOf_alike hZ.alike A.2.1) A.2.2 (in_of S hj) (H _ (nat_in hj)) hg hs hd
theorem ldCA (X : Stand p l e R s m args below meth c T locs cells slots) (hx : p.tables.exec = Jvm.exec) (hZ : Z.Warmed39 s.vm) (eT : T.heap = h) (A : IA Z h a .char n f) {j : Int32} (hj : 0 ≤ j.toInt ∧ j.toInt < n) {g : JFrame} (hg : g.method = m) {rest : List Value} (hs : g.stack = .int j :: .ref a :: rest) (hd : decode c.code g.pc = .ok (.caload, 1)) :
    ∀ target, Steps p.tables e below (T.setTop { g with pc := g.pc + 1, stack := .int (f j.toNatClampNeg) :: rest }) target → Steps p.tables e below (T.setTop g) target := by
  obtain ⟨cl, A, S, H⟩ := A
  exact X.caload hx (by rw [eT]; exact A.1) (State.isArrayOf_alike hZ.alike A.2.1) A.2.2 (in_of S hj) (H _ (nat_in hj)) hg hs hd
theorem lenIA (X : Stand p l e R s m args below meth c T locs cells slots) (hx : p.tables.exec = Jvm.exec) (hZ : Z.Warmed39 s.vm) (eT : T.heap = h) (A : IA Z h a ty n f) {g : JFrame} (hg : g.method = m) {rest : List Value} (hs : g.stack = .ref a :: rest) (hd : decode c.code g.pc = .ok (.arraylength, 1)) :
    ∀ target, Steps p.tables e below (T.setTop { g with pc := g.pc + 1, stack := .int n.toInt32 :: rest }) target → Steps p.tables e below (T.setTop g) target := by
  obtain ⟨cl, A, S, H⟩ := A
  intro target k
  refine X.arraylength hx (by rw [eT]; exact A.1) (State.isArrayOf_alike hZ.alike A.2.1) hg hs hd target ?_
  rw [S]; exact k
theorem stIA (X : Stand p l e R s m args below meth c T locs cells slots) (hx : p.tables.exec = Jvm.exec) (hZ : Z.Warmed39 s.vm) (eT : T.heap = h) (A : IA Z h a .int n f) {j x : Int32} (hj : 0 ≤ j.toInt ∧ j.toInt < n) {g : JFrame} (hg : g.method = m) {rest : List Value} (hs : g.stack = .int x :: .int j :: .ref a :: rest) (hd : decode c.code g.pc = .ok (.iastore, 1)) :
    ∃ T' h', Stand p l e R s m args below meth c T' (locs ++ [⟨a, j.toNatClampNeg⟩]) cells slots ∧ T'.heap = h' ∧ Wr h h' a j.toNatClampNeg (.int x) ∧ IA Z h' a .int n (upI f j.toNatClampNeg x) ∧ ∀ target, Steps p.tables e below (T'.setTop { g with pc := g.pc + 1, stack := rest }) target → Steps p.tables e below (T.setTop g) target := by
  obtain ⟨cl, A, S, H⟩ := A
  obtain ⟨T', h', X', e', W, st⟩ := stI X hx hZ eT A (in_of S hj) hg hs hd
  exact ⟨T', h', X', e', W, IA.put A S H W, st⟩
theorem stCA (X : Stand p l e R s m args below meth c T locs cells slots) (hx : p.tables.exec = Jvm.exec) (hZ : Z.Warmed39 s.vm) (eT : T.heap = h) (A : IA Z h a .char n f) {j x : Int32} (hj : 0 ≤ j.toInt ∧ j.toInt < n) {g : JFrame} (hg : g.method = m) {rest : List Value} (hs : g.stack = .int x :: .int j :: .ref a :: rest) (hd : decode c.code g.pc = .ok (.castore, 1)) :
    ∃ T' h', Stand p l e R s m args below meth c T' (locs ++ [⟨a, j.toNatClampNeg⟩]) cells slots ∧ T'.heap = h' ∧ Wr h h' a j.toNatClampNeg (.int (nar .char x)) ∧ IA Z h' a .char n (upI f j.toNatClampNeg (nar .char x)) ∧ ∀ target, Steps p.tables e below (T'.setTop { g with pc := g.pc + 1, stack := rest }) target → Steps p.tables e below (T.setTop g) target := by
  obtain ⟨cl, A, S, H⟩ := A
  obtain ⟨T', h', X', e', W, st⟩ := stC X hx hZ eT A (in_of S hj) hg hs hd
  exact ⟨T', h', X', e', W, IA.put A S H W, st⟩
theorem stBA (X : Stand p l e R s m args below meth c T locs cells slots) (hx : p.tables.exec = Jvm.exec) (hZ : Z.Warmed39 s.vm) (eT : T.heap = h) (A : IA Z h a .byte n f) {j x : Int32} (hj : 0 ≤ j.toInt ∧ j.toInt < n) {g : JFrame} (hg : g.method = m) {rest : List Value} (hs : g.stack = .int x :: .int j :: .ref a :: rest) (hd : decode c.code g.pc = .ok (.bastore, 1)) :
    ∃ T' h', Stand p l e R s m args below meth c T' (locs ++ [⟨a, j.toNatClampNeg⟩]) cells slots ∧ T'.heap = h' ∧ Wr h h' a j.toNatClampNeg (.int (nar .byte x)) ∧ IA Z h' a .byte n (upI f j.toNatClampNeg (nar .byte x)) ∧ ∀ target, Steps p.tables e below (T'.setTop { g with pc := g.pc + 1, stack := rest }) target → Steps p.tables e below (T.setTop g) target := by
  obtain ⟨cl, A, S, H⟩ := A
  obtain ⟨T', h', X', e', W, st⟩ := stB X hx hZ eT A (in_of S hj) hg hs hd
  exact ⟨T', h', X', e', W, IA.put A S H W, st⟩
end OwnArr
end Jvm.RoadKit
namespace Jvm.Pilot.@@N@@
open Jvm Jvm.ClassFile Sem Op Lib Jvm.Free Jvm.Stand Jvm.LawKit Jvm.RoadKit Bundle Jvm.Pilot.@@N@@.Jvm.D
def own_ic (p : Int32) : Int32 := if p = 9 ∨ p = 10 ∨ p = 13 ∨ (¬ p < 32 ∧ ¬ 55295 < p) ∨ (¬ p < 57344 ∧ ¬ 65533 < p) ∨ (¬ p < 65536 ∧ ¬ 1114111 < p) then 1 else 0
def own_rf (p : Int32) : Int32 := if p < 0 ∨ 1114111 < p then 0 else if p < 32 then (if p = 9 ∨ p = 10 ∨ p = 13 then 1 else 0) else if ¬ p < 55296 ∧ ¬ 57343 < p then 0 else if p = 65534 ∨ p = 65535 then 0 else 1
theorem own_same (p : Int32) : own_ic p = own_rf p := by
  unfold own_ic own_rf
  simp only [← Int32.toInt_inj, Int32.lt_iff_toInt_lt, Int32.reduceToInt]
  repeat' split
  all_goals first | rfl | (exfalso; omega)
theorem d1_0 : decode prog_142_method_33_code 0 = .ok (.iload_n 0, 1) := by decide +kernel
theorem d1_1 : decode prog_142_method_33_code 1 = .ok (.bipush 9, 2) := by decide +kernel
theorem d1_3 : decode prog_142_method_33_code 3 = .ok (.if_icmp .eq 56, 3) := by decide +kernel
theorem d1_59 : decode prog_142_method_33_code 59 = .ok (.iconst 1, 1) := by decide +kernel
theorem d1_60 : decode prog_142_method_33_code 60 = .ok (.goto 4, 3) := by decide +kernel
theorem d1_64 : decode prog_142_method_33_code 64 = .ok (.ireturn, 1) := by decide +kernel
theorem d1_6 : decode prog_142_method_33_code 6 = .ok (.iload_n 0, 1) := by decide +kernel
theorem d1_7 : decode prog_142_method_33_code 7 = .ok (.bipush 10, 2) := by decide +kernel
theorem d1_9 : decode prog_142_method_33_code 9 = .ok (.if_icmp .eq 50, 3) := by decide +kernel
theorem d1_12 : decode prog_142_method_33_code 12 = .ok (.iload_n 0, 1) := by decide +kernel
theorem d1_13 : decode prog_142_method_33_code 13 = .ok (.bipush 13, 2) := by decide +kernel
theorem d1_15 : decode prog_142_method_33_code 15 = .ok (.if_icmp .eq 44, 3) := by decide +kernel
theorem d1_18 : decode prog_142_method_33_code 18 = .ok (.iload_n 0, 1) := by decide +kernel
theorem d1_19 : decode prog_142_method_33_code 19 = .ok (.bipush 32, 2) := by decide +kernel
theorem d1_21 : decode prog_142_method_33_code 21 = .ok (.if_icmp .lt 10, 3) := by decide +kernel
theorem d1_31 : decode prog_142_method_33_code 31 = .ok (.iload_n 0, 1) := by decide +kernel
theorem d1_32 : decode prog_142_method_33_code 32 = .ok (.ldc_w 435, 3) := by decide +kernel
theorem d1_35 : decode prog_142_method_33_code 35 = .ok (.if_icmp .lt 10, 3) := by decide +kernel
theorem d1_45 : decode prog_142_method_33_code 45 = .ok (.iload_n 0, 1) := by decide +kernel
theorem d1_46 : decode prog_142_method_33_code 46 = .ok (.ldc_w 437, 3) := by decide +kernel
theorem d1_49 : decode prog_142_method_33_code 49 = .ok (.if_icmp .lt 14, 3) := by decide +kernel
theorem d1_63 : decode prog_142_method_33_code 63 = .ok (.iconst 0, 1) := by decide +kernel
theorem d1_52 : decode prog_142_method_33_code 52 = .ok (.iload_n 0, 1) := by decide +kernel
theorem d1_53 : decode prog_142_method_33_code 53 = .ok (.ldc_w 438, 3) := by decide +kernel
theorem d1_56 : decode prog_142_method_33_code 56 = .ok (.if_icmp .gt 7, 3) := by decide +kernel
theorem d1_38 : decode prog_142_method_33_code 38 = .ok (.iload_n 0, 1) := by decide +kernel
theorem d1_39 : decode prog_142_method_33_code 39 = .ok (.ldc_w 436, 3) := by decide +kernel
theorem d1_42 : decode prog_142_method_33_code 42 = .ok (.if_icmp .le 17, 3) := by decide +kernel
theorem d1_24 : decode prog_142_method_33_code 24 = .ok (.iload_n 0, 1) := by decide +kernel
theorem d1_25 : decode prog_142_method_33_code 25 = .ok (.ldc_w 434, 3) := by decide +kernel
theorem d1_28 : decode prog_142_method_33_code 28 = .ok (.if_icmp .le 31, 3) := by decide +kernel
theorem pn_com_example_casewright_casewright_formats_XmlScanner : plainName "com/example/casewright/casewright/formats/XmlScanner" = true := by first | (simp [plainName, overriddenIn]; done) | decide +kernel
theorem ef_rm1 (m : MethodId) (x0 : Int32) : entryFrame m #[(.int x0)] 1 = mkF m 0 #[.val (.int x0)] [] := by first | (simp [entryFrame, mkF, argsToLocals, Value.category]; done) | rfl
def Q1 (Z : State) (p0 : Int32) (h0 : Heap) (n0 : Nat) (v : Option Value) (h : Heap) (L : List Loc) : Prop := v = some (.int (own_ic p0)) ∧ Fr n0 L ∧ h = h0
set_option maxRecDepth 65536 in
set_option maxHeartbeats 40000000 in
theorem rm1 (l : Launch) (Z : State) (a0 : Array Value) (hw : ∀ d ∈ tables_1, d.before a0 Z = true) (ws : List Jvm.Cond) (p0 : Int32)  (h0 : Heap) (n0 : Nat) (Z0 : n0 ≤ h0.size)  :
    MetFree l (⟨"com/example/casewright/casewright/formats/XmlScanner", "isCharacter", "(I)Z"⟩ : MethodName) (head1 (Jvm.Cond.code (⟨"com/example/casewright/casewright/formats/XmlScanner", "isCharacter", "(I)Z"⟩ : MethodName) prog_142_method_33_code 1 (some .boolean) :: ws) ({ frames := 0, cells := 0, slots := 0, locals := 0 } : Room)) (fun av' U => av' = #[(.int p0)] ∧ Z.Warmed39 U.vm ∧ U.heap = h0) (fun _ _ _ _ _ => True) (fun _ U o U' => ∃ v L, o = .returned v ∧ Q1 Z p0 h0 n0 v U'.heap L ∧ FrameEnd U o U' L ({ frames := 0, cells := 0, slots := 0, locals := 0 } : Room).cells ({ frames := 0, cells := 0, slots := 0, locals := 0 } : Room).slots) := by
  refine MetFree.of_bodySF (plainFor_of_name pn_com_example_casewright_casewright_formats_XmlScanner) hisR ?_
  intro p e s m args below meth c s₁ Bd hml0 hP hK
  obtain ⟨rfl, hZ, hh⟩ := hP
  have hx := Bd.exec
  have hby := Bd.bytes
  have hlk := Bd.notSynchronized
  have hml : c.maxLocals = 1 := hml0
  have hown : s.vm.findClass "com/example/casewright/casewright/formats/XmlScanner" = some m.cls := findClass_of_methodNamed Bd.named
  have hnm := (name_of_methodNamed Bd.named Bd.method).1
  have X0 : Stand p l e ({ frames := 0, cells := 0, slots := 0, locals := 0 } : Room) s m #[(.int p0)] below meth c s₁ [] 0 0 := Stand.of_body Bd
  have e0 : s₁.heap = h0 := by rw [← hh, Bd.state]; rfl
  have N0 := Fr.nil n0
  show Go p e below (Kq s (Q1 Z p0 h0 n0) ({ frames := 0, cells := 0, slots := 0, locals := 0 } : Room).cells ({ frames := 0, cells := 0, slots := 0, locals := 0 } : Room).slots) _
  refine go (fun t kt => castTop (ef_rm1 m p0) kt) ?_
  show Go p e below _ (s₁.setTop (mkF m 0 #[.val (.int p0)] []))
  refine go (fun t kt' => by refine XS.iloadN X0.here hx rfl (hb hby d1_0) rfl ?_; exact kt') ?_
  show Go p e below _ (s₁.setTop (mkF m 1 #[.val (.int p0)] [(.int p0)]))
  refine go (fun t kt' => by refine XS.bipush X0.here hx rfl (hb hby d1_1) ?_; exact kt') ?_
  show Go p e below _ (s₁.setTop (mkF m 3 #[.val (.int p0)] [(.int (9 : Int32)), (.int p0)]))
  by_cases c3_1 : p0 = (9 : Int32)
  · skip
    refine go (fun t kt' => by refine XS.icmpYes X0.here hx rfl (pc0 := 3) (pc' := 59) rfl (hb hby d1_3) rfl (teq c3_1).1 (by decide) (by decide) ?_; exact kt') ?_
    show Go p e below _ (s₁.setTop (mkF m 59 #[.val (.int p0)] []))
    refine go (fun t kt' => by refine XS.iconst X0.here hx rfl (hb hby d1_59) ?_; exact kt') ?_
    show Go p e below _ (s₁.setTop (mkF m 60 #[.val (.int p0)] [(.int (1 : Int32))]))
    refine go (fun t kt' => by refine XS.goto X0.here hx rfl (pc0 := 60) (pc' := 64) rfl (hb hby d1_60) (by decide) (by decide) ?_; exact kt') ?_
    show Go p e below _ (s₁.setTop (mkF m 64 #[.val (.int p0)] [(.int (1 : Int32))]))
    refine goOut X0 (fun h => by rw [Bd.returns] at h; cases h) hlk (fun fs hr => retN X0 hx (t := .boolean) Bd.returns (by simp) (hb hby d1_64) hr) (by decide) (by decide) ?_
    rw [e0]
    exact ⟨by simp [own_ic, c3_1, nar], N0, rfl⟩
  · skip
    refine go (fun t kt' => by refine XS.icmpNo X0.here hx rfl (hb hby d1_3) rfl (feq c3_1).1 ?_; exact kt') ?_
    show Go p e below _ (s₁.setTop (mkF m 6 #[.val (.int p0)] []))
    refine go (fun t kt' => by refine XS.iloadN X0.here hx rfl (hb hby d1_6) rfl ?_; exact kt') ?_
    show Go p e below _ (s₁.setTop (mkF m 7 #[.val (.int p0)] [(.int p0)]))
    refine go (fun t kt' => by refine XS.bipush X0.here hx rfl (hb hby d1_7) ?_; exact kt') ?_
    show Go p e below _ (s₁.setTop (mkF m 9 #[.val (.int p0)] [(.int (10 : Int32)), (.int p0)]))
    by_cases c9_2 : p0 = (10 : Int32)
    · skip
      refine go (fun t kt' => by refine XS.icmpYes X0.here hx rfl (pc0 := 9) (pc' := 59) rfl (hb hby d1_9) rfl (teq c9_2).1 (by decide) (by decide) ?_; exact kt') ?_
      show Go p e below _ (s₁.setTop (mkF m 59 #[.val (.int p0)] []))
      refine go (fun t kt' => by refine XS.iconst X0.here hx rfl (hb hby d1_59) ?_; exact kt') ?_
      show Go p e below _ (s₁.setTop (mkF m 60 #[.val (.int p0)] [(.int (1 : Int32))]))
      refine go (fun t kt' => by refine XS.goto X0.here hx rfl (pc0 := 60) (pc' := 64) rfl (hb hby d1_60) (by decide) (by decide) ?_; exact kt') ?_
      show Go p e below _ (s₁.setTop (mkF m 64 #[.val (.int p0)] [(.int (1 : Int32))]))
      refine goOut X0 (fun h => by rw [Bd.returns] at h; cases h) hlk (fun fs hr => retN X0 hx (t := .boolean) Bd.returns (by simp) (hb hby d1_64) hr) (by decide) (by decide) ?_
      rw [e0]
      exact ⟨by simp [own_ic, c3_1, c9_2, nar], N0, rfl⟩
    · skip
      refine go (fun t kt' => by refine XS.icmpNo X0.here hx rfl (hb hby d1_9) rfl (feq c9_2).1 ?_; exact kt') ?_
      show Go p e below _ (s₁.setTop (mkF m 12 #[.val (.int p0)] []))
      refine go (fun t kt' => by refine XS.iloadN X0.here hx rfl (hb hby d1_12) rfl ?_; exact kt') ?_
      show Go p e below _ (s₁.setTop (mkF m 13 #[.val (.int p0)] [(.int p0)]))
      refine go (fun t kt' => by refine XS.bipush X0.here hx rfl (hb hby d1_13) ?_; exact kt') ?_
      show Go p e below _ (s₁.setTop (mkF m 15 #[.val (.int p0)] [(.int (13 : Int32)), (.int p0)]))
      by_cases c15_3 : p0 = (13 : Int32)
      · skip
        refine go (fun t kt' => by refine XS.icmpYes X0.here hx rfl (pc0 := 15) (pc' := 59) rfl (hb hby d1_15) rfl (teq c15_3).1 (by decide) (by decide) ?_; exact kt') ?_
        show Go p e below _ (s₁.setTop (mkF m 59 #[.val (.int p0)] []))
        refine go (fun t kt' => by refine XS.iconst X0.here hx rfl (hb hby d1_59) ?_; exact kt') ?_
        show Go p e below _ (s₁.setTop (mkF m 60 #[.val (.int p0)] [(.int (1 : Int32))]))
        refine go (fun t kt' => by refine XS.goto X0.here hx rfl (pc0 := 60) (pc' := 64) rfl (hb hby d1_60) (by decide) (by decide) ?_; exact kt') ?_
        show Go p e below _ (s₁.setTop (mkF m 64 #[.val (.int p0)] [(.int (1 : Int32))]))
        refine goOut X0 (fun h => by rw [Bd.returns] at h; cases h) hlk (fun fs hr => retN X0 hx (t := .boolean) Bd.returns (by simp) (hb hby d1_64) hr) (by decide) (by decide) ?_
        rw [e0]
        exact ⟨by simp [own_ic, c3_1, c9_2, c15_3, nar], N0, rfl⟩
      · skip
        refine go (fun t kt' => by refine XS.icmpNo X0.here hx rfl (hb hby d1_15) rfl (feq c15_3).1 ?_; exact kt') ?_
        show Go p e below _ (s₁.setTop (mkF m 18 #[.val (.int p0)] []))
        refine go (fun t kt' => by refine XS.iloadN X0.here hx rfl (hb hby d1_18) rfl ?_; exact kt') ?_
        show Go p e below _ (s₁.setTop (mkF m 19 #[.val (.int p0)] [(.int p0)]))
        refine go (fun t kt' => by refine XS.bipush X0.here hx rfl (hb hby d1_19) ?_; exact kt') ?_
        show Go p e below _ (s₁.setTop (mkF m 21 #[.val (.int p0)] [(.int (32 : Int32)), (.int p0)]))
        by_cases c21_4 : p0 < (32 : Int32)
        · skip
          refine go (fun t kt' => by refine XS.icmpYes X0.here hx rfl (pc0 := 21) (pc' := 31) rfl (hb hby d1_21) rfl (tlt c21_4).1 (by decide) (by decide) ?_; exact kt') ?_
          show Go p e below _ (s₁.setTop (mkF m 31 #[.val (.int p0)] []))
          refine go (fun t kt' => by refine XS.iloadN X0.here hx rfl (hb hby d1_31) rfl ?_; exact kt') ?_
          show Go p e below _ (s₁.setTop (mkF m 32 #[.val (.int p0)] [(.int p0)]))
          refine go (fun t kt' => by refine X0.ldcWI hx hown (mvT hZ (hw _ (List.mem_of_getElem? (i := 17) rfl))) rfl (hb hby d1_32) ?_; exact kt') ?_
          show Go p e below _ (s₁.setTop (mkF m 35 #[.val (.int p0)] [(.int (57344 : Int32)), (.int p0)]))
          by_cases c35_5 : p0 < (57344 : Int32)
          · skip
            refine go (fun t kt' => by refine XS.icmpYes X0.here hx rfl (pc0 := 35) (pc' := 45) rfl (hb hby d1_35) rfl (tlt c35_5).1 (by decide) (by decide) ?_; exact kt') ?_
            show Go p e below _ (s₁.setTop (mkF m 45 #[.val (.int p0)] []))
            refine go (fun t kt' => by refine XS.iloadN X0.here hx rfl (hb hby d1_45) rfl ?_; exact kt') ?_
            show Go p e below _ (s₁.setTop (mkF m 46 #[.val (.int p0)] [(.int p0)]))
            refine go (fun t kt' => by refine X0.ldcWI hx hown (mvT hZ (hw _ (List.mem_of_getElem? (i := 18) rfl))) rfl (hb hby d1_46) ?_; exact kt') ?_
            show Go p e below _ (s₁.setTop (mkF m 49 #[.val (.int p0)] [(.int (65536 : Int32)), (.int p0)]))
            by_cases c49_6 : p0 < (65536 : Int32)
            · skip
              refine go (fun t kt' => by refine XS.icmpYes X0.here hx rfl (pc0 := 49) (pc' := 63) rfl (hb hby d1_49) rfl (tlt c49_6).1 (by decide) (by decide) ?_; exact kt') ?_
              show Go p e below _ (s₁.setTop (mkF m 63 #[.val (.int p0)] []))
              refine go (fun t kt' => by refine XS.iconst X0.here hx rfl (hb hby d1_63) ?_; exact kt') ?_
              show Go p e below _ (s₁.setTop (mkF m 64 #[.val (.int p0)] [(.int (0 : Int32))]))
              refine goOut X0 (fun h => by rw [Bd.returns] at h; cases h) hlk (fun fs hr => retN X0 hx (t := .boolean) Bd.returns (by simp) (hb hby d1_64) hr) (by decide) (by decide) ?_
              rw [e0]
              exact ⟨by simp [own_ic, c3_1, c9_2, c15_3, c21_4, c35_5, c49_6, nar], N0, rfl⟩
            · skip
              refine go (fun t kt' => by refine XS.icmpNo X0.here hx rfl (hb hby d1_49) rfl (flt c49_6).1 ?_; exact kt') ?_
              show Go p e below _ (s₁.setTop (mkF m 52 #[.val (.int p0)] []))
              refine go (fun t kt' => by refine XS.iloadN X0.here hx rfl (hb hby d1_52) rfl ?_; exact kt') ?_
              show Go p e below _ (s₁.setTop (mkF m 53 #[.val (.int p0)] [(.int p0)]))
              refine go (fun t kt' => by refine X0.ldcWI hx hown (mvT hZ (hw _ (List.mem_of_getElem? (i := 25) rfl))) rfl (hb hby d1_53) ?_; exact kt') ?_
              show Go p e below _ (s₁.setTop (mkF m 56 #[.val (.int p0)] [(.int (1114111 : Int32)), (.int p0)]))
              by_cases c56_7 : (1114111 : Int32) < p0
              · skip
                refine go (fun t kt' => by refine XS.icmpYes X0.here hx rfl (pc0 := 56) (pc' := 63) rfl (hb hby d1_56) rfl (tlt c56_7).2.2.1 (by decide) (by decide) ?_; exact kt') ?_
                show Go p e below _ (s₁.setTop (mkF m 63 #[.val (.int p0)] []))
                refine go (fun t kt' => by refine XS.iconst X0.here hx rfl (hb hby d1_63) ?_; exact kt') ?_
                show Go p e below _ (s₁.setTop (mkF m 64 #[.val (.int p0)] [(.int (0 : Int32))]))
                refine goOut X0 (fun h => by rw [Bd.returns] at h; cases h) hlk (fun fs hr => retN X0 hx (t := .boolean) Bd.returns (by simp) (hb hby d1_64) hr) (by decide) (by decide) ?_
                rw [e0]
                exact ⟨by simp [own_ic, c3_1, c9_2, c15_3, c21_4, c35_5, c49_6, c56_7, nar], N0, rfl⟩
              · skip
                refine go (fun t kt' => by refine XS.icmpNo X0.here hx rfl (hb hby d1_56) rfl (flt c56_7).2.2.1 ?_; exact kt') ?_
                show Go p e below _ (s₁.setTop (mkF m 59 #[.val (.int p0)] []))
                refine go (fun t kt' => by refine XS.iconst X0.here hx rfl (hb hby d1_59) ?_; exact kt') ?_
                show Go p e below _ (s₁.setTop (mkF m 60 #[.val (.int p0)] [(.int (1 : Int32))]))
                refine go (fun t kt' => by refine XS.goto X0.here hx rfl (pc0 := 60) (pc' := 64) rfl (hb hby d1_60) (by decide) (by decide) ?_; exact kt') ?_
                show Go p e below _ (s₁.setTop (mkF m 64 #[.val (.int p0)] [(.int (1 : Int32))]))
                refine goOut X0 (fun h => by rw [Bd.returns] at h; cases h) hlk (fun fs hr => retN X0 hx (t := .boolean) Bd.returns (by simp) (hb hby d1_64) hr) (by decide) (by decide) ?_
                rw [e0]
                exact ⟨by simp [own_ic, c3_1, c9_2, c15_3, c21_4, c35_5, c49_6, c56_7, nar], N0, rfl⟩
          · skip
            refine go (fun t kt' => by refine XS.icmpNo X0.here hx rfl (hb hby d1_35) rfl (flt c35_5).1 ?_; exact kt') ?_
            show Go p e below _ (s₁.setTop (mkF m 38 #[.val (.int p0)] []))
            refine go (fun t kt' => by refine XS.iloadN X0.here hx rfl (hb hby d1_38) rfl ?_; exact kt') ?_
            show Go p e below _ (s₁.setTop (mkF m 39 #[.val (.int p0)] [(.int p0)]))
            refine go (fun t kt' => by refine X0.ldcWI hx hown (mvT hZ (hw _ (List.mem_of_getElem? (i := 24) rfl))) rfl (hb hby d1_39) ?_; exact kt') ?_
            show Go p e below _ (s₁.setTop (mkF m 42 #[.val (.int p0)] [(.int (65533 : Int32)), (.int p0)]))
            by_cases c42_8 : ¬ (65533 : Int32) < p0
            · skip
              refine go (fun t kt' => by refine XS.icmpYes X0.here hx rfl (pc0 := 42) (pc' := 59) rfl (hb hby d1_42) rfl (flt c42_8).2.2.2 (by decide) (by decide) ?_; exact kt') ?_
              show Go p e below _ (s₁.setTop (mkF m 59 #[.val (.int p0)] []))
              refine go (fun t kt' => by refine XS.iconst X0.here hx rfl (hb hby d1_59) ?_; exact kt') ?_
              show Go p e below _ (s₁.setTop (mkF m 60 #[.val (.int p0)] [(.int (1 : Int32))]))
              refine go (fun t kt' => by refine XS.goto X0.here hx rfl (pc0 := 60) (pc' := 64) rfl (hb hby d1_60) (by decide) (by decide) ?_; exact kt') ?_
              show Go p e below _ (s₁.setTop (mkF m 64 #[.val (.int p0)] [(.int (1 : Int32))]))
              refine goOut X0 (fun h => by rw [Bd.returns] at h; cases h) hlk (fun fs hr => retN X0 hx (t := .boolean) Bd.returns (by simp) (hb hby d1_64) hr) (by decide) (by decide) ?_
              rw [e0]
              exact ⟨by simp [own_ic, c3_1, c9_2, c15_3, c21_4, c35_5, c42_8, nar], N0, rfl⟩
            · skip
              refine go (fun t kt' => by refine XS.icmpNo X0.here hx rfl (hb hby d1_42) rfl (tlt (Decidable.not_not.mp c42_8)).2.2.2 ?_; exact kt') ?_
              show Go p e below _ (s₁.setTop (mkF m 45 #[.val (.int p0)] []))
              refine go (fun t kt' => by refine XS.iloadN X0.here hx rfl (hb hby d1_45) rfl ?_; exact kt') ?_
              show Go p e below _ (s₁.setTop (mkF m 46 #[.val (.int p0)] [(.int p0)]))
              refine go (fun t kt' => by refine X0.ldcWI hx hown (mvT hZ (hw _ (List.mem_of_getElem? (i := 18) rfl))) rfl (hb hby d1_46) ?_; exact kt') ?_
              show Go p e below _ (s₁.setTop (mkF m 49 #[.val (.int p0)] [(.int (65536 : Int32)), (.int p0)]))
              by_cases c49_9 : p0 < (65536 : Int32)
              · skip
                refine go (fun t kt' => by refine XS.icmpYes X0.here hx rfl (pc0 := 49) (pc' := 63) rfl (hb hby d1_49) rfl (tlt c49_9).1 (by decide) (by decide) ?_; exact kt') ?_
                show Go p e below _ (s₁.setTop (mkF m 63 #[.val (.int p0)] []))
                refine go (fun t kt' => by refine XS.iconst X0.here hx rfl (hb hby d1_63) ?_; exact kt') ?_
                show Go p e below _ (s₁.setTop (mkF m 64 #[.val (.int p0)] [(.int (0 : Int32))]))
                refine goOut X0 (fun h => by rw [Bd.returns] at h; cases h) hlk (fun fs hr => retN X0 hx (t := .boolean) Bd.returns (by simp) (hb hby d1_64) hr) (by decide) (by decide) ?_
                rw [e0]
                exact ⟨by simp [own_ic, c3_1, c9_2, c15_3, c21_4, c35_5, Decidable.not_not.mp c42_8, c49_9, nar], N0, rfl⟩
              · skip
                refine go (fun t kt' => by refine XS.icmpNo X0.here hx rfl (hb hby d1_49) rfl (flt c49_9).1 ?_; exact kt') ?_
                show Go p e below _ (s₁.setTop (mkF m 52 #[.val (.int p0)] []))
                refine go (fun t kt' => by refine XS.iloadN X0.here hx rfl (hb hby d1_52) rfl ?_; exact kt') ?_
                show Go p e below _ (s₁.setTop (mkF m 53 #[.val (.int p0)] [(.int p0)]))
                refine go (fun t kt' => by refine X0.ldcWI hx hown (mvT hZ (hw _ (List.mem_of_getElem? (i := 25) rfl))) rfl (hb hby d1_53) ?_; exact kt') ?_
                show Go p e below _ (s₁.setTop (mkF m 56 #[.val (.int p0)] [(.int (1114111 : Int32)), (.int p0)]))
                by_cases c56_10 : (1114111 : Int32) < p0
                · skip
                  refine go (fun t kt' => by refine XS.icmpYes X0.here hx rfl (pc0 := 56) (pc' := 63) rfl (hb hby d1_56) rfl (tlt c56_10).2.2.1 (by decide) (by decide) ?_; exact kt') ?_
                  show Go p e below _ (s₁.setTop (mkF m 63 #[.val (.int p0)] []))
                  refine go (fun t kt' => by refine XS.iconst X0.here hx rfl (hb hby d1_63) ?_; exact kt') ?_
                  show Go p e below _ (s₁.setTop (mkF m 64 #[.val (.int p0)] [(.int (0 : Int32))]))
                  refine goOut X0 (fun h => by rw [Bd.returns] at h; cases h) hlk (fun fs hr => retN X0 hx (t := .boolean) Bd.returns (by simp) (hb hby d1_64) hr) (by decide) (by decide) ?_
                  rw [e0]
                  exact ⟨by simp [own_ic, c3_1, c9_2, c15_3, c21_4, c35_5, Decidable.not_not.mp c42_8, c49_9, c56_10, nar], N0, rfl⟩
                · skip
                  refine go (fun t kt' => by refine XS.icmpNo X0.here hx rfl (hb hby d1_56) rfl (flt c56_10).2.2.1 ?_; exact kt') ?_
                  show Go p e below _ (s₁.setTop (mkF m 59 #[.val (.int p0)] []))
                  refine go (fun t kt' => by refine XS.iconst X0.here hx rfl (hb hby d1_59) ?_; exact kt') ?_
                  show Go p e below _ (s₁.setTop (mkF m 60 #[.val (.int p0)] [(.int (1 : Int32))]))
                  refine go (fun t kt' => by refine XS.goto X0.here hx rfl (pc0 := 60) (pc' := 64) rfl (hb hby d1_60) (by decide) (by decide) ?_; exact kt') ?_
                  show Go p e below _ (s₁.setTop (mkF m 64 #[.val (.int p0)] [(.int (1 : Int32))]))
                  refine goOut X0 (fun h => by rw [Bd.returns] at h; cases h) hlk (fun fs hr => retN X0 hx (t := .boolean) Bd.returns (by simp) (hb hby d1_64) hr) (by decide) (by decide) ?_
                  rw [e0]
                  exact ⟨by simp [own_ic, c3_1, c9_2, c15_3, c21_4, c35_5, Decidable.not_not.mp c42_8, c49_9, c56_10, nar], N0, rfl⟩
        · skip
          refine go (fun t kt' => by refine XS.icmpNo X0.here hx rfl (hb hby d1_21) rfl (flt c21_4).1 ?_; exact kt') ?_
          show Go p e below _ (s₁.setTop (mkF m 24 #[.val (.int p0)] []))
          refine go (fun t kt' => by refine XS.iloadN X0.here hx rfl (hb hby d1_24) rfl ?_; exact kt') ?_
          show Go p e below _ (s₁.setTop (mkF m 25 #[.val (.int p0)] [(.int p0)]))
          refine go (fun t kt' => by refine X0.ldcWI hx hown (mvT hZ (hw _ (List.mem_of_getElem? (i := 23) rfl))) rfl (hb hby d1_25) ?_; exact kt') ?_
          show Go p e below _ (s₁.setTop (mkF m 28 #[.val (.int p0)] [(.int (55295 : Int32)), (.int p0)]))
          by_cases c28_11 : ¬ (55295 : Int32) < p0
          · skip
            refine go (fun t kt' => by refine XS.icmpYes X0.here hx rfl (pc0 := 28) (pc' := 59) rfl (hb hby d1_28) rfl (flt c28_11).2.2.2 (by decide) (by decide) ?_; exact kt') ?_
            show Go p e below _ (s₁.setTop (mkF m 59 #[.val (.int p0)] []))
            refine go (fun t kt' => by refine XS.iconst X0.here hx rfl (hb hby d1_59) ?_; exact kt') ?_
            show Go p e below _ (s₁.setTop (mkF m 60 #[.val (.int p0)] [(.int (1 : Int32))]))
            refine go (fun t kt' => by refine XS.goto X0.here hx rfl (pc0 := 60) (pc' := 64) rfl (hb hby d1_60) (by decide) (by decide) ?_; exact kt') ?_
            show Go p e below _ (s₁.setTop (mkF m 64 #[.val (.int p0)] [(.int (1 : Int32))]))
            refine goOut X0 (fun h => by rw [Bd.returns] at h; cases h) hlk (fun fs hr => retN X0 hx (t := .boolean) Bd.returns (by simp) (hb hby d1_64) hr) (by decide) (by decide) ?_
            rw [e0]
            exact ⟨by simp [own_ic, c3_1, c9_2, c15_3, c21_4, c28_11, nar], N0, rfl⟩
          · skip
            refine go (fun t kt' => by refine XS.icmpNo X0.here hx rfl (hb hby d1_28) rfl (tlt (Decidable.not_not.mp c28_11)).2.2.2 ?_; exact kt') ?_
            show Go p e below _ (s₁.setTop (mkF m 31 #[.val (.int p0)] []))
            refine go (fun t kt' => by refine XS.iloadN X0.here hx rfl (hb hby d1_31) rfl ?_; exact kt') ?_
            show Go p e below _ (s₁.setTop (mkF m 32 #[.val (.int p0)] [(.int p0)]))
            refine go (fun t kt' => by refine X0.ldcWI hx hown (mvT hZ (hw _ (List.mem_of_getElem? (i := 17) rfl))) rfl (hb hby d1_32) ?_; exact kt') ?_
            show Go p e below _ (s₁.setTop (mkF m 35 #[.val (.int p0)] [(.int (57344 : Int32)), (.int p0)]))
            by_cases c35_12 : p0 < (57344 : Int32)
            · skip
              refine go (fun t kt' => by refine XS.icmpYes X0.here hx rfl (pc0 := 35) (pc' := 45) rfl (hb hby d1_35) rfl (tlt c35_12).1 (by decide) (by decide) ?_; exact kt') ?_
              show Go p e below _ (s₁.setTop (mkF m 45 #[.val (.int p0)] []))
              refine go (fun t kt' => by refine XS.iloadN X0.here hx rfl (hb hby d1_45) rfl ?_; exact kt') ?_
              show Go p e below _ (s₁.setTop (mkF m 46 #[.val (.int p0)] [(.int p0)]))
              refine go (fun t kt' => by refine X0.ldcWI hx hown (mvT hZ (hw _ (List.mem_of_getElem? (i := 18) rfl))) rfl (hb hby d1_46) ?_; exact kt') ?_
              show Go p e below _ (s₁.setTop (mkF m 49 #[.val (.int p0)] [(.int (65536 : Int32)), (.int p0)]))
              by_cases c49_13 : p0 < (65536 : Int32)
              · skip
                refine go (fun t kt' => by refine XS.icmpYes X0.here hx rfl (pc0 := 49) (pc' := 63) rfl (hb hby d1_49) rfl (tlt c49_13).1 (by decide) (by decide) ?_; exact kt') ?_
                show Go p e below _ (s₁.setTop (mkF m 63 #[.val (.int p0)] []))
                refine go (fun t kt' => by refine XS.iconst X0.here hx rfl (hb hby d1_63) ?_; exact kt') ?_
                show Go p e below _ (s₁.setTop (mkF m 64 #[.val (.int p0)] [(.int (0 : Int32))]))
                refine goOut X0 (fun h => by rw [Bd.returns] at h; cases h) hlk (fun fs hr => retN X0 hx (t := .boolean) Bd.returns (by simp) (hb hby d1_64) hr) (by decide) (by decide) ?_
                rw [e0]
                exact ⟨by simp [own_ic, c3_1, c9_2, c15_3, c21_4, Decidable.not_not.mp c28_11, c35_12, c49_13, nar], N0, rfl⟩
              · skip
                refine go (fun t kt' => by refine XS.icmpNo X0.here hx rfl (hb hby d1_49) rfl (flt c49_13).1 ?_; exact kt') ?_
                show Go p e below _ (s₁.setTop (mkF m 52 #[.val (.int p0)] []))
                refine go (fun t kt' => by refine XS.iloadN X0.here hx rfl (hb hby d1_52) rfl ?_; exact kt') ?_
                show Go p e below _ (s₁.setTop (mkF m 53 #[.val (.int p0)] [(.int p0)]))
                refine go (fun t kt' => by refine X0.ldcWI hx hown (mvT hZ (hw _ (List.mem_of_getElem? (i := 25) rfl))) rfl (hb hby d1_53) ?_; exact kt') ?_
                show Go p e below _ (s₁.setTop (mkF m 56 #[.val (.int p0)] [(.int (1114111 : Int32)), (.int p0)]))
                by_cases c56_14 : (1114111 : Int32) < p0
                · skip
                  refine go (fun t kt' => by refine XS.icmpYes X0.here hx rfl (pc0 := 56) (pc' := 63) rfl (hb hby d1_56) rfl (tlt c56_14).2.2.1 (by decide) (by decide) ?_; exact kt') ?_
                  show Go p e below _ (s₁.setTop (mkF m 63 #[.val (.int p0)] []))
                  refine go (fun t kt' => by refine XS.iconst X0.here hx rfl (hb hby d1_63) ?_; exact kt') ?_
                  show Go p e below _ (s₁.setTop (mkF m 64 #[.val (.int p0)] [(.int (0 : Int32))]))
                  refine goOut X0 (fun h => by rw [Bd.returns] at h; cases h) hlk (fun fs hr => retN X0 hx (t := .boolean) Bd.returns (by simp) (hb hby d1_64) hr) (by decide) (by decide) ?_
                  rw [e0]
                  exact ⟨by simp [own_ic, c3_1, c9_2, c15_3, c21_4, Decidable.not_not.mp c28_11, c35_12, c49_13, c56_14, nar], N0, rfl⟩
                · skip
                  refine go (fun t kt' => by refine XS.icmpNo X0.here hx rfl (hb hby d1_56) rfl (flt c56_14).2.2.1 ?_; exact kt') ?_
                  show Go p e below _ (s₁.setTop (mkF m 59 #[.val (.int p0)] []))
                  refine go (fun t kt' => by refine XS.iconst X0.here hx rfl (hb hby d1_59) ?_; exact kt') ?_
                  show Go p e below _ (s₁.setTop (mkF m 60 #[.val (.int p0)] [(.int (1 : Int32))]))
                  refine go (fun t kt' => by refine XS.goto X0.here hx rfl (pc0 := 60) (pc' := 64) rfl (hb hby d1_60) (by decide) (by decide) ?_; exact kt') ?_
                  show Go p e below _ (s₁.setTop (mkF m 64 #[.val (.int p0)] [(.int (1 : Int32))]))
                  refine goOut X0 (fun h => by rw [Bd.returns] at h; cases h) hlk (fun fs hr => retN X0 hx (t := .boolean) Bd.returns (by simp) (hb hby d1_64) hr) (by decide) (by decide) ?_
                  rw [e0]
                  exact ⟨by simp [own_ic, c3_1, c9_2, c15_3, c21_4, Decidable.not_not.mp c28_11, c35_12, c49_13, c56_14, nar], N0, rfl⟩
            · skip
              refine go (fun t kt' => by refine XS.icmpNo X0.here hx rfl (hb hby d1_35) rfl (flt c35_12).1 ?_; exact kt') ?_
              show Go p e below _ (s₁.setTop (mkF m 38 #[.val (.int p0)] []))
              refine go (fun t kt' => by refine XS.iloadN X0.here hx rfl (hb hby d1_38) rfl ?_; exact kt') ?_
              show Go p e below _ (s₁.setTop (mkF m 39 #[.val (.int p0)] [(.int p0)]))
              refine go (fun t kt' => by refine X0.ldcWI hx hown (mvT hZ (hw _ (List.mem_of_getElem? (i := 24) rfl))) rfl (hb hby d1_39) ?_; exact kt') ?_
              show Go p e below _ (s₁.setTop (mkF m 42 #[.val (.int p0)] [(.int (65533 : Int32)), (.int p0)]))
              by_cases c42_15 : ¬ (65533 : Int32) < p0
              · skip
                refine go (fun t kt' => by refine XS.icmpYes X0.here hx rfl (pc0 := 42) (pc' := 59) rfl (hb hby d1_42) rfl (flt c42_15).2.2.2 (by decide) (by decide) ?_; exact kt') ?_
                show Go p e below _ (s₁.setTop (mkF m 59 #[.val (.int p0)] []))
                refine go (fun t kt' => by refine XS.iconst X0.here hx rfl (hb hby d1_59) ?_; exact kt') ?_
                show Go p e below _ (s₁.setTop (mkF m 60 #[.val (.int p0)] [(.int (1 : Int32))]))
                refine go (fun t kt' => by refine XS.goto X0.here hx rfl (pc0 := 60) (pc' := 64) rfl (hb hby d1_60) (by decide) (by decide) ?_; exact kt') ?_
                show Go p e below _ (s₁.setTop (mkF m 64 #[.val (.int p0)] [(.int (1 : Int32))]))
                refine goOut X0 (fun h => by rw [Bd.returns] at h; cases h) hlk (fun fs hr => retN X0 hx (t := .boolean) Bd.returns (by simp) (hb hby d1_64) hr) (by decide) (by decide) ?_
                rw [e0]
                exact ⟨by simp [own_ic, c3_1, c9_2, c15_3, c21_4, Decidable.not_not.mp c28_11, c35_12, c42_15, nar], N0, rfl⟩
              · skip
                refine go (fun t kt' => by refine XS.icmpNo X0.here hx rfl (hb hby d1_42) rfl (tlt (Decidable.not_not.mp c42_15)).2.2.2 ?_; exact kt') ?_
                show Go p e below _ (s₁.setTop (mkF m 45 #[.val (.int p0)] []))
                refine go (fun t kt' => by refine XS.iloadN X0.here hx rfl (hb hby d1_45) rfl ?_; exact kt') ?_
                show Go p e below _ (s₁.setTop (mkF m 46 #[.val (.int p0)] [(.int p0)]))
                refine go (fun t kt' => by refine X0.ldcWI hx hown (mvT hZ (hw _ (List.mem_of_getElem? (i := 18) rfl))) rfl (hb hby d1_46) ?_; exact kt') ?_
                show Go p e below _ (s₁.setTop (mkF m 49 #[.val (.int p0)] [(.int (65536 : Int32)), (.int p0)]))
                by_cases c49_16 : p0 < (65536 : Int32)
                · skip
                  refine go (fun t kt' => by refine XS.icmpYes X0.here hx rfl (pc0 := 49) (pc' := 63) rfl (hb hby d1_49) rfl (tlt c49_16).1 (by decide) (by decide) ?_; exact kt') ?_
                  show Go p e below _ (s₁.setTop (mkF m 63 #[.val (.int p0)] []))
                  refine go (fun t kt' => by refine XS.iconst X0.here hx rfl (hb hby d1_63) ?_; exact kt') ?_
                  show Go p e below _ (s₁.setTop (mkF m 64 #[.val (.int p0)] [(.int (0 : Int32))]))
                  refine goOut X0 (fun h => by rw [Bd.returns] at h; cases h) hlk (fun fs hr => retN X0 hx (t := .boolean) Bd.returns (by simp) (hb hby d1_64) hr) (by decide) (by decide) ?_
                  rw [e0]
                  exact ⟨by simp [own_ic, c3_1, c9_2, c15_3, c21_4, Decidable.not_not.mp c28_11, c35_12, Decidable.not_not.mp c42_15, c49_16, nar], N0, rfl⟩
                · skip
                  refine go (fun t kt' => by refine XS.icmpNo X0.here hx rfl (hb hby d1_49) rfl (flt c49_16).1 ?_; exact kt') ?_
                  show Go p e below _ (s₁.setTop (mkF m 52 #[.val (.int p0)] []))
                  refine go (fun t kt' => by refine XS.iloadN X0.here hx rfl (hb hby d1_52) rfl ?_; exact kt') ?_
                  show Go p e below _ (s₁.setTop (mkF m 53 #[.val (.int p0)] [(.int p0)]))
                  refine go (fun t kt' => by refine X0.ldcWI hx hown (mvT hZ (hw _ (List.mem_of_getElem? (i := 25) rfl))) rfl (hb hby d1_53) ?_; exact kt') ?_
                  show Go p e below _ (s₁.setTop (mkF m 56 #[.val (.int p0)] [(.int (1114111 : Int32)), (.int p0)]))
                  by_cases c56_17 : (1114111 : Int32) < p0
                  · skip
                    refine go (fun t kt' => by refine XS.icmpYes X0.here hx rfl (pc0 := 56) (pc' := 63) rfl (hb hby d1_56) rfl (tlt c56_17).2.2.1 (by decide) (by decide) ?_; exact kt') ?_
                    show Go p e below _ (s₁.setTop (mkF m 63 #[.val (.int p0)] []))
                    refine go (fun t kt' => by refine XS.iconst X0.here hx rfl (hb hby d1_63) ?_; exact kt') ?_
                    show Go p e below _ (s₁.setTop (mkF m 64 #[.val (.int p0)] [(.int (0 : Int32))]))
                    refine goOut X0 (fun h => by rw [Bd.returns] at h; cases h) hlk (fun fs hr => retN X0 hx (t := .boolean) Bd.returns (by simp) (hb hby d1_64) hr) (by decide) (by decide) ?_
                    rw [e0]
                    exact ⟨by simp [own_ic, c3_1, c9_2, c15_3, c21_4, Decidable.not_not.mp c28_11, c35_12, Decidable.not_not.mp c42_15, c49_16, c56_17, nar], N0, rfl⟩
                  · skip
                    refine go (fun t kt' => by refine XS.icmpNo X0.here hx rfl (hb hby d1_56) rfl (flt c56_17).2.2.1 ?_; exact kt') ?_
                    show Go p e below _ (s₁.setTop (mkF m 59 #[.val (.int p0)] []))
                    refine go (fun t kt' => by refine XS.iconst X0.here hx rfl (hb hby d1_59) ?_; exact kt') ?_
                    show Go p e below _ (s₁.setTop (mkF m 60 #[.val (.int p0)] [(.int (1 : Int32))]))
                    refine go (fun t kt' => by refine XS.goto X0.here hx rfl (pc0 := 60) (pc' := 64) rfl (hb hby d1_60) (by decide) (by decide) ?_; exact kt') ?_
                    show Go p e below _ (s₁.setTop (mkF m 64 #[.val (.int p0)] [(.int (1 : Int32))]))
                    refine goOut X0 (fun h => by rw [Bd.returns] at h; cases h) hlk (fun fs hr => retN X0 hx (t := .boolean) Bd.returns (by simp) (hb hby d1_64) hr) (by decide) (by decide) ?_
                    rw [e0]
                    exact ⟨by simp [own_ic, c3_1, c9_2, c15_3, c21_4, Decidable.not_not.mp c28_11, c35_12, Decidable.not_not.mp c42_15, c49_16, c56_17, nar], N0, rfl⟩
theorem d2_0 : decode method_2_code 0 = .ok (.iload_n 0, 1) := by decide +kernel
theorem d2_1 : decode method_2_code 1 = .ok (.ifCond .lt 9, 3) := by decide +kernel
theorem d2_10 : decode method_2_code 10 = .ok (.iconst 0, 1) := by decide +kernel
theorem d2_11 : decode method_2_code 11 = .ok (.ireturn, 1) := by decide +kernel
theorem d2_4 : decode method_2_code 4 = .ok (.iload_n 0, 1) := by decide +kernel
theorem d2_5 : decode method_2_code 5 = .ok (.ldc 7, 2) := by decide +kernel
theorem d2_7 : decode method_2_code 7 = .ok (.if_icmp .le 5, 3) := by decide +kernel
theorem d2_12 : decode method_2_code 12 = .ok (.iload_n 0, 1) := by decide +kernel
theorem d2_13 : decode method_2_code 13 = .ok (.bipush 32, 2) := by decide +kernel
theorem d2_15 : decode method_2_code 15 = .ok (.if_icmp .ge 27, 3) := by decide +kernel
theorem d2_42 : decode method_2_code 42 = .ok (.iload_n 0, 1) := by decide +kernel
theorem d2_43 : decode method_2_code 43 = .ok (.ldc 8, 2) := by decide +kernel
theorem d2_45 : decode method_2_code 45 = .ok (.if_icmp .lt 11, 3) := by decide +kernel
theorem d2_56 : decode method_2_code 56 = .ok (.iload_n 0, 1) := by decide +kernel
theorem d2_57 : decode method_2_code 57 = .ok (.ldc 10, 2) := by decide +kernel
theorem d2_59 : decode method_2_code 59 = .ok (.if_icmp .eq 13, 3) := by decide +kernel
theorem d2_72 : decode method_2_code 72 = .ok (.iconst 0, 1) := by decide +kernel
theorem d2_73 : decode method_2_code 73 = .ok (.ireturn, 1) := by decide +kernel
theorem d2_62 : decode method_2_code 62 = .ok (.iload_n 0, 1) := by decide +kernel
theorem d2_63 : decode method_2_code 63 = .ok (.ldc 11, 2) := by decide +kernel
theorem d2_65 : decode method_2_code 65 = .ok (.if_icmp .eq 7, 3) := by decide +kernel
theorem d2_68 : decode method_2_code 68 = .ok (.iconst 1, 1) := by decide +kernel
theorem d2_69 : decode method_2_code 69 = .ok (.goto 4, 3) := by decide +kernel
theorem d2_48 : decode method_2_code 48 = .ok (.iload_n 0, 1) := by decide +kernel
theorem d2_49 : decode method_2_code 49 = .ok (.ldc 9, 2) := by decide +kernel
theorem d2_51 : decode method_2_code 51 = .ok (.if_icmp .gt 5, 3) := by decide +kernel
theorem d2_54 : decode method_2_code 54 = .ok (.iconst 0, 1) := by decide +kernel
theorem d2_55 : decode method_2_code 55 = .ok (.ireturn, 1) := by decide +kernel
theorem d2_18 : decode method_2_code 18 = .ok (.iload_n 0, 1) := by decide +kernel
theorem d2_19 : decode method_2_code 19 = .ok (.bipush 9, 2) := by decide +kernel
theorem d2_21 : decode method_2_code 21 = .ok (.if_icmp .eq 15, 3) := by decide +kernel
theorem d2_36 : decode method_2_code 36 = .ok (.iconst 1, 1) := by decide +kernel
theorem d2_37 : decode method_2_code 37 = .ok (.goto 4, 3) := by decide +kernel
theorem d2_41 : decode method_2_code 41 = .ok (.ireturn, 1) := by decide +kernel
theorem d2_24 : decode method_2_code 24 = .ok (.iload_n 0, 1) := by decide +kernel
theorem d2_25 : decode method_2_code 25 = .ok (.bipush 10, 2) := by decide +kernel
theorem d2_27 : decode method_2_code 27 = .ok (.if_icmp .eq 9, 3) := by decide +kernel
theorem d2_30 : decode method_2_code 30 = .ok (.iload_n 0, 1) := by decide +kernel
theorem d2_31 : decode method_2_code 31 = .ok (.bipush 13, 2) := by decide +kernel
theorem d2_33 : decode method_2_code 33 = .ok (.if_icmp .ne 7, 3) := by decide +kernel
theorem d2_40 : decode method_2_code 40 = .ok (.iconst 0, 1) := by decide +kernel
theorem pn_com_example_casewright_casewright_formats_XmlScannerIsCharacterPinLaw : plainName "com/example/casewright/casewright/formats/XmlScannerIsCharacterPinLaw" = true := by first | (simp [plainName, overriddenIn]; done) | decide +kernel
theorem ef_rm2 (m : MethodId) (x0 : Int32) : entryFrame m #[(.int x0)] 1 = mkF m 0 #[.val (.int x0)] [] := by first | (simp [entryFrame, mkF, argsToLocals, Value.category]; done) | rfl
def Q2 (Z : State) (p0 : Int32) (h0 : Heap) (n0 : Nat) (v : Option Value) (h : Heap) (L : List Loc) : Prop := v = some (.int (own_rf p0)) ∧ Fr n0 L ∧ h = h0
set_option maxRecDepth 65536 in
set_option maxHeartbeats 40000000 in
theorem rm2 (l : Launch) (Z : State) (a0 : Array Value) (hw : ∀ d ∈ tables_1, d.before a0 Z = true) (ws : List Jvm.Cond) (p0 : Int32)  (h0 : Heap) (n0 : Nat) (Z0 : n0 ≤ h0.size)  :
    MetFree l (⟨"com/example/casewright/casewright/formats/XmlScannerIsCharacterPinLaw", "reference", "(I)Z"⟩ : MethodName) (head1 (Jvm.Cond.code (⟨"com/example/casewright/casewright/formats/XmlScannerIsCharacterPinLaw", "reference", "(I)Z"⟩ : MethodName) method_2_code 1 (some .boolean) :: ws) ({ frames := 0, cells := 0, slots := 0, locals := 0 } : Room)) (fun av' U => av' = #[(.int p0)] ∧ Z.Warmed39 U.vm ∧ U.heap = h0) (fun _ _ _ _ _ => True) (fun _ U o U' => ∃ v L, o = .returned v ∧ Q2 Z p0 h0 n0 v U'.heap L ∧ FrameEnd U o U' L ({ frames := 0, cells := 0, slots := 0, locals := 0 } : Room).cells ({ frames := 0, cells := 0, slots := 0, locals := 0 } : Room).slots) := by
  refine MetFree.of_bodySF (plainFor_of_name pn_com_example_casewright_casewright_formats_XmlScannerIsCharacterPinLaw) hisR ?_
  intro p e s m args below meth c s₁ Bd hml0 hP hK
  obtain ⟨rfl, hZ, hh⟩ := hP
  have hx := Bd.exec
  have hby := Bd.bytes
  have hlk := Bd.notSynchronized
  have hml : c.maxLocals = 1 := hml0
  have hown : s.vm.findClass "com/example/casewright/casewright/formats/XmlScannerIsCharacterPinLaw" = some m.cls := findClass_of_methodNamed Bd.named
  have hnm := (name_of_methodNamed Bd.named Bd.method).1
  have X0 : Stand p l e ({ frames := 0, cells := 0, slots := 0, locals := 0 } : Room) s m #[(.int p0)] below meth c s₁ [] 0 0 := Stand.of_body Bd
  have e0 : s₁.heap = h0 := by rw [← hh, Bd.state]; rfl
  have N0 := Fr.nil n0
  show Go p e below (Kq s (Q2 Z p0 h0 n0) ({ frames := 0, cells := 0, slots := 0, locals := 0 } : Room).cells ({ frames := 0, cells := 0, slots := 0, locals := 0 } : Room).slots) _
  refine go (fun t kt => castTop (ef_rm2 m p0) kt) ?_
  show Go p e below _ (s₁.setTop (mkF m 0 #[.val (.int p0)] []))
  refine go (fun t kt' => by refine XS.iloadN X0.here hx rfl (hb hby d2_0) rfl ?_; exact kt') ?_
  show Go p e below _ (s₁.setTop (mkF m 1 #[.val (.int p0)] [(.int p0)]))
  by_cases c1_1 : p0 < (0 : Int32)
  · skip
    refine go (fun t kt' => by refine XS.ifYes X0.here hx rfl (pc0 := 1) (pc' := 10) rfl (hb hby d2_1) rfl ((if0 _ _).trans (tlt c1_1).1) (by decide) (by decide) ?_; exact kt') ?_
    show Go p e below _ (s₁.setTop (mkF m 10 #[.val (.int p0)] []))
    refine go (fun t kt' => by refine XS.iconst X0.here hx rfl (hb hby d2_10) ?_; exact kt') ?_
    show Go p e below _ (s₁.setTop (mkF m 11 #[.val (.int p0)] [(.int (0 : Int32))]))
    refine goOut X0 (fun h => by rw [Bd.returns] at h; cases h) hlk (fun fs hr => retN X0 hx (t := .boolean) Bd.returns (by simp) (hb hby d2_11) hr) (by decide) (by decide) ?_
    rw [e0]
    exact ⟨by simp [own_rf, c1_1, nar], N0, rfl⟩
  · skip
    refine go (fun t kt' => by refine XS.ifNo X0.here hx rfl (hb hby d2_1) rfl ((if0 _ _).trans (flt c1_1).1) ?_; exact kt') ?_
    show Go p e below _ (s₁.setTop (mkF m 4 #[.val (.int p0)] []))
    refine go (fun t kt' => by refine XS.iloadN X0.here hx rfl (hb hby d2_4) rfl ?_; exact kt') ?_
    show Go p e below _ (s₁.setTop (mkF m 5 #[.val (.int p0)] [(.int p0)]))
    refine go (fun t kt' => by refine X0.ldcI hx hown (mvT hZ (hw _ (List.mem_of_getElem? (i := 9) rfl))) rfl (hb hby d2_5) ?_; exact kt') ?_
    show Go p e below _ (s₁.setTop (mkF m 7 #[.val (.int p0)] [(.int (1114111 : Int32)), (.int p0)]))
    by_cases c7_2 : ¬ (1114111 : Int32) < p0
    · skip
      refine go (fun t kt' => by refine XS.icmpYes X0.here hx rfl (pc0 := 7) (pc' := 12) rfl (hb hby d2_7) rfl (flt c7_2).2.2.2 (by decide) (by decide) ?_; exact kt') ?_
      show Go p e below _ (s₁.setTop (mkF m 12 #[.val (.int p0)] []))
      refine go (fun t kt' => by refine XS.iloadN X0.here hx rfl (hb hby d2_12) rfl ?_; exact kt') ?_
      show Go p e below _ (s₁.setTop (mkF m 13 #[.val (.int p0)] [(.int p0)]))
      refine go (fun t kt' => by refine XS.bipush X0.here hx rfl (hb hby d2_13) ?_; exact kt') ?_
      show Go p e below _ (s₁.setTop (mkF m 15 #[.val (.int p0)] [(.int (32 : Int32)), (.int p0)]))
      by_cases c15_3 : ¬ p0 < (32 : Int32)
      · skip
        refine go (fun t kt' => by refine XS.icmpYes X0.here hx rfl (pc0 := 15) (pc' := 42) rfl (hb hby d2_15) rfl (flt c15_3).2.1 (by decide) (by decide) ?_; exact kt') ?_
        show Go p e below _ (s₁.setTop (mkF m 42 #[.val (.int p0)] []))
        refine go (fun t kt' => by refine XS.iloadN X0.here hx rfl (hb hby d2_42) rfl ?_; exact kt') ?_
        show Go p e below _ (s₁.setTop (mkF m 43 #[.val (.int p0)] [(.int p0)]))
        refine go (fun t kt' => by refine X0.ldcI hx hown (mvT hZ (hw _ (List.mem_of_getElem? (i := 2) rfl))) rfl (hb hby d2_43) ?_; exact kt') ?_
        show Go p e below _ (s₁.setTop (mkF m 45 #[.val (.int p0)] [(.int (55296 : Int32)), (.int p0)]))
        by_cases c45_4 : p0 < (55296 : Int32)
        · skip
          refine go (fun t kt' => by refine XS.icmpYes X0.here hx rfl (pc0 := 45) (pc' := 56) rfl (hb hby d2_45) rfl (tlt c45_4).1 (by decide) (by decide) ?_; exact kt') ?_
          show Go p e below _ (s₁.setTop (mkF m 56 #[.val (.int p0)] []))
          refine go (fun t kt' => by refine XS.iloadN X0.here hx rfl (hb hby d2_56) rfl ?_; exact kt') ?_
          show Go p e below _ (s₁.setTop (mkF m 57 #[.val (.int p0)] [(.int p0)]))
          refine go (fun t kt' => by refine X0.ldcI hx hown (mvT hZ (hw _ (List.mem_of_getElem? (i := 6) rfl))) rfl (hb hby d2_57) ?_; exact kt') ?_
          show Go p e below _ (s₁.setTop (mkF m 59 #[.val (.int p0)] [(.int (65534 : Int32)), (.int p0)]))
          by_cases c59_5 : p0 = (65534 : Int32)
          · skip
            refine go (fun t kt' => by refine XS.icmpYes X0.here hx rfl (pc0 := 59) (pc' := 72) rfl (hb hby d2_59) rfl (teq c59_5).1 (by decide) (by decide) ?_; exact kt') ?_
            show Go p e below _ (s₁.setTop (mkF m 72 #[.val (.int p0)] []))
            refine go (fun t kt' => by refine XS.iconst X0.here hx rfl (hb hby d2_72) ?_; exact kt') ?_
            show Go p e below _ (s₁.setTop (mkF m 73 #[.val (.int p0)] [(.int (0 : Int32))]))
            refine goOut X0 (fun h => by rw [Bd.returns] at h; cases h) hlk (fun fs hr => retN X0 hx (t := .boolean) Bd.returns (by simp) (hb hby d2_73) hr) (by decide) (by decide) ?_
            rw [e0]
            exact ⟨by simp [own_rf, c1_1, c7_2, c15_3, c45_4, c59_5, nar], N0, rfl⟩
          · skip
            refine go (fun t kt' => by refine XS.icmpNo X0.here hx rfl (hb hby d2_59) rfl (feq c59_5).1 ?_; exact kt') ?_
            show Go p e below _ (s₁.setTop (mkF m 62 #[.val (.int p0)] []))
            refine go (fun t kt' => by refine XS.iloadN X0.here hx rfl (hb hby d2_62) rfl ?_; exact kt') ?_
            show Go p e below _ (s₁.setTop (mkF m 63 #[.val (.int p0)] [(.int p0)]))
            refine go (fun t kt' => by refine X0.ldcI hx hown (mvT hZ (hw _ (List.mem_of_getElem? (i := 7) rfl))) rfl (hb hby d2_63) ?_; exact kt') ?_
            show Go p e below _ (s₁.setTop (mkF m 65 #[.val (.int p0)] [(.int (65535 : Int32)), (.int p0)]))
            by_cases c65_6 : p0 = (65535 : Int32)
            · skip
              refine go (fun t kt' => by refine XS.icmpYes X0.here hx rfl (pc0 := 65) (pc' := 72) rfl (hb hby d2_65) rfl (teq c65_6).1 (by decide) (by decide) ?_; exact kt') ?_
              show Go p e below _ (s₁.setTop (mkF m 72 #[.val (.int p0)] []))
              refine go (fun t kt' => by refine XS.iconst X0.here hx rfl (hb hby d2_72) ?_; exact kt') ?_
              show Go p e below _ (s₁.setTop (mkF m 73 #[.val (.int p0)] [(.int (0 : Int32))]))
              refine goOut X0 (fun h => by rw [Bd.returns] at h; cases h) hlk (fun fs hr => retN X0 hx (t := .boolean) Bd.returns (by simp) (hb hby d2_73) hr) (by decide) (by decide) ?_
              rw [e0]
              exact ⟨by simp [own_rf, c1_1, c7_2, c15_3, c45_4, c59_5, c65_6, nar], N0, rfl⟩
            · skip
              refine go (fun t kt' => by refine XS.icmpNo X0.here hx rfl (hb hby d2_65) rfl (feq c65_6).1 ?_; exact kt') ?_
              show Go p e below _ (s₁.setTop (mkF m 68 #[.val (.int p0)] []))
              refine go (fun t kt' => by refine XS.iconst X0.here hx rfl (hb hby d2_68) ?_; exact kt') ?_
              show Go p e below _ (s₁.setTop (mkF m 69 #[.val (.int p0)] [(.int (1 : Int32))]))
              refine go (fun t kt' => by refine XS.goto X0.here hx rfl (pc0 := 69) (pc' := 73) rfl (hb hby d2_69) (by decide) (by decide) ?_; exact kt') ?_
              show Go p e below _ (s₁.setTop (mkF m 73 #[.val (.int p0)] [(.int (1 : Int32))]))
              refine goOut X0 (fun h => by rw [Bd.returns] at h; cases h) hlk (fun fs hr => retN X0 hx (t := .boolean) Bd.returns (by simp) (hb hby d2_73) hr) (by decide) (by decide) ?_
              rw [e0]
              exact ⟨by simp [own_rf, c1_1, c7_2, c15_3, c45_4, c59_5, c65_6, nar], N0, rfl⟩
        · skip
          refine go (fun t kt' => by refine XS.icmpNo X0.here hx rfl (hb hby d2_45) rfl (flt c45_4).1 ?_; exact kt') ?_
          show Go p e below _ (s₁.setTop (mkF m 48 #[.val (.int p0)] []))
          refine go (fun t kt' => by refine XS.iloadN X0.here hx rfl (hb hby d2_48) rfl ?_; exact kt') ?_
          show Go p e below _ (s₁.setTop (mkF m 49 #[.val (.int p0)] [(.int p0)]))
          refine go (fun t kt' => by refine X0.ldcI hx hown (mvT hZ (hw _ (List.mem_of_getElem? (i := 3) rfl))) rfl (hb hby d2_49) ?_; exact kt') ?_
          show Go p e below _ (s₁.setTop (mkF m 51 #[.val (.int p0)] [(.int (57343 : Int32)), (.int p0)]))
          by_cases c51_7 : (57343 : Int32) < p0
          · skip
            refine go (fun t kt' => by refine XS.icmpYes X0.here hx rfl (pc0 := 51) (pc' := 56) rfl (hb hby d2_51) rfl (tlt c51_7).2.2.1 (by decide) (by decide) ?_; exact kt') ?_
            show Go p e below _ (s₁.setTop (mkF m 56 #[.val (.int p0)] []))
            refine go (fun t kt' => by refine XS.iloadN X0.here hx rfl (hb hby d2_56) rfl ?_; exact kt') ?_
            show Go p e below _ (s₁.setTop (mkF m 57 #[.val (.int p0)] [(.int p0)]))
            refine go (fun t kt' => by refine X0.ldcI hx hown (mvT hZ (hw _ (List.mem_of_getElem? (i := 6) rfl))) rfl (hb hby d2_57) ?_; exact kt') ?_
            show Go p e below _ (s₁.setTop (mkF m 59 #[.val (.int p0)] [(.int (65534 : Int32)), (.int p0)]))
            by_cases c59_8 : p0 = (65534 : Int32)
            · skip
              refine go (fun t kt' => by refine XS.icmpYes X0.here hx rfl (pc0 := 59) (pc' := 72) rfl (hb hby d2_59) rfl (teq c59_8).1 (by decide) (by decide) ?_; exact kt') ?_
              show Go p e below _ (s₁.setTop (mkF m 72 #[.val (.int p0)] []))
              refine go (fun t kt' => by refine XS.iconst X0.here hx rfl (hb hby d2_72) ?_; exact kt') ?_
              show Go p e below _ (s₁.setTop (mkF m 73 #[.val (.int p0)] [(.int (0 : Int32))]))
              refine goOut X0 (fun h => by rw [Bd.returns] at h; cases h) hlk (fun fs hr => retN X0 hx (t := .boolean) Bd.returns (by simp) (hb hby d2_73) hr) (by decide) (by decide) ?_
              rw [e0]
              exact ⟨by simp [own_rf, c1_1, c7_2, c15_3, c45_4, c51_7, c59_8, nar], N0, rfl⟩
            · skip
              refine go (fun t kt' => by refine XS.icmpNo X0.here hx rfl (hb hby d2_59) rfl (feq c59_8).1 ?_; exact kt') ?_
              show Go p e below _ (s₁.setTop (mkF m 62 #[.val (.int p0)] []))
              refine go (fun t kt' => by refine XS.iloadN X0.here hx rfl (hb hby d2_62) rfl ?_; exact kt') ?_
              show Go p e below _ (s₁.setTop (mkF m 63 #[.val (.int p0)] [(.int p0)]))
              refine go (fun t kt' => by refine X0.ldcI hx hown (mvT hZ (hw _ (List.mem_of_getElem? (i := 7) rfl))) rfl (hb hby d2_63) ?_; exact kt') ?_
              show Go p e below _ (s₁.setTop (mkF m 65 #[.val (.int p0)] [(.int (65535 : Int32)), (.int p0)]))
              by_cases c65_9 : p0 = (65535 : Int32)
              · skip
                refine go (fun t kt' => by refine XS.icmpYes X0.here hx rfl (pc0 := 65) (pc' := 72) rfl (hb hby d2_65) rfl (teq c65_9).1 (by decide) (by decide) ?_; exact kt') ?_
                show Go p e below _ (s₁.setTop (mkF m 72 #[.val (.int p0)] []))
                refine go (fun t kt' => by refine XS.iconst X0.here hx rfl (hb hby d2_72) ?_; exact kt') ?_
                show Go p e below _ (s₁.setTop (mkF m 73 #[.val (.int p0)] [(.int (0 : Int32))]))
                refine goOut X0 (fun h => by rw [Bd.returns] at h; cases h) hlk (fun fs hr => retN X0 hx (t := .boolean) Bd.returns (by simp) (hb hby d2_73) hr) (by decide) (by decide) ?_
                rw [e0]
                exact ⟨by simp [own_rf, c1_1, c7_2, c15_3, c45_4, c51_7, c59_8, c65_9, nar], N0, rfl⟩
              · skip
                refine go (fun t kt' => by refine XS.icmpNo X0.here hx rfl (hb hby d2_65) rfl (feq c65_9).1 ?_; exact kt') ?_
                show Go p e below _ (s₁.setTop (mkF m 68 #[.val (.int p0)] []))
                refine go (fun t kt' => by refine XS.iconst X0.here hx rfl (hb hby d2_68) ?_; exact kt') ?_
                show Go p e below _ (s₁.setTop (mkF m 69 #[.val (.int p0)] [(.int (1 : Int32))]))
                refine go (fun t kt' => by refine XS.goto X0.here hx rfl (pc0 := 69) (pc' := 73) rfl (hb hby d2_69) (by decide) (by decide) ?_; exact kt') ?_
                show Go p e below _ (s₁.setTop (mkF m 73 #[.val (.int p0)] [(.int (1 : Int32))]))
                refine goOut X0 (fun h => by rw [Bd.returns] at h; cases h) hlk (fun fs hr => retN X0 hx (t := .boolean) Bd.returns (by simp) (hb hby d2_73) hr) (by decide) (by decide) ?_
                rw [e0]
                exact ⟨by simp [own_rf, c1_1, c7_2, c15_3, c45_4, c51_7, c59_8, c65_9, nar], N0, rfl⟩
          · skip
            refine go (fun t kt' => by refine XS.icmpNo X0.here hx rfl (hb hby d2_51) rfl (flt c51_7).2.2.1 ?_; exact kt') ?_
            show Go p e below _ (s₁.setTop (mkF m 54 #[.val (.int p0)] []))
            refine go (fun t kt' => by refine XS.iconst X0.here hx rfl (hb hby d2_54) ?_; exact kt') ?_
            show Go p e below _ (s₁.setTop (mkF m 55 #[.val (.int p0)] [(.int (0 : Int32))]))
            refine goOut X0 (fun h => by rw [Bd.returns] at h; cases h) hlk (fun fs hr => retN X0 hx (t := .boolean) Bd.returns (by simp) (hb hby d2_55) hr) (by decide) (by decide) ?_
            rw [e0]
            exact ⟨by simp [own_rf, c1_1, c7_2, c15_3, c45_4, c51_7, nar], N0, rfl⟩
      · skip
        refine go (fun t kt' => by refine XS.icmpNo X0.here hx rfl (hb hby d2_15) rfl (tlt (Decidable.not_not.mp c15_3)).2.1 ?_; exact kt') ?_
        show Go p e below _ (s₁.setTop (mkF m 18 #[.val (.int p0)] []))
        refine go (fun t kt' => by refine XS.iloadN X0.here hx rfl (hb hby d2_18) rfl ?_; exact kt') ?_
        show Go p e below _ (s₁.setTop (mkF m 19 #[.val (.int p0)] [(.int p0)]))
        refine go (fun t kt' => by refine XS.bipush X0.here hx rfl (hb hby d2_19) ?_; exact kt') ?_
        show Go p e below _ (s₁.setTop (mkF m 21 #[.val (.int p0)] [(.int (9 : Int32)), (.int p0)]))
        by_cases c21_10 : p0 = (9 : Int32)
        · skip
          refine go (fun t kt' => by refine XS.icmpYes X0.here hx rfl (pc0 := 21) (pc' := 36) rfl (hb hby d2_21) rfl (teq c21_10).1 (by decide) (by decide) ?_; exact kt') ?_
          show Go p e below _ (s₁.setTop (mkF m 36 #[.val (.int p0)] []))
          refine go (fun t kt' => by refine XS.iconst X0.here hx rfl (hb hby d2_36) ?_; exact kt') ?_
          show Go p e below _ (s₁.setTop (mkF m 37 #[.val (.int p0)] [(.int (1 : Int32))]))
          refine go (fun t kt' => by refine XS.goto X0.here hx rfl (pc0 := 37) (pc' := 41) rfl (hb hby d2_37) (by decide) (by decide) ?_; exact kt') ?_
          show Go p e below _ (s₁.setTop (mkF m 41 #[.val (.int p0)] [(.int (1 : Int32))]))
          refine goOut X0 (fun h => by rw [Bd.returns] at h; cases h) hlk (fun fs hr => retN X0 hx (t := .boolean) Bd.returns (by simp) (hb hby d2_41) hr) (by decide) (by decide) ?_
          rw [e0]
          exact ⟨by simp [own_rf, c1_1, c7_2, Decidable.not_not.mp c15_3, c21_10, nar], N0, rfl⟩
        · skip
          refine go (fun t kt' => by refine XS.icmpNo X0.here hx rfl (hb hby d2_21) rfl (feq c21_10).1 ?_; exact kt') ?_
          show Go p e below _ (s₁.setTop (mkF m 24 #[.val (.int p0)] []))
          refine go (fun t kt' => by refine XS.iloadN X0.here hx rfl (hb hby d2_24) rfl ?_; exact kt') ?_
          show Go p e below _ (s₁.setTop (mkF m 25 #[.val (.int p0)] [(.int p0)]))
          refine go (fun t kt' => by refine XS.bipush X0.here hx rfl (hb hby d2_25) ?_; exact kt') ?_
          show Go p e below _ (s₁.setTop (mkF m 27 #[.val (.int p0)] [(.int (10 : Int32)), (.int p0)]))
          by_cases c27_11 : p0 = (10 : Int32)
          · skip
            refine go (fun t kt' => by refine XS.icmpYes X0.here hx rfl (pc0 := 27) (pc' := 36) rfl (hb hby d2_27) rfl (teq c27_11).1 (by decide) (by decide) ?_; exact kt') ?_
            show Go p e below _ (s₁.setTop (mkF m 36 #[.val (.int p0)] []))
            refine go (fun t kt' => by refine XS.iconst X0.here hx rfl (hb hby d2_36) ?_; exact kt') ?_
            show Go p e below _ (s₁.setTop (mkF m 37 #[.val (.int p0)] [(.int (1 : Int32))]))
            refine go (fun t kt' => by refine XS.goto X0.here hx rfl (pc0 := 37) (pc' := 41) rfl (hb hby d2_37) (by decide) (by decide) ?_; exact kt') ?_
            show Go p e below _ (s₁.setTop (mkF m 41 #[.val (.int p0)] [(.int (1 : Int32))]))
            refine goOut X0 (fun h => by rw [Bd.returns] at h; cases h) hlk (fun fs hr => retN X0 hx (t := .boolean) Bd.returns (by simp) (hb hby d2_41) hr) (by decide) (by decide) ?_
            rw [e0]
            exact ⟨by simp [own_rf, c1_1, c7_2, Decidable.not_not.mp c15_3, c21_10, c27_11, nar], N0, rfl⟩
          · skip
            refine go (fun t kt' => by refine XS.icmpNo X0.here hx rfl (hb hby d2_27) rfl (feq c27_11).1 ?_; exact kt') ?_
            show Go p e below _ (s₁.setTop (mkF m 30 #[.val (.int p0)] []))
            refine go (fun t kt' => by refine XS.iloadN X0.here hx rfl (hb hby d2_30) rfl ?_; exact kt') ?_
            show Go p e below _ (s₁.setTop (mkF m 31 #[.val (.int p0)] [(.int p0)]))
            refine go (fun t kt' => by refine XS.bipush X0.here hx rfl (hb hby d2_31) ?_; exact kt') ?_
            show Go p e below _ (s₁.setTop (mkF m 33 #[.val (.int p0)] [(.int (13 : Int32)), (.int p0)]))
            by_cases c33_12 : ¬ p0 = (13 : Int32)
            · skip
              refine go (fun t kt' => by refine XS.icmpYes X0.here hx rfl (pc0 := 33) (pc' := 40) rfl (hb hby d2_33) rfl (feq c33_12).2 (by decide) (by decide) ?_; exact kt') ?_
              show Go p e below _ (s₁.setTop (mkF m 40 #[.val (.int p0)] []))
              refine go (fun t kt' => by refine XS.iconst X0.here hx rfl (hb hby d2_40) ?_; exact kt') ?_
              show Go p e below _ (s₁.setTop (mkF m 41 #[.val (.int p0)] [(.int (0 : Int32))]))
              refine goOut X0 (fun h => by rw [Bd.returns] at h; cases h) hlk (fun fs hr => retN X0 hx (t := .boolean) Bd.returns (by simp) (hb hby d2_41) hr) (by decide) (by decide) ?_
              rw [e0]
              exact ⟨by simp [own_rf, c1_1, c7_2, Decidable.not_not.mp c15_3, c21_10, c27_11, c33_12, nar], N0, rfl⟩
            · skip
              refine go (fun t kt' => by refine XS.icmpNo X0.here hx rfl (hb hby d2_33) rfl (teq (Decidable.not_not.mp c33_12)).2 ?_; exact kt') ?_
              show Go p e below _ (s₁.setTop (mkF m 36 #[.val (.int p0)] []))
              refine go (fun t kt' => by refine XS.iconst X0.here hx rfl (hb hby d2_36) ?_; exact kt') ?_
              show Go p e below _ (s₁.setTop (mkF m 37 #[.val (.int p0)] [(.int (1 : Int32))]))
              refine go (fun t kt' => by refine XS.goto X0.here hx rfl (pc0 := 37) (pc' := 41) rfl (hb hby d2_37) (by decide) (by decide) ?_; exact kt') ?_
              show Go p e below _ (s₁.setTop (mkF m 41 #[.val (.int p0)] [(.int (1 : Int32))]))
              refine goOut X0 (fun h => by rw [Bd.returns] at h; cases h) hlk (fun fs hr => retN X0 hx (t := .boolean) Bd.returns (by simp) (hb hby d2_41) hr) (by decide) (by decide) ?_
              rw [e0]
              exact ⟨by simp [own_rf, c1_1, c7_2, Decidable.not_not.mp c15_3, c21_10, c27_11, Decidable.not_not.mp c33_12, nar], N0, rfl⟩
    · skip
      refine go (fun t kt' => by refine XS.icmpNo X0.here hx rfl (hb hby d2_7) rfl (tlt (Decidable.not_not.mp c7_2)).2.2.2 ?_; exact kt') ?_
      show Go p e below _ (s₁.setTop (mkF m 10 #[.val (.int p0)] []))
      refine go (fun t kt' => by refine XS.iconst X0.here hx rfl (hb hby d2_10) ?_; exact kt') ?_
      show Go p e below _ (s₁.setTop (mkF m 11 #[.val (.int p0)] [(.int (0 : Int32))]))
      refine goOut X0 (fun h => by rw [Bd.returns] at h; cases h) hlk (fun fs hr => retN X0 hx (t := .boolean) Bd.returns (by simp) (hb hby d2_11) hr) (by decide) (by decide) ?_
      rw [e0]
      exact ⟨by simp [own_rf, c1_1, Decidable.not_not.mp c7_2, nar], N0, rfl⟩
theorem own_idx (k : Int32) : 0 ≤ ((k &&& (2147483647 : Int32)) % (17 : Int32)).toInt ∧ ((k &&& (2147483647 : Int32)) % (17 : Int32)).toInt < (17 : Nat) := by
  have h1 : (k &&& (2147483647 : Int32)).toInt = k.toInt % (2 ^ 31 : Nat) := c_mask k 2147483647 31 (by decide) (by decide)
  have h2 := (c_irem (k &&& (2147483647 : Int32)) 17 17 rfl).1 (by omega)
  omega
theorem pd_0 : parseMethodDescriptor "(I)Z" = some ⟨[.int], some .boolean⟩ := by decide +kernel
theorem ef_rm0 (m : MethodId) (x0 : Int32) (x1 : Int32) : entryFrame m #[(.int x0), (.int x1)] maxLocals = mkF m 0 #[.val (.int x0), .val (.int x1), .unset, .unset, .unset, .unset] [] := by first | (simp [entryFrame, mkF, argsToLocals, Value.category, maxLocals]; done) | rfl
def Q0 (Z : State) (p0 p1 : Int32) (h0 : Heap) (n0 : Nat) (v : Option Value) (h : Heap) (L : List Loc) : Prop := v = some (.int 1) ∧ Fr n0 L
set_option maxRecDepth 65536 in
set_option maxHeartbeats 40000000 in
theorem rm0 (l : Launch) (Z : State) (a0 : Array Value) (hw : ∀ d ∈ tables_1, d.before a0 Z = true) (ws : List Jvm.Cond) (p0 : Int32) (p1 : Int32)  (h0 : Heap) (n0 : Nat) (Z0 : n0 ≤ h0.size)  :
    MetFree l x (head1 (Jvm.Cond.code x code maxLocals ret :: ws) room_1) (fun av' U => av' = #[(.int p0), (.int p1)] ∧ Z.Warmed39 U.vm ∧ U.heap = h0) (fun _ _ _ _ _ => True) (fun _ U o U' => ∃ v L, o = .returned v ∧ Q0 Z p0 p1 h0 n0 v U'.heap L ∧ FrameEnd U o U' L room_1.cells room_1.slots) := by
  refine MetFree.of_bodySF (plainFor_of_name pn_com_example_casewright_casewright_formats_XmlScannerIsCharacterPinLaw) hisR ?_
  intro p e s m args below meth c s₁ Bd hml0 hP hK
  obtain ⟨rfl, hZ, hh⟩ := hP
  have hx := Bd.exec
  have hby := Bd.bytes
  have hlk := Bd.notSynchronized
  have hml : c.maxLocals = 6 := hml0
  have hown : s.vm.findClass "com/example/casewright/casewright/formats/XmlScannerIsCharacterPinLaw" = some m.cls := findClass_of_methodNamed Bd.named
  have hnm := (name_of_methodNamed Bd.named Bd.method).1
  have X0 : Stand p l e room_1 s m #[(.int p0), (.int p1)] below meth c s₁ [] 0 0 := Stand.of_body Bd
  have e0 : s₁.heap = h0 := by rw [← hh, Bd.state]; rfl
  have N0 := Fr.nil n0
  show Go p e below (Kq s (Q0 Z p0 p1 h0 n0) room_1.cells room_1.slots) _
  refine go (fun t kt => castTop (ef_rm0 m p0 p1) kt) ?_
  show Go p e below _ (s₁.setTop (mkF m 0 #[.val (.int p0), .val (.int p1), .unset, .unset, .unset, .unset] []))
  refine go (fun t kt' => by refine XS.bipush X0.here hx rfl (hb hby at_0) ?_; exact kt') ?_
  show Go p e below _ (s₁.setTop (mkF m 2 #[.val (.int p0), .val (.int p1), .unset, .unset, .unset, .unset] [(.int (17 : Int32))]))
  obtain ⟨T1, h1, k1, X1, e1, E1, A1, st1⟩ := newP X0 hx hZ (hw _ (List.mem_of_getElem? (i := 0) rfl)) e0 (g := (mkF m 2 #[.val (.int p0), .val (.int p1), .unset, .unset, .unset, .unset] [(.int (17 : Int32))])) rfl (hb hby at_2) rfl (by decide) (cap := 17) (by decide) (by decide) (by decide) (by decide)
  obtain ⟨b1, g1⟩ : ∃ z, z = h0.size := ⟨_, rfl⟩
  have n0_b1 : n0 ≤ b1 := Nat.le_trans Z0 (Nat.le_of_eq g1.symm)
  rw [← g1] at A1 st1
  have f2_Z := Nat.le_trans Z0 E1.1
  have V1 : IA Z h1 b1 .int 17 (fun _ => 0) := IA.new A1 rfl rfl
  refine go st1 ?_
  show Go p e below _ (T1.setTop (mkF m 4 #[.val (.int p0), .val (.int p1), .unset, .unset, .unset, .unset] [(.ref b1)]))
  refine go (fun t kt' => by refine XS.dup X1.here hx rfl (hb hby at_4) rfl rfl ?_; exact kt') ?_
  show Go p e below _ (T1.setTop (mkF m 5 #[.val (.int p0), .val (.int p1), .unset, .unset, .unset, .unset] [(.ref b1), (.ref b1)]))
  refine go (fun t kt' => by refine XS.iconst X1.here hx rfl (hb hby at_5) ?_; exact kt') ?_
  show Go p e below _ (T1.setTop (mkF m 6 #[.val (.int p0), .val (.int p1), .unset, .unset, .unset, .unset] [(.int (0 : Int32)), (.ref b1), (.ref b1)]))
  refine go (fun t kt' => by refine XS.iconst X1.here hx rfl (hb hby at_6) ?_; exact kt') ?_
  show Go p e below _ (T1.setTop (mkF m 7 #[.val (.int p0), .val (.int p1), .unset, .unset, .unset, .unset] [(.int (0 : Int32)), (.int (0 : Int32)), (.ref b1), (.ref b1)]))
  obtain ⟨T3, h3, X3, e3, W3, V3, st3⟩ := stIA X1 hx hZ e1 V1 (j := (0 : Int32)) (x := (0 : Int32)) ⟨by decide, by decide⟩ (g := (mkF m 7 #[.val (.int p0), .val (.int p1), .unset, .unset, .unset, .unset] [(.int (0 : Int32)), (.int (0 : Int32)), (.ref b1), (.ref b1)])) rfl rfl (hb hby at_7)
  have N3 := Fr.snoc X3 N0 n0_b1
  have f4_Z := Nat.le_trans f2_Z (Keep.of_wr W3).1
  have f5_A_b1 := V3
  refine go st3 ?_
  show Go p e below _ (T3.setTop (mkF m 8 #[.val (.int p0), .val (.int p1), .unset, .unset, .unset, .unset] [(.ref b1)]))
  refine go (fun t kt' => by refine XS.dup X3.here hx rfl (hb hby at_8) rfl rfl ?_; exact kt') ?_
  show Go p e below _ (T3.setTop (mkF m 9 #[.val (.int p0), .val (.int p1), .unset, .unset, .unset, .unset] [(.ref b1), (.ref b1)]))
  refine go (fun t kt' => by refine XS.iconst X3.here hx rfl (hb hby at_9) ?_; exact kt') ?_
  show Go p e below _ (T3.setTop (mkF m 10 #[.val (.int p0), .val (.int p1), .unset, .unset, .unset, .unset] [(.int (1 : Int32)), (.ref b1), (.ref b1)]))
  refine go (fun t kt' => by refine XS.bipush X3.here hx rfl (hb hby at_10) ?_; exact kt') ?_
  show Go p e below _ (T3.setTop (mkF m 12 #[.val (.int p0), .val (.int p1), .unset, .unset, .unset, .unset] [(.int (9 : Int32)), (.int (1 : Int32)), (.ref b1), (.ref b1)]))
  obtain ⟨T6, h6, X6, e6, W6, V6, st6⟩ := stIA X3 hx hZ e3 f5_A_b1 (j := (1 : Int32)) (x := (9 : Int32)) ⟨by decide, by decide⟩ (g := (mkF m 12 #[.val (.int p0), .val (.int p1), .unset, .unset, .unset, .unset] [(.int (9 : Int32)), (.int (1 : Int32)), (.ref b1), (.ref b1)])) rfl rfl (hb hby at_12)
  have N6 := Fr.snoc X6 N3 n0_b1
  have f7_Z := Nat.le_trans f4_Z (Keep.of_wr W6).1
  have f8_A_b1 := V6
  refine go st6 ?_
  show Go p e below _ (T6.setTop (mkF m 13 #[.val (.int p0), .val (.int p1), .unset, .unset, .unset, .unset] [(.ref b1)]))
  refine go (fun t kt' => by refine XS.dup X6.here hx rfl (hb hby at_13) rfl rfl ?_; exact kt') ?_
  show Go p e below _ (T6.setTop (mkF m 14 #[.val (.int p0), .val (.int p1), .unset, .unset, .unset, .unset] [(.ref b1), (.ref b1)]))
  refine go (fun t kt' => by refine XS.iconst X6.here hx rfl (hb hby at_14) ?_; exact kt') ?_
  show Go p e below _ (T6.setTop (mkF m 15 #[.val (.int p0), .val (.int p1), .unset, .unset, .unset, .unset] [(.int (2 : Int32)), (.ref b1), (.ref b1)]))
  refine go (fun t kt' => by refine XS.bipush X6.here hx rfl (hb hby at_15) ?_; exact kt') ?_
  show Go p e below _ (T6.setTop (mkF m 17 #[.val (.int p0), .val (.int p1), .unset, .unset, .unset, .unset] [(.int (10 : Int32)), (.int (2 : Int32)), (.ref b1), (.ref b1)]))
  obtain ⟨T9, h9, X9, e9, W9, V9, st9⟩ := stIA X6 hx hZ e6 f8_A_b1 (j := (2 : Int32)) (x := (10 : Int32)) ⟨by decide, by decide⟩ (g := (mkF m 17 #[.val (.int p0), .val (.int p1), .unset, .unset, .unset, .unset] [(.int (10 : Int32)), (.int (2 : Int32)), (.ref b1), (.ref b1)])) rfl rfl (hb hby at_17)
  have N9 := Fr.snoc X9 N6 n0_b1
  have f10_Z := Nat.le_trans f7_Z (Keep.of_wr W9).1
  have f11_A_b1 := V9
  refine go st9 ?_
  show Go p e below _ (T9.setTop (mkF m 18 #[.val (.int p0), .val (.int p1), .unset, .unset, .unset, .unset] [(.ref b1)]))
  refine go (fun t kt' => by refine XS.dup X9.here hx rfl (hb hby at_18) rfl rfl ?_; exact kt') ?_
  show Go p e below _ (T9.setTop (mkF m 19 #[.val (.int p0), .val (.int p1), .unset, .unset, .unset, .unset] [(.ref b1), (.ref b1)]))
  refine go (fun t kt' => by refine XS.iconst X9.here hx rfl (hb hby at_19) ?_; exact kt') ?_
  show Go p e below _ (T9.setTop (mkF m 20 #[.val (.int p0), .val (.int p1), .unset, .unset, .unset, .unset] [(.int (3 : Int32)), (.ref b1), (.ref b1)]))
  refine go (fun t kt' => by refine XS.bipush X9.here hx rfl (hb hby at_20) ?_; exact kt') ?_
  show Go p e below _ (T9.setTop (mkF m 22 #[.val (.int p0), .val (.int p1), .unset, .unset, .unset, .unset] [(.int (13 : Int32)), (.int (3 : Int32)), (.ref b1), (.ref b1)]))
  obtain ⟨T12, h12, X12, e12, W12, V12, st12⟩ := stIA X9 hx hZ e9 f11_A_b1 (j := (3 : Int32)) (x := (13 : Int32)) ⟨by decide, by decide⟩ (g := (mkF m 22 #[.val (.int p0), .val (.int p1), .unset, .unset, .unset, .unset] [(.int (13 : Int32)), (.int (3 : Int32)), (.ref b1), (.ref b1)])) rfl rfl (hb hby at_22)
  have N12 := Fr.snoc X12 N9 n0_b1
  have f13_Z := Nat.le_trans f10_Z (Keep.of_wr W12).1
  have f14_A_b1 := V12
  refine go st12 ?_
  show Go p e below _ (T12.setTop (mkF m 23 #[.val (.int p0), .val (.int p1), .unset, .unset, .unset, .unset] [(.ref b1)]))
  refine go (fun t kt' => by refine XS.dup X12.here hx rfl (hb hby at_23) rfl rfl ?_; exact kt') ?_
  show Go p e below _ (T12.setTop (mkF m 24 #[.val (.int p0), .val (.int p1), .unset, .unset, .unset, .unset] [(.ref b1), (.ref b1)]))
  refine go (fun t kt' => by refine XS.iconst X12.here hx rfl (hb hby at_24) ?_; exact kt') ?_
  show Go p e below _ (T12.setTop (mkF m 25 #[.val (.int p0), .val (.int p1), .unset, .unset, .unset, .unset] [(.int (4 : Int32)), (.ref b1), (.ref b1)]))
  refine go (fun t kt' => by refine XS.bipush X12.here hx rfl (hb hby at_25) ?_; exact kt') ?_
  show Go p e below _ (T12.setTop (mkF m 27 #[.val (.int p0), .val (.int p1), .unset, .unset, .unset, .unset] [(.int (32 : Int32)), (.int (4 : Int32)), (.ref b1), (.ref b1)]))
  obtain ⟨T15, h15, X15, e15, W15, V15, st15⟩ := stIA X12 hx hZ e12 f14_A_b1 (j := (4 : Int32)) (x := (32 : Int32)) ⟨by decide, by decide⟩ (g := (mkF m 27 #[.val (.int p0), .val (.int p1), .unset, .unset, .unset, .unset] [(.int (32 : Int32)), (.int (4 : Int32)), (.ref b1), (.ref b1)])) rfl rfl (hb hby at_27)
  have N15 := Fr.snoc X15 N12 n0_b1
  have f16_Z := Nat.le_trans f13_Z (Keep.of_wr W15).1
  have f17_A_b1 := V15
  refine go st15 ?_
  show Go p e below _ (T15.setTop (mkF m 28 #[.val (.int p0), .val (.int p1), .unset, .unset, .unset, .unset] [(.ref b1)]))
  refine go (fun t kt' => by refine XS.dup X15.here hx rfl (hb hby at_28) rfl rfl ?_; exact kt') ?_
  show Go p e below _ (T15.setTop (mkF m 29 #[.val (.int p0), .val (.int p1), .unset, .unset, .unset, .unset] [(.ref b1), (.ref b1)]))
  refine go (fun t kt' => by refine XS.iconst X15.here hx rfl (hb hby at_29) ?_; exact kt') ?_
  show Go p e below _ (T15.setTop (mkF m 30 #[.val (.int p0), .val (.int p1), .unset, .unset, .unset, .unset] [(.int (5 : Int32)), (.ref b1), (.ref b1)]))
  refine go (fun t kt' => by refine X15.ldcI hx hown (mvT hZ (hw _ (List.mem_of_getElem? (i := 1) rfl))) rfl (hb hby at_30) ?_; exact kt') ?_
  show Go p e below _ (T15.setTop (mkF m 32 #[.val (.int p0), .val (.int p1), .unset, .unset, .unset, .unset] [(.int (55295 : Int32)), (.int (5 : Int32)), (.ref b1), (.ref b1)]))
  obtain ⟨T18, h18, X18, e18, W18, V18, st18⟩ := stIA X15 hx hZ e15 f17_A_b1 (j := (5 : Int32)) (x := (55295 : Int32)) ⟨by decide, by decide⟩ (g := (mkF m 32 #[.val (.int p0), .val (.int p1), .unset, .unset, .unset, .unset] [(.int (55295 : Int32)), (.int (5 : Int32)), (.ref b1), (.ref b1)])) rfl rfl (hb hby at_32)
  have N18 := Fr.snoc X18 N15 n0_b1
  have f19_Z := Nat.le_trans f16_Z (Keep.of_wr W18).1
  have f20_A_b1 := V18
  refine go st18 ?_
  show Go p e below _ (T18.setTop (mkF m 33 #[.val (.int p0), .val (.int p1), .unset, .unset, .unset, .unset] [(.ref b1)]))
  refine go (fun t kt' => by refine XS.dup X18.here hx rfl (hb hby at_33) rfl rfl ?_; exact kt') ?_
  show Go p e below _ (T18.setTop (mkF m 34 #[.val (.int p0), .val (.int p1), .unset, .unset, .unset, .unset] [(.ref b1), (.ref b1)]))
  refine go (fun t kt' => by refine XS.bipush X18.here hx rfl (hb hby at_34) ?_; exact kt') ?_
  show Go p e below _ (T18.setTop (mkF m 36 #[.val (.int p0), .val (.int p1), .unset, .unset, .unset, .unset] [(.int (6 : Int32)), (.ref b1), (.ref b1)]))
  refine go (fun t kt' => by refine X18.ldcI hx hown (mvT hZ (hw _ (List.mem_of_getElem? (i := 2) rfl))) rfl (hb hby at_36) ?_; exact kt') ?_
  show Go p e below _ (T18.setTop (mkF m 38 #[.val (.int p0), .val (.int p1), .unset, .unset, .unset, .unset] [(.int (55296 : Int32)), (.int (6 : Int32)), (.ref b1), (.ref b1)]))
  obtain ⟨T21, h21, X21, e21, W21, V21, st21⟩ := stIA X18 hx hZ e18 f20_A_b1 (j := (6 : Int32)) (x := (55296 : Int32)) ⟨by decide, by decide⟩ (g := (mkF m 38 #[.val (.int p0), .val (.int p1), .unset, .unset, .unset, .unset] [(.int (55296 : Int32)), (.int (6 : Int32)), (.ref b1), (.ref b1)])) rfl rfl (hb hby at_38)
  have N21 := Fr.snoc X21 N18 n0_b1
  have f22_Z := Nat.le_trans f19_Z (Keep.of_wr W21).1
  have f23_A_b1 := V21
  refine go st21 ?_
  show Go p e below _ (T21.setTop (mkF m 39 #[.val (.int p0), .val (.int p1), .unset, .unset, .unset, .unset] [(.ref b1)]))
  refine go (fun t kt' => by refine XS.dup X21.here hx rfl (hb hby at_39) rfl rfl ?_; exact kt') ?_
  show Go p e below _ (T21.setTop (mkF m 40 #[.val (.int p0), .val (.int p1), .unset, .unset, .unset, .unset] [(.ref b1), (.ref b1)]))
  refine go (fun t kt' => by refine XS.bipush X21.here hx rfl (hb hby at_40) ?_; exact kt') ?_
  show Go p e below _ (T21.setTop (mkF m 42 #[.val (.int p0), .val (.int p1), .unset, .unset, .unset, .unset] [(.int (7 : Int32)), (.ref b1), (.ref b1)]))
  refine go (fun t kt' => by refine X21.ldcI hx hown (mvT hZ (hw _ (List.mem_of_getElem? (i := 3) rfl))) rfl (hb hby at_42) ?_; exact kt') ?_
  show Go p e below _ (T21.setTop (mkF m 44 #[.val (.int p0), .val (.int p1), .unset, .unset, .unset, .unset] [(.int (57343 : Int32)), (.int (7 : Int32)), (.ref b1), (.ref b1)]))
  obtain ⟨T24, h24, X24, e24, W24, V24, st24⟩ := stIA X21 hx hZ e21 f23_A_b1 (j := (7 : Int32)) (x := (57343 : Int32)) ⟨by decide, by decide⟩ (g := (mkF m 44 #[.val (.int p0), .val (.int p1), .unset, .unset, .unset, .unset] [(.int (57343 : Int32)), (.int (7 : Int32)), (.ref b1), (.ref b1)])) rfl rfl (hb hby at_44)
  have N24 := Fr.snoc X24 N21 n0_b1
  have f25_Z := Nat.le_trans f22_Z (Keep.of_wr W24).1
  have f26_A_b1 := V24
  refine go st24 ?_
  show Go p e below _ (T24.setTop (mkF m 45 #[.val (.int p0), .val (.int p1), .unset, .unset, .unset, .unset] [(.ref b1)]))
  refine go (fun t kt' => by refine XS.dup X24.here hx rfl (hb hby at_45) rfl rfl ?_; exact kt') ?_
  show Go p e below _ (T24.setTop (mkF m 46 #[.val (.int p0), .val (.int p1), .unset, .unset, .unset, .unset] [(.ref b1), (.ref b1)]))
  refine go (fun t kt' => by refine XS.bipush X24.here hx rfl (hb hby at_46) ?_; exact kt') ?_
  show Go p e below _ (T24.setTop (mkF m 48 #[.val (.int p0), .val (.int p1), .unset, .unset, .unset, .unset] [(.int (8 : Int32)), (.ref b1), (.ref b1)]))
  refine go (fun t kt' => by refine X24.ldcI hx hown (mvT hZ (hw _ (List.mem_of_getElem? (i := 4) rfl))) rfl (hb hby at_48) ?_; exact kt') ?_
  show Go p e below _ (T24.setTop (mkF m 50 #[.val (.int p0), .val (.int p1), .unset, .unset, .unset, .unset] [(.int (57344 : Int32)), (.int (8 : Int32)), (.ref b1), (.ref b1)]))
  obtain ⟨T27, h27, X27, e27, W27, V27, st27⟩ := stIA X24 hx hZ e24 f26_A_b1 (j := (8 : Int32)) (x := (57344 : Int32)) ⟨by decide, by decide⟩ (g := (mkF m 50 #[.val (.int p0), .val (.int p1), .unset, .unset, .unset, .unset] [(.int (57344 : Int32)), (.int (8 : Int32)), (.ref b1), (.ref b1)])) rfl rfl (hb hby at_50)
  have N27 := Fr.snoc X27 N24 n0_b1
  have f28_Z := Nat.le_trans f25_Z (Keep.of_wr W27).1
  have f29_A_b1 := V27
  refine go st27 ?_
  show Go p e below _ (T27.setTop (mkF m 51 #[.val (.int p0), .val (.int p1), .unset, .unset, .unset, .unset] [(.ref b1)]))
  refine go (fun t kt' => by refine XS.dup X27.here hx rfl (hb hby at_51) rfl rfl ?_; exact kt') ?_
  show Go p e below _ (T27.setTop (mkF m 52 #[.val (.int p0), .val (.int p1), .unset, .unset, .unset, .unset] [(.ref b1), (.ref b1)]))
  refine go (fun t kt' => by refine XS.bipush X27.here hx rfl (hb hby at_52) ?_; exact kt') ?_
  show Go p e below _ (T27.setTop (mkF m 54 #[.val (.int p0), .val (.int p1), .unset, .unset, .unset, .unset] [(.int (9 : Int32)), (.ref b1), (.ref b1)]))
  refine go (fun t kt' => by refine X27.ldcI hx hown (mvT hZ (hw _ (List.mem_of_getElem? (i := 5) rfl))) rfl (hb hby at_54) ?_; exact kt') ?_
  show Go p e below _ (T27.setTop (mkF m 56 #[.val (.int p0), .val (.int p1), .unset, .unset, .unset, .unset] [(.int (65533 : Int32)), (.int (9 : Int32)), (.ref b1), (.ref b1)]))
  obtain ⟨T30, h30, X30, e30, W30, V30, st30⟩ := stIA X27 hx hZ e27 f29_A_b1 (j := (9 : Int32)) (x := (65533 : Int32)) ⟨by decide, by decide⟩ (g := (mkF m 56 #[.val (.int p0), .val (.int p1), .unset, .unset, .unset, .unset] [(.int (65533 : Int32)), (.int (9 : Int32)), (.ref b1), (.ref b1)])) rfl rfl (hb hby at_56)
  have N30 := Fr.snoc X30 N27 n0_b1
  have f31_Z := Nat.le_trans f28_Z (Keep.of_wr W30).1
  have f32_A_b1 := V30
  refine go st30 ?_
  show Go p e below _ (T30.setTop (mkF m 57 #[.val (.int p0), .val (.int p1), .unset, .unset, .unset, .unset] [(.ref b1)]))
  refine go (fun t kt' => by refine XS.dup X30.here hx rfl (hb hby at_57) rfl rfl ?_; exact kt') ?_
  show Go p e below _ (T30.setTop (mkF m 58 #[.val (.int p0), .val (.int p1), .unset, .unset, .unset, .unset] [(.ref b1), (.ref b1)]))
  refine go (fun t kt' => by refine XS.bipush X30.here hx rfl (hb hby at_58) ?_; exact kt') ?_
  show Go p e below _ (T30.setTop (mkF m 60 #[.val (.int p0), .val (.int p1), .unset, .unset, .unset, .unset] [(.int (10 : Int32)), (.ref b1), (.ref b1)]))
  refine go (fun t kt' => by refine X30.ldcI hx hown (mvT hZ (hw _ (List.mem_of_getElem? (i := 6) rfl))) rfl (hb hby at_60) ?_; exact kt') ?_
  show Go p e below _ (T30.setTop (mkF m 62 #[.val (.int p0), .val (.int p1), .unset, .unset, .unset, .unset] [(.int (65534 : Int32)), (.int (10 : Int32)), (.ref b1), (.ref b1)]))
  obtain ⟨T33, h33, X33, e33, W33, V33, st33⟩ := stIA X30 hx hZ e30 f32_A_b1 (j := (10 : Int32)) (x := (65534 : Int32)) ⟨by decide, by decide⟩ (g := (mkF m 62 #[.val (.int p0), .val (.int p1), .unset, .unset, .unset, .unset] [(.int (65534 : Int32)), (.int (10 : Int32)), (.ref b1), (.ref b1)])) rfl rfl (hb hby at_62)
  have N33 := Fr.snoc X33 N30 n0_b1
  have f34_Z := Nat.le_trans f31_Z (Keep.of_wr W33).1
  have f35_A_b1 := V33
  refine go st33 ?_
  show Go p e below _ (T33.setTop (mkF m 63 #[.val (.int p0), .val (.int p1), .unset, .unset, .unset, .unset] [(.ref b1)]))
  refine go (fun t kt' => by refine XS.dup X33.here hx rfl (hb hby at_63) rfl rfl ?_; exact kt') ?_
  show Go p e below _ (T33.setTop (mkF m 64 #[.val (.int p0), .val (.int p1), .unset, .unset, .unset, .unset] [(.ref b1), (.ref b1)]))
  refine go (fun t kt' => by refine XS.bipush X33.here hx rfl (hb hby at_64) ?_; exact kt') ?_
  show Go p e below _ (T33.setTop (mkF m 66 #[.val (.int p0), .val (.int p1), .unset, .unset, .unset, .unset] [(.int (11 : Int32)), (.ref b1), (.ref b1)]))
  refine go (fun t kt' => by refine X33.ldcI hx hown (mvT hZ (hw _ (List.mem_of_getElem? (i := 7) rfl))) rfl (hb hby at_66) ?_; exact kt') ?_
  show Go p e below _ (T33.setTop (mkF m 68 #[.val (.int p0), .val (.int p1), .unset, .unset, .unset, .unset] [(.int (65535 : Int32)), (.int (11 : Int32)), (.ref b1), (.ref b1)]))
  obtain ⟨T36, h36, X36, e36, W36, V36, st36⟩ := stIA X33 hx hZ e33 f35_A_b1 (j := (11 : Int32)) (x := (65535 : Int32)) ⟨by decide, by decide⟩ (g := (mkF m 68 #[.val (.int p0), .val (.int p1), .unset, .unset, .unset, .unset] [(.int (65535 : Int32)), (.int (11 : Int32)), (.ref b1), (.ref b1)])) rfl rfl (hb hby at_68)
  have N36 := Fr.snoc X36 N33 n0_b1
  have f37_Z := Nat.le_trans f34_Z (Keep.of_wr W36).1
  have f38_A_b1 := V36
  refine go st36 ?_
  show Go p e below _ (T36.setTop (mkF m 69 #[.val (.int p0), .val (.int p1), .unset, .unset, .unset, .unset] [(.ref b1)]))
  refine go (fun t kt' => by refine XS.dup X36.here hx rfl (hb hby at_69) rfl rfl ?_; exact kt') ?_
  show Go p e below _ (T36.setTop (mkF m 70 #[.val (.int p0), .val (.int p1), .unset, .unset, .unset, .unset] [(.ref b1), (.ref b1)]))
  refine go (fun t kt' => by refine XS.bipush X36.here hx rfl (hb hby at_70) ?_; exact kt') ?_
  show Go p e below _ (T36.setTop (mkF m 72 #[.val (.int p0), .val (.int p1), .unset, .unset, .unset, .unset] [(.int (12 : Int32)), (.ref b1), (.ref b1)]))
  refine go (fun t kt' => by refine X36.ldcI hx hown (mvT hZ (hw _ (List.mem_of_getElem? (i := 8) rfl))) rfl (hb hby at_72) ?_; exact kt') ?_
  show Go p e below _ (T36.setTop (mkF m 74 #[.val (.int p0), .val (.int p1), .unset, .unset, .unset, .unset] [(.int (65536 : Int32)), (.int (12 : Int32)), (.ref b1), (.ref b1)]))
  obtain ⟨T39, h39, X39, e39, W39, V39, st39⟩ := stIA X36 hx hZ e36 f38_A_b1 (j := (12 : Int32)) (x := (65536 : Int32)) ⟨by decide, by decide⟩ (g := (mkF m 74 #[.val (.int p0), .val (.int p1), .unset, .unset, .unset, .unset] [(.int (65536 : Int32)), (.int (12 : Int32)), (.ref b1), (.ref b1)])) rfl rfl (hb hby at_74)
  have N39 := Fr.snoc X39 N36 n0_b1
  have f40_Z := Nat.le_trans f37_Z (Keep.of_wr W39).1
  have f41_A_b1 := V39
  refine go st39 ?_
  show Go p e below _ (T39.setTop (mkF m 75 #[.val (.int p0), .val (.int p1), .unset, .unset, .unset, .unset] [(.ref b1)]))
  refine go (fun t kt' => by refine XS.dup X39.here hx rfl (hb hby at_75) rfl rfl ?_; exact kt') ?_
  show Go p e below _ (T39.setTop (mkF m 76 #[.val (.int p0), .val (.int p1), .unset, .unset, .unset, .unset] [(.ref b1), (.ref b1)]))
  refine go (fun t kt' => by refine XS.bipush X39.here hx rfl (hb hby at_76) ?_; exact kt') ?_
  show Go p e below _ (T39.setTop (mkF m 78 #[.val (.int p0), .val (.int p1), .unset, .unset, .unset, .unset] [(.int (13 : Int32)), (.ref b1), (.ref b1)]))
  refine go (fun t kt' => by refine X39.ldcI hx hown (mvT hZ (hw _ (List.mem_of_getElem? (i := 9) rfl))) rfl (hb hby at_78) ?_; exact kt') ?_
  show Go p e below _ (T39.setTop (mkF m 80 #[.val (.int p0), .val (.int p1), .unset, .unset, .unset, .unset] [(.int (1114111 : Int32)), (.int (13 : Int32)), (.ref b1), (.ref b1)]))
  obtain ⟨T42, h42, X42, e42, W42, V42, st42⟩ := stIA X39 hx hZ e39 f41_A_b1 (j := (13 : Int32)) (x := (1114111 : Int32)) ⟨by decide, by decide⟩ (g := (mkF m 80 #[.val (.int p0), .val (.int p1), .unset, .unset, .unset, .unset] [(.int (1114111 : Int32)), (.int (13 : Int32)), (.ref b1), (.ref b1)])) rfl rfl (hb hby at_80)
  have N42 := Fr.snoc X42 N39 n0_b1
  have f43_Z := Nat.le_trans f40_Z (Keep.of_wr W42).1
  have f44_A_b1 := V42
  refine go st42 ?_
  show Go p e below _ (T42.setTop (mkF m 81 #[.val (.int p0), .val (.int p1), .unset, .unset, .unset, .unset] [(.ref b1)]))
  refine go (fun t kt' => by refine XS.dup X42.here hx rfl (hb hby at_81) rfl rfl ?_; exact kt') ?_
  show Go p e below _ (T42.setTop (mkF m 82 #[.val (.int p0), .val (.int p1), .unset, .unset, .unset, .unset] [(.ref b1), (.ref b1)]))
  refine go (fun t kt' => by refine XS.bipush X42.here hx rfl (hb hby at_82) ?_; exact kt') ?_
  show Go p e below _ (T42.setTop (mkF m 84 #[.val (.int p0), .val (.int p1), .unset, .unset, .unset, .unset] [(.int (14 : Int32)), (.ref b1), (.ref b1)]))
  refine go (fun t kt' => by refine X42.ldcI hx hown (mvT hZ (hw _ (List.mem_of_getElem? (i := 10) rfl))) rfl (hb hby at_84) ?_; exact kt') ?_
  show Go p e below _ (T42.setTop (mkF m 86 #[.val (.int p0), .val (.int p1), .unset, .unset, .unset, .unset] [(.int (1114112 : Int32)), (.int (14 : Int32)), (.ref b1), (.ref b1)]))
  obtain ⟨T45, h45, X45, e45, W45, V45, st45⟩ := stIA X42 hx hZ e42 f44_A_b1 (j := (14 : Int32)) (x := (1114112 : Int32)) ⟨by decide, by decide⟩ (g := (mkF m 86 #[.val (.int p0), .val (.int p1), .unset, .unset, .unset, .unset] [(.int (1114112 : Int32)), (.int (14 : Int32)), (.ref b1), (.ref b1)])) rfl rfl (hb hby at_86)
  have N45 := Fr.snoc X45 N42 n0_b1
  have f46_Z := Nat.le_trans f43_Z (Keep.of_wr W45).1
  have f47_A_b1 := V45
  refine go st45 ?_
  show Go p e below _ (T45.setTop (mkF m 87 #[.val (.int p0), .val (.int p1), .unset, .unset, .unset, .unset] [(.ref b1)]))
  refine go (fun t kt' => by refine XS.dup X45.here hx rfl (hb hby at_87) rfl rfl ?_; exact kt') ?_
  show Go p e below _ (T45.setTop (mkF m 88 #[.val (.int p0), .val (.int p1), .unset, .unset, .unset, .unset] [(.ref b1), (.ref b1)]))
  refine go (fun t kt' => by refine XS.bipush X45.here hx rfl (hb hby at_88) ?_; exact kt') ?_
  show Go p e below _ (T45.setTop (mkF m 90 #[.val (.int p0), .val (.int p1), .unset, .unset, .unset, .unset] [(.int (15 : Int32)), (.ref b1), (.ref b1)]))
  refine go (fun t kt' => by refine X45.ldcI hx hown (mvT hZ (hw _ (List.mem_of_getElem? (i := 11) rfl))) rfl (hb hby at_90) ?_; exact kt') ?_
  show Go p e below _ (T45.setTop (mkF m 92 #[.val (.int p0), .val (.int p1), .unset, .unset, .unset, .unset] [(.int (-2147483648 : Int32)), (.int (15 : Int32)), (.ref b1), (.ref b1)]))
  obtain ⟨T48, h48, X48, e48, W48, V48, st48⟩ := stIA X45 hx hZ e45 f47_A_b1 (j := (15 : Int32)) (x := (-2147483648 : Int32)) ⟨by decide, by decide⟩ (g := (mkF m 92 #[.val (.int p0), .val (.int p1), .unset, .unset, .unset, .unset] [(.int (-2147483648 : Int32)), (.int (15 : Int32)), (.ref b1), (.ref b1)])) rfl rfl (hb hby at_92)
  have N48 := Fr.snoc X48 N45 n0_b1
  have f49_Z := Nat.le_trans f46_Z (Keep.of_wr W48).1
  have f50_A_b1 := V48
  refine go st48 ?_
  show Go p e below _ (T48.setTop (mkF m 93 #[.val (.int p0), .val (.int p1), .unset, .unset, .unset, .unset] [(.ref b1)]))
  refine go (fun t kt' => by refine XS.dup X48.here hx rfl (hb hby at_93) rfl rfl ?_; exact kt') ?_
  show Go p e below _ (T48.setTop (mkF m 94 #[.val (.int p0), .val (.int p1), .unset, .unset, .unset, .unset] [(.ref b1), (.ref b1)]))
  refine go (fun t kt' => by refine XS.bipush X48.here hx rfl (hb hby at_94) ?_; exact kt') ?_
  show Go p e below _ (T48.setTop (mkF m 96 #[.val (.int p0), .val (.int p1), .unset, .unset, .unset, .unset] [(.int (16 : Int32)), (.ref b1), (.ref b1)]))
  refine go (fun t kt' => by refine X48.ldcI hx hown (mvT hZ (hw _ (List.mem_of_getElem? (i := 12) rfl))) rfl (hb hby at_96) ?_; exact kt') ?_
  show Go p e below _ (T48.setTop (mkF m 98 #[.val (.int p0), .val (.int p1), .unset, .unset, .unset, .unset] [(.int (2147483647 : Int32)), (.int (16 : Int32)), (.ref b1), (.ref b1)]))
  obtain ⟨T51, h51, X51, e51, W51, V51, st51⟩ := stIA X48 hx hZ e48 f50_A_b1 (j := (16 : Int32)) (x := (2147483647 : Int32)) ⟨by decide, by decide⟩ (g := (mkF m 98 #[.val (.int p0), .val (.int p1), .unset, .unset, .unset, .unset] [(.int (2147483647 : Int32)), (.int (16 : Int32)), (.ref b1), (.ref b1)])) rfl rfl (hb hby at_98)
  have N51 := Fr.snoc X51 N48 n0_b1
  have f52_Z := Nat.le_trans f49_Z (Keep.of_wr W51).1
  have f53_A_b1 := V51
  refine go st51 ?_
  show Go p e below _ (T51.setTop (mkF m 99 #[.val (.int p0), .val (.int p1), .unset, .unset, .unset, .unset] [(.ref b1)]))
  obtain ⟨fv, V54⟩ : ∃ f : Nat → Int32, IA Z h51 b1 .int 17 f := ⟨_, f53_A_b1⟩
  refine go (fun t kt' => by refine XS.astoreN X51.here hx rfl (hb hby at_99) rfl rfl (l' := #[.val (.int p0), .val (.int p1), .val (.ref b1), .unset, .unset, .unset]) rfl ?_; exact kt') ?_
  show Go p e below _ (T51.setTop (mkF m 100 #[.val (.int p0), .val (.int p1), .val (.ref b1), .unset, .unset, .unset] []))
  try clear fv
  try clear f53_A_b1
  try clear st51
  try clear V51
  try clear W51
  try clear f50_A_b1
  try clear f49_Z
  try clear N48
  try clear st48
  try clear V48
  try clear W48
  try clear e48
  try clear X48
  try clear h48
  try clear T48
  try clear f47_A_b1
  try clear f46_Z
  try clear N45
  try clear st45
  try clear V45
  try clear W45
  try clear e45
  try clear X45
  try clear h45
  try clear T45
  try clear f44_A_b1
  try clear f43_Z
  try clear N42
  try clear st42
  try clear V42
  try clear W42
  try clear e42
  try clear X42
  try clear h42
  try clear T42
  try clear f41_A_b1
  try clear f40_Z
  try clear N39
  try clear st39
  try clear V39
  try clear W39
  try clear e39
  try clear X39
  try clear h39
  try clear T39
  try clear f38_A_b1
  try clear f37_Z
  try clear N36
  try clear st36
  try clear V36
  try clear W36
  try clear e36
  try clear X36
  try clear h36
  try clear T36
  try clear f35_A_b1
  try clear f34_Z
  try clear N33
  try clear st33
  try clear V33
  try clear W33
  try clear e33
  try clear X33
  try clear h33
  try clear T33
  try clear f32_A_b1
  try clear f31_Z
  try clear N30
  try clear st30
  try clear V30
  try clear W30
  try clear e30
  try clear X30
  try clear h30
  try clear T30
  try clear f29_A_b1
  try clear f28_Z
  try clear N27
  try clear st27
  try clear V27
  try clear W27
  try clear e27
  try clear X27
  try clear h27
  try clear T27
  try clear f26_A_b1
  try clear f25_Z
  try clear N24
  try clear st24
  try clear V24
  try clear W24
  try clear e24
  try clear X24
  try clear h24
  try clear T24
  try clear f23_A_b1
  try clear f22_Z
  try clear N21
  try clear st21
  try clear V21
  try clear W21
  try clear e21
  try clear X21
  try clear h21
  try clear T21
  try clear f20_A_b1
  try clear f19_Z
  try clear N18
  try clear st18
  try clear V18
  try clear W18
  try clear e18
  try clear X18
  try clear h18
  try clear T18
  try clear f17_A_b1
  try clear f16_Z
  try clear N15
  try clear st15
  try clear V15
  try clear W15
  try clear e15
  try clear X15
  try clear h15
  try clear T15
  try clear f14_A_b1
  try clear f13_Z
  try clear N12
  try clear st12
  try clear V12
  try clear W12
  try clear e12
  try clear X12
  try clear h12
  try clear T12
  try clear f11_A_b1
  try clear f10_Z
  try clear N9
  try clear st9
  try clear V9
  try clear W9
  try clear e9
  try clear X9
  try clear h9
  try clear T9
  try clear f8_A_b1
  try clear f7_Z
  try clear N6
  try clear st6
  try clear V6
  try clear W6
  try clear e6
  try clear X6
  try clear h6
  try clear T6
  try clear f5_A_b1
  try clear f4_Z
  try clear N3
  try clear st3
  try clear V3
  try clear W3
  try clear e3
  try clear X3
  try clear h3
  try clear T3
  try clear V1
  try clear f2_Z
  try clear g1
  try clear st1
  try clear A1
  try clear E1
  try clear e1
  try clear X1
  try clear k1
  try clear h1
  try clear T1
  refine go (fun t kt' => by refine XS.iloadN X51.here hx rfl (hb hby at_100) rfl ?_; exact kt') ?_
  show Go p e below _ (T51.setTop (mkF m 101 #[.val (.int p0), .val (.int p1), .val (.ref b1), .unset, .unset, .unset] [(.int p1)]))
  refine go (fun t kt' => by refine X51.ldcI hx hown (mvT hZ (hw _ (List.mem_of_getElem? (i := 12) rfl))) rfl (hb hby at_101) ?_; exact kt') ?_
  show Go p e below _ (T51.setTop (mkF m 103 #[.val (.int p0), .val (.int p1), .val (.ref b1), .unset, .unset, .unset] [(.int (2147483647 : Int32)), (.int p1)]))
  refine go (fun t kt' => by refine XS.iand X51.here hx rfl (hb hby at_103) rfl ?_; exact kt') ?_
  show Go p e below _ (T51.setTop (mkF m 104 #[.val (.int p0), .val (.int p1), .val (.ref b1), .unset, .unset, .unset] [(.int (p1 &&& (2147483647 : Int32)))]))
  refine go (fun t kt' => by refine XS.bipush X51.here hx rfl (hb hby at_104) ?_; exact kt') ?_
  show Go p e below _ (T51.setTop (mkF m 106 #[.val (.int p0), .val (.int p1), .val (.ref b1), .unset, .unset, .unset] [(.int (17 : Int32)), (.int (p1 &&& (2147483647 : Int32)))]))
  refine go (fun t kt' => by refine XS.irem X51.here hx rfl (hb hby at_106) rfl (by decide) ?_; exact kt') ?_
  show Go p e below _ (T51.setTop (mkF m 107 #[.val (.int p0), .val (.int p1), .val (.ref b1), .unset, .unset, .unset] [(.int ((p1 &&& (2147483647 : Int32)) - ((p1 &&& (2147483647 : Int32)) / (17 : Int32)) * (17 : Int32)))]))
  rw [Jvm.irem_eq_mod]
  show Go p e below _ (T51.setTop (mkF m 107 #[.val (.int p0), .val (.int p1), .val (.ref b1), .unset, .unset, .unset] [(.int ((p1 &&& (2147483647 : Int32)) % (17 : Int32)))]))
  refine go (fun t kt' => by refine XS.istoreN X51.here hx rfl (hb hby at_107) rfl (l' := #[.val (.int p0), .val (.int p1), .val (.ref b1), .val (.int ((p1 &&& (2147483647 : Int32)) % (17 : Int32))), .unset, .unset]) rfl ?_; exact kt') ?_
  show Go p e below _ (T51.setTop (mkF m 108 #[.val (.int p0), .val (.int p1), .val (.ref b1), .val (.int ((p1 &&& (2147483647 : Int32)) % (17 : Int32))), .unset, .unset] []))
  refine go (fun t kt' => by refine XS.iloadN X51.here hx rfl (hb hby at_108) rfl ?_; exact kt') ?_
  show Go p e below _ (T51.setTop (mkF m 109 #[.val (.int p0), .val (.int p1), .val (.ref b1), .val (.int ((p1 &&& (2147483647 : Int32)) % (17 : Int32))), .unset, .unset] [(.int p1)]))
  refine go (fun t kt' => by refine XS.bipush X51.here hx rfl (hb hby at_109) ?_; exact kt') ?_
  show Go p e below _ (T51.setTop (mkF m 111 #[.val (.int p0), .val (.int p1), .val (.ref b1), .val (.int ((p1 &&& (2147483647 : Int32)) % (17 : Int32))), .unset, .unset] [(.int (28 : Int32)), (.int p1)]))
  refine go (fun t kt' => by refine XS.iushr X51.here hx rfl (hb hby at_111) rfl ?_; exact kt') ?_
  show Go p e below _ (T51.setTop (mkF m 112 #[.val (.int p0), .val (.int p1), .val (.ref b1), .val (.int ((p1 &&& (2147483647 : Int32)) % (17 : Int32))), .unset, .unset] [(.int ((p1.toUInt32 >>> ((28 : Int32) &&& 31).toUInt32).toInt32))]))
  refine go (fun t kt' => by refine XS.iconst X51.here hx rfl (hb hby at_112) ?_; exact kt') ?_
  show Go p e below _ (T51.setTop (mkF m 113 #[.val (.int p0), .val (.int p1), .val (.ref b1), .val (.int ((p1 &&& (2147483647 : Int32)) % (17 : Int32))), .unset, .unset] [(.int (3 : Int32)), (.int ((p1.toUInt32 >>> ((28 : Int32) &&& 31).toUInt32).toInt32))]))
  refine go (fun t kt' => by refine XS.irem X51.here hx rfl (hb hby at_113) rfl (by decide) ?_; exact kt') ?_
  show Go p e below _ (T51.setTop (mkF m 114 #[.val (.int p0), .val (.int p1), .val (.ref b1), .val (.int ((p1 &&& (2147483647 : Int32)) % (17 : Int32))), .unset, .unset] [(.int (((p1.toUInt32 >>> ((28 : Int32) &&& 31).toUInt32).toInt32) - (((p1.toUInt32 >>> ((28 : Int32) &&& 31).toUInt32).toInt32) / (3 : Int32)) * (3 : Int32)))]))
  rw [Jvm.irem_eq_mod]
  show Go p e below _ (T51.setTop (mkF m 114 #[.val (.int p0), .val (.int p1), .val (.ref b1), .val (.int ((p1 &&& (2147483647 : Int32)) % (17 : Int32))), .unset, .unset] [(.int (((p1.toUInt32 >>> ((28 : Int32) &&& 31).toUInt32).toInt32) % (3 : Int32)))]))
  refine go (fun t kt' => by refine XS.iconst X51.here hx rfl (hb hby at_114) ?_; exact kt') ?_
  show Go p e below _ (T51.setTop (mkF m 115 #[.val (.int p0), .val (.int p1), .val (.ref b1), .val (.int ((p1 &&& (2147483647 : Int32)) % (17 : Int32))), .unset, .unset] [(.int (1 : Int32)), (.int (((p1.toUInt32 >>> ((28 : Int32) &&& 31).toUInt32).toInt32) % (3 : Int32)))]))
  refine go (fun t kt' => by refine XS.isub X51.here hx rfl (hb hby at_115) rfl ?_; exact kt') ?_
  show Go p e below _ (T51.setTop (mkF m 116 #[.val (.int p0), .val (.int p1), .val (.ref b1), .val (.int ((p1 &&& (2147483647 : Int32)) % (17 : Int32))), .unset, .unset] [(.int ((((p1.toUInt32 >>> ((28 : Int32) &&& 31).toUInt32).toInt32) % (3 : Int32)) - (1 : Int32)))]))
  refine go (fun t kt' => by refine XS.istore X51.here hx rfl (hb hby at_116) rfl (l' := #[.val (.int p0), .val (.int p1), .val (.ref b1), .val (.int ((p1 &&& (2147483647 : Int32)) % (17 : Int32))), .val (.int ((((p1.toUInt32 >>> ((28 : Int32) &&& 31).toUInt32).toInt32) % (3 : Int32)) - (1 : Int32))), .unset]) rfl ?_; exact kt') ?_
  show Go p e below _ (T51.setTop (mkF m 118 #[.val (.int p0), .val (.int p1), .val (.ref b1), .val (.int ((p1 &&& (2147483647 : Int32)) % (17 : Int32))), .val (.int ((((p1.toUInt32 >>> ((28 : Int32) &&& 31).toUInt32).toInt32) % (3 : Int32)) - (1 : Int32))), .unset] []))
  refine go (fun t kt' => by refine XS.aloadN X51.here hx rfl (hb hby at_118) rfl rfl ?_; exact kt') ?_
  show Go p e below _ (T51.setTop (mkF m 119 #[.val (.int p0), .val (.int p1), .val (.ref b1), .val (.int ((p1 &&& (2147483647 : Int32)) % (17 : Int32))), .val (.int ((((p1.toUInt32 >>> ((28 : Int32) &&& 31).toUInt32).toInt32) % (3 : Int32)) - (1 : Int32))), .unset] [(.ref b1)]))
  refine go (fun t kt' => by refine XS.iloadN X51.here hx rfl (hb hby at_119) rfl ?_; exact kt') ?_
  show Go p e below _ (T51.setTop (mkF m 120 #[.val (.int p0), .val (.int p1), .val (.ref b1), .val (.int ((p1 &&& (2147483647 : Int32)) % (17 : Int32))), .val (.int ((((p1.toUInt32 >>> ((28 : Int32) &&& 31).toUInt32).toInt32) % (3 : Int32)) - (1 : Int32))), .unset] [(.int ((p1 &&& (2147483647 : Int32)) % (17 : Int32))), (.ref b1)]))
  refine go (fun t kt' => by refine ldIA X51 hx hZ e51 V54 (j := ((p1 &&& (2147483647 : Int32)) % (17 : Int32))) (own_idx p1) (g := (mkF m 120 #[.val (.int p0), .val (.int p1), .val (.ref b1), .val (.int ((p1 &&& (2147483647 : Int32)) % (17 : Int32))), .val (.int ((((p1.toUInt32 >>> ((28 : Int32) &&& 31).toUInt32).toInt32) % (3 : Int32)) - (1 : Int32))), .unset] [(.int ((p1 &&& (2147483647 : Int32)) % (17 : Int32))), (.ref b1)])) rfl rfl (hb hby at_120) t ?_; exact kt') ?_
  show Go p e below _ (T51.setTop (mkF m 121 #[.val (.int p0), .val (.int p1), .val (.ref b1), .val (.int ((p1 &&& (2147483647 : Int32)) % (17 : Int32))), .val (.int ((((p1.toUInt32 >>> ((28 : Int32) &&& 31).toUInt32).toInt32) % (3 : Int32)) - (1 : Int32))), .unset] [(.int (fv (((p1 &&& (2147483647 : Int32)) % (17 : Int32))).toNatClampNeg))]))
  refine go (fun t kt' => by refine XS.iload X51.here hx rfl (hb hby at_121) rfl ?_; exact kt') ?_
  show Go p e below _ (T51.setTop (mkF m 123 #[.val (.int p0), .val (.int p1), .val (.ref b1), .val (.int ((p1 &&& (2147483647 : Int32)) % (17 : Int32))), .val (.int ((((p1.toUInt32 >>> ((28 : Int32) &&& 31).toUInt32).toInt32) % (3 : Int32)) - (1 : Int32))), .unset] [(.int ((((p1.toUInt32 >>> ((28 : Int32) &&& 31).toUInt32).toInt32) % (3 : Int32)) - (1 : Int32))), (.int (fv (((p1 &&& (2147483647 : Int32)) % (17 : Int32))).toNatClampNeg))]))
  refine go (fun t kt' => by refine XS.iadd X51.here hx rfl (hb hby at_123) rfl ?_; exact kt') ?_
  show Go p e below _ (T51.setTop (mkF m 124 #[.val (.int p0), .val (.int p1), .val (.ref b1), .val (.int ((p1 &&& (2147483647 : Int32)) % (17 : Int32))), .val (.int ((((p1.toUInt32 >>> ((28 : Int32) &&& 31).toUInt32).toInt32) % (3 : Int32)) - (1 : Int32))), .unset] [(.int ((fv (((p1 &&& (2147483647 : Int32)) % (17 : Int32))).toNatClampNeg) + ((((p1.toUInt32 >>> ((28 : Int32) &&& 31).toUInt32).toInt32) % (3 : Int32)) - (1 : Int32))))]))
  refine go (fun t kt' => by refine XS.istore X51.here hx rfl (hb hby at_124) rfl (l' := #[.val (.int p0), .val (.int p1), .val (.ref b1), .val (.int ((p1 &&& (2147483647 : Int32)) % (17 : Int32))), .val (.int ((((p1.toUInt32 >>> ((28 : Int32) &&& 31).toUInt32).toInt32) % (3 : Int32)) - (1 : Int32))), .val (.int ((fv (((p1 &&& (2147483647 : Int32)) % (17 : Int32))).toNatClampNeg) + ((((p1.toUInt32 >>> ((28 : Int32) &&& 31).toUInt32).toInt32) % (3 : Int32)) - (1 : Int32))))]) rfl ?_; exact kt') ?_
  show Go p e below _ (T51.setTop (mkF m 126 #[.val (.int p0), .val (.int p1), .val (.ref b1), .val (.int ((p1 &&& (2147483647 : Int32)) % (17 : Int32))), .val (.int ((((p1.toUInt32 >>> ((28 : Int32) &&& 31).toUInt32).toInt32) % (3 : Int32)) - (1 : Int32))), .val (.int ((fv (((p1 &&& (2147483647 : Int32)) % (17 : Int32))).toNatClampNeg) + ((((p1.toUInt32 >>> ((28 : Int32) &&& 31).toUInt32).toInt32) % (3 : Int32)) - (1 : Int32))))] []))
  refine go (fun t kt' => by refine XS.iloadN X51.here hx rfl (hb hby at_126) rfl ?_; exact kt') ?_
  show Go p e below _ (T51.setTop (mkF m 127 #[.val (.int p0), .val (.int p1), .val (.ref b1), .val (.int ((p1 &&& (2147483647 : Int32)) % (17 : Int32))), .val (.int ((((p1.toUInt32 >>> ((28 : Int32) &&& 31).toUInt32).toInt32) % (3 : Int32)) - (1 : Int32))), .val (.int ((fv (((p1 &&& (2147483647 : Int32)) % (17 : Int32))).toNatClampNeg) + ((((p1.toUInt32 >>> ((28 : Int32) &&& 31).toUInt32).toInt32) % (3 : Int32)) - (1 : Int32))))] [(.int p0)]))
  obtain ⟨_, _, ⟨T55, L55, k55, n55⟩, -, X55, ⟨Lc55, hQ55, l55, y55, z55⟩, st55⟩ := Jvm.LawKit.callS X51 hx (y := (⟨"com/example/casewright/casewright/formats/XmlScanner", "isCharacter", "(I)Z"⟩ : MethodName)) hown (mvT hZ (hw _ (List.mem_of_getElem? (i := 13) rfl))) (mvT hZ (hw _ (List.mem_of_getElem? (i := 14) rfl))) (mvT hZ (hw _ (List.mem_of_getElem? (i := 15) rfl))) (mvT hZ (hw _ (List.mem_of_getElem? (i := 16) rfl))) (by decide) (backOf (W := 0) (rm1 l Z a0 hw [] p0 h51 n0 f52_Z) hZ (hw _ (List.mem_of_getElem? (i := 16) rfl)) (hw _ (List.mem_of_getElem? (i := 15) rfl)) (by decide) (by decide)) (g := (mkF m 127 #[.val (.int p0), .val (.int p1), .val (.ref b1), .val (.int ((p1 &&& (2147483647 : Int32)) % (17 : Int32))), .val (.int ((((p1.toUInt32 >>> ((28 : Int32) &&& 31).toUInt32).toInt32) % (3 : Int32)) - (1 : Int32))), .val (.int ((fv (((p1 &&& (2147483647 : Int32)) % (17 : Int32))).toNatClampNeg) + ((((p1.toUInt32 >>> ((28 : Int32) &&& 31).toUInt32).toInt32) % (3 : Int32)) - (1 : Int32))))] [(.int p0)])) rfl (by rw [hml]; rfl) (argsL := [(.int p0)]) (rest := []) (lenOf pd_0 rfl) rfl (by show 2 * 0 + _ ≤ _; exact Nat.le_of_eq rfl) (hb hby at_127) (fun _ _ => ⟨rfl, e51, (by decide : 1 + 0 ≤ _), (by decide : 17 + 0 ≤ _)⟩)
  dsimp only [Pt.U, Pt.locs, Pt.cells, Pt.slots] at X55 l55 y55 z55 st55 hQ55
  rw [l55, y55, z55] at X55
  obtain ⟨rfl, N55q, e55⟩ := hQ55
  have N55 := Fr.app N51 N55q
  refine go st55 ?_
  show Go p e below _ (T55.setTop (mkF m 130 #[.val (.int p0), .val (.int p1), .val (.ref b1), .val (.int ((p1 &&& (2147483647 : Int32)) % (17 : Int32))), .val (.int ((((p1.toUInt32 >>> ((28 : Int32) &&& 31).toUInt32).toInt32) % (3 : Int32)) - (1 : Int32))), .val (.int ((fv (((p1 &&& (2147483647 : Int32)) % (17 : Int32))).toNatClampNeg) + ((((p1.toUInt32 >>> ((28 : Int32) &&& 31).toUInt32).toInt32) % (3 : Int32)) - (1 : Int32))))] [(.int (own_ic p0))]))
  refine go (fun t kt' => by refine XS.iloadN X55.here hx rfl (hb hby at_130) rfl ?_; exact kt') ?_
  show Go p e below _ (T55.setTop (mkF m 131 #[.val (.int p0), .val (.int p1), .val (.ref b1), .val (.int ((p1 &&& (2147483647 : Int32)) % (17 : Int32))), .val (.int ((((p1.toUInt32 >>> ((28 : Int32) &&& 31).toUInt32).toInt32) % (3 : Int32)) - (1 : Int32))), .val (.int ((fv (((p1 &&& (2147483647 : Int32)) % (17 : Int32))).toNatClampNeg) + ((((p1.toUInt32 >>> ((28 : Int32) &&& 31).toUInt32).toInt32) % (3 : Int32)) - (1 : Int32))))] [(.int p0), (.int (own_ic p0))]))
  obtain ⟨_, _, ⟨T56, L56, k56, n56⟩, -, X56, ⟨Lc56, hQ56, l56, y56, z56⟩, st56⟩ := Jvm.LawKit.callS X55 hx (y := (⟨"com/example/casewright/casewright/formats/XmlScannerIsCharacterPinLaw", "reference", "(I)Z"⟩ : MethodName)) hown (mvT hZ (hw _ (List.mem_of_getElem? (i := 19) rfl))) (mvT hZ (hw _ (List.mem_of_getElem? (i := 20) rfl))) (mvT hZ (hw _ (List.mem_of_getElem? (i := 21) rfl))) (mvT hZ (hw _ (List.mem_of_getElem? (i := 22) rfl))) (by decide) (backOf (W := 1) (rm2 l Z a0 hw [] p0 h51 n0 f52_Z) hZ (hw _ (List.mem_of_getElem? (i := 22) rfl)) (hw _ (List.mem_of_getElem? (i := 21) rfl)) (by decide) (by decide)) (g := (mkF m 131 #[.val (.int p0), .val (.int p1), .val (.ref b1), .val (.int ((p1 &&& (2147483647 : Int32)) % (17 : Int32))), .val (.int ((((p1.toUInt32 >>> ((28 : Int32) &&& 31).toUInt32).toInt32) % (3 : Int32)) - (1 : Int32))), .val (.int ((fv (((p1 &&& (2147483647 : Int32)) % (17 : Int32))).toNatClampNeg) + ((((p1.toUInt32 >>> ((28 : Int32) &&& 31).toUInt32).toInt32) % (3 : Int32)) - (1 : Int32))))] [(.int p0), (.int (own_ic p0))])) rfl (by rw [hml]; rfl) (argsL := [(.int p0)]) (rest := [(.int (own_ic p0))]) (lenOf pd_0 rfl) rfl (by show 2 * 0 + _ ≤ _; exact Nat.le_of_eq rfl) (hb hby at_131) (fun _ _ => ⟨rfl, e55, (by decide : 1 + 0 ≤ _), (by decide : 17 + 0 ≤ _)⟩)
  dsimp only [Pt.U, Pt.locs, Pt.cells, Pt.slots] at X56 l56 y56 z56 st56 hQ56
  rw [l56, y56, z56] at X56
  obtain ⟨rfl, N56q, e56⟩ := hQ56
  have N56 := Fr.app N55 N56q
  refine go st56 ?_
  show Go p e below _ (T56.setTop (mkF m 134 #[.val (.int p0), .val (.int p1), .val (.ref b1), .val (.int ((p1 &&& (2147483647 : Int32)) % (17 : Int32))), .val (.int ((((p1.toUInt32 >>> ((28 : Int32) &&& 31).toUInt32).toInt32) % (3 : Int32)) - (1 : Int32))), .val (.int ((fv (((p1 &&& (2147483647 : Int32)) % (17 : Int32))).toNatClampNeg) + ((((p1.toUInt32 >>> ((28 : Int32) &&& 31).toUInt32).toInt32) % (3 : Int32)) - (1 : Int32))))] [(.int (own_rf p0)), (.int (own_ic p0))]))
  have c134_57 : ¬ (¬ (own_ic p0) = (own_rf p0)) := not_not_intro (own_same _)
  refine go (fun t kt' => by refine XS.icmpNo X56.here hx rfl (hb hby at_134) rfl (teq (Decidable.not_not.mp c134_57)).2 ?_; exact kt') ?_
  show Go p e below _ (T56.setTop (mkF m 137 #[.val (.int p0), .val (.int p1), .val (.ref b1), .val (.int ((p1 &&& (2147483647 : Int32)) % (17 : Int32))), .val (.int ((((p1.toUInt32 >>> ((28 : Int32) &&& 31).toUInt32).toInt32) % (3 : Int32)) - (1 : Int32))), .val (.int ((fv (((p1 &&& (2147483647 : Int32)) % (17 : Int32))).toNatClampNeg) + ((((p1.toUInt32 >>> ((28 : Int32) &&& 31).toUInt32).toInt32) % (3 : Int32)) - (1 : Int32))))] []))
  refine go (fun t kt' => by refine XS.iload X56.here hx rfl (hb hby at_137) rfl ?_; exact kt') ?_
  show Go p e below _ (T56.setTop (mkF m 139 #[.val (.int p0), .val (.int p1), .val (.ref b1), .val (.int ((p1 &&& (2147483647 : Int32)) % (17 : Int32))), .val (.int ((((p1.toUInt32 >>> ((28 : Int32) &&& 31).toUInt32).toInt32) % (3 : Int32)) - (1 : Int32))), .val (.int ((fv (((p1 &&& (2147483647 : Int32)) % (17 : Int32))).toNatClampNeg) + ((((p1.toUInt32 >>> ((28 : Int32) &&& 31).toUInt32).toInt32) % (3 : Int32)) - (1 : Int32))))] [(.int ((fv (((p1 &&& (2147483647 : Int32)) % (17 : Int32))).toNatClampNeg) + ((((p1.toUInt32 >>> ((28 : Int32) &&& 31).toUInt32).toInt32) % (3 : Int32)) - (1 : Int32))))]))
  obtain ⟨_, _, ⟨T58, L58, k58, n58⟩, -, X58, ⟨Lc58, hQ58, l58, y58, z58⟩, st58⟩ := Jvm.LawKit.callS X56 hx (y := (⟨"com/example/casewright/casewright/formats/XmlScanner", "isCharacter", "(I)Z"⟩ : MethodName)) hown (mvT hZ (hw _ (List.mem_of_getElem? (i := 13) rfl))) (mvT hZ (hw _ (List.mem_of_getElem? (i := 14) rfl))) (mvT hZ (hw _ (List.mem_of_getElem? (i := 15) rfl))) (mvT hZ (hw _ (List.mem_of_getElem? (i := 16) rfl))) (by decide) (backOf (W := 0) (rm1 l Z a0 hw [] ((fv (((p1 &&& (2147483647 : Int32)) % (17 : Int32))).toNatClampNeg) + ((((p1.toUInt32 >>> ((28 : Int32) &&& 31).toUInt32).toInt32) % (3 : Int32)) - (1 : Int32))) h51 n0 f52_Z) hZ (hw _ (List.mem_of_getElem? (i := 16) rfl)) (hw _ (List.mem_of_getElem? (i := 15) rfl)) (by decide) (by decide)) (g := (mkF m 139 #[.val (.int p0), .val (.int p1), .val (.ref b1), .val (.int ((p1 &&& (2147483647 : Int32)) % (17 : Int32))), .val (.int ((((p1.toUInt32 >>> ((28 : Int32) &&& 31).toUInt32).toInt32) % (3 : Int32)) - (1 : Int32))), .val (.int ((fv (((p1 &&& (2147483647 : Int32)) % (17 : Int32))).toNatClampNeg) + ((((p1.toUInt32 >>> ((28 : Int32) &&& 31).toUInt32).toInt32) % (3 : Int32)) - (1 : Int32))))] [(.int ((fv (((p1 &&& (2147483647 : Int32)) % (17 : Int32))).toNatClampNeg) + ((((p1.toUInt32 >>> ((28 : Int32) &&& 31).toUInt32).toInt32) % (3 : Int32)) - (1 : Int32))))])) rfl (by rw [hml]; rfl) (argsL := [(.int ((fv (((p1 &&& (2147483647 : Int32)) % (17 : Int32))).toNatClampNeg) + ((((p1.toUInt32 >>> ((28 : Int32) &&& 31).toUInt32).toInt32) % (3 : Int32)) - (1 : Int32))))]) (rest := []) (lenOf pd_0 rfl) rfl (by show 2 * 0 + _ ≤ _; exact Nat.le_of_eq rfl) (hb hby at_139) (fun _ _ => ⟨rfl, e56, (by decide : 1 + 0 ≤ _), (by decide : 17 + 0 ≤ _)⟩)
  dsimp only [Pt.U, Pt.locs, Pt.cells, Pt.slots] at X58 l58 y58 z58 st58 hQ58
  rw [l58, y58, z58] at X58
  obtain ⟨rfl, N58q, e58⟩ := hQ58
  have N58 := Fr.app N56 N58q
  refine go st58 ?_
  show Go p e below _ (T58.setTop (mkF m 142 #[.val (.int p0), .val (.int p1), .val (.ref b1), .val (.int ((p1 &&& (2147483647 : Int32)) % (17 : Int32))), .val (.int ((((p1.toUInt32 >>> ((28 : Int32) &&& 31).toUInt32).toInt32) % (3 : Int32)) - (1 : Int32))), .val (.int ((fv (((p1 &&& (2147483647 : Int32)) % (17 : Int32))).toNatClampNeg) + ((((p1.toUInt32 >>> ((28 : Int32) &&& 31).toUInt32).toInt32) % (3 : Int32)) - (1 : Int32))))] [(.int (own_ic ((fv (((p1 &&& (2147483647 : Int32)) % (17 : Int32))).toNatClampNeg) + ((((p1.toUInt32 >>> ((28 : Int32) &&& 31).toUInt32).toInt32) % (3 : Int32)) - (1 : Int32)))))]))
  refine go (fun t kt' => by refine XS.iload X58.here hx rfl (hb hby at_142) rfl ?_; exact kt') ?_
  show Go p e below _ (T58.setTop (mkF m 144 #[.val (.int p0), .val (.int p1), .val (.ref b1), .val (.int ((p1 &&& (2147483647 : Int32)) % (17 : Int32))), .val (.int ((((p1.toUInt32 >>> ((28 : Int32) &&& 31).toUInt32).toInt32) % (3 : Int32)) - (1 : Int32))), .val (.int ((fv (((p1 &&& (2147483647 : Int32)) % (17 : Int32))).toNatClampNeg) + ((((p1.toUInt32 >>> ((28 : Int32) &&& 31).toUInt32).toInt32) % (3 : Int32)) - (1 : Int32))))] [(.int ((fv (((p1 &&& (2147483647 : Int32)) % (17 : Int32))).toNatClampNeg) + ((((p1.toUInt32 >>> ((28 : Int32) &&& 31).toUInt32).toInt32) % (3 : Int32)) - (1 : Int32)))), (.int (own_ic ((fv (((p1 &&& (2147483647 : Int32)) % (17 : Int32))).toNatClampNeg) + ((((p1.toUInt32 >>> ((28 : Int32) &&& 31).toUInt32).toInt32) % (3 : Int32)) - (1 : Int32)))))]))
  obtain ⟨_, _, ⟨T59, L59, k59, n59⟩, -, X59, ⟨Lc59, hQ59, l59, y59, z59⟩, st59⟩ := Jvm.LawKit.callS X58 hx (y := (⟨"com/example/casewright/casewright/formats/XmlScannerIsCharacterPinLaw", "reference", "(I)Z"⟩ : MethodName)) hown (mvT hZ (hw _ (List.mem_of_getElem? (i := 19) rfl))) (mvT hZ (hw _ (List.mem_of_getElem? (i := 20) rfl))) (mvT hZ (hw _ (List.mem_of_getElem? (i := 21) rfl))) (mvT hZ (hw _ (List.mem_of_getElem? (i := 22) rfl))) (by decide) (backOf (W := 1) (rm2 l Z a0 hw [] ((fv (((p1 &&& (2147483647 : Int32)) % (17 : Int32))).toNatClampNeg) + ((((p1.toUInt32 >>> ((28 : Int32) &&& 31).toUInt32).toInt32) % (3 : Int32)) - (1 : Int32))) h51 n0 f52_Z) hZ (hw _ (List.mem_of_getElem? (i := 22) rfl)) (hw _ (List.mem_of_getElem? (i := 21) rfl)) (by decide) (by decide)) (g := (mkF m 144 #[.val (.int p0), .val (.int p1), .val (.ref b1), .val (.int ((p1 &&& (2147483647 : Int32)) % (17 : Int32))), .val (.int ((((p1.toUInt32 >>> ((28 : Int32) &&& 31).toUInt32).toInt32) % (3 : Int32)) - (1 : Int32))), .val (.int ((fv (((p1 &&& (2147483647 : Int32)) % (17 : Int32))).toNatClampNeg) + ((((p1.toUInt32 >>> ((28 : Int32) &&& 31).toUInt32).toInt32) % (3 : Int32)) - (1 : Int32))))] [(.int ((fv (((p1 &&& (2147483647 : Int32)) % (17 : Int32))).toNatClampNeg) + ((((p1.toUInt32 >>> ((28 : Int32) &&& 31).toUInt32).toInt32) % (3 : Int32)) - (1 : Int32)))), (.int (own_ic ((fv (((p1 &&& (2147483647 : Int32)) % (17 : Int32))).toNatClampNeg) + ((((p1.toUInt32 >>> ((28 : Int32) &&& 31).toUInt32).toInt32) % (3 : Int32)) - (1 : Int32)))))])) rfl (by rw [hml]; rfl) (argsL := [(.int ((fv (((p1 &&& (2147483647 : Int32)) % (17 : Int32))).toNatClampNeg) + ((((p1.toUInt32 >>> ((28 : Int32) &&& 31).toUInt32).toInt32) % (3 : Int32)) - (1 : Int32))))]) (rest := [(.int (own_ic ((fv (((p1 &&& (2147483647 : Int32)) % (17 : Int32))).toNatClampNeg) + ((((p1.toUInt32 >>> ((28 : Int32) &&& 31).toUInt32).toInt32) % (3 : Int32)) - (1 : Int32)))))]) (lenOf pd_0 rfl) rfl (by show 2 * 0 + _ ≤ _; exact Nat.le_of_eq rfl) (hb hby at_144) (fun _ _ => ⟨rfl, e58, (by decide : 1 + 0 ≤ _), (by decide : 17 + 0 ≤ _)⟩)
  dsimp only [Pt.U, Pt.locs, Pt.cells, Pt.slots] at X59 l59 y59 z59 st59 hQ59
  rw [l59, y59, z59] at X59
  obtain ⟨rfl, N59q, e59⟩ := hQ59
  have N59 := Fr.app N58 N59q
  refine go st59 ?_
  show Go p e below _ (T59.setTop (mkF m 147 #[.val (.int p0), .val (.int p1), .val (.ref b1), .val (.int ((p1 &&& (2147483647 : Int32)) % (17 : Int32))), .val (.int ((((p1.toUInt32 >>> ((28 : Int32) &&& 31).toUInt32).toInt32) % (3 : Int32)) - (1 : Int32))), .val (.int ((fv (((p1 &&& (2147483647 : Int32)) % (17 : Int32))).toNatClampNeg) + ((((p1.toUInt32 >>> ((28 : Int32) &&& 31).toUInt32).toInt32) % (3 : Int32)) - (1 : Int32))))] [(.int (own_rf ((fv (((p1 &&& (2147483647 : Int32)) % (17 : Int32))).toNatClampNeg) + ((((p1.toUInt32 >>> ((28 : Int32) &&& 31).toUInt32).toInt32) % (3 : Int32)) - (1 : Int32))))), (.int (own_ic ((fv (((p1 &&& (2147483647 : Int32)) % (17 : Int32))).toNatClampNeg) + ((((p1.toUInt32 >>> ((28 : Int32) &&& 31).toUInt32).toInt32) % (3 : Int32)) - (1 : Int32)))))]))
  have c147_60 : ¬ (¬ (own_ic ((fv (((p1 &&& (2147483647 : Int32)) % (17 : Int32))).toNatClampNeg) + ((((p1.toUInt32 >>> ((28 : Int32) &&& 31).toUInt32).toInt32) % (3 : Int32)) - (1 : Int32)))) = (own_rf ((fv (((p1 &&& (2147483647 : Int32)) % (17 : Int32))).toNatClampNeg) + ((((p1.toUInt32 >>> ((28 : Int32) &&& 31).toUInt32).toInt32) % (3 : Int32)) - (1 : Int32))))) := not_not_intro (own_same _)
  refine go (fun t kt' => by refine XS.icmpNo X59.here hx rfl (hb hby at_147) rfl (teq (Decidable.not_not.mp c147_60)).2 ?_; exact kt') ?_
  show Go p e below _ (T59.setTop (mkF m 150 #[.val (.int p0), .val (.int p1), .val (.ref b1), .val (.int ((p1 &&& (2147483647 : Int32)) % (17 : Int32))), .val (.int ((((p1.toUInt32 >>> ((28 : Int32) &&& 31).toUInt32).toInt32) % (3 : Int32)) - (1 : Int32))), .val (.int ((fv (((p1 &&& (2147483647 : Int32)) % (17 : Int32))).toNatClampNeg) + ((((p1.toUInt32 >>> ((28 : Int32) &&& 31).toUInt32).toInt32) % (3 : Int32)) - (1 : Int32))))] []))
  refine go (fun t kt' => by refine XS.iconst X59.here hx rfl (hb hby at_150) ?_; exact kt') ?_
  show Go p e below _ (T59.setTop (mkF m 151 #[.val (.int p0), .val (.int p1), .val (.ref b1), .val (.int ((p1 &&& (2147483647 : Int32)) % (17 : Int32))), .val (.int ((((p1.toUInt32 >>> ((28 : Int32) &&& 31).toUInt32).toInt32) % (3 : Int32)) - (1 : Int32))), .val (.int ((fv (((p1 &&& (2147483647 : Int32)) % (17 : Int32))).toNatClampNeg) + ((((p1.toUInt32 >>> ((28 : Int32) &&& 31).toUInt32).toInt32) % (3 : Int32)) - (1 : Int32))))] [(.int (1 : Int32))]))
  refine go (fun t kt' => by refine XS.goto X59.here hx rfl (pc0 := 151) (pc' := 155) rfl (hb hby at_151) (by decide) (by decide) ?_; exact kt') ?_
  show Go p e below _ (T59.setTop (mkF m 155 #[.val (.int p0), .val (.int p1), .val (.ref b1), .val (.int ((p1 &&& (2147483647 : Int32)) % (17 : Int32))), .val (.int ((((p1.toUInt32 >>> ((28 : Int32) &&& 31).toUInt32).toInt32) % (3 : Int32)) - (1 : Int32))), .val (.int ((fv (((p1 &&& (2147483647 : Int32)) % (17 : Int32))).toNatClampNeg) + ((((p1.toUInt32 >>> ((28 : Int32) &&& 31).toUInt32).toInt32) % (3 : Int32)) - (1 : Int32))))] [(.int (1 : Int32))]))
  refine goOut X59 (fun h => by rw [Bd.returns] at h; cases h) hlk (fun fs hr => retN X59 hx (t := .boolean) Bd.returns (by simp) (hb hby at_155) hr) (by decide) (by decide) ?_
  rw [e59]
  exact ⟨rfl, N59⟩
set_option maxRecDepth 65536 in
set_option maxHeartbeats 40000000 in
theorem comes_1 {Post : Tables → Env → Array Value → State → Outcome → State → Prop} (hpost : ∀ tb e args s v u, (limb_1_1.after args s (.returned v) u = true ∧ limb_1_2.after args s (.returned v) u = true ∧ True) → FrameEnd s (.returned v) u (Jvm.fieldLocs frame_1_writes args s ++ Jvm.arrayLocs frame_1_arrays args s ++ Jvm.staticLocs frame_1_statics s) 16 128 → Post tb e args s (.returned v) u) :
    ArmFor flags0 classFile x code maxLocals ret World_1 tables_1 room_1 Calls_1 rest_1 Pre_1 Post := by
  intro l hfl _ _ p e ha hc hk s m args below hf hA hF happ hP
  obtain ⟨hcalls, hrest, hpre⟩ := hP
  obtain ⟨-, -, -, hnamed, -, -, -, hat⟩ := (Spec.applies_iff hf).mp happ
  obtain ⟨hg, hn⟩ := and_e (Cond.before_iff.mp (show (Jvm.Cond.and given_1 narrow_1).before args s = true from hpre))
  obtain ⟨g1, g2⟩ := and_e hg
  obtain ⟨g3, g4⟩ := and_e g2
  obtain ⟨w0, w1, rfl⟩ : ∃ w0 w1 : Value, args = #[w0, w1] := by
    have hs : args.size = 2 := by simpa [Cond.value, given_1] using g1
    obtain ⟨L⟩ := args
    match L, hs with
    | [w0, w1], _ => exact ⟨w0, w1, rfl⟩
  have hw := fun d (hd : d ∈ tables_1) => atoms_spec (ws := Jvm.Cond.code x code maxLocals ret :: tables_1) hat d (List.mem_cons_of_mem _ hd)
  have hfit : Fit s := fun {y c} hc i hi => by
    obtain ⟨ha, rfl⟩ := Array.getElem?_eq_some_iff.mp hc
    have q := List.all_eq_true.mp ((Array.all_eq_true_iff_forall_mem.mp hF) _ (Array.getElem_mem ha)) i (List.mem_range.mpr hi)
    simpa [Array.getElem?_eq_getElem hi] using q
  obtain ⟨i0, ei0⟩ := is_v g3
  obtain rfl : w0 = (.int i0) := Option.some.inj ei0
  obtain ⟨i1, ei1⟩ := is_v g4
  obtain rfl : w1 = (.int i1) := Option.some.inj ei1
  obtain ⟨n, o, h1, h2, h3, _, L, rfl, ⟨rfl, N⟩, hq⟩ := rm0 l s _ hw tables_1 i0 i1  s.heap s.heap.size (Nat.le_refl _)  p e ha hc hk s m _ below hf ((Spec.applies_iff_loose hf).mp happ).1 ⟨rfl, State.Warmed39.refl s, rfl⟩ trivial
  refine ⟨n, _, h1, h2, h3, hpost _ _ _ _ _ _ ⟨Cond.after_iff.mpr rfl, Cond.after_iff.mpr (eq_i res_at (Term.int_eval (1)) rfl), trivial⟩ ⟨hq.1, hq.2.1, (hq.2.2.sift fun y hy => Or.inr (N y hy)).mono (by decide) (by decide)⟩⟩
theorem main_1_1 : Claimed_1_1 := comes_1 fun _ _ _ _ _ _ h hF => ⟨h.1, hF⟩
theorem main_1_2 : Claimed_1_2 := comes_1 fun _ _ _ _ _ _ h hF => ⟨h.2.1, hF⟩
end Jvm.Pilot.@@N@@
namespace Jvm.Pilot.@@N@@
open Jvm Jvm.ClassFile Sem Op Lib Jvm.Free Jvm.Stand Jvm.Pilot.@@N@@.Jvm.D
/-! MADE BY PROGRAM (witnessworld.py) out of the Statement's table words and the real class files: 9 classes; the members and pool entries that the words name. The judged class is class 1, her method 2. -/
namespace start1
open Jvm.ClassFile
def u (s : String) : CpInfo := .utf8 (stringToUtf16 s)
/-- a pool by its gaps: so many unusable entries, then the entry; so many at the end -/
def gap : Nat → List CpInfo → List CpInfo
  | 0, r => r
  | n + 1, r => .unusable :: gap n r
def poolList (es : List (Nat × CpInfo)) (last : Nat) : List CpInfo := es.foldr (fun e r => gap e.1 (e.2 :: r)) (gap last [])
def pool (es : List (Nat × CpInfo)) (last : Nat) : Array CpInfo := ⟨poolList es last⟩
def fileOf (pool : Array CpInfo) (this : Nat) (attrs : Array Attribute := #[]) (ms : Array MethodInfo := #[]) (fl : Nat := 33) (sup : Nat := 0) (ifs : Array Nat := #[]) (fds : Array FieldInfo := #[]) : ClassFile where
  minorVersion := 0
  majorVersion := 65
  constantPool := pool
  accessFlags := fl
  thisClass := this
  superClass := sup
  interfaces := ifs
  fields := fds
  methods := ms
  attributes := attrs
def plain (name : String) (sup : Option ClassId) : Class where
  name := name
  kind := .ordinary
  loader := none
  accessFlags := 33
  super := sup
  interfaces := #[]
  cf := none
  fields := #[]
  methods := #[]
  instanceTypes := #[]
  staticTypes := #[]
  resolved := #[]
  callSites := []
  init := .initialized
  statics := none
  mirror := none

def pool0 : Array CpInfo := pool [(5, u "<init>"), (0, u "()V"), (1, .class_ 10), (1, u "java/lang/Object")] 113

def k0m0 : Method := { name := "<init>", desc := "()V", sig := { parameters := [], returnType := none }, accessFlags := 1, code := none }
/-- java/lang/Object -/
def k0 : Class := { plain "java/lang/Object" none with
  accessFlags := 33
  interfaces := #[]
  cf := some (fileOf pool0 8 #[] #[{ accessFlags := 1, nameIndex := 5, descriptorIndex := 6, attributes := #[] }] 33 0 #[] #[])
  fields := #[]
  methods := #[k0m0]
  instanceTypes := #[]
  staticTypes := #[]
  resolved := Array.replicate 124 none
  statics := none }

def pool1 : Array CpInfo := pool [(2, .class_ 4), (1, u "java/lang/Object"), (0, u "<init>"), (0, u "()V"), (0, .integer 1114111), (0, .integer 55296), (0, .integer 57343), (0, .integer 65534), (0, .integer 65535), (0, .integer 55295), (0, .integer 57344), (0, .integer 65533), (0, .integer 65536), (0, .integer 1114112), (2, .integer 2147483648), (0, .integer 2147483647), (0, .methodref 22 23), (0, .class_ 24), (0, .nameAndType 25 26), (0, u "com/example/casewright/casewright/formats/XmlScanner"), (0, u "isCharacter"), (0, u "(I)Z"), (0, .methodref 28 29), (0, .class_ 30), (0, .nameAndType 31 26), (0, u "com/example/casewright/casewright/formats/XmlScannerIsCharacterPinLaw"), (0, u "reference"), (3, u "law"), (0, u "(II)Z")] 4

def k1m0 : Method := { name := "<init>", desc := "()V", sig := { parameters := [], returnType := none }, accessFlags := 2, code := none }
def k1c1 : Code := { maxStack := 2, maxLocals := 1, code := method_2_code, exceptionTable := #[], attributes := #[] }
def k1m1 : Method := { name := "reference", desc := "(I)Z", sig := { parameters := [.int], returnType := some .boolean }, accessFlags := 10, code := some k1c1 }
def k1c2 : Code := { maxStack := 4, maxLocals := 6, code := code, exceptionTable := #[], attributes := #[] }
def k1m2 : Method := { name := "law", desc := "(II)Z", sig := { parameters := [.int, .int], returnType := some .boolean }, accessFlags := 9, code := some k1c2 }
/-- com/example/casewright/casewright/formats/XmlScannerIsCharacterPinLaw -/
def k1 : Class := { plain "com/example/casewright/casewright/formats/XmlScannerIsCharacterPinLaw" (some 0) with
  accessFlags := 49
  interfaces := #[]
  cf := some (fileOf pool1 28 #[] #[{ accessFlags := 2, nameIndex := 5, descriptorIndex := 6, attributes := #[] }, { accessFlags := 10, nameIndex := 31, descriptorIndex := 26, attributes := #[] }, { accessFlags := 9, nameIndex := 35, descriptorIndex := 36, attributes := #[] }] 49 2 #[] #[])
  fields := #[]
  methods := #[k1m0, k1m1, k1m2]
  instanceTypes := #[]
  staticTypes := #[]
  resolved := Array.replicate 41 none
  statics := none }

def pool2 : Array CpInfo := pool [(1, .class_ 2), (0, u "com/example/casewright/casewright/formats/XmlScanner"), (2, u "<init>"), (2, .class_ 10), (1, u "java/lang/Object"), (0, u "()V"), (5, u "strings"), (0, u "Lcom/example/casewright/casewright/formats/StringCache;"), (7, u "attributes"), (0, u "Lcom/example/casewright/casewright/formats/XmlAttributes;"), (2, u "name"), (0, u "[C"), (4, u "openNames"), (0, u "[Ljava/lang/String;"), (2, u "openLocalNames"), (2, u "openBindings"), (0, u "[I"), (5, u "namespaces"), (0, u "Lcom/example/casewright/casewright/formats/XmlNamespaces;"), (13, u "buffer"), (5, u "decoder"), (0, u "Lcom/example/casewright/casewright/formats/XmlDecoder;"), (7, u "gzip"), (0, u "Lcom/example/casewright/casewright/formats/GzipChannel;"), (2, u "text"), (2, u "file"), (0, u "Ljava/nio/file/Path;"), (2, u "handler"), (0, u "Lcom/example/casewright/casewright/formats/XmlHandler;"), (2, u "line"), (0, u "I"), (2, u "position"), (2, u "limit"), (2, u "inSurrogatePair"), (0, u "Z"), (2, u "textLength"), (2, u "depth"), (139, u "(I)Z"), (61, u "nameLength"), (86, u "nameColon"), (2, u "NAME_START_CHARS"), (0, u "[Z"), (2, u "NAME_CHARS"), (25, .integer 55295), (0, .integer 57344), (0, .integer 65533), (0, .integer 65536), (0, .integer 1114111), (30, u "isCharacter"), (4, u "PREDEFINED_ENTITIES"), (87, u "DEFAULT_BUFFER"), (2, u "PREDEFINED_CHARACTERS"), (0, u "Ljava/lang/String;")] 77

def k2m0 : Method := { name := "<init>", desc := "()V", sig := { parameters := [], returnType := none }, accessFlags := 0, code := none }
def k2c1 : Code := { maxStack := 2, maxLocals := 1, code := prog_142_method_33_code, exceptionTable := #[], attributes := #[] }
def k2m1 : Method := { name := "isCharacter", desc := "(I)Z", sig := { parameters := [.int], returnType := some .boolean }, accessFlags := 8, code := some k2c1 }
/-- com/example/casewright/casewright/formats/XmlScanner -/
def k2 : Class := { plain "com/example/casewright/casewright/formats/XmlScanner" (some 0) with
  accessFlags := 48
  interfaces := #[]
  cf := some (fileOf pool2 1 #[] #[{ accessFlags := 0, nameIndex := 5, descriptorIndex := 11, attributes := #[] }, { accessFlags := 8, nameIndex := 469, descriptorIndex := 252, attributes := #[] }] 48 8 #[] #[{ accessFlags := 26, nameIndex := 562, descriptorIndex := 96, attributes := #[] }, { accessFlags := 26, nameIndex := 474, descriptorIndex := 37, attributes := #[] }, { accessFlags := 26, nameIndex := 565, descriptorIndex := 566, attributes := #[] }, { accessFlags := 26, nameIndex := 404, descriptorIndex := 405, attributes := #[] }, { accessFlags := 26, nameIndex := 408, descriptorIndex := 405, attributes := #[] }, { accessFlags := 18, nameIndex := 65, descriptorIndex := 31, attributes := #[] }, { accessFlags := 18, nameIndex := 71, descriptorIndex := 72, attributes := #[] }, { accessFlags := 18, nameIndex := 80, descriptorIndex := 81, attributes := #[] }, { accessFlags := 18, nameIndex := 17, descriptorIndex := 18, attributes := #[] }, { accessFlags := 18, nameIndex := 26, descriptorIndex := 27, attributes := #[] }, { accessFlags := 2, nameIndex := 30, descriptorIndex := 31, attributes := #[] }, { accessFlags := 2, nameIndex := 314, descriptorIndex := 96, attributes := #[] }, { accessFlags := 2, nameIndex := 401, descriptorIndex := 96, attributes := #[] }, { accessFlags := 18, nameIndex := 84, descriptorIndex := 31, attributes := #[] }, { accessFlags := 2, nameIndex := 109, descriptorIndex := 96, attributes := #[] }, { accessFlags := 2, nameIndex := 36, descriptorIndex := 37, attributes := #[] }, { accessFlags := 2, nameIndex := 40, descriptorIndex := 37, attributes := #[] }, { accessFlags := 2, nameIndex := 43, descriptorIndex := 44, attributes := #[] }, { accessFlags := 2, nameIndex := 112, descriptorIndex := 96, attributes := #[] }, { accessFlags := 18, nameIndex := 50, descriptorIndex := 51, attributes := #[] }, { accessFlags := 2, nameIndex := 87, descriptorIndex := 88, attributes := #[] }, { accessFlags := 2, nameIndex := 91, descriptorIndex := 92, attributes := #[] }, { accessFlags := 2, nameIndex := 99, descriptorIndex := 96, attributes := #[] }, { accessFlags := 2, nameIndex := 102, descriptorIndex := 96, attributes := #[] }, { accessFlags := 2, nameIndex := 95, descriptorIndex := 96, attributes := #[] }, { accessFlags := 2, nameIndex := 105, descriptorIndex := 106, attributes := #[] }])
  fields := #[{ name := "DEFAULT_BUFFER", type := .int, accessFlags := 26, slot := 0, constantValue := 0 }, { name := "PREDEFINED_ENTITIES", type := (.array (.object "java/lang/String")), accessFlags := 26, slot := 1, constantValue := 0 }, { name := "PREDEFINED_CHARACTERS", type := (.object "java/lang/String"), accessFlags := 26, slot := 2, constantValue := 0 }, { name := "NAME_START_CHARS", type := (.array .boolean), accessFlags := 26, slot := 3, constantValue := 0 }, { name := "NAME_CHARS", type := (.array .boolean), accessFlags := 26, slot := 4, constantValue := 0 }, { name := "buffer", type := (.array .char), accessFlags := 18, slot := 0, constantValue := 0 }, { name := "decoder", type := (.object "com/example/casewright/casewright/formats/XmlDecoder"), accessFlags := 18, slot := 1, constantValue := 0 }, { name := "gzip", type := (.object "com/example/casewright/casewright/formats/GzipChannel"), accessFlags := 18, slot := 2, constantValue := 0 }, { name := "strings", type := (.object "com/example/casewright/casewright/formats/StringCache"), accessFlags := 18, slot := 3, constantValue := 0 }, { name := "attributes", type := (.object "com/example/casewright/casewright/formats/XmlAttributes"), accessFlags := 18, slot := 4, constantValue := 0 }, { name := "name", type := (.array .char), accessFlags := 2, slot := 5, constantValue := 0 }, { name := "nameLength", type := .int, accessFlags := 2, slot := 6, constantValue := 0 }, { name := "nameColon", type := .int, accessFlags := 2, slot := 7, constantValue := 0 }, { name := "text", type := (.array .char), accessFlags := 18, slot := 8, constantValue := 0 }, { name := "textLength", type := .int, accessFlags := 2, slot := 9, constantValue := 0 }, { name := "openNames", type := (.array (.object "java/lang/String")), accessFlags := 2, slot := 10, constantValue := 0 }, { name := "openLocalNames", type := (.array (.object "java/lang/String")), accessFlags := 2, slot := 11, constantValue := 0 }, { name := "openBindings", type := (.array .int), accessFlags := 2, slot := 12, constantValue := 0 }, { name := "depth", type := .int, accessFlags := 2, slot := 13, constantValue := 0 }, { name := "namespaces", type := (.object "com/example/casewright/casewright/formats/XmlNamespaces"), accessFlags := 18, slot := 14, constantValue := 0 }, { name := "file", type := (.object "java/nio/file/Path"), accessFlags := 2, slot := 15, constantValue := 0 }, { name := "handler", type := (.object "com/example/casewright/casewright/formats/XmlHandler"), accessFlags := 2, slot := 16, constantValue := 0 }, { name := "position", type := .int, accessFlags := 2, slot := 17, constantValue := 0 }, { name := "limit", type := .int, accessFlags := 2, slot := 18, constantValue := 0 }, { name := "line", type := .int, accessFlags := 2, slot := 19, constantValue := 0 }, { name := "inSurrogatePair", type := .boolean, accessFlags := 2, slot := 20, constantValue := 0 }]
  methods := #[k2m0, k2m1]
  instanceTypes := #[(.array .char), (.object "com/example/casewright/casewright/formats/XmlDecoder"), (.object "com/example/casewright/casewright/formats/GzipChannel"), (.object "com/example/casewright/casewright/formats/StringCache"), (.object "com/example/casewright/casewright/formats/XmlAttributes"), (.array .char), .int, .int, (.array .char), .int, (.array (.object "java/lang/String")), (.array (.object "java/lang/String")), (.array .int), .int, (.object "com/example/casewright/casewright/formats/XmlNamespaces"), (.object "java/nio/file/Path"), (.object "com/example/casewright/casewright/formats/XmlHandler"), .int, .int, .int, .boolean]
  staticTypes := #[.int, (.array (.object "java/lang/String")), (.object "java/lang/String"), (.array .boolean), (.array .boolean)]
  resolved := Array.replicate 644 none
  statics := none }

def pool3 : Array CpInfo := pool [(1, u "java/lang/Cloneable"), (0, .class_ 1), (0, u "java/lang/Object"), (0, .class_ 3)] 3

/-- java/lang/Cloneable -/
def k3 : Class := { plain "java/lang/Cloneable" (some 0) with
  accessFlags := 1537
  interfaces := #[]
  cf := some (fileOf pool3 2 #[] #[] 1537 4 #[] #[])
  fields := #[]
  methods := #[]
  instanceTypes := #[]
  staticTypes := #[]
  resolved := Array.replicate 8 none
  statics := none }

def pool4 : Array CpInfo := pool [(1, u "java/io/Serializable"), (0, .class_ 1), (0, u "java/lang/Object"), (0, .class_ 3)] 3

/-- java/io/Serializable -/
def k4 : Class := { plain "java/io/Serializable" (some 0) with
  accessFlags := 1537
  interfaces := #[]
  cf := some (fileOf pool4 2 #[] #[] 1537 4 #[] #[])
  fields := #[]
  methods := #[]
  instanceTypes := #[]
  staticTypes := #[]
  resolved := Array.replicate 8 none
  statics := none }

/-- the primitive byte -/
def k5 : Class := { plain "byte" none with kind := .primitive 'B', accessFlags := 0x411 }
/-- [B -/
def k6 : Class := { plain "[B" (some 0) with kind := .array 5 .byte, interfaces := #[3, 4], accessFlags := 1041 }

/-- the primitive int -/
def k7 : Class := { plain "int" none with kind := .primitive 'I', accessFlags := 0x411 }
/-- [I -/
def k8 : Class := { plain "[I" (some 0) with kind := .array 7 .int, interfaces := #[3, 4], accessFlags := 1041 }

def heap : Heap := #[]
def classes : Array Class := #[k0, k1, k2, k3, k4, k5, k6, k7, k8]
def interned : List (Array UInt16 × Addr) := []
def slotsUsed : Nat := 0
def theMethod : MethodId := ⟨1, 2⟩
def args0 : Array Value := #[.int 5, .int 7]
def aboutOver (below : List Frame) : State where
  vm := { classes := classes, interned := interned.toArray }
  heap := heap
  slotsUsed := slotsUsed
  threads := #[{ frames := .invoking theMethod args0 :: below }]
def below0 : List Frame := [.native { method := ⟨0, 0⟩, args := #[] }]
def about1 : State := aboutOver below0
def p0 : Program := .bare "" "" ""
def e0 : Env := launch0.env 0 0 0
theorem w_frames : about1.frames = Frame.invoking theMethod args0 :: below0 := rfl
set_option maxRecDepth 65536 in
theorem w_args : argsFit about1.vm theMethod args0 = true := by decide +kernel
set_option maxRecDepth 65536 in
theorem w_heap : heapFits about1 = true := by decide +kernel
set_option maxRecDepth 65536 in
theorem w_runnable : about1.curStatus? = some .runnable := by decide +kernel
set_option maxRecDepth 65536 in
theorem w_alone : about1.alone = true := by decide +kernel
set_option maxRecDepth 65536 in
theorem w_named : about1.methodNamed? x = some theMethod := by decide +kernel
set_option maxRecDepth 65536 in
theorem w_hears : about1.hears theMethod below0 = true := by decide +kernel
set_option maxRecDepth 65536 in
theorem w_ripe : about1.ripe theMethod args0 below0 = true := by decide +kernel
theorem w_running : about1.status = .running := rfl
set_option maxRecDepth 65536 in
theorem w_room : about1.hasRoom e0.platform room_1 = true :=
  launch0.hasRoom_least _ room_1 (by decide +kernel) (by decide +kernel) (by decide +kernel) (by decide +kernel) (by decide +kernel) (by decide +kernel)
theorem allAtoms_all (ts : List Jvm.Cond) (a : Array Jvm.Value) (st : Jvm.State) : (allAtoms ts).before a st = ts.all (fun c => c.before a st) := by
  induction ts with
  | nil => rfl
  | cons c t ih =>
    show (Jvm.Cond.and c (allAtoms t)).before a st = _
    rw [Jvm.Cond.before_and, ih, List.all_cons]
def words1 : List Jvm.Cond := Jvm.Cond.code x code maxLocals ret :: tables_1
/-- a 'code' word, met by the world's own term for the bytes: nothing is compared byte by byte -/
theorem code_word {y : MethodName} {bytes : ByteArray} {mx : Nat} {rt : Option FieldType} {a : Array Value} {s : State} {m : MethodId} {meth : Method} {c : Code} (h1 : s.methodNamed? y = some m) (h2 : s.vm.method? m = some meth) (h3 : meth.code = some c) (h4 : c.code = bytes)
    (h5 : (c.maxLocals == mx && c.exceptionTable.isEmpty && decide (c.maxStack ≤ mostOperands) && decide (meth.sig.returnType = rt) && !meth.locks && decide (parseMethodDescriptor y.desc = some meth.sig)) = true) : (Jvm.Cond.code y bytes mx rt).before a s = true := by
  simp only [Bool.and_eq_true, beq_iff_eq, Bool.not_eq_true', decide_eq_true_eq] at h5
  obtain ⟨⟨⟨⟨⟨g1, g2⟩, g3⟩, g4⟩, g5⟩, g6⟩ := h5
  simp [Cond.before, Cond.holds, Cond.value, h1, h2, h3, h4, g1, g2, g3, g4, g5, g6]
def isCode : Jvm.Cond → Bool
  | .code _ _ _ _ => true
  | _ => false
theorem all_split {L : List Jvm.Cond} {P : Jvm.Cond → Bool} (h1 : L.all (fun c => isCode c || P c) = true) (h2 : ∀ c ∈ L.filter isCode, P c = true) : L.all P = true := by
  refine List.all_eq_true.mpr fun c hc => ?_
  have h := List.all_eq_true.mp h1 c hc
  rcases Bool.eq_false_or_eq_true (isCode c) with hi | hi
  · exact h2 c (List.mem_filter.mpr ⟨hc, hi⟩)
  · simpa [hi] using h
set_option maxRecDepth 65536 in
theorem w_c0 : (Jvm.Cond.code x code maxLocals ret).before args0 about1 = true := code_word (m := ⟨1, 2⟩) (meth := k1m2) (c := k1c2) (by decide +kernel) rfl rfl rfl (by decide +kernel)
set_option maxRecDepth 65536 in
theorem w_c1 : (Jvm.Cond.code ({ cls := "com/example/casewright/casewright/formats/XmlScanner", name := "isCharacter", desc := "(I)Z" } : Jvm.MethodName) prog_142_method_33_code (1 : Nat) (Option.some Jvm.ClassFile.FieldType.boolean)).before args0 about1 = true := code_word (m := ⟨2, 1⟩) (meth := k2m1) (c := k2c1) (by decide +kernel) rfl rfl rfl (by decide +kernel)
set_option maxRecDepth 65536 in
theorem w_c2 : (Jvm.Cond.code ({ cls := "com/example/casewright/casewright/formats/XmlScannerIsCharacterPinLaw", name := "reference", desc := "(I)Z" } : Jvm.MethodName) method_2_code (1 : Nat) (Option.some Jvm.ClassFile.FieldType.boolean)).before args0 about1 = true := code_word (m := ⟨1, 1⟩) (meth := k1m1) (c := k1c1) (by decide +kernel) rfl rfl rfl (by decide +kernel)
def codes1 : List Jvm.Cond := [Jvm.Cond.code x code maxLocals ret, Jvm.Cond.code ({ cls := "com/example/casewright/casewright/formats/XmlScanner", name := "isCharacter", desc := "(I)Z" } : Jvm.MethodName) prog_142_method_33_code (1 : Nat) (Option.some Jvm.ClassFile.FieldType.boolean), Jvm.Cond.code ({ cls := "com/example/casewright/casewright/formats/XmlScannerIsCharacterPinLaw", name := "reference", desc := "(I)Z" } : Jvm.MethodName) method_2_code (1 : Nat) (Option.some Jvm.ClassFile.FieldType.boolean)]
set_option maxRecDepth 65536 in
theorem codes_eq : words1.filter isCode = codes1 := rfl
theorem w_codes : ∀ c ∈ words1.filter isCode, c.before args0 about1 = true := by
  rw [codes_eq]
  intro c hc
  simp only [codes1, List.mem_cons, List.not_mem_nil, or_false] at hc
  rcases hc with rfl | rfl | rfl
  · exact w_c0
  · exact w_c1
  · exact w_c2
set_option maxRecDepth 65536 in
theorem w_t1 : (words1.take 24).all (fun c => isCode c || c.before args0 about1) = true := by decide +kernel
set_option maxRecDepth 65536 in
theorem w_t2 : (words1.drop 24).all (fun c => isCode c || c.before args0 about1) = true := by decide +kernel
theorem w_tables : (allAtoms (Jvm.Cond.code x code maxLocals ret :: tables_1)).before args0 about1 = true := by
  rw [allAtoms_all]
  show words1.all (fun c => c.before args0 about1) = true
  refine all_split ?_ w_codes
  rw [← List.take_append_drop 24 words1, List.all_append, w_t1, w_t2]
  rfl
set_option maxRecDepth 65536 in
theorem w_case : (Jvm.Cond.and given_1 narrow_1).before args0 about1 = true := by decide +kernel
theorem w_applies : (headSpec (Jvm.Cond.code x code maxLocals ret :: tables_1) room_1).applies x e0.platform about1 = true :=
  (Spec.applies_iff w_frames).mpr ⟨w_running, w_runnable, w_alone, w_named, w_hears, w_ripe, w_room, w_tables⟩
theorem atStart : AtStart classFile x code maxLocals ret World_1 tables_1 room_1 Calls_1 rest_1 Pre_1 launch0 p0 e0 about1 theMethod args0 below0 :=
  ⟨lists_1, trivial, launch0.admits_env _ _ _, launch0.least_env, fairChoices_fair.cas, fairChoices_fair.clock, w_frames, w_args, w_heap, w_applies, trivial, trivial, w_case⟩
end start1
theorem witness_1 : WitnessClaimed_1 := ⟨start1.p0, start1.e0, start1.about1, start1.theMethod, start1.args0, start1.below0, start1.atStart⟩
end Jvm.Pilot.@@N@@
