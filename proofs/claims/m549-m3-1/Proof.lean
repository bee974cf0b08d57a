import JvmDerived
import JvmDerived.Pilot.@@N@@Statement
import JvmDerived.Pilot.@@N@@Code
set_option linter.unusedVariables false
set_option linter.unusedSimpArgs false
namespace Jvm.RoadKit
open Sem ClassFile Op Lib Jvm.Stand Jvm.Free Jvm.LawKit
section Own
variable {p : Program} {l : Launch} {e : Env} {R : Room} {s : State} {m : MethodId} {args : Array Value} {below : List Frame} {meth : Method} {c : Code} {T : State} {locs : List Loc} {cells slots : Nat}
/-- from S the run comes to the end of the call, and K holds there -/
def Go (p : Program) (e : Env) (below : List Frame) (K : State → Outcome → Prop) (S : State) : Prop := ∃ s₂ o, Steps p.tables e below S s₂ ∧ s₂.status = .running ∧ Ended s₂ below o ∧ K s₂ o
def Kq (s : State) (Q : Option Value → Heap → List Loc → Prop) (k n : Nat) (t : State) (o : Outcome) : Prop := ∃ v L, o = .returned v ∧ Q v t.heap L ∧ FrameEnd s o t L k n
theorem go {K : State → Outcome → Prop} {S S' : State} (h : ∀ t, Steps p.tables e below S' t → Steps p.tables e below S t) (g : Go p e below K S') : Go p e below K S := by
  obtain ⟨t, o, h1, h2⟩ := g
  exact ⟨t, o, h _ h1, h2⟩
theorem goOut (X : Stand p l e R s m args below meth c T locs cells slots) {Q : Option Value → Heap → List Loc → Prop} {k n : Nat} {S : State} {v : Option Value} (hv : meth.sig.returnType = none → v = none) (hlocks : meth.locks = false)
    (hs : ∀ fs, (∀ (f : JFrame) (acts : List Action), f.method = m → f.locked = none → f.entered = [] → (doReturn e (T.setTop f) acts v).1 = T.setFrames fs) → Steps p.tables e below S (T.setFrames fs))
    (hk : cells ≤ k) (hn : slots ≤ n) (hq : Q v T.heap locs) : Go p e below (Kq s Q k n) S := by
  obtain ⟨fs, hr, hrun, hended, hW, hsame⟩ := X.leave (v := v) hv hlocks
  exact ⟨_, _, hs fs hr, hrun, hended, _, _, rfl, hq, ⟨_, rfl⟩, hW, hsame.mono hk hn⟩
end Own
end Jvm.RoadKit
namespace Jvm.RoadKit
open Sem ClassFile Op Lib Jvm.Stand Jvm.Free Jvm.LawKit
section OwnArr
variable {p : Program} {l : Launch} {e : Env} {R : Room} {s : State} {m : MethodId} {args : Array Value} {below : List Frame} {meth : Method} {c : Code} {T : State} {locs : List Loc} {cells slots : Nat} {Z : State} {h h' : Heap} {a b : Addr} {ty : FieldType} {n : Nat} {f : Nat → Int32} {v : Value} {sl : Nat} {ws : List Addr}
/-- an array of n places, of a kind that lies on the stack as an int, that holds f -/
def IA (Z : State) (h : Heap) (a : Addr) (ty : FieldType) (n : Nat) (f : Nat → Int32) : Prop := ∃ c : Cell, Arr Z h a c ty ∧ c.slots.size = n ∧ ∀ j, j < n → c.slots[j]? = some (.int (f j))
def upI (f : Nat → Int32) (j : Nat) (x : Int32) : Nat → Int32 := fun i => if i = j then x else f i
theorem IA.lt (F : IA Z h a ty n f) : a < h.size := by obtain ⟨c, A, -⟩ := F; exact A.lt
theorem IA.ext (F : IA Z h a ty n f) (E : Ext h h') : IA Z h' a ty n f := by obtain ⟨c, A, r⟩ := F; exact ⟨c, A.ext E, r⟩
theorem IA.other (F : IA Z h b ty n f) (W : Wr h h' a sl v) (q : b ≠ a) : IA Z h' b ty n f := by obtain ⟨c, A, r⟩ := F; exact ⟨c, A.other W q, r⟩
theorem IA.keep (F : IA Z h a ty n f) (K : Keep h h' ws) (q : a ∉ ws) : IA Z h' a ty n f := by obtain ⟨c, A, r⟩ := F; exact ⟨c, ⟨K.2.1 a c A.1 q, A.2⟩, r⟩
theorem IA.new {k : ClassId} {z : Int32} (A : Arr Z h a (newA k ty z) ty) (q : z.toNatClampNeg = n) (hd : defaultValue ty = .int 0) : IA Z h a ty n (fun _ => 0) := by
  refine ⟨_, A, (sz_new _ _ _).trans q, fun j hj => ?_⟩
  simp [newA, hd, q, hj]
theorem IA.put {j x : Int32} {cl : Cell} (A : Arr Z h a cl ty) (S : cl.slots.size = n) (H : ∀ j, j < n → cl.slots[j]? = some (.int (f j))) (W : Wr h h' a j.toNatClampNeg (.int x)) : IA Z h' a ty n (upI f j.toNatClampNeg x) := by
  refine ⟨_, A.same W, by rw [sz_set]; exact S, fun i hi => ?_⟩
  by_cases q : i = j.toNatClampNeg
  · subst q; simp [upI, Cell.setSlot, S, hi]
  · rw [show (cl.setSlot j.toNatClampNeg (.int x)).slots[i]? = cl.slots[i]? from Array.getElem?_setIfInBounds_ne (Ne.symm q), H i hi]; simp [upI, q]
theorem in_of {j : Int32} {cl : Cell} (S : cl.slots.size = n) (hj : 0 ≤ j.toInt ∧ j.toInt < n) : ¬ (j < 0 ∨ cl.slots.size ≤ j.toNatClampNeg) := by
  have h0 : ¬ j < 0 := by rw [Int32.lt_iff_toInt_lt]; have : (0 : Int32).toInt = 0 := rfl; omega
  have h1 := nat_of h0
  rw [S]; intro q; rcases q with q | q
  · exact h0 q
  · omega
theorem nat_in {j : Int32} (hj : 0 ≤ j.toInt ∧ j.toInt < n) : j.toNatClampNeg < n := by
  have h0 : ¬ j < 0 := by rw [Int32.lt_iff_toInt_lt]; have : (0 : Int32).toInt = 0 := rfl; omega
  have h1 := nat_of h0; omega
theorem ldIA (X : Stand p l e R s m args below meth c T locs cells slots) (hx : p.tables.exec = Jvm.exec) (hZ : Z.Warmed39 s.vm) (eT : T.heap = h) (A : IA Z h a .int n f) {j : Int32} (hj : 0 ≤ j.toInt ∧ j.toInt < n) {g : JFrame} (hg : g.method = m) {rest : List Value} (hs : g.stack = .int j :: .ref a :: rest) (hd : decode c.code g.pc = .ok (.iaload, 1)) :
    ∀ target, Steps p.tables e below (T.setTop { g with pc := g.pc + 1, stack := .int (f j.toNatClampNeg) :: rest }) target → Steps p.tables e below (T.setTop g) target := by
  obtain ⟨cl, A, S, H⟩ := A
  exact X.iaload hx (by rw [eT]; exact A.1) (State.isArrayOf_alike hZ.alike A.2.1) A.2.2 (in_of S hj) (H _ (nat_in hj)) hg hs hd
theorem ldCA (X : Stand p l e R s m args below meth c T locs cells slots) (hx : p.tables.exec = Jvm.exec) (hZ : Z.Warmed39 s.vm) (eT : T.heap = h) (A : IA Z h a .char n f) {j : Int32} (hj : 0 ≤ j.toInt ∧ j.toInt < n) {g : JFrame} (hg : g.method = m) {rest : List Value} (hs : g.stack = .int j :: .ref a :: rest) (hd : decode c.code g.pc = .ok (.caload, 1)) :
    ∀ target, Steps p.tables e below (T.setTop { g with pc := g.pc + 1, stack := .int (f j.toNatClampNeg) :: rest }) target → Steps p.tables e below (T.setTop g) target := by
  obtain ⟨cl, A, S, H⟩ := A
  exact X.caload hx (by rw [eT]; exact A.1) (State.isArrayOf_alike hZ.alike A.2.1) A.2.2 (in_of S hj) (H _ (nat_in hj)) hg hs hd
theorem lenIA (X : Stand p l e R s m args below meth c T locs cells slots) (hx : p.tables.exec = Jvm.exec) (hZ : Z.Warmed39 s.vm) (eT : T.heap = h) (A : IA Z h a ty n f) {g : JFrame} (hg : g.method = m) {rest : List Value} (hs : g.stack = .ref a :: rest) (hd : decode c.code g.pc = .ok (.arraylength, 1)) :
    ∀ target, Steps p.tables e below (T.setTop { g with pc := g.pc + 1, stack := .int n.toInt32 :: rest }) target → Steps p.tables e below (T.setTop g) target := by
  obtain ⟨cl, A, S, H⟩ := A
  intro target k
  refine X.arraylength hx (by rw [eT]; exact A.1) (State.isArrayOf_alike hZ.alike A.2.1) hg hs hd target ?_
  rw [S]; exact k
theorem stIA (X : Stand p l e R s m args below meth c T locs cells slots) (hx : p.tables.exec = Jvm.exec) (hZ : Z.Warmed39 s.vm) (eT : T.heap = h) (A : IA Z h a .int n f) {j x : Int32} (hj : 0 ≤ j.toInt ∧ j.toInt < n) {g : JFrame} (hg : g.method = m) {rest : List Value} (hs : g.stack = .int x :: .int j :: .ref a :: rest) (hd : decode c.code g.pc = .ok (.iastore, 1)) :
    ∃ T' h', Stand p l e R s m args below meth c T' (locs ++ [⟨a, j.toNatClampNeg⟩]) cells slots ∧ T'.heap = h' ∧ Wr h h' a j.toNatClampNeg (.int x) ∧ IA Z h' a .int n (upI f j.toNatClampNeg x) ∧ ∀ target, Steps p.tables e below (T'.setTop { g with pc := g.pc + 1, stack := rest }) target → Steps p.tables e below (T.setTop g) target := by
  obtain ⟨cl, A, S, H⟩ := A
  obtain ⟨T', h', X', e', W, st⟩ := stI X hx hZ eT A (in_of S hj) hg hs hd
  exact ⟨T', h', X', e', W, IA.put A S H W, st⟩
theorem stCA (X : Stand p l e R s m args below meth c T locs cells slots) (hx : p.tables.exec = Jvm.exec) (hZ : Z.Warmed39 s.vm) (eT : T.heap = h) (A : IA Z h a .char n f) {j x : Int32} (hj : 0 ≤ j.toInt ∧ j.toInt < n) {g : JFrame} (hg : g.method = m) {rest : List Value} (hs : g.stack = .int x :: .int j :: .ref a :: rest) (hd : decode c.code g.pc = .ok (.castore, 1)) :
    ∃ T' h', Stand p l e R s m args below meth c T' (locs ++ [⟨a, j.toNatClampNeg⟩]) cells slots ∧ T'.heap = h' ∧ Wr h h' a j.toNatClampNeg (.int (nar .char x)) ∧ IA Z h' a .char n (upI f j.toNatClampNeg (nar .char x)) ∧ ∀ target, Steps p.tables e below (T'.setTop { g with pc := g.pc + 1, stack := rest }) target → Steps p.tables e below (T.setTop g) target := by
  obtain ⟨cl, A, S, H⟩ := A
  obtain ⟨T', h', X', e', W, st⟩ := stC X hx hZ eT A (in_of S hj) hg hs hd
  exact ⟨T', h', X', e', W, IA.put A S H W, st⟩
theorem stBA (X : Stand p l e R s m args below meth c T locs cells slots) (hx : p.tables.exec = Jvm.exec) (hZ : Z.Warmed39 s.vm) (eT : T.heap = h) (A : IA Z h a .byte n f) {j x : Int32} (hj : 0 ≤ j.toInt ∧ j.toInt < n) {g : JFrame} (hg : g.method = m) {rest : List Value} (hs : g.stack = .int x :: .int j :: .ref a :: rest) (hd : decode c.code g.pc = .ok (.bastore, 1)) :
    ∃ T' h', Stand p l e R s m args below meth c T' (locs ++ [⟨a, j.toNatClampNeg⟩]) cells slots ∧ T'.heap = h' ∧ Wr h h' a j.toNatClampNeg (.int (nar .byte x)) ∧ IA Z h' a .byte n (upI f j.toNatClampNeg (nar .byte x)) ∧ ∀ target, Steps p.tables e below (T'.setTop { g with pc := g.pc + 1, stack := rest }) target → Steps p.tables e below (T.setTop g) target := by
  obtain ⟨cl, A, S, H⟩ := A
  obtain ⟨T', h', X', e', W, st⟩ := stB X hx hZ eT A (in_of S hj) hg hs hd
  exact ⟨T', h', X', e', W, IA.put A S H W, st⟩
end OwnArr
end Jvm.RoadKit
namespace Jvm.Pilot.@@N@@
open Jvm Jvm.ClassFile Sem Op Lib Jvm.Free Jvm.Stand Jvm.LawKit Jvm.RoadKit Bundle Jvm.Pilot.@@N@@.Jvm.D
def own_sm (a : Addr) (f1 l1 : Int32) (b : Addr) (f2 l2 : Int32) : Int32 := if a = b ∧ f1 = f2 ∧ l1 = l2 then 1 else 0
theorem d1_0 : decode prog_15_method_4_code 0 = .ok (.aload_n 0, 1) := by decide +kernel
theorem d1_1 : decode prog_15_method_4_code 1 = .ok (.aload_n 3, 1) := by decide +kernel
theorem d1_2 : decode prog_15_method_4_code 2 = .ok (.if_acmp .ne 19, 3) := by decide +kernel
theorem d1_21 : decode prog_15_method_4_code 21 = .ok (.iconst 0, 1) := by decide +kernel
theorem d1_22 : decode prog_15_method_4_code 22 = .ok (.ireturn, 1) := by decide +kernel
theorem d1_5 : decode prog_15_method_4_code 5 = .ok (.iload_n 1, 1) := by decide +kernel
theorem d1_6 : decode prog_15_method_4_code 6 = .ok (.iload 4, 2) := by decide +kernel
theorem d1_8 : decode prog_15_method_4_code 8 = .ok (.if_icmp .ne 13, 3) := by decide +kernel
theorem d1_11 : decode prog_15_method_4_code 11 = .ok (.iload_n 2, 1) := by decide +kernel
theorem d1_12 : decode prog_15_method_4_code 12 = .ok (.iload 5, 2) := by decide +kernel
theorem d1_14 : decode prog_15_method_4_code 14 = .ok (.if_icmp .ne 7, 3) := by decide +kernel
theorem d1_17 : decode prog_15_method_4_code 17 = .ok (.iconst 1, 1) := by decide +kernel
theorem d1_18 : decode prog_15_method_4_code 18 = .ok (.goto 4, 3) := by decide +kernel
theorem pn_com_example_longhand_longhand_kernels_Limbs : plainName "com/example/longhand/longhand/kernels/Limbs" = true := by first | (simp [plainName, overriddenIn]; done) | decide +kernel
theorem ef_rm1 (m : MethodId) (x0 : Addr) (x1 : Int32) (x2 : Int32) (x3 : Addr) (x4 : Int32) (x5 : Int32) : entryFrame m #[(.ref x0), (.int x1), (.int x2), (.ref x3), (.int x4), (.int x5)] 6 = mkF m 0 #[.val (.ref x0), .val (.int x1), .val (.int x2), .val (.ref x3), .val (.int x4), .val (.int x5)] [] := by first | (simp [entryFrame, mkF, argsToLocals, Value.category]; done) | rfl
def Q1 (Z : State) (a0' : Addr) (p1 : Int32) (p2 : Int32) (a3 : Addr) (p4 : Int32) (p5 : Int32) (h0 : Heap) (n0 : Nat) (v : Option Value) (h : Heap) (L : List Loc) : Prop := v = some (.int (own_sm a0' p1 p2 a3 p4 p5)) ∧ Fr n0 L ∧ h = h0
set_option maxRecDepth 65536 in
set_option maxHeartbeats 40000000 in
theorem rm1 (l : Launch) (Z : State) (a0 : Array Value) (hw : ∀ d ∈ tables_1, d.before a0 Z = true) (ws : List Jvm.Cond) (a0' : Addr) (p1 : Int32) (p2 : Int32) (a3 : Addr) (p4 : Int32) (p5 : Int32)  (h0 : Heap) (n0 : Nat) (Z0 : n0 ≤ h0.size)  :
    MetFree l (⟨"com/example/longhand/longhand/kernels/Limbs", "same", "([III[III)Z"⟩ : MethodName) (head1 (Jvm.Cond.code (⟨"com/example/longhand/longhand/kernels/Limbs", "same", "([III[III)Z"⟩ : MethodName) prog_15_method_4_code 6 (some .boolean) :: ws) ({ frames := 0, cells := 0, slots := 0, locals := 0 } : Room)) (fun av' U => av' = #[(.ref a0'), (.int p1), (.int p2), (.ref a3), (.int p4), (.int p5)] ∧ Z.Warmed39 U.vm ∧ U.heap = h0) (fun _ _ _ _ _ => True) (fun _ U o U' => ∃ v L, o = .returned v ∧ Q1 Z a0' p1 p2 a3 p4 p5 h0 n0 v U'.heap L ∧ FrameEnd U o U' L ({ frames := 0, cells := 0, slots := 0, locals := 0 } : Room).cells ({ frames := 0, cells := 0, slots := 0, locals := 0 } : Room).slots) := by
  refine MetFree.of_bodySF (plainFor_of_name pn_com_example_longhand_longhand_kernels_Limbs) hisR ?_
  intro p e s m args below meth c s₁ Bd hml0 hP hK
  obtain ⟨rfl, hZ, hh⟩ := hP
  have hx := Bd.exec
  have hby := Bd.bytes
  have hlk := Bd.notSynchronized
  have hml : c.maxLocals = 6 := hml0
  have hown : s.vm.findClass "com/example/longhand/longhand/kernels/Limbs" = some m.cls := findClass_of_methodNamed Bd.named
  have hnm := (name_of_methodNamed Bd.named Bd.method).1
  have X0 : Stand p l e ({ frames := 0, cells := 0, slots := 0, locals := 0 } : Room) s m #[(.ref a0'), (.int p1), (.int p2), (.ref a3), (.int p4), (.int p5)] below meth c s₁ [] 0 0 := Stand.of_body Bd
  have e0 : s₁.heap = h0 := by rw [← hh, Bd.state]; rfl
  have N0 := Fr.nil n0
  show Go p e below (Kq s (Q1 Z a0' p1 p2 a3 p4 p5 h0 n0) ({ frames := 0, cells := 0, slots := 0, locals := 0 } : Room).cells ({ frames := 0, cells := 0, slots := 0, locals := 0 } : Room).slots) _
  refine go (fun t k => castTop (ef_rm1 m a0' p1 p2 a3 p4 p5) k) ?_
  show Go p e below _ (s₁.setTop (mkF m 0 #[.val (.ref a0'), .val (.int p1), .val (.int p2), .val (.ref a3), .val (.int p4), .val (.int p5)] []))
  refine go (fun t k => by refine XS.aloadN X0.here hx rfl (hb hby d1_0) rfl rfl ?_; exact k) ?_
  show Go p e below _ (s₁.setTop (mkF m 1 #[.val (.ref a0'), .val (.int p1), .val (.int p2), .val (.ref a3), .val (.int p4), .val (.int p5)] [(.ref a0')]))
  refine go (fun t k => by refine XS.aloadN X0.here hx rfl (hb hby d1_1) rfl rfl ?_; exact k) ?_
  show Go p e below _ (s₁.setTop (mkF m 2 #[.val (.ref a0'), .val (.int p1), .val (.int p2), .val (.ref a3), .val (.int p4), .val (.int p5)] [(.ref a3), (.ref a0')]))
  by_cases c2_1 : ¬ a0' = a3
  · skip
    refine go (fun t k => by refine XS.acmpYes X0.here hx rfl (pc0 := 2) (pc' := 21) rfl (hb hby d1_2) rfl (by simp [if_acmp.holds, c2_1]) (by decide) (by decide) ?_; exact k) ?_
    show Go p e below _ (s₁.setTop (mkF m 21 #[.val (.ref a0'), .val (.int p1), .val (.int p2), .val (.ref a3), .val (.int p4), .val (.int p5)] []))
    refine go (fun t k => by refine XS.iconst X0.here hx rfl (hb hby d1_21) ?_; exact k) ?_
    show Go p e below _ (s₁.setTop (mkF m 22 #[.val (.ref a0'), .val (.int p1), .val (.int p2), .val (.ref a3), .val (.int p4), .val (.int p5)] [(.int (0 : Int32))]))
    refine goOut X0 (fun h => by rw [Bd.returns] at h; cases h) hlk (fun fs hr => retN X0 hx (t := .boolean) Bd.returns (by simp) (hb hby d1_22) hr) (by decide) (by decide) ?_
    rw [e0]
    exact ⟨by simp [own_sm, c2_1, nar], N0, rfl⟩
  · skip
    refine go (fun t k => by refine XS.acmpNo X0.here hx rfl (hb hby d1_2) rfl (by simp [if_acmp.holds, Decidable.not_not.mp c2_1]) ?_; exact k) ?_
    show Go p e below _ (s₁.setTop (mkF m 5 #[.val (.ref a0'), .val (.int p1), .val (.int p2), .val (.ref a3), .val (.int p4), .val (.int p5)] []))
    refine go (fun t k => by refine XS.iloadN X0.here hx rfl (hb hby d1_5) rfl ?_; exact k) ?_
    show Go p e below _ (s₁.setTop (mkF m 6 #[.val (.ref a0'), .val (.int p1), .val (.int p2), .val (.ref a3), .val (.int p4), .val (.int p5)] [(.int p1)]))
    refine go (fun t k => by refine XS.iload X0.here hx rfl (hb hby d1_6) rfl ?_; exact k) ?_
    show Go p e below _ (s₁.setTop (mkF m 8 #[.val (.ref a0'), .val (.int p1), .val (.int p2), .val (.ref a3), .val (.int p4), .val (.int p5)] [(.int p4), (.int p1)]))
    by_cases c8_2 : ¬ p1 = p4
    · skip
      refine go (fun t k => by refine XS.icmpYes X0.here hx rfl (pc0 := 8) (pc' := 21) rfl (hb hby d1_8) rfl (feq c8_2).2 (by decide) (by decide) ?_; exact k) ?_
      show Go p e below _ (s₁.setTop (mkF m 21 #[.val (.ref a0'), .val (.int p1), .val (.int p2), .val (.ref a3), .val (.int p4), .val (.int p5)] []))
      refine go (fun t k => by refine XS.iconst X0.here hx rfl (hb hby d1_21) ?_; exact k) ?_
      show Go p e below _ (s₁.setTop (mkF m 22 #[.val (.ref a0'), .val (.int p1), .val (.int p2), .val (.ref a3), .val (.int p4), .val (.int p5)] [(.int (0 : Int32))]))
      refine goOut X0 (fun h => by rw [Bd.returns] at h; cases h) hlk (fun fs hr => retN X0 hx (t := .boolean) Bd.returns (by simp) (hb hby d1_22) hr) (by decide) (by decide) ?_
      rw [e0]
      exact ⟨by simp [own_sm, c2_1, c8_2, nar], N0, rfl⟩
    · skip
      refine go (fun t k => by refine XS.icmpNo X0.here hx rfl (hb hby d1_8) rfl (teq (Decidable.not_not.mp c8_2)).2 ?_; exact k) ?_
      show Go p e below _ (s₁.setTop (mkF m 11 #[.val (.ref a0'), .val (.int p1), .val (.int p2), .val (.ref a3), .val (.int p4), .val (.int p5)] []))
      refine go (fun t k => by refine XS.iloadN X0.here hx rfl (hb hby d1_11) rfl ?_; exact k) ?_
      show Go p e below _ (s₁.setTop (mkF m 12 #[.val (.ref a0'), .val (.int p1), .val (.int p2), .val (.ref a3), .val (.int p4), .val (.int p5)] [(.int p2)]))
      refine go (fun t k => by refine XS.iload X0.here hx rfl (hb hby d1_12) rfl ?_; exact k) ?_
      show Go p e below _ (s₁.setTop (mkF m 14 #[.val (.ref a0'), .val (.int p1), .val (.int p2), .val (.ref a3), .val (.int p4), .val (.int p5)] [(.int p5), (.int p2)]))
      by_cases c14_3 : ¬ p2 = p5
      · skip
        refine go (fun t k => by refine XS.icmpYes X0.here hx rfl (pc0 := 14) (pc' := 21) rfl (hb hby d1_14) rfl (feq c14_3).2 (by decide) (by decide) ?_; exact k) ?_
        show Go p e below _ (s₁.setTop (mkF m 21 #[.val (.ref a0'), .val (.int p1), .val (.int p2), .val (.ref a3), .val (.int p4), .val (.int p5)] []))
        refine go (fun t k => by refine XS.iconst X0.here hx rfl (hb hby d1_21) ?_; exact k) ?_
        show Go p e below _ (s₁.setTop (mkF m 22 #[.val (.ref a0'), .val (.int p1), .val (.int p2), .val (.ref a3), .val (.int p4), .val (.int p5)] [(.int (0 : Int32))]))
        refine goOut X0 (fun h => by rw [Bd.returns] at h; cases h) hlk (fun fs hr => retN X0 hx (t := .boolean) Bd.returns (by simp) (hb hby d1_22) hr) (by decide) (by decide) ?_
        rw [e0]
        exact ⟨by simp [own_sm, c2_1, c8_2, c14_3, nar], N0, rfl⟩
      · skip
        refine go (fun t k => by refine XS.icmpNo X0.here hx rfl (hb hby d1_14) rfl (teq (Decidable.not_not.mp c14_3)).2 ?_; exact k) ?_
        show Go p e below _ (s₁.setTop (mkF m 17 #[.val (.ref a0'), .val (.int p1), .val (.int p2), .val (.ref a3), .val (.int p4), .val (.int p5)] []))
        refine go (fun t k => by refine XS.iconst X0.here hx rfl (hb hby d1_17) ?_; exact k) ?_
        show Go p e below _ (s₁.setTop (mkF m 18 #[.val (.ref a0'), .val (.int p1), .val (.int p2), .val (.ref a3), .val (.int p4), .val (.int p5)] [(.int (1 : Int32))]))
        refine go (fun t k => by refine XS.goto X0.here hx rfl (pc0 := 18) (pc' := 22) rfl (hb hby d1_18) (by decide) (by decide) ?_; exact k) ?_
        show Go p e below _ (s₁.setTop (mkF m 22 #[.val (.ref a0'), .val (.int p1), .val (.int p2), .val (.ref a3), .val (.int p4), .val (.int p5)] [(.int (1 : Int32))]))
        refine goOut X0 (fun h => by rw [Bd.returns] at h; cases h) hlk (fun fs hr => retN X0 hx (t := .boolean) Bd.returns (by simp) (hb hby d1_22) hr) (by decide) (by decide) ?_
        rw [e0]
        exact ⟨by simp [own_sm, c2_1, c8_2, c14_3, nar], N0, rfl⟩
theorem pd_0 : parseMethodDescriptor "([III[III)Z" = some ⟨[(.array .int), .int, .int, (.array .int), .int, .int], some .boolean⟩ := by decide +kernel
theorem pn_com_example_longhand_longhand_kernels_LimbsSamePinLaw : plainName "com/example/longhand/longhand/kernels/LimbsSamePinLaw" = true := by first | (simp [plainName, overriddenIn]; done) | decide +kernel
theorem ef_rm0 (m : MethodId) (x0 : Int32) (x1 : Int32) (x2 : Int32) (x3 : Int32) (x4 : Int32) : entryFrame m #[(.int x0), (.int x1), (.int x2), (.int x3), (.int x4)] maxLocals = mkF m 0 #[.val (.int x0), .val (.int x1), .val (.int x2), .val (.int x3), .val (.int x4), .unset, .unset, .unset, .unset, .unset, .unset, .unset, .unset, .unset] [] := by first | (simp [entryFrame, mkF, argsToLocals, Value.category, maxLocals]; done) | rfl
def Q0 (Z : State) (p0 : Int32) (p1 : Int32) (p2 : Int32) (p3 : Int32) (p4 : Int32) (h0 : Heap) (n0 : Nat) (v : Option Value) (h : Heap) (L : List Loc) : Prop := v = some (.int 1) ∧ Fr n0 L
set_option maxRecDepth 65536 in
set_option maxHeartbeats 40000000 in
theorem rm0 (l : Launch) (Z : State) (a0 : Array Value) (hw : ∀ d ∈ tables_1, d.before a0 Z = true) (ws : List Jvm.Cond) (p0 : Int32) (p1 : Int32) (p2 : Int32) (p3 : Int32) (p4 : Int32)  (h0 : Heap) (n0 : Nat) (Z0 : n0 ≤ h0.size)  :
    MetFree l x (head1 (Jvm.Cond.code x code maxLocals ret :: ws) room_1) (fun av' U => av' = #[(.int p0), (.int p1), (.int p2), (.int p3), (.int p4)] ∧ Z.Warmed39 U.vm ∧ U.heap = h0) (fun _ _ _ _ _ => True) (fun _ U o U' => ∃ v L, o = .returned v ∧ Q0 Z p0 p1 p2 p3 p4 h0 n0 v U'.heap L ∧ FrameEnd U o U' L room_1.cells room_1.slots) := by
  refine MetFree.of_bodySF (plainFor_of_name pn_com_example_longhand_longhand_kernels_LimbsSamePinLaw) hisR ?_
  intro p e s m args below meth c s₁ Bd hml0 hP hK
  obtain ⟨rfl, hZ, hh⟩ := hP
  have hx := Bd.exec
  have hby := Bd.bytes
  have hlk := Bd.notSynchronized
  have hml : c.maxLocals = 14 := hml0
  have hown : s.vm.findClass "com/example/longhand/longhand/kernels/LimbsSamePinLaw" = some m.cls := findClass_of_methodNamed Bd.named
  have hnm := (name_of_methodNamed Bd.named Bd.method).1
  have X0 : Stand p l e room_1 s m #[(.int p0), (.int p1), (.int p2), (.int p3), (.int p4)] below meth c s₁ [] 0 0 := Stand.of_body Bd
  have e0 : s₁.heap = h0 := by rw [← hh, Bd.state]; rfl
  have N0 := Fr.nil n0
  show Go p e below (Kq s (Q0 Z p0 p1 p2 p3 p4 h0 n0) room_1.cells room_1.slots) _
  refine go (fun t k => castTop (ef_rm0 m p0 p1 p2 p3 p4) k) ?_
  show Go p e below _ (s₁.setTop (mkF m 0 #[.val (.int p0), .val (.int p1), .val (.int p2), .val (.int p3), .val (.int p4), .unset, .unset, .unset, .unset, .unset, .unset, .unset, .unset, .unset] []))
  refine go (fun t k => by refine XS.iconst X0.here hx rfl (hb hby at_0) ?_; exact k) ?_
  show Go p e below _ (s₁.setTop (mkF m 1 #[.val (.int p0), .val (.int p1), .val (.int p2), .val (.int p3), .val (.int p4), .unset, .unset, .unset, .unset, .unset, .unset, .unset, .unset, .unset] [(.int (2 : Int32))]))
  obtain ⟨T1, h1, k1, X1, e1, E1, A1, st1⟩ := newP X0 hx hZ (hw _ (List.mem_of_getElem? (i := 0) rfl)) e0 (g := (mkF m 1 #[.val (.int p0), .val (.int p1), .val (.int p2), .val (.int p3), .val (.int p4), .unset, .unset, .unset, .unset, .unset, .unset, .unset, .unset, .unset] [(.int (2 : Int32))])) rfl (hb hby at_1) rfl (by decide) (cap := 2) (by decide) (by decide) (by decide) (by decide)
  obtain ⟨b1, g1⟩ : ∃ z, z = h0.size := ⟨_, rfl⟩
  have n0_b1 : n0 ≤ b1 := Nat.le_trans Z0 (Nat.le_of_eq g1.symm)
  rw [← g1] at A1 st1
  have f2_Z := Nat.le_trans Z0 E1.1
  have V1 : IA Z h1 b1 .int 2 (fun _ => 0) := IA.new A1 rfl rfl
  refine go st1 ?_
  show Go p e below _ (T1.setTop (mkF m 3 #[.val (.int p0), .val (.int p1), .val (.int p2), .val (.int p3), .val (.int p4), .unset, .unset, .unset, .unset, .unset, .unset, .unset, .unset, .unset] [(.ref b1)]))
  refine go (fun t k => by refine XS.astore X1.here hx rfl (hb hby at_3) rfl rfl (l' := #[.val (.int p0), .val (.int p1), .val (.int p2), .val (.int p3), .val (.int p4), .val (.ref b1), .unset, .unset, .unset, .unset, .unset, .unset, .unset, .unset]) rfl ?_; exact k) ?_
  show Go p e below _ (T1.setTop (mkF m 5 #[.val (.int p0), .val (.int p1), .val (.int p2), .val (.int p3), .val (.int p4), .val (.ref b1), .unset, .unset, .unset, .unset, .unset, .unset, .unset, .unset] []))
  refine go (fun t k => by refine XS.iconst X1.here hx rfl (hb hby at_5) ?_; exact k) ?_
  show Go p e below _ (T1.setTop (mkF m 6 #[.val (.int p0), .val (.int p1), .val (.int p2), .val (.int p3), .val (.int p4), .val (.ref b1), .unset, .unset, .unset, .unset, .unset, .unset, .unset, .unset] [(.int (2 : Int32))]))
  obtain ⟨T3, h3, k3, X3, e3, E3, A3, st3⟩ := newP X1 hx hZ (hw _ (List.mem_of_getElem? (i := 0) rfl)) e1 (g := (mkF m 6 #[.val (.int p0), .val (.int p1), .val (.int p2), .val (.int p3), .val (.int p4), .val (.ref b1), .unset, .unset, .unset, .unset, .unset, .unset, .unset, .unset] [(.int (2 : Int32))])) rfl (hb hby at_6) rfl (by decide) (cap := 2) (by decide) (by decide) (by decide) (by decide)
  obtain ⟨b3, g3⟩ : ∃ z, z = h1.size := ⟨_, rfl⟩
  have n0_b3 : n0 ≤ b3 := Nat.le_trans f2_Z (Nat.le_of_eq g3.symm)
  have ne3_b1_b3 : b1 ≠ b3 := Nat.ne_of_lt (Nat.lt_of_lt_of_le V1.lt (Nat.le_of_eq g3.symm))
  rw [← g3] at A3 st3
  have f4_Z := Nat.le_trans f2_Z E3.1
  have f5_A_b1 := V1.ext E3
  have V3 : IA Z h3 b3 .int 2 (fun _ => 0) := IA.new A3 rfl rfl
  refine go st3 ?_
  show Go p e below _ (T3.setTop (mkF m 8 #[.val (.int p0), .val (.int p1), .val (.int p2), .val (.int p3), .val (.int p4), .val (.ref b1), .unset, .unset, .unset, .unset, .unset, .unset, .unset, .unset] [(.ref b3)]))
  refine go (fun t k => by refine XS.astore X3.here hx rfl (hb hby at_8) rfl rfl (l' := #[.val (.int p0), .val (.int p1), .val (.int p2), .val (.int p3), .val (.int p4), .val (.ref b1), .val (.ref b3), .unset, .unset, .unset, .unset, .unset, .unset, .unset]) rfl ?_; exact k) ?_
  show Go p e below _ (T3.setTop (mkF m 10 #[.val (.int p0), .val (.int p1), .val (.int p2), .val (.int p3), .val (.int p4), .val (.ref b1), .val (.ref b3), .unset, .unset, .unset, .unset, .unset, .unset, .unset] []))
  refine go (fun t k => by refine XS.iloadN X3.here hx rfl (hb hby at_10) rfl ?_; exact k) ?_
  show Go p e below _ (T3.setTop (mkF m 11 #[.val (.int p0), .val (.int p1), .val (.int p2), .val (.int p3), .val (.int p4), .val (.ref b1), .val (.ref b3), .unset, .unset, .unset, .unset, .unset, .unset, .unset] [(.int p0)]))
  refine go (fun t k => by refine XS.iconst X3.here hx rfl (hb hby at_11) ?_; exact k) ?_
  show Go p e below _ (T3.setTop (mkF m 12 #[.val (.int p0), .val (.int p1), .val (.int p2), .val (.int p3), .val (.int p4), .val (.ref b1), .val (.ref b3), .unset, .unset, .unset, .unset, .unset, .unset, .unset] [(.int (1 : Int32)), (.int p0)]))
  refine go (fun t k => by refine XS.iand X3.here hx rfl (hb hby at_12) rfl ?_; exact k) ?_
  show Go p e below _ (T3.setTop (mkF m 13 #[.val (.int p0), .val (.int p1), .val (.int p2), .val (.int p3), .val (.int p4), .val (.ref b1), .val (.ref b3), .unset, .unset, .unset, .unset, .unset, .unset, .unset] [(.int (p0 &&& (1 : Int32)))]))
  refine go (fun t k => by refine XS.istore X3.here hx rfl (hb hby at_13) rfl (l' := #[.val (.int p0), .val (.int p1), .val (.int p2), .val (.int p3), .val (.int p4), .val (.ref b1), .val (.ref b3), .val (.int (p0 &&& (1 : Int32))), .unset, .unset, .unset, .unset, .unset, .unset]) rfl ?_; exact k) ?_
  show Go p e below _ (T3.setTop (mkF m 15 #[.val (.int p0), .val (.int p1), .val (.int p2), .val (.int p3), .val (.int p4), .val (.ref b1), .val (.ref b3), .val (.int (p0 &&& (1 : Int32))), .unset, .unset, .unset, .unset, .unset, .unset] []))
  refine go (fun t k => by refine XS.iloadN X3.here hx rfl (hb hby at_15) rfl ?_; exact k) ?_
  show Go p e below _ (T3.setTop (mkF m 16 #[.val (.int p0), .val (.int p1), .val (.int p2), .val (.int p3), .val (.int p4), .val (.ref b1), .val (.ref b3), .val (.int (p0 &&& (1 : Int32))), .unset, .unset, .unset, .unset, .unset, .unset] [(.int p0)]))
  refine go (fun t k => by refine XS.iconst X3.here hx rfl (hb hby at_16) ?_; exact k) ?_
  show Go p e below _ (T3.setTop (mkF m 17 #[.val (.int p0), .val (.int p1), .val (.int p2), .val (.int p3), .val (.int p4), .val (.ref b1), .val (.ref b3), .val (.int (p0 &&& (1 : Int32))), .unset, .unset, .unset, .unset, .unset, .unset] [(.int (1 : Int32)), (.int p0)]))
  refine go (fun t k => by refine XS.iushr X3.here hx rfl (hb hby at_17) rfl ?_; exact k) ?_
  show Go p e below _ (T3.setTop (mkF m 18 #[.val (.int p0), .val (.int p1), .val (.int p2), .val (.int p3), .val (.int p4), .val (.ref b1), .val (.ref b3), .val (.int (p0 &&& (1 : Int32))), .unset, .unset, .unset, .unset, .unset, .unset] [(.int ((p0.toUInt32 >>> ((1 : Int32) &&& 31).toUInt32).toInt32))]))
  refine go (fun t k => by refine XS.iconst X3.here hx rfl (hb hby at_18) ?_; exact k) ?_
  show Go p e below _ (T3.setTop (mkF m 19 #[.val (.int p0), .val (.int p1), .val (.int p2), .val (.int p3), .val (.int p4), .val (.ref b1), .val (.ref b3), .val (.int (p0 &&& (1 : Int32))), .unset, .unset, .unset, .unset, .unset, .unset] [(.int (1 : Int32)), (.int ((p0.toUInt32 >>> ((1 : Int32) &&& 31).toUInt32).toInt32))]))
  refine go (fun t k => by refine XS.iand X3.here hx rfl (hb hby at_19) rfl ?_; exact k) ?_
  show Go p e below _ (T3.setTop (mkF m 20 #[.val (.int p0), .val (.int p1), .val (.int p2), .val (.int p3), .val (.int p4), .val (.ref b1), .val (.ref b3), .val (.int (p0 &&& (1 : Int32))), .unset, .unset, .unset, .unset, .unset, .unset] [(.int (((p0.toUInt32 >>> ((1 : Int32) &&& 31).toUInt32).toInt32) &&& (1 : Int32)))]))
  refine go (fun t k => by refine XS.istore X3.here hx rfl (hb hby at_20) rfl (l' := #[.val (.int p0), .val (.int p1), .val (.int p2), .val (.int p3), .val (.int p4), .val (.ref b1), .val (.ref b3), .val (.int (p0 &&& (1 : Int32))), .val (.int (((p0.toUInt32 >>> ((1 : Int32) &&& 31).toUInt32).toInt32) &&& (1 : Int32))), .unset, .unset, .unset, .unset, .unset]) rfl ?_; exact k) ?_
  show Go p e below _ (T3.setTop (mkF m 22 #[.val (.int p0), .val (.int p1), .val (.int p2), .val (.int p3), .val (.int p4), .val (.ref b1), .val (.ref b3), .val (.int (p0 &&& (1 : Int32))), .val (.int (((p0.toUInt32 >>> ((1 : Int32) &&& 31).toUInt32).toInt32) &&& (1 : Int32))), .unset, .unset, .unset, .unset, .unset] []))
  generalize hsa : (p0 &&& (1 : Int32)) = sa
  generalize hsb : (((p0.toUInt32 >>> ((1 : Int32) &&& 31).toUInt32).toInt32) &&& (1 : Int32)) = sb
  have o_sa : sa = 0 ∨ sa = 1 := hsa ▸ and_one _
  have o_sb : sb = 0 ∨ sb = 1 := hsb ▸ and_one _
  show Go p e below _ (T3.setTop (mkF m 22 #[.val (.int p0), .val (.int p1), .val (.int p2), .val (.int p3), .val (.int p4), .val (.ref b1), .val (.ref b3), .val (.int sa), .val (.int sb), .unset, .unset, .unset, .unset, .unset] []))
  refine go (fun t k => by refine XS.iload X3.here hx rfl (hb hby at_22) rfl ?_; exact k) ?_
  show Go p e below _ (T3.setTop (mkF m 24 #[.val (.int p0), .val (.int p1), .val (.int p2), .val (.int p3), .val (.int p4), .val (.ref b1), .val (.ref b3), .val (.int sa), .val (.int sb), .unset, .unset, .unset, .unset, .unset] [(.int sa)]))
  by_cases c24_6 : ¬ sa = (0 : Int32)
  · skip
    refine go (fun t k => by refine XS.ifYes X3.here hx rfl (pc0 := 24) (pc' := 32) rfl (hb hby at_24) rfl ((if0 _ _).trans (feq c24_6).2) (by decide) (by decide) ?_; exact k) ?_
    show Go p e below _ (T3.setTop (mkF m 32 #[.val (.int p0), .val (.int p1), .val (.int p2), .val (.int p3), .val (.int p4), .val (.ref b1), .val (.ref b3), .val (.int sa), .val (.int sb), .unset, .unset, .unset, .unset, .unset] []))
    refine go (fun t k => by refine XS.aload X3.here hx rfl (hb hby at_32) rfl rfl ?_; exact k) ?_
    show Go p e below _ (T3.setTop (mkF m 34 #[.val (.int p0), .val (.int p1), .val (.int p2), .val (.int p3), .val (.int p4), .val (.ref b1), .val (.ref b3), .val (.int sa), .val (.int sb), .unset, .unset, .unset, .unset, .unset] [(.ref b3)]))
    refine go (fun t k => by refine XS.astore X3.here hx rfl (hb hby at_34) rfl rfl (l' := #[.val (.int p0), .val (.int p1), .val (.int p2), .val (.int p3), .val (.int p4), .val (.ref b1), .val (.ref b3), .val (.int sa), .val (.int sb), .val (.ref b3), .unset, .unset, .unset, .unset]) rfl ?_; exact k) ?_
    show Go p e below _ (T3.setTop (mkF m 36 #[.val (.int p0), .val (.int p1), .val (.int p2), .val (.int p3), .val (.int p4), .val (.ref b1), .val (.ref b3), .val (.int sa), .val (.int sb), .val (.ref b3), .unset, .unset, .unset, .unset] []))
    refine go (fun t k => by refine XS.iload X3.here hx rfl (hb hby at_36) rfl ?_; exact k) ?_
    show Go p e below _ (T3.setTop (mkF m 38 #[.val (.int p0), .val (.int p1), .val (.int p2), .val (.int p3), .val (.int p4), .val (.ref b1), .val (.ref b3), .val (.int sa), .val (.int sb), .val (.ref b3), .unset, .unset, .unset, .unset] [(.int sb)]))
    by_cases c38_7 : ¬ sb = (0 : Int32)
    · skip
      refine go (fun t k => by refine XS.ifYes X3.here hx rfl (pc0 := 38) (pc' := 46) rfl (hb hby at_38) rfl ((if0 _ _).trans (feq c38_7).2) (by decide) (by decide) ?_; exact k) ?_
      show Go p e below _ (T3.setTop (mkF m 46 #[.val (.int p0), .val (.int p1), .val (.int p2), .val (.int p3), .val (.int p4), .val (.ref b1), .val (.ref b3), .val (.int sa), .val (.int sb), .val (.ref b3), .unset, .unset, .unset, .unset] []))
      refine go (fun t k => by refine XS.aload X3.here hx rfl (hb hby at_46) rfl rfl ?_; exact k) ?_
      show Go p e below _ (T3.setTop (mkF m 48 #[.val (.int p0), .val (.int p1), .val (.int p2), .val (.int p3), .val (.int p4), .val (.ref b1), .val (.ref b3), .val (.int sa), .val (.int sb), .val (.ref b3), .unset, .unset, .unset, .unset] [(.ref b3)]))
      refine go (fun t k => by refine XS.astore X3.here hx rfl (hb hby at_48) rfl rfl (l' := #[.val (.int p0), .val (.int p1), .val (.int p2), .val (.int p3), .val (.int p4), .val (.ref b1), .val (.ref b3), .val (.int sa), .val (.int sb), .val (.ref b3), .val (.ref b3), .unset, .unset, .unset]) rfl ?_; exact k) ?_
      show Go p e below _ (T3.setTop (mkF m 50 #[.val (.int p0), .val (.int p1), .val (.int p2), .val (.int p3), .val (.int p4), .val (.ref b1), .val (.ref b3), .val (.int sa), .val (.int sb), .val (.ref b3), .val (.ref b3), .unset, .unset, .unset] []))
      refine go (fun t k => by refine XS.iloadN X3.here hx rfl (hb hby at_50) rfl ?_; exact k) ?_
      show Go p e below _ (T3.setTop (mkF m 51 #[.val (.int p0), .val (.int p1), .val (.int p2), .val (.int p3), .val (.int p4), .val (.ref b1), .val (.ref b3), .val (.int sa), .val (.int sb), .val (.ref b3), .val (.ref b3), .unset, .unset, .unset] [(.int p0)]))
      refine go (fun t k => by refine XS.iconst X3.here hx rfl (hb hby at_51) ?_; exact k) ?_
      show Go p e below _ (T3.setTop (mkF m 52 #[.val (.int p0), .val (.int p1), .val (.int p2), .val (.int p3), .val (.int p4), .val (.ref b1), .val (.ref b3), .val (.int sa), .val (.int sb), .val (.ref b3), .val (.ref b3), .unset, .unset, .unset] [(.int (4 : Int32)), (.int p0)]))
      refine go (fun t k => by refine XS.iand X3.here hx rfl (hb hby at_52) rfl ?_; exact k) ?_
      show Go p e below _ (T3.setTop (mkF m 53 #[.val (.int p0), .val (.int p1), .val (.int p2), .val (.int p3), .val (.int p4), .val (.ref b1), .val (.ref b3), .val (.int sa), .val (.int sb), .val (.ref b3), .val (.ref b3), .unset, .unset, .unset] [(.int (p0 &&& (4 : Int32)))]))
      have J61_8 : ∀ bF : Int32, Go p e below (Kq s (Q0 Z p0 p1 p2 p3 p4 h0 n0) room_1.cells room_1.slots) (T3.setTop (mkF m 61 #[.val (.int p0), .val (.int p1), .val (.int p2), .val (.int p3), .val (.int p4), .val (.ref b1), .val (.ref b3), .val (.int sa), .val (.int sb), .val (.ref b3), .val (.ref b3), .unset, .unset, .unset] [(.int bF)])) := by
        intro bF
        show Go p e below _ (T3.setTop (mkF m 61 #[.val (.int p0), .val (.int p1), .val (.int p2), .val (.int p3), .val (.int p4), .val (.ref b1), .val (.ref b3), .val (.int sa), .val (.int sb), .val (.ref b3), .val (.ref b3), .unset, .unset, .unset] [(.int bF)]))
        refine go (fun t k => by refine XS.istore X3.here hx rfl (hb hby at_61) rfl (l' := #[.val (.int p0), .val (.int p1), .val (.int p2), .val (.int p3), .val (.int p4), .val (.ref b1), .val (.ref b3), .val (.int sa), .val (.int sb), .val (.ref b3), .val (.ref b3), .val (.int bF), .unset, .unset]) rfl ?_; exact k) ?_
        show Go p e below _ (T3.setTop (mkF m 63 #[.val (.int p0), .val (.int p1), .val (.int p2), .val (.int p3), .val (.int p4), .val (.ref b1), .val (.ref b3), .val (.int sa), .val (.int sb), .val (.ref b3), .val (.ref b3), .val (.int bF), .unset, .unset] []))
        refine go (fun t k => by refine XS.iloadN X3.here hx rfl (hb hby at_63) rfl ?_; exact k) ?_
        show Go p e below _ (T3.setTop (mkF m 64 #[.val (.int p0), .val (.int p1), .val (.int p2), .val (.int p3), .val (.int p4), .val (.ref b1), .val (.ref b3), .val (.int sa), .val (.int sb), .val (.ref b3), .val (.ref b3), .val (.int bF), .unset, .unset] [(.int p0)]))
        refine go (fun t k => by refine XS.bipush X3.here hx rfl (hb hby at_64) ?_; exact k) ?_
        show Go p e below _ (T3.setTop (mkF m 66 #[.val (.int p0), .val (.int p1), .val (.int p2), .val (.int p3), .val (.int p4), .val (.ref b1), .val (.ref b3), .val (.int sa), .val (.int sb), .val (.ref b3), .val (.ref b3), .val (.int bF), .unset, .unset] [(.int (8 : Int32)), (.int p0)]))
        refine go (fun t k => by refine XS.iand X3.here hx rfl (hb hby at_66) rfl ?_; exact k) ?_
        show Go p e below _ (T3.setTop (mkF m 67 #[.val (.int p0), .val (.int p1), .val (.int p2), .val (.int p3), .val (.int p4), .val (.ref b1), .val (.ref b3), .val (.int sa), .val (.int sb), .val (.ref b3), .val (.ref b3), .val (.int bF), .unset, .unset] [(.int (p0 &&& (8 : Int32)))]))
        have J76_9 : ∀ bL : Int32, Go p e below (Kq s (Q0 Z p0 p1 p2 p3 p4 h0 n0) room_1.cells room_1.slots) (T3.setTop (mkF m 76 #[.val (.int p0), .val (.int p1), .val (.int p2), .val (.int p3), .val (.int p4), .val (.ref b1), .val (.ref b3), .val (.int sa), .val (.int sb), .val (.ref b3), .val (.ref b3), .val (.int bF), .unset, .unset] [(.int bL)])) := by
          intro bL
          show Go p e below _ (T3.setTop (mkF m 76 #[.val (.int p0), .val (.int p1), .val (.int p2), .val (.int p3), .val (.int p4), .val (.ref b1), .val (.ref b3), .val (.int sa), .val (.int sb), .val (.ref b3), .val (.ref b3), .val (.int bF), .unset, .unset] [(.int bL)]))
          refine go (fun t k => by refine XS.istore X3.here hx rfl (hb hby at_76) rfl (l' := #[.val (.int p0), .val (.int p1), .val (.int p2), .val (.int p3), .val (.int p4), .val (.ref b1), .val (.ref b3), .val (.int sa), .val (.int sb), .val (.ref b3), .val (.ref b3), .val (.int bF), .val (.int bL), .unset]) rfl ?_; exact k) ?_
          show Go p e below _ (T3.setTop (mkF m 78 #[.val (.int p0), .val (.int p1), .val (.int p2), .val (.int p3), .val (.int p4), .val (.ref b1), .val (.ref b3), .val (.int sa), .val (.int sb), .val (.ref b3), .val (.ref b3), .val (.int bF), .val (.int bL), .unset] []))
          refine go (fun t k => by refine XS.iload X3.here hx rfl (hb hby at_78) rfl ?_; exact k) ?_
          show Go p e below _ (T3.setTop (mkF m 80 #[.val (.int p0), .val (.int p1), .val (.int p2), .val (.int p3), .val (.int p4), .val (.ref b1), .val (.ref b3), .val (.int sa), .val (.int sb), .val (.ref b3), .val (.ref b3), .val (.int bF), .val (.int bL), .unset] [(.int sa)]))
          refine go (fun t k => by refine XS.iload X3.here hx rfl (hb hby at_80) rfl ?_; exact k) ?_
          show Go p e below _ (T3.setTop (mkF m 82 #[.val (.int p0), .val (.int p1), .val (.int p2), .val (.int p3), .val (.int p4), .val (.ref b1), .val (.ref b3), .val (.int sa), .val (.int sb), .val (.ref b3), .val (.ref b3), .val (.int bF), .val (.int bL), .unset] [(.int sb), (.int sa)]))
          have hab : sa = sb := by
            rcases o_sa with q | q <;> rcases o_sb with r | r <;> subst q <;> subst r <;> first | rfl | (exfalso; revert c24_6 c38_7; decide)
          have J102_10 : ∀ ex : Int32, (ex = (if sa = sb ∧ p1 = bF ∧ p2 = bL then 1 else 0)) → Go p e below (Kq s (Q0 Z p0 p1 p2 p3 p4 h0 n0) room_1.cells room_1.slots) (T3.setTop (mkF m 102 #[.val (.int p0), .val (.int p1), .val (.int p2), .val (.int p3), .val (.int p4), .val (.ref b1), .val (.ref b3), .val (.int sa), .val (.int sb), .val (.ref b3), .val (.ref b3), .val (.int bF), .val (.int bL), .unset] [(.int ex)])) := by
            intro ex hex
            show Go p e below _ (T3.setTop (mkF m 102 #[.val (.int p0), .val (.int p1), .val (.int p2), .val (.int p3), .val (.int p4), .val (.ref b1), .val (.ref b3), .val (.int sa), .val (.int sb), .val (.ref b3), .val (.ref b3), .val (.int bF), .val (.int bL), .unset] [(.int ex)]))
            refine go (fun t k => by refine XS.istore X3.here hx rfl (hb hby at_102) rfl (l' := #[.val (.int p0), .val (.int p1), .val (.int p2), .val (.int p3), .val (.int p4), .val (.ref b1), .val (.ref b3), .val (.int sa), .val (.int sb), .val (.ref b3), .val (.ref b3), .val (.int bF), .val (.int bL), .val (.int ex)]) rfl ?_; exact k) ?_
            show Go p e below _ (T3.setTop (mkF m 104 #[.val (.int p0), .val (.int p1), .val (.int p2), .val (.int p3), .val (.int p4), .val (.ref b1), .val (.ref b3), .val (.int sa), .val (.int sb), .val (.ref b3), .val (.ref b3), .val (.int bF), .val (.int bL), .val (.int ex)] []))
            refine go (fun t k => by refine XS.aload X3.here hx rfl (hb hby at_104) rfl rfl ?_; exact k) ?_
            show Go p e below _ (T3.setTop (mkF m 106 #[.val (.int p0), .val (.int p1), .val (.int p2), .val (.int p3), .val (.int p4), .val (.ref b1), .val (.ref b3), .val (.int sa), .val (.int sb), .val (.ref b3), .val (.ref b3), .val (.int bF), .val (.int bL), .val (.int ex)] [(.ref b3)]))
            refine go (fun t k => by refine XS.iloadN X3.here hx rfl (hb hby at_106) rfl ?_; exact k) ?_
            show Go p e below _ (T3.setTop (mkF m 107 #[.val (.int p0), .val (.int p1), .val (.int p2), .val (.int p3), .val (.int p4), .val (.ref b1), .val (.ref b3), .val (.int sa), .val (.int sb), .val (.ref b3), .val (.ref b3), .val (.int bF), .val (.int bL), .val (.int ex)] [(.int p1), (.ref b3)]))
            refine go (fun t k => by refine XS.iloadN X3.here hx rfl (hb hby at_107) rfl ?_; exact k) ?_
            show Go p e below _ (T3.setTop (mkF m 108 #[.val (.int p0), .val (.int p1), .val (.int p2), .val (.int p3), .val (.int p4), .val (.ref b1), .val (.ref b3), .val (.int sa), .val (.int sb), .val (.ref b3), .val (.ref b3), .val (.int bF), .val (.int bL), .val (.int ex)] [(.int p2), (.int p1), (.ref b3)]))
            refine go (fun t k => by refine XS.aload X3.here hx rfl (hb hby at_108) rfl rfl ?_; exact k) ?_
            show Go p e below _ (T3.setTop (mkF m 110 #[.val (.int p0), .val (.int p1), .val (.int p2), .val (.int p3), .val (.int p4), .val (.ref b1), .val (.ref b3), .val (.int sa), .val (.int sb), .val (.ref b3), .val (.ref b3), .val (.int bF), .val (.int bL), .val (.int ex)] [(.ref b3), (.int p2), (.int p1), (.ref b3)]))
            refine go (fun t k => by refine XS.iload X3.here hx rfl (hb hby at_110) rfl ?_; exact k) ?_
            show Go p e below _ (T3.setTop (mkF m 112 #[.val (.int p0), .val (.int p1), .val (.int p2), .val (.int p3), .val (.int p4), .val (.ref b1), .val (.ref b3), .val (.int sa), .val (.int sb), .val (.ref b3), .val (.ref b3), .val (.int bF), .val (.int bL), .val (.int ex)] [(.int bF), (.ref b3), (.int p2), (.int p1), (.ref b3)]))
            refine go (fun t k => by refine XS.iload X3.here hx rfl (hb hby at_112) rfl ?_; exact k) ?_
            show Go p e below _ (T3.setTop (mkF m 114 #[.val (.int p0), .val (.int p1), .val (.int p2), .val (.int p3), .val (.int p4), .val (.ref b1), .val (.ref b3), .val (.int sa), .val (.int sb), .val (.ref b3), .val (.ref b3), .val (.int bF), .val (.int bL), .val (.int ex)] [(.int bL), (.int bF), (.ref b3), (.int p2), (.int p1), (.ref b3)]))
            obtain ⟨_, _, ⟨T11, L11, k11, n11⟩, -, X11, ⟨Lc11, hQ11, l11, y11, z11⟩, st11⟩ := Jvm.LawKit.callS X3 hx (y := (⟨"com/example/longhand/longhand/kernels/Limbs", "same", "([III[III)Z"⟩ : MethodName)) hown (mvT hZ (hw _ (List.mem_of_getElem? (i := 1) rfl))) (mvT hZ (hw _ (List.mem_of_getElem? (i := 2) rfl))) (mvT hZ (hw _ (List.mem_of_getElem? (i := 3) rfl))) (mvT hZ (hw _ (List.mem_of_getElem? (i := 4) rfl))) (by decide) (backOf (W := 0) (rm1 l Z a0 hw [] b3 p1 p2 b3 bF bL h3 n0 f4_Z) hZ (hw _ (List.mem_of_getElem? (i := 4) rfl)) (hw _ (List.mem_of_getElem? (i := 3) rfl)) (by decide) (by decide)) (g := (mkF m 114 #[.val (.int p0), .val (.int p1), .val (.int p2), .val (.int p3), .val (.int p4), .val (.ref b1), .val (.ref b3), .val (.int sa), .val (.int sb), .val (.ref b3), .val (.ref b3), .val (.int bF), .val (.int bL), .val (.int ex)] [(.int bL), (.int bF), (.ref b3), (.int p2), (.int p1), (.ref b3)])) rfl (by rw [hml]; rfl) (argsL := [(.ref b3), (.int p1), (.int p2), (.ref b3), (.int bF), (.int bL)]) (rest := []) (lenOf pd_0 rfl) rfl (by show 2 * 0 + _ ≤ _; exact Nat.le_of_eq rfl) (hb hby at_114) (fun _ _ => ⟨rfl, e3, (by decide : 2 + 0 ≤ _), (by decide : 4 + 0 ≤ _)⟩)
            dsimp only [Pt.U, Pt.locs, Pt.cells, Pt.slots] at X11 l11 y11 z11 st11 hQ11
            subst l11 y11 z11
            obtain ⟨rfl, N11q, e11⟩ := hQ11
            have N11 := Fr.app N0 N11q
            refine go st11 ?_
            show Go p e below _ (T11.setTop (mkF m 117 #[.val (.int p0), .val (.int p1), .val (.int p2), .val (.int p3), .val (.int p4), .val (.ref b1), .val (.ref b3), .val (.int sa), .val (.int sb), .val (.ref b3), .val (.ref b3), .val (.int bF), .val (.int bL), .val (.int ex)] [(.int (own_sm b3 p1 p2 b3 bF bL))]))
            refine go (fun t k => by refine XS.iload X11.here hx rfl (hb hby at_117) rfl ?_; exact k) ?_
            show Go p e below _ (T11.setTop (mkF m 119 #[.val (.int p0), .val (.int p1), .val (.int p2), .val (.int p3), .val (.int p4), .val (.ref b1), .val (.ref b3), .val (.int sa), .val (.int sb), .val (.ref b3), .val (.ref b3), .val (.int bF), .val (.int bL), .val (.int ex)] [(.int ex), (.int (own_sm b3 p1 p2 b3 bF bL))]))
            have c119_12 : ¬ (¬ (own_sm b3 p1 p2 b3 bF bL) = ex) := not_not_intro (by rw [hex]; simp [own_sm, hab])
            refine go (fun t k => by refine XS.icmpNo X11.here hx rfl (hb hby at_119) rfl (teq (Decidable.not_not.mp c119_12)).2 ?_; exact k) ?_
            show Go p e below _ (T11.setTop (mkF m 122 #[.val (.int p0), .val (.int p1), .val (.int p2), .val (.int p3), .val (.int p4), .val (.ref b1), .val (.ref b3), .val (.int sa), .val (.int sb), .val (.ref b3), .val (.ref b3), .val (.int bF), .val (.int bL), .val (.int ex)] []))
            refine go (fun t k => by refine XS.iconst X11.here hx rfl (hb hby at_122) ?_; exact k) ?_
            show Go p e below _ (T11.setTop (mkF m 123 #[.val (.int p0), .val (.int p1), .val (.int p2), .val (.int p3), .val (.int p4), .val (.ref b1), .val (.ref b3), .val (.int sa), .val (.int sb), .val (.ref b3), .val (.ref b3), .val (.int bF), .val (.int bL), .val (.int ex)] [(.int (1 : Int32))]))
            refine go (fun t k => by refine XS.goto X11.here hx rfl (pc0 := 123) (pc' := 127) rfl (hb hby at_123) (by decide) (by decide) ?_; exact k) ?_
            show Go p e below _ (T11.setTop (mkF m 127 #[.val (.int p0), .val (.int p1), .val (.int p2), .val (.int p3), .val (.int p4), .val (.ref b1), .val (.ref b3), .val (.int sa), .val (.int sb), .val (.ref b3), .val (.ref b3), .val (.int bF), .val (.int bL), .val (.int ex)] [(.int (1 : Int32))]))
            refine goOut X11 (fun h => by rw [Bd.returns] at h; cases h) hlk (fun fs hr => retN X11 hx (t := .boolean) Bd.returns (by simp) (hb hby at_127) hr) (by decide) (by decide) ?_
            rw [e11]
            exact ⟨rfl, N11⟩
          by_cases c82_13 : ¬ sa = sb
          · skip
            refine go (fun t k => by refine XS.icmpYes X3.here hx rfl (pc0 := 82) (pc' := 101) rfl (hb hby at_82) rfl (feq c82_13).2 (by decide) (by decide) ?_; exact k) ?_
            show Go p e below _ (T3.setTop (mkF m 101 #[.val (.int p0), .val (.int p1), .val (.int p2), .val (.int p3), .val (.int p4), .val (.ref b1), .val (.ref b3), .val (.int sa), .val (.int sb), .val (.ref b3), .val (.ref b3), .val (.int bF), .val (.int bL), .unset] []))
            refine go (fun t k => by refine XS.iconst X3.here hx rfl (hb hby at_101) ?_; exact k) ?_
            show Go p e below _ (T3.setTop (mkF m 102 #[.val (.int p0), .val (.int p1), .val (.int p2), .val (.int p3), .val (.int p4), .val (.ref b1), .val (.ref b3), .val (.int sa), .val (.int sb), .val (.ref b3), .val (.ref b3), .val (.int bF), .val (.int bL), .unset] [(.int (0 : Int32))]))
            exact J102_10 _ (by simp [c82_13])
          · skip
            refine go (fun t k => by refine XS.icmpNo X3.here hx rfl (hb hby at_82) rfl (teq (Decidable.not_not.mp c82_13)).2 ?_; exact k) ?_
            show Go p e below _ (T3.setTop (mkF m 85 #[.val (.int p0), .val (.int p1), .val (.int p2), .val (.int p3), .val (.int p4), .val (.ref b1), .val (.ref b3), .val (.int sa), .val (.int sb), .val (.ref b3), .val (.ref b3), .val (.int bF), .val (.int bL), .unset] []))
            refine go (fun t k => by refine XS.iloadN X3.here hx rfl (hb hby at_85) rfl ?_; exact k) ?_
            show Go p e below _ (T3.setTop (mkF m 86 #[.val (.int p0), .val (.int p1), .val (.int p2), .val (.int p3), .val (.int p4), .val (.ref b1), .val (.ref b3), .val (.int sa), .val (.int sb), .val (.ref b3), .val (.ref b3), .val (.int bF), .val (.int bL), .unset] [(.int p1)]))
            refine go (fun t k => by refine XS.iload X3.here hx rfl (hb hby at_86) rfl ?_; exact k) ?_
            show Go p e below _ (T3.setTop (mkF m 88 #[.val (.int p0), .val (.int p1), .val (.int p2), .val (.int p3), .val (.int p4), .val (.ref b1), .val (.ref b3), .val (.int sa), .val (.int sb), .val (.ref b3), .val (.ref b3), .val (.int bF), .val (.int bL), .unset] [(.int bF), (.int p1)]))
            by_cases c88_14 : ¬ p1 = bF
            · skip
              refine go (fun t k => by refine XS.icmpYes X3.here hx rfl (pc0 := 88) (pc' := 101) rfl (hb hby at_88) rfl (feq c88_14).2 (by decide) (by decide) ?_; exact k) ?_
              show Go p e below _ (T3.setTop (mkF m 101 #[.val (.int p0), .val (.int p1), .val (.int p2), .val (.int p3), .val (.int p4), .val (.ref b1), .val (.ref b3), .val (.int sa), .val (.int sb), .val (.ref b3), .val (.ref b3), .val (.int bF), .val (.int bL), .unset] []))
              refine go (fun t k => by refine XS.iconst X3.here hx rfl (hb hby at_101) ?_; exact k) ?_
              show Go p e below _ (T3.setTop (mkF m 102 #[.val (.int p0), .val (.int p1), .val (.int p2), .val (.int p3), .val (.int p4), .val (.ref b1), .val (.ref b3), .val (.int sa), .val (.int sb), .val (.ref b3), .val (.ref b3), .val (.int bF), .val (.int bL), .unset] [(.int (0 : Int32))]))
              exact J102_10 _ (by simp [c82_13, c88_14])
            · skip
              refine go (fun t k => by refine XS.icmpNo X3.here hx rfl (hb hby at_88) rfl (teq (Decidable.not_not.mp c88_14)).2 ?_; exact k) ?_
              show Go p e below _ (T3.setTop (mkF m 91 #[.val (.int p0), .val (.int p1), .val (.int p2), .val (.int p3), .val (.int p4), .val (.ref b1), .val (.ref b3), .val (.int sa), .val (.int sb), .val (.ref b3), .val (.ref b3), .val (.int bF), .val (.int bL), .unset] []))
              refine go (fun t k => by refine XS.iloadN X3.here hx rfl (hb hby at_91) rfl ?_; exact k) ?_
              show Go p e below _ (T3.setTop (mkF m 92 #[.val (.int p0), .val (.int p1), .val (.int p2), .val (.int p3), .val (.int p4), .val (.ref b1), .val (.ref b3), .val (.int sa), .val (.int sb), .val (.ref b3), .val (.ref b3), .val (.int bF), .val (.int bL), .unset] [(.int p2)]))
              refine go (fun t k => by refine XS.iload X3.here hx rfl (hb hby at_92) rfl ?_; exact k) ?_
              show Go p e below _ (T3.setTop (mkF m 94 #[.val (.int p0), .val (.int p1), .val (.int p2), .val (.int p3), .val (.int p4), .val (.ref b1), .val (.ref b3), .val (.int sa), .val (.int sb), .val (.ref b3), .val (.ref b3), .val (.int bF), .val (.int bL), .unset] [(.int bL), (.int p2)]))
              by_cases c94_15 : ¬ p2 = bL
              · skip
                refine go (fun t k => by refine XS.icmpYes X3.here hx rfl (pc0 := 94) (pc' := 101) rfl (hb hby at_94) rfl (feq c94_15).2 (by decide) (by decide) ?_; exact k) ?_
                show Go p e below _ (T3.setTop (mkF m 101 #[.val (.int p0), .val (.int p1), .val (.int p2), .val (.int p3), .val (.int p4), .val (.ref b1), .val (.ref b3), .val (.int sa), .val (.int sb), .val (.ref b3), .val (.ref b3), .val (.int bF), .val (.int bL), .unset] []))
                refine go (fun t k => by refine XS.iconst X3.here hx rfl (hb hby at_101) ?_; exact k) ?_
                show Go p e below _ (T3.setTop (mkF m 102 #[.val (.int p0), .val (.int p1), .val (.int p2), .val (.int p3), .val (.int p4), .val (.ref b1), .val (.ref b3), .val (.int sa), .val (.int sb), .val (.ref b3), .val (.ref b3), .val (.int bF), .val (.int bL), .unset] [(.int (0 : Int32))]))
                exact J102_10 _ (by simp [c82_13, c88_14, c94_15])
              · skip
                refine go (fun t k => by refine XS.icmpNo X3.here hx rfl (hb hby at_94) rfl (teq (Decidable.not_not.mp c94_15)).2 ?_; exact k) ?_
                show Go p e below _ (T3.setTop (mkF m 97 #[.val (.int p0), .val (.int p1), .val (.int p2), .val (.int p3), .val (.int p4), .val (.ref b1), .val (.ref b3), .val (.int sa), .val (.int sb), .val (.ref b3), .val (.ref b3), .val (.int bF), .val (.int bL), .unset] []))
                refine go (fun t k => by refine XS.iconst X3.here hx rfl (hb hby at_97) ?_; exact k) ?_
                show Go p e below _ (T3.setTop (mkF m 98 #[.val (.int p0), .val (.int p1), .val (.int p2), .val (.int p3), .val (.int p4), .val (.ref b1), .val (.ref b3), .val (.int sa), .val (.int sb), .val (.ref b3), .val (.ref b3), .val (.int bF), .val (.int bL), .unset] [(.int (1 : Int32))]))
                refine go (fun t k => by refine XS.goto X3.here hx rfl (pc0 := 98) (pc' := 102) rfl (hb hby at_98) (by decide) (by decide) ?_; exact k) ?_
                show Go p e below _ (T3.setTop (mkF m 102 #[.val (.int p0), .val (.int p1), .val (.int p2), .val (.int p3), .val (.int p4), .val (.ref b1), .val (.ref b3), .val (.int sa), .val (.int sb), .val (.ref b3), .val (.ref b3), .val (.int bF), .val (.int bL), .unset] [(.int (1 : Int32))]))
                exact J102_10 _ (by simp [c82_13, c88_14, c94_15])
        by_cases c67_16 : (p0 &&& (8 : Int32)) = (0 : Int32)
        · skip
          refine go (fun t k => by refine XS.ifYes X3.here hx rfl (pc0 := 67) (pc' := 74) rfl (hb hby at_67) rfl ((if0 _ _).trans (teq c67_16).1) (by decide) (by decide) ?_; exact k) ?_
          show Go p e below _ (T3.setTop (mkF m 74 #[.val (.int p0), .val (.int p1), .val (.int p2), .val (.int p3), .val (.int p4), .val (.ref b1), .val (.ref b3), .val (.int sa), .val (.int sb), .val (.ref b3), .val (.ref b3), .val (.int bF), .unset, .unset] []))
          refine go (fun t k => by refine XS.iload X3.here hx rfl (hb hby at_74) rfl ?_; exact k) ?_
          show Go p e below _ (T3.setTop (mkF m 76 #[.val (.int p0), .val (.int p1), .val (.int p2), .val (.int p3), .val (.int p4), .val (.ref b1), .val (.ref b3), .val (.int sa), .val (.int sb), .val (.ref b3), .val (.ref b3), .val (.int bF), .unset, .unset] [(.int p4)]))
          exact J76_9 _
        · skip
          refine go (fun t k => by refine XS.ifNo X3.here hx rfl (hb hby at_67) rfl ((if0 _ _).trans (feq c67_16).1) ?_; exact k) ?_
          show Go p e below _ (T3.setTop (mkF m 70 #[.val (.int p0), .val (.int p1), .val (.int p2), .val (.int p3), .val (.int p4), .val (.ref b1), .val (.ref b3), .val (.int sa), .val (.int sb), .val (.ref b3), .val (.ref b3), .val (.int bF), .unset, .unset] []))
          refine go (fun t k => by refine XS.iloadN X3.here hx rfl (hb hby at_70) rfl ?_; exact k) ?_
          show Go p e below _ (T3.setTop (mkF m 71 #[.val (.int p0), .val (.int p1), .val (.int p2), .val (.int p3), .val (.int p4), .val (.ref b1), .val (.ref b3), .val (.int sa), .val (.int sb), .val (.ref b3), .val (.ref b3), .val (.int bF), .unset, .unset] [(.int p2)]))
          refine go (fun t k => by refine XS.goto X3.here hx rfl (pc0 := 71) (pc' := 76) rfl (hb hby at_71) (by decide) (by decide) ?_; exact k) ?_
          show Go p e below _ (T3.setTop (mkF m 76 #[.val (.int p0), .val (.int p1), .val (.int p2), .val (.int p3), .val (.int p4), .val (.ref b1), .val (.ref b3), .val (.int sa), .val (.int sb), .val (.ref b3), .val (.ref b3), .val (.int bF), .unset, .unset] [(.int p2)]))
          exact J76_9 _
      by_cases c53_17 : (p0 &&& (4 : Int32)) = (0 : Int32)
      · skip
        refine go (fun t k => by refine XS.ifYes X3.here hx rfl (pc0 := 53) (pc' := 60) rfl (hb hby at_53) rfl ((if0 _ _).trans (teq c53_17).1) (by decide) (by decide) ?_; exact k) ?_
        show Go p e below _ (T3.setTop (mkF m 60 #[.val (.int p0), .val (.int p1), .val (.int p2), .val (.int p3), .val (.int p4), .val (.ref b1), .val (.ref b3), .val (.int sa), .val (.int sb), .val (.ref b3), .val (.ref b3), .unset, .unset, .unset] []))
        refine go (fun t k => by refine XS.iloadN X3.here hx rfl (hb hby at_60) rfl ?_; exact k) ?_
        show Go p e below _ (T3.setTop (mkF m 61 #[.val (.int p0), .val (.int p1), .val (.int p2), .val (.int p3), .val (.int p4), .val (.ref b1), .val (.ref b3), .val (.int sa), .val (.int sb), .val (.ref b3), .val (.ref b3), .unset, .unset, .unset] [(.int p3)]))
        exact J61_8 _
      · skip
        refine go (fun t k => by refine XS.ifNo X3.here hx rfl (hb hby at_53) rfl ((if0 _ _).trans (feq c53_17).1) ?_; exact k) ?_
        show Go p e below _ (T3.setTop (mkF m 56 #[.val (.int p0), .val (.int p1), .val (.int p2), .val (.int p3), .val (.int p4), .val (.ref b1), .val (.ref b3), .val (.int sa), .val (.int sb), .val (.ref b3), .val (.ref b3), .unset, .unset, .unset] []))
        refine go (fun t k => by refine XS.iloadN X3.here hx rfl (hb hby at_56) rfl ?_; exact k) ?_
        show Go p e below _ (T3.setTop (mkF m 57 #[.val (.int p0), .val (.int p1), .val (.int p2), .val (.int p3), .val (.int p4), .val (.ref b1), .val (.ref b3), .val (.int sa), .val (.int sb), .val (.ref b3), .val (.ref b3), .unset, .unset, .unset] [(.int p1)]))
        refine go (fun t k => by refine XS.goto X3.here hx rfl (pc0 := 57) (pc' := 61) rfl (hb hby at_57) (by decide) (by decide) ?_; exact k) ?_
        show Go p e below _ (T3.setTop (mkF m 61 #[.val (.int p0), .val (.int p1), .val (.int p2), .val (.int p3), .val (.int p4), .val (.ref b1), .val (.ref b3), .val (.int sa), .val (.int sb), .val (.ref b3), .val (.ref b3), .unset, .unset, .unset] [(.int p1)]))
        exact J61_8 _
    · skip
      refine go (fun t k => by refine XS.ifNo X3.here hx rfl (hb hby at_38) rfl ((if0 _ _).trans (teq (Decidable.not_not.mp c38_7)).2) ?_; exact k) ?_
      show Go p e below _ (T3.setTop (mkF m 41 #[.val (.int p0), .val (.int p1), .val (.int p2), .val (.int p3), .val (.int p4), .val (.ref b1), .val (.ref b3), .val (.int sa), .val (.int sb), .val (.ref b3), .unset, .unset, .unset, .unset] []))
      refine go (fun t k => by refine XS.aload X3.here hx rfl (hb hby at_41) rfl rfl ?_; exact k) ?_
      show Go p e below _ (T3.setTop (mkF m 43 #[.val (.int p0), .val (.int p1), .val (.int p2), .val (.int p3), .val (.int p4), .val (.ref b1), .val (.ref b3), .val (.int sa), .val (.int sb), .val (.ref b3), .unset, .unset, .unset, .unset] [(.ref b1)]))
      refine go (fun t k => by refine XS.goto X3.here hx rfl (pc0 := 43) (pc' := 48) rfl (hb hby at_43) (by decide) (by decide) ?_; exact k) ?_
      show Go p e below _ (T3.setTop (mkF m 48 #[.val (.int p0), .val (.int p1), .val (.int p2), .val (.int p3), .val (.int p4), .val (.ref b1), .val (.ref b3), .val (.int sa), .val (.int sb), .val (.ref b3), .unset, .unset, .unset, .unset] [(.ref b1)]))
      refine go (fun t k => by refine XS.astore X3.here hx rfl (hb hby at_48) rfl rfl (l' := #[.val (.int p0), .val (.int p1), .val (.int p2), .val (.int p3), .val (.int p4), .val (.ref b1), .val (.ref b3), .val (.int sa), .val (.int sb), .val (.ref b3), .val (.ref b1), .unset, .unset, .unset]) rfl ?_; exact k) ?_
      show Go p e below _ (T3.setTop (mkF m 50 #[.val (.int p0), .val (.int p1), .val (.int p2), .val (.int p3), .val (.int p4), .val (.ref b1), .val (.ref b3), .val (.int sa), .val (.int sb), .val (.ref b3), .val (.ref b1), .unset, .unset, .unset] []))
      refine go (fun t k => by refine XS.iloadN X3.here hx rfl (hb hby at_50) rfl ?_; exact k) ?_
      show Go p e below _ (T3.setTop (mkF m 51 #[.val (.int p0), .val (.int p1), .val (.int p2), .val (.int p3), .val (.int p4), .val (.ref b1), .val (.ref b3), .val (.int sa), .val (.int sb), .val (.ref b3), .val (.ref b1), .unset, .unset, .unset] [(.int p0)]))
      refine go (fun t k => by refine XS.iconst X3.here hx rfl (hb hby at_51) ?_; exact k) ?_
      show Go p e below _ (T3.setTop (mkF m 52 #[.val (.int p0), .val (.int p1), .val (.int p2), .val (.int p3), .val (.int p4), .val (.ref b1), .val (.ref b3), .val (.int sa), .val (.int sb), .val (.ref b3), .val (.ref b1), .unset, .unset, .unset] [(.int (4 : Int32)), (.int p0)]))
      refine go (fun t k => by refine XS.iand X3.here hx rfl (hb hby at_52) rfl ?_; exact k) ?_
      show Go p e below _ (T3.setTop (mkF m 53 #[.val (.int p0), .val (.int p1), .val (.int p2), .val (.int p3), .val (.int p4), .val (.ref b1), .val (.ref b3), .val (.int sa), .val (.int sb), .val (.ref b3), .val (.ref b1), .unset, .unset, .unset] [(.int (p0 &&& (4 : Int32)))]))
      have J61_18 : ∀ bF : Int32, Go p e below (Kq s (Q0 Z p0 p1 p2 p3 p4 h0 n0) room_1.cells room_1.slots) (T3.setTop (mkF m 61 #[.val (.int p0), .val (.int p1), .val (.int p2), .val (.int p3), .val (.int p4), .val (.ref b1), .val (.ref b3), .val (.int sa), .val (.int sb), .val (.ref b3), .val (.ref b1), .unset, .unset, .unset] [(.int bF)])) := by
        intro bF
        show Go p e below _ (T3.setTop (mkF m 61 #[.val (.int p0), .val (.int p1), .val (.int p2), .val (.int p3), .val (.int p4), .val (.ref b1), .val (.ref b3), .val (.int sa), .val (.int sb), .val (.ref b3), .val (.ref b1), .unset, .unset, .unset] [(.int bF)]))
        refine go (fun t k => by refine XS.istore X3.here hx rfl (hb hby at_61) rfl (l' := #[.val (.int p0), .val (.int p1), .val (.int p2), .val (.int p3), .val (.int p4), .val (.ref b1), .val (.ref b3), .val (.int sa), .val (.int sb), .val (.ref b3), .val (.ref b1), .val (.int bF), .unset, .unset]) rfl ?_; exact k) ?_
        show Go p e below _ (T3.setTop (mkF m 63 #[.val (.int p0), .val (.int p1), .val (.int p2), .val (.int p3), .val (.int p4), .val (.ref b1), .val (.ref b3), .val (.int sa), .val (.int sb), .val (.ref b3), .val (.ref b1), .val (.int bF), .unset, .unset] []))
        refine go (fun t k => by refine XS.iloadN X3.here hx rfl (hb hby at_63) rfl ?_; exact k) ?_
        show Go p e below _ (T3.setTop (mkF m 64 #[.val (.int p0), .val (.int p1), .val (.int p2), .val (.int p3), .val (.int p4), .val (.ref b1), .val (.ref b3), .val (.int sa), .val (.int sb), .val (.ref b3), .val (.ref b1), .val (.int bF), .unset, .unset] [(.int p0)]))
        refine go (fun t k => by refine XS.bipush X3.here hx rfl (hb hby at_64) ?_; exact k) ?_
        show Go p e below _ (T3.setTop (mkF m 66 #[.val (.int p0), .val (.int p1), .val (.int p2), .val (.int p3), .val (.int p4), .val (.ref b1), .val (.ref b3), .val (.int sa), .val (.int sb), .val (.ref b3), .val (.ref b1), .val (.int bF), .unset, .unset] [(.int (8 : Int32)), (.int p0)]))
        refine go (fun t k => by refine XS.iand X3.here hx rfl (hb hby at_66) rfl ?_; exact k) ?_
        show Go p e below _ (T3.setTop (mkF m 67 #[.val (.int p0), .val (.int p1), .val (.int p2), .val (.int p3), .val (.int p4), .val (.ref b1), .val (.ref b3), .val (.int sa), .val (.int sb), .val (.ref b3), .val (.ref b1), .val (.int bF), .unset, .unset] [(.int (p0 &&& (8 : Int32)))]))
        have J76_19 : ∀ bL : Int32, Go p e below (Kq s (Q0 Z p0 p1 p2 p3 p4 h0 n0) room_1.cells room_1.slots) (T3.setTop (mkF m 76 #[.val (.int p0), .val (.int p1), .val (.int p2), .val (.int p3), .val (.int p4), .val (.ref b1), .val (.ref b3), .val (.int sa), .val (.int sb), .val (.ref b3), .val (.ref b1), .val (.int bF), .unset, .unset] [(.int bL)])) := by
          intro bL
          show Go p e below _ (T3.setTop (mkF m 76 #[.val (.int p0), .val (.int p1), .val (.int p2), .val (.int p3), .val (.int p4), .val (.ref b1), .val (.ref b3), .val (.int sa), .val (.int sb), .val (.ref b3), .val (.ref b1), .val (.int bF), .unset, .unset] [(.int bL)]))
          refine go (fun t k => by refine XS.istore X3.here hx rfl (hb hby at_76) rfl (l' := #[.val (.int p0), .val (.int p1), .val (.int p2), .val (.int p3), .val (.int p4), .val (.ref b1), .val (.ref b3), .val (.int sa), .val (.int sb), .val (.ref b3), .val (.ref b1), .val (.int bF), .val (.int bL), .unset]) rfl ?_; exact k) ?_
          show Go p e below _ (T3.setTop (mkF m 78 #[.val (.int p0), .val (.int p1), .val (.int p2), .val (.int p3), .val (.int p4), .val (.ref b1), .val (.ref b3), .val (.int sa), .val (.int sb), .val (.ref b3), .val (.ref b1), .val (.int bF), .val (.int bL), .unset] []))
          refine go (fun t k => by refine XS.iload X3.here hx rfl (hb hby at_78) rfl ?_; exact k) ?_
          show Go p e below _ (T3.setTop (mkF m 80 #[.val (.int p0), .val (.int p1), .val (.int p2), .val (.int p3), .val (.int p4), .val (.ref b1), .val (.ref b3), .val (.int sa), .val (.int sb), .val (.ref b3), .val (.ref b1), .val (.int bF), .val (.int bL), .unset] [(.int sa)]))
          refine go (fun t k => by refine XS.iload X3.here hx rfl (hb hby at_80) rfl ?_; exact k) ?_
          show Go p e below _ (T3.setTop (mkF m 82 #[.val (.int p0), .val (.int p1), .val (.int p2), .val (.int p3), .val (.int p4), .val (.ref b1), .val (.ref b3), .val (.int sa), .val (.int sb), .val (.ref b3), .val (.ref b1), .val (.int bF), .val (.int bL), .unset] [(.int sb), (.int sa)]))
          have hab : ¬ sa = sb := by
            rcases o_sa with q | q <;> rcases o_sb with r | r <;> subst q <;> subst r <;> first | decide | (exfalso; revert c24_6 c38_7; decide)
          have J102_20 : ∀ ex : Int32, (ex = (if sa = sb ∧ p1 = bF ∧ p2 = bL then 1 else 0)) → Go p e below (Kq s (Q0 Z p0 p1 p2 p3 p4 h0 n0) room_1.cells room_1.slots) (T3.setTop (mkF m 102 #[.val (.int p0), .val (.int p1), .val (.int p2), .val (.int p3), .val (.int p4), .val (.ref b1), .val (.ref b3), .val (.int sa), .val (.int sb), .val (.ref b3), .val (.ref b1), .val (.int bF), .val (.int bL), .unset] [(.int ex)])) := by
            intro ex hex
            show Go p e below _ (T3.setTop (mkF m 102 #[.val (.int p0), .val (.int p1), .val (.int p2), .val (.int p3), .val (.int p4), .val (.ref b1), .val (.ref b3), .val (.int sa), .val (.int sb), .val (.ref b3), .val (.ref b1), .val (.int bF), .val (.int bL), .unset] [(.int ex)]))
            refine go (fun t k => by refine XS.istore X3.here hx rfl (hb hby at_102) rfl (l' := #[.val (.int p0), .val (.int p1), .val (.int p2), .val (.int p3), .val (.int p4), .val (.ref b1), .val (.ref b3), .val (.int sa), .val (.int sb), .val (.ref b3), .val (.ref b1), .val (.int bF), .val (.int bL), .val (.int ex)]) rfl ?_; exact k) ?_
            show Go p e below _ (T3.setTop (mkF m 104 #[.val (.int p0), .val (.int p1), .val (.int p2), .val (.int p3), .val (.int p4), .val (.ref b1), .val (.ref b3), .val (.int sa), .val (.int sb), .val (.ref b3), .val (.ref b1), .val (.int bF), .val (.int bL), .val (.int ex)] []))
            refine go (fun t k => by refine XS.aload X3.here hx rfl (hb hby at_104) rfl rfl ?_; exact k) ?_
            show Go p e below _ (T3.setTop (mkF m 106 #[.val (.int p0), .val (.int p1), .val (.int p2), .val (.int p3), .val (.int p4), .val (.ref b1), .val (.ref b3), .val (.int sa), .val (.int sb), .val (.ref b3), .val (.ref b1), .val (.int bF), .val (.int bL), .val (.int ex)] [(.ref b3)]))
            refine go (fun t k => by refine XS.iloadN X3.here hx rfl (hb hby at_106) rfl ?_; exact k) ?_
            show Go p e below _ (T3.setTop (mkF m 107 #[.val (.int p0), .val (.int p1), .val (.int p2), .val (.int p3), .val (.int p4), .val (.ref b1), .val (.ref b3), .val (.int sa), .val (.int sb), .val (.ref b3), .val (.ref b1), .val (.int bF), .val (.int bL), .val (.int ex)] [(.int p1), (.ref b3)]))
            refine go (fun t k => by refine XS.iloadN X3.here hx rfl (hb hby at_107) rfl ?_; exact k) ?_
            show Go p e below _ (T3.setTop (mkF m 108 #[.val (.int p0), .val (.int p1), .val (.int p2), .val (.int p3), .val (.int p4), .val (.ref b1), .val (.ref b3), .val (.int sa), .val (.int sb), .val (.ref b3), .val (.ref b1), .val (.int bF), .val (.int bL), .val (.int ex)] [(.int p2), (.int p1), (.ref b3)]))
            refine go (fun t k => by refine XS.aload X3.here hx rfl (hb hby at_108) rfl rfl ?_; exact k) ?_
            show Go p e below _ (T3.setTop (mkF m 110 #[.val (.int p0), .val (.int p1), .val (.int p2), .val (.int p3), .val (.int p4), .val (.ref b1), .val (.ref b3), .val (.int sa), .val (.int sb), .val (.ref b3), .val (.ref b1), .val (.int bF), .val (.int bL), .val (.int ex)] [(.ref b1), (.int p2), (.int p1), (.ref b3)]))
            refine go (fun t k => by refine XS.iload X3.here hx rfl (hb hby at_110) rfl ?_; exact k) ?_
            show Go p e below _ (T3.setTop (mkF m 112 #[.val (.int p0), .val (.int p1), .val (.int p2), .val (.int p3), .val (.int p4), .val (.ref b1), .val (.ref b3), .val (.int sa), .val (.int sb), .val (.ref b3), .val (.ref b1), .val (.int bF), .val (.int bL), .val (.int ex)] [(.int bF), (.ref b1), (.int p2), (.int p1), (.ref b3)]))
            refine go (fun t k => by refine XS.iload X3.here hx rfl (hb hby at_112) rfl ?_; exact k) ?_
            show Go p e below _ (T3.setTop (mkF m 114 #[.val (.int p0), .val (.int p1), .val (.int p2), .val (.int p3), .val (.int p4), .val (.ref b1), .val (.ref b3), .val (.int sa), .val (.int sb), .val (.ref b3), .val (.ref b1), .val (.int bF), .val (.int bL), .val (.int ex)] [(.int bL), (.int bF), (.ref b1), (.int p2), (.int p1), (.ref b3)]))
            obtain ⟨_, _, ⟨T21, L21, k21, n21⟩, -, X21, ⟨Lc21, hQ21, l21, y21, z21⟩, st21⟩ := Jvm.LawKit.callS X3 hx (y := (⟨"com/example/longhand/longhand/kernels/Limbs", "same", "([III[III)Z"⟩ : MethodName)) hown (mvT hZ (hw _ (List.mem_of_getElem? (i := 1) rfl))) (mvT hZ (hw _ (List.mem_of_getElem? (i := 2) rfl))) (mvT hZ (hw _ (List.mem_of_getElem? (i := 3) rfl))) (mvT hZ (hw _ (List.mem_of_getElem? (i := 4) rfl))) (by decide) (backOf (W := 0) (rm1 l Z a0 hw [] b3 p1 p2 b1 bF bL h3 n0 f4_Z) hZ (hw _ (List.mem_of_getElem? (i := 4) rfl)) (hw _ (List.mem_of_getElem? (i := 3) rfl)) (by decide) (by decide)) (g := (mkF m 114 #[.val (.int p0), .val (.int p1), .val (.int p2), .val (.int p3), .val (.int p4), .val (.ref b1), .val (.ref b3), .val (.int sa), .val (.int sb), .val (.ref b3), .val (.ref b1), .val (.int bF), .val (.int bL), .val (.int ex)] [(.int bL), (.int bF), (.ref b1), (.int p2), (.int p1), (.ref b3)])) rfl (by rw [hml]; rfl) (argsL := [(.ref b3), (.int p1), (.int p2), (.ref b1), (.int bF), (.int bL)]) (rest := []) (lenOf pd_0 rfl) rfl (by show 2 * 0 + _ ≤ _; exact Nat.le_of_eq rfl) (hb hby at_114) (fun _ _ => ⟨rfl, e3, (by decide : 2 + 0 ≤ _), (by decide : 4 + 0 ≤ _)⟩)
            dsimp only [Pt.U, Pt.locs, Pt.cells, Pt.slots] at X21 l21 y21 z21 st21 hQ21
            subst l21 y21 z21
            obtain ⟨rfl, N21q, e21⟩ := hQ21
            have N21 := Fr.app N0 N21q
            refine go st21 ?_
            show Go p e below _ (T21.setTop (mkF m 117 #[.val (.int p0), .val (.int p1), .val (.int p2), .val (.int p3), .val (.int p4), .val (.ref b1), .val (.ref b3), .val (.int sa), .val (.int sb), .val (.ref b3), .val (.ref b1), .val (.int bF), .val (.int bL), .val (.int ex)] [(.int (own_sm b3 p1 p2 b1 bF bL))]))
            refine go (fun t k => by refine XS.iload X21.here hx rfl (hb hby at_117) rfl ?_; exact k) ?_
            show Go p e below _ (T21.setTop (mkF m 119 #[.val (.int p0), .val (.int p1), .val (.int p2), .val (.int p3), .val (.int p4), .val (.ref b1), .val (.ref b3), .val (.int sa), .val (.int sb), .val (.ref b3), .val (.ref b1), .val (.int bF), .val (.int bL), .val (.int ex)] [(.int ex), (.int (own_sm b3 p1 p2 b1 bF bL))]))
            have c119_22 : ¬ (¬ (own_sm b3 p1 p2 b1 bF bL) = ex) := not_not_intro (by rw [hex]; simp [own_sm, hab, (Ne.symm ne3_b1_b3)])
            refine go (fun t k => by refine XS.icmpNo X21.here hx rfl (hb hby at_119) rfl (teq (Decidable.not_not.mp c119_22)).2 ?_; exact k) ?_
            show Go p e below _ (T21.setTop (mkF m 122 #[.val (.int p0), .val (.int p1), .val (.int p2), .val (.int p3), .val (.int p4), .val (.ref b1), .val (.ref b3), .val (.int sa), .val (.int sb), .val (.ref b3), .val (.ref b1), .val (.int bF), .val (.int bL), .val (.int ex)] []))
            refine go (fun t k => by refine XS.iconst X21.here hx rfl (hb hby at_122) ?_; exact k) ?_
            show Go p e below _ (T21.setTop (mkF m 123 #[.val (.int p0), .val (.int p1), .val (.int p2), .val (.int p3), .val (.int p4), .val (.ref b1), .val (.ref b3), .val (.int sa), .val (.int sb), .val (.ref b3), .val (.ref b1), .val (.int bF), .val (.int bL), .val (.int ex)] [(.int (1 : Int32))]))
            refine go (fun t k => by refine XS.goto X21.here hx rfl (pc0 := 123) (pc' := 127) rfl (hb hby at_123) (by decide) (by decide) ?_; exact k) ?_
            show Go p e below _ (T21.setTop (mkF m 127 #[.val (.int p0), .val (.int p1), .val (.int p2), .val (.int p3), .val (.int p4), .val (.ref b1), .val (.ref b3), .val (.int sa), .val (.int sb), .val (.ref b3), .val (.ref b1), .val (.int bF), .val (.int bL), .val (.int ex)] [(.int (1 : Int32))]))
            refine goOut X21 (fun h => by rw [Bd.returns] at h; cases h) hlk (fun fs hr => retN X21 hx (t := .boolean) Bd.returns (by simp) (hb hby at_127) hr) (by decide) (by decide) ?_
            rw [e21]
            exact ⟨rfl, N21⟩
          by_cases c82_23 : ¬ sa = sb
          · skip
            refine go (fun t k => by refine XS.icmpYes X3.here hx rfl (pc0 := 82) (pc' := 101) rfl (hb hby at_82) rfl (feq c82_23).2 (by decide) (by decide) ?_; exact k) ?_
            show Go p e below _ (T3.setTop (mkF m 101 #[.val (.int p0), .val (.int p1), .val (.int p2), .val (.int p3), .val (.int p4), .val (.ref b1), .val (.ref b3), .val (.int sa), .val (.int sb), .val (.ref b3), .val (.ref b1), .val (.int bF), .val (.int bL), .unset] []))
            refine go (fun t k => by refine XS.iconst X3.here hx rfl (hb hby at_101) ?_; exact k) ?_
            show Go p e below _ (T3.setTop (mkF m 102 #[.val (.int p0), .val (.int p1), .val (.int p2), .val (.int p3), .val (.int p4), .val (.ref b1), .val (.ref b3), .val (.int sa), .val (.int sb), .val (.ref b3), .val (.ref b1), .val (.int bF), .val (.int bL), .unset] [(.int (0 : Int32))]))
            exact J102_20 _ (by simp [c82_23])
          · skip
            refine go (fun t k => by refine XS.icmpNo X3.here hx rfl (hb hby at_82) rfl (teq (Decidable.not_not.mp c82_23)).2 ?_; exact k) ?_
            show Go p e below _ (T3.setTop (mkF m 85 #[.val (.int p0), .val (.int p1), .val (.int p2), .val (.int p3), .val (.int p4), .val (.ref b1), .val (.ref b3), .val (.int sa), .val (.int sb), .val (.ref b3), .val (.ref b1), .val (.int bF), .val (.int bL), .unset] []))
            refine go (fun t k => by refine XS.iloadN X3.here hx rfl (hb hby at_85) rfl ?_; exact k) ?_
            show Go p e below _ (T3.setTop (mkF m 86 #[.val (.int p0), .val (.int p1), .val (.int p2), .val (.int p3), .val (.int p4), .val (.ref b1), .val (.ref b3), .val (.int sa), .val (.int sb), .val (.ref b3), .val (.ref b1), .val (.int bF), .val (.int bL), .unset] [(.int p1)]))
            refine go (fun t k => by refine XS.iload X3.here hx rfl (hb hby at_86) rfl ?_; exact k) ?_
            show Go p e below _ (T3.setTop (mkF m 88 #[.val (.int p0), .val (.int p1), .val (.int p2), .val (.int p3), .val (.int p4), .val (.ref b1), .val (.ref b3), .val (.int sa), .val (.int sb), .val (.ref b3), .val (.ref b1), .val (.int bF), .val (.int bL), .unset] [(.int bF), (.int p1)]))
            by_cases c88_24 : ¬ p1 = bF
            · skip
              refine go (fun t k => by refine XS.icmpYes X3.here hx rfl (pc0 := 88) (pc' := 101) rfl (hb hby at_88) rfl (feq c88_24).2 (by decide) (by decide) ?_; exact k) ?_
              show Go p e below _ (T3.setTop (mkF m 101 #[.val (.int p0), .val (.int p1), .val (.int p2), .val (.int p3), .val (.int p4), .val (.ref b1), .val (.ref b3), .val (.int sa), .val (.int sb), .val (.ref b3), .val (.ref b1), .val (.int bF), .val (.int bL), .unset] []))
              refine go (fun t k => by refine XS.iconst X3.here hx rfl (hb hby at_101) ?_; exact k) ?_
              show Go p e below _ (T3.setTop (mkF m 102 #[.val (.int p0), .val (.int p1), .val (.int p2), .val (.int p3), .val (.int p4), .val (.ref b1), .val (.ref b3), .val (.int sa), .val (.int sb), .val (.ref b3), .val (.ref b1), .val (.int bF), .val (.int bL), .unset] [(.int (0 : Int32))]))
              exact J102_20 _ (by simp [c82_23, c88_24])
            · skip
              refine go (fun t k => by refine XS.icmpNo X3.here hx rfl (hb hby at_88) rfl (teq (Decidable.not_not.mp c88_24)).2 ?_; exact k) ?_
              show Go p e below _ (T3.setTop (mkF m 91 #[.val (.int p0), .val (.int p1), .val (.int p2), .val (.int p3), .val (.int p4), .val (.ref b1), .val (.ref b3), .val (.int sa), .val (.int sb), .val (.ref b3), .val (.ref b1), .val (.int bF), .val (.int bL), .unset] []))
              refine go (fun t k => by refine XS.iloadN X3.here hx rfl (hb hby at_91) rfl ?_; exact k) ?_
              show Go p e below _ (T3.setTop (mkF m 92 #[.val (.int p0), .val (.int p1), .val (.int p2), .val (.int p3), .val (.int p4), .val (.ref b1), .val (.ref b3), .val (.int sa), .val (.int sb), .val (.ref b3), .val (.ref b1), .val (.int bF), .val (.int bL), .unset] [(.int p2)]))
              refine go (fun t k => by refine XS.iload X3.here hx rfl (hb hby at_92) rfl ?_; exact k) ?_
              show Go p e below _ (T3.setTop (mkF m 94 #[.val (.int p0), .val (.int p1), .val (.int p2), .val (.int p3), .val (.int p4), .val (.ref b1), .val (.ref b3), .val (.int sa), .val (.int sb), .val (.ref b3), .val (.ref b1), .val (.int bF), .val (.int bL), .unset] [(.int bL), (.int p2)]))
              by_cases c94_25 : ¬ p2 = bL
              · skip
                refine go (fun t k => by refine XS.icmpYes X3.here hx rfl (pc0 := 94) (pc' := 101) rfl (hb hby at_94) rfl (feq c94_25).2 (by decide) (by decide) ?_; exact k) ?_
                show Go p e below _ (T3.setTop (mkF m 101 #[.val (.int p0), .val (.int p1), .val (.int p2), .val (.int p3), .val (.int p4), .val (.ref b1), .val (.ref b3), .val (.int sa), .val (.int sb), .val (.ref b3), .val (.ref b1), .val (.int bF), .val (.int bL), .unset] []))
                refine go (fun t k => by refine XS.iconst X3.here hx rfl (hb hby at_101) ?_; exact k) ?_
                show Go p e below _ (T3.setTop (mkF m 102 #[.val (.int p0), .val (.int p1), .val (.int p2), .val (.int p3), .val (.int p4), .val (.ref b1), .val (.ref b3), .val (.int sa), .val (.int sb), .val (.ref b3), .val (.ref b1), .val (.int bF), .val (.int bL), .unset] [(.int (0 : Int32))]))
                exact J102_20 _ (by simp [c82_23, c88_24, c94_25])
              · skip
                refine go (fun t k => by refine XS.icmpNo X3.here hx rfl (hb hby at_94) rfl (teq (Decidable.not_not.mp c94_25)).2 ?_; exact k) ?_
                show Go p e below _ (T3.setTop (mkF m 97 #[.val (.int p0), .val (.int p1), .val (.int p2), .val (.int p3), .val (.int p4), .val (.ref b1), .val (.ref b3), .val (.int sa), .val (.int sb), .val (.ref b3), .val (.ref b1), .val (.int bF), .val (.int bL), .unset] []))
                refine go (fun t k => by refine XS.iconst X3.here hx rfl (hb hby at_97) ?_; exact k) ?_
                show Go p e below _ (T3.setTop (mkF m 98 #[.val (.int p0), .val (.int p1), .val (.int p2), .val (.int p3), .val (.int p4), .val (.ref b1), .val (.ref b3), .val (.int sa), .val (.int sb), .val (.ref b3), .val (.ref b1), .val (.int bF), .val (.int bL), .unset] [(.int (1 : Int32))]))
                refine go (fun t k => by refine XS.goto X3.here hx rfl (pc0 := 98) (pc' := 102) rfl (hb hby at_98) (by decide) (by decide) ?_; exact k) ?_
                show Go p e below _ (T3.setTop (mkF m 102 #[.val (.int p0), .val (.int p1), .val (.int p2), .val (.int p3), .val (.int p4), .val (.ref b1), .val (.ref b3), .val (.int sa), .val (.int sb), .val (.ref b3), .val (.ref b1), .val (.int bF), .val (.int bL), .unset] [(.int (1 : Int32))]))
                exact J102_20 _ (by simp [c82_23, c88_24, c94_25])
        by_cases c67_26 : (p0 &&& (8 : Int32)) = (0 : Int32)
        · skip
          refine go (fun t k => by refine XS.ifYes X3.here hx rfl (pc0 := 67) (pc' := 74) rfl (hb hby at_67) rfl ((if0 _ _).trans (teq c67_26).1) (by decide) (by decide) ?_; exact k) ?_
          show Go p e below _ (T3.setTop (mkF m 74 #[.val (.int p0), .val (.int p1), .val (.int p2), .val (.int p3), .val (.int p4), .val (.ref b1), .val (.ref b3), .val (.int sa), .val (.int sb), .val (.ref b3), .val (.ref b1), .val (.int bF), .unset, .unset] []))
          refine go (fun t k => by refine XS.iload X3.here hx rfl (hb hby at_74) rfl ?_; exact k) ?_
          show Go p e below _ (T3.setTop (mkF m 76 #[.val (.int p0), .val (.int p1), .val (.int p2), .val (.int p3), .val (.int p4), .val (.ref b1), .val (.ref b3), .val (.int sa), .val (.int sb), .val (.ref b3), .val (.ref b1), .val (.int bF), .unset, .unset] [(.int p4)]))
          exact J76_19 _
        · skip
          refine go (fun t k => by refine XS.ifNo X3.here hx rfl (hb hby at_67) rfl ((if0 _ _).trans (feq c67_26).1) ?_; exact k) ?_
          show Go p e below _ (T3.setTop (mkF m 70 #[.val (.int p0), .val (.int p1), .val (.int p2), .val (.int p3), .val (.int p4), .val (.ref b1), .val (.ref b3), .val (.int sa), .val (.int sb), .val (.ref b3), .val (.ref b1), .val (.int bF), .unset, .unset] []))
          refine go (fun t k => by refine XS.iloadN X3.here hx rfl (hb hby at_70) rfl ?_; exact k) ?_
          show Go p e below _ (T3.setTop (mkF m 71 #[.val (.int p0), .val (.int p1), .val (.int p2), .val (.int p3), .val (.int p4), .val (.ref b1), .val (.ref b3), .val (.int sa), .val (.int sb), .val (.ref b3), .val (.ref b1), .val (.int bF), .unset, .unset] [(.int p2)]))
          refine go (fun t k => by refine XS.goto X3.here hx rfl (pc0 := 71) (pc' := 76) rfl (hb hby at_71) (by decide) (by decide) ?_; exact k) ?_
          show Go p e below _ (T3.setTop (mkF m 76 #[.val (.int p0), .val (.int p1), .val (.int p2), .val (.int p3), .val (.int p4), .val (.ref b1), .val (.ref b3), .val (.int sa), .val (.int sb), .val (.ref b3), .val (.ref b1), .val (.int bF), .unset, .unset] [(.int p2)]))
          exact J76_19 _
      by_cases c53_27 : (p0 &&& (4 : Int32)) = (0 : Int32)
      · skip
        refine go (fun t k => by refine XS.ifYes X3.here hx rfl (pc0 := 53) (pc' := 60) rfl (hb hby at_53) rfl ((if0 _ _).trans (teq c53_27).1) (by decide) (by decide) ?_; exact k) ?_
        show Go p e below _ (T3.setTop (mkF m 60 #[.val (.int p0), .val (.int p1), .val (.int p2), .val (.int p3), .val (.int p4), .val (.ref b1), .val (.ref b3), .val (.int sa), .val (.int sb), .val (.ref b3), .val (.ref b1), .unset, .unset, .unset] []))
        refine go (fun t k => by refine XS.iloadN X3.here hx rfl (hb hby at_60) rfl ?_; exact k) ?_
        show Go p e below _ (T3.setTop (mkF m 61 #[.val (.int p0), .val (.int p1), .val (.int p2), .val (.int p3), .val (.int p4), .val (.ref b1), .val (.ref b3), .val (.int sa), .val (.int sb), .val (.ref b3), .val (.ref b1), .unset, .unset, .unset] [(.int p3)]))
        exact J61_18 _
      · skip
        refine go (fun t k => by refine XS.ifNo X3.here hx rfl (hb hby at_53) rfl ((if0 _ _).trans (feq c53_27).1) ?_; exact k) ?_
        show Go p e below _ (T3.setTop (mkF m 56 #[.val (.int p0), .val (.int p1), .val (.int p2), .val (.int p3), .val (.int p4), .val (.ref b1), .val (.ref b3), .val (.int sa), .val (.int sb), .val (.ref b3), .val (.ref b1), .unset, .unset, .unset] []))
        refine go (fun t k => by refine XS.iloadN X3.here hx rfl (hb hby at_56) rfl ?_; exact k) ?_
        show Go p e below _ (T3.setTop (mkF m 57 #[.val (.int p0), .val (.int p1), .val (.int p2), .val (.int p3), .val (.int p4), .val (.ref b1), .val (.ref b3), .val (.int sa), .val (.int sb), .val (.ref b3), .val (.ref b1), .unset, .unset, .unset] [(.int p1)]))
        refine go (fun t k => by refine XS.goto X3.here hx rfl (pc0 := 57) (pc' := 61) rfl (hb hby at_57) (by decide) (by decide) ?_; exact k) ?_
        show Go p e below _ (T3.setTop (mkF m 61 #[.val (.int p0), .val (.int p1), .val (.int p2), .val (.int p3), .val (.int p4), .val (.ref b1), .val (.ref b3), .val (.int sa), .val (.int sb), .val (.ref b3), .val (.ref b1), .unset, .unset, .unset] [(.int p1)]))
        exact J61_18 _
  · skip
    refine go (fun t k => by refine XS.ifNo X3.here hx rfl (hb hby at_24) rfl ((if0 _ _).trans (teq (Decidable.not_not.mp c24_6)).2) ?_; exact k) ?_
    show Go p e below _ (T3.setTop (mkF m 27 #[.val (.int p0), .val (.int p1), .val (.int p2), .val (.int p3), .val (.int p4), .val (.ref b1), .val (.ref b3), .val (.int sa), .val (.int sb), .unset, .unset, .unset, .unset, .unset] []))
    refine go (fun t k => by refine XS.aload X3.here hx rfl (hb hby at_27) rfl rfl ?_; exact k) ?_
    show Go p e below _ (T3.setTop (mkF m 29 #[.val (.int p0), .val (.int p1), .val (.int p2), .val (.int p3), .val (.int p4), .val (.ref b1), .val (.ref b3), .val (.int sa), .val (.int sb), .unset, .unset, .unset, .unset, .unset] [(.ref b1)]))
    refine go (fun t k => by refine XS.goto X3.here hx rfl (pc0 := 29) (pc' := 34) rfl (hb hby at_29) (by decide) (by decide) ?_; exact k) ?_
    show Go p e below _ (T3.setTop (mkF m 34 #[.val (.int p0), .val (.int p1), .val (.int p2), .val (.int p3), .val (.int p4), .val (.ref b1), .val (.ref b3), .val (.int sa), .val (.int sb), .unset, .unset, .unset, .unset, .unset] [(.ref b1)]))
    refine go (fun t k => by refine XS.astore X3.here hx rfl (hb hby at_34) rfl rfl (l' := #[.val (.int p0), .val (.int p1), .val (.int p2), .val (.int p3), .val (.int p4), .val (.ref b1), .val (.ref b3), .val (.int sa), .val (.int sb), .val (.ref b1), .unset, .unset, .unset, .unset]) rfl ?_; exact k) ?_
    show Go p e below _ (T3.setTop (mkF m 36 #[.val (.int p0), .val (.int p1), .val (.int p2), .val (.int p3), .val (.int p4), .val (.ref b1), .val (.ref b3), .val (.int sa), .val (.int sb), .val (.ref b1), .unset, .unset, .unset, .unset] []))
    refine go (fun t k => by refine XS.iload X3.here hx rfl (hb hby at_36) rfl ?_; exact k) ?_
    show Go p e below _ (T3.setTop (mkF m 38 #[.val (.int p0), .val (.int p1), .val (.int p2), .val (.int p3), .val (.int p4), .val (.ref b1), .val (.ref b3), .val (.int sa), .val (.int sb), .val (.ref b1), .unset, .unset, .unset, .unset] [(.int sb)]))
    by_cases c38_28 : ¬ sb = (0 : Int32)
    · skip
      refine go (fun t k => by refine XS.ifYes X3.here hx rfl (pc0 := 38) (pc' := 46) rfl (hb hby at_38) rfl ((if0 _ _).trans (feq c38_28).2) (by decide) (by decide) ?_; exact k) ?_
      show Go p e below _ (T3.setTop (mkF m 46 #[.val (.int p0), .val (.int p1), .val (.int p2), .val (.int p3), .val (.int p4), .val (.ref b1), .val (.ref b3), .val (.int sa), .val (.int sb), .val (.ref b1), .unset, .unset, .unset, .unset] []))
      refine go (fun t k => by refine XS.aload X3.here hx rfl (hb hby at_46) rfl rfl ?_; exact k) ?_
      show Go p e below _ (T3.setTop (mkF m 48 #[.val (.int p0), .val (.int p1), .val (.int p2), .val (.int p3), .val (.int p4), .val (.ref b1), .val (.ref b3), .val (.int sa), .val (.int sb), .val (.ref b1), .unset, .unset, .unset, .unset] [(.ref b3)]))
      refine go (fun t k => by refine XS.astore X3.here hx rfl (hb hby at_48) rfl rfl (l' := #[.val (.int p0), .val (.int p1), .val (.int p2), .val (.int p3), .val (.int p4), .val (.ref b1), .val (.ref b3), .val (.int sa), .val (.int sb), .val (.ref b1), .val (.ref b3), .unset, .unset, .unset]) rfl ?_; exact k) ?_
      show Go p e below _ (T3.setTop (mkF m 50 #[.val (.int p0), .val (.int p1), .val (.int p2), .val (.int p3), .val (.int p4), .val (.ref b1), .val (.ref b3), .val (.int sa), .val (.int sb), .val (.ref b1), .val (.ref b3), .unset, .unset, .unset] []))
      refine go (fun t k => by refine XS.iloadN X3.here hx rfl (hb hby at_50) rfl ?_; exact k) ?_
      show Go p e below _ (T3.setTop (mkF m 51 #[.val (.int p0), .val (.int p1), .val (.int p2), .val (.int p3), .val (.int p4), .val (.ref b1), .val (.ref b3), .val (.int sa), .val (.int sb), .val (.ref b1), .val (.ref b3), .unset, .unset, .unset] [(.int p0)]))
      refine go (fun t k => by refine XS.iconst X3.here hx rfl (hb hby at_51) ?_; exact k) ?_
      show Go p e below _ (T3.setTop (mkF m 52 #[.val (.int p0), .val (.int p1), .val (.int p2), .val (.int p3), .val (.int p4), .val (.ref b1), .val (.ref b3), .val (.int sa), .val (.int sb), .val (.ref b1), .val (.ref b3), .unset, .unset, .unset] [(.int (4 : Int32)), (.int p0)]))
      refine go (fun t k => by refine XS.iand X3.here hx rfl (hb hby at_52) rfl ?_; exact k) ?_
      show Go p e below _ (T3.setTop (mkF m 53 #[.val (.int p0), .val (.int p1), .val (.int p2), .val (.int p3), .val (.int p4), .val (.ref b1), .val (.ref b3), .val (.int sa), .val (.int sb), .val (.ref b1), .val (.ref b3), .unset, .unset, .unset] [(.int (p0 &&& (4 : Int32)))]))
      have J61_29 : ∀ bF : Int32, Go p e below (Kq s (Q0 Z p0 p1 p2 p3 p4 h0 n0) room_1.cells room_1.slots) (T3.setTop (mkF m 61 #[.val (.int p0), .val (.int p1), .val (.int p2), .val (.int p3), .val (.int p4), .val (.ref b1), .val (.ref b3), .val (.int sa), .val (.int sb), .val (.ref b1), .val (.ref b3), .unset, .unset, .unset] [(.int bF)])) := by
        intro bF
        show Go p e below _ (T3.setTop (mkF m 61 #[.val (.int p0), .val (.int p1), .val (.int p2), .val (.int p3), .val (.int p4), .val (.ref b1), .val (.ref b3), .val (.int sa), .val (.int sb), .val (.ref b1), .val (.ref b3), .unset, .unset, .unset] [(.int bF)]))
        refine go (fun t k => by refine XS.istore X3.here hx rfl (hb hby at_61) rfl (l' := #[.val (.int p0), .val (.int p1), .val (.int p2), .val (.int p3), .val (.int p4), .val (.ref b1), .val (.ref b3), .val (.int sa), .val (.int sb), .val (.ref b1), .val (.ref b3), .val (.int bF), .unset, .unset]) rfl ?_; exact k) ?_
        show Go p e below _ (T3.setTop (mkF m 63 #[.val (.int p0), .val (.int p1), .val (.int p2), .val (.int p3), .val (.int p4), .val (.ref b1), .val (.ref b3), .val (.int sa), .val (.int sb), .val (.ref b1), .val (.ref b3), .val (.int bF), .unset, .unset] []))
        refine go (fun t k => by refine XS.iloadN X3.here hx rfl (hb hby at_63) rfl ?_; exact k) ?_
        show Go p e below _ (T3.setTop (mkF m 64 #[.val (.int p0), .val (.int p1), .val (.int p2), .val (.int p3), .val (.int p4), .val (.ref b1), .val (.ref b3), .val (.int sa), .val (.int sb), .val (.ref b1), .val (.ref b3), .val (.int bF), .unset, .unset] [(.int p0)]))
        refine go (fun t k => by refine XS.bipush X3.here hx rfl (hb hby at_64) ?_; exact k) ?_
        show Go p e below _ (T3.setTop (mkF m 66 #[.val (.int p0), .val (.int p1), .val (.int p2), .val (.int p3), .val (.int p4), .val (.ref b1), .val (.ref b3), .val (.int sa), .val (.int sb), .val (.ref b1), .val (.ref b3), .val (.int bF), .unset, .unset] [(.int (8 : Int32)), (.int p0)]))
        refine go (fun t k => by refine XS.iand X3.here hx rfl (hb hby at_66) rfl ?_; exact k) ?_
        show Go p e below _ (T3.setTop (mkF m 67 #[.val (.int p0), .val (.int p1), .val (.int p2), .val (.int p3), .val (.int p4), .val (.ref b1), .val (.ref b3), .val (.int sa), .val (.int sb), .val (.ref b1), .val (.ref b3), .val (.int bF), .unset, .unset] [(.int (p0 &&& (8 : Int32)))]))
        have J76_30 : ∀ bL : Int32, Go p e below (Kq s (Q0 Z p0 p1 p2 p3 p4 h0 n0) room_1.cells room_1.slots) (T3.setTop (mkF m 76 #[.val (.int p0), .val (.int p1), .val (.int p2), .val (.int p3), .val (.int p4), .val (.ref b1), .val (.ref b3), .val (.int sa), .val (.int sb), .val (.ref b1), .val (.ref b3), .val (.int bF), .unset, .unset] [(.int bL)])) := by
          intro bL
          show Go p e below _ (T3.setTop (mkF m 76 #[.val (.int p0), .val (.int p1), .val (.int p2), .val (.int p3), .val (.int p4), .val (.ref b1), .val (.ref b3), .val (.int sa), .val (.int sb), .val (.ref b1), .val (.ref b3), .val (.int bF), .unset, .unset] [(.int bL)]))
          refine go (fun t k => by refine XS.istore X3.here hx rfl (hb hby at_76) rfl (l' := #[.val (.int p0), .val (.int p1), .val (.int p2), .val (.int p3), .val (.int p4), .val (.ref b1), .val (.ref b3), .val (.int sa), .val (.int sb), .val (.ref b1), .val (.ref b3), .val (.int bF), .val (.int bL), .unset]) rfl ?_; exact k) ?_
          show Go p e below _ (T3.setTop (mkF m 78 #[.val (.int p0), .val (.int p1), .val (.int p2), .val (.int p3), .val (.int p4), .val (.ref b1), .val (.ref b3), .val (.int sa), .val (.int sb), .val (.ref b1), .val (.ref b3), .val (.int bF), .val (.int bL), .unset] []))
          refine go (fun t k => by refine XS.iload X3.here hx rfl (hb hby at_78) rfl ?_; exact k) ?_
          show Go p e below _ (T3.setTop (mkF m 80 #[.val (.int p0), .val (.int p1), .val (.int p2), .val (.int p3), .val (.int p4), .val (.ref b1), .val (.ref b3), .val (.int sa), .val (.int sb), .val (.ref b1), .val (.ref b3), .val (.int bF), .val (.int bL), .unset] [(.int sa)]))
          refine go (fun t k => by refine XS.iload X3.here hx rfl (hb hby at_80) rfl ?_; exact k) ?_
          show Go p e below _ (T3.setTop (mkF m 82 #[.val (.int p0), .val (.int p1), .val (.int p2), .val (.int p3), .val (.int p4), .val (.ref b1), .val (.ref b3), .val (.int sa), .val (.int sb), .val (.ref b1), .val (.ref b3), .val (.int bF), .val (.int bL), .unset] [(.int sb), (.int sa)]))
          have hab : ¬ sa = sb := by
            rcases o_sa with q | q <;> rcases o_sb with r | r <;> subst q <;> subst r <;> first | decide | (exfalso; revert c24_6 c38_28; decide)
          have J102_31 : ∀ ex : Int32, (ex = (if sa = sb ∧ p1 = bF ∧ p2 = bL then 1 else 0)) → Go p e below (Kq s (Q0 Z p0 p1 p2 p3 p4 h0 n0) room_1.cells room_1.slots) (T3.setTop (mkF m 102 #[.val (.int p0), .val (.int p1), .val (.int p2), .val (.int p3), .val (.int p4), .val (.ref b1), .val (.ref b3), .val (.int sa), .val (.int sb), .val (.ref b1), .val (.ref b3), .val (.int bF), .val (.int bL), .unset] [(.int ex)])) := by
            intro ex hex
            show Go p e below _ (T3.setTop (mkF m 102 #[.val (.int p0), .val (.int p1), .val (.int p2), .val (.int p3), .val (.int p4), .val (.ref b1), .val (.ref b3), .val (.int sa), .val (.int sb), .val (.ref b1), .val (.ref b3), .val (.int bF), .val (.int bL), .unset] [(.int ex)]))
            refine go (fun t k => by refine XS.istore X3.here hx rfl (hb hby at_102) rfl (l' := #[.val (.int p0), .val (.int p1), .val (.int p2), .val (.int p3), .val (.int p4), .val (.ref b1), .val (.ref b3), .val (.int sa), .val (.int sb), .val (.ref b1), .val (.ref b3), .val (.int bF), .val (.int bL), .val (.int ex)]) rfl ?_; exact k) ?_
            show Go p e below _ (T3.setTop (mkF m 104 #[.val (.int p0), .val (.int p1), .val (.int p2), .val (.int p3), .val (.int p4), .val (.ref b1), .val (.ref b3), .val (.int sa), .val (.int sb), .val (.ref b1), .val (.ref b3), .val (.int bF), .val (.int bL), .val (.int ex)] []))
            refine go (fun t k => by refine XS.aload X3.here hx rfl (hb hby at_104) rfl rfl ?_; exact k) ?_
            show Go p e below _ (T3.setTop (mkF m 106 #[.val (.int p0), .val (.int p1), .val (.int p2), .val (.int p3), .val (.int p4), .val (.ref b1), .val (.ref b3), .val (.int sa), .val (.int sb), .val (.ref b1), .val (.ref b3), .val (.int bF), .val (.int bL), .val (.int ex)] [(.ref b1)]))
            refine go (fun t k => by refine XS.iloadN X3.here hx rfl (hb hby at_106) rfl ?_; exact k) ?_
            show Go p e below _ (T3.setTop (mkF m 107 #[.val (.int p0), .val (.int p1), .val (.int p2), .val (.int p3), .val (.int p4), .val (.ref b1), .val (.ref b3), .val (.int sa), .val (.int sb), .val (.ref b1), .val (.ref b3), .val (.int bF), .val (.int bL), .val (.int ex)] [(.int p1), (.ref b1)]))
            refine go (fun t k => by refine XS.iloadN X3.here hx rfl (hb hby at_107) rfl ?_; exact k) ?_
            show Go p e below _ (T3.setTop (mkF m 108 #[.val (.int p0), .val (.int p1), .val (.int p2), .val (.int p3), .val (.int p4), .val (.ref b1), .val (.ref b3), .val (.int sa), .val (.int sb), .val (.ref b1), .val (.ref b3), .val (.int bF), .val (.int bL), .val (.int ex)] [(.int p2), (.int p1), (.ref b1)]))
            refine go (fun t k => by refine XS.aload X3.here hx rfl (hb hby at_108) rfl rfl ?_; exact k) ?_
            show Go p e below _ (T3.setTop (mkF m 110 #[.val (.int p0), .val (.int p1), .val (.int p2), .val (.int p3), .val (.int p4), .val (.ref b1), .val (.ref b3), .val (.int sa), .val (.int sb), .val (.ref b1), .val (.ref b3), .val (.int bF), .val (.int bL), .val (.int ex)] [(.ref b3), (.int p2), (.int p1), (.ref b1)]))
            refine go (fun t k => by refine XS.iload X3.here hx rfl (hb hby at_110) rfl ?_; exact k) ?_
            show Go p e below _ (T3.setTop (mkF m 112 #[.val (.int p0), .val (.int p1), .val (.int p2), .val (.int p3), .val (.int p4), .val (.ref b1), .val (.ref b3), .val (.int sa), .val (.int sb), .val (.ref b1), .val (.ref b3), .val (.int bF), .val (.int bL), .val (.int ex)] [(.int bF), (.ref b3), (.int p2), (.int p1), (.ref b1)]))
            refine go (fun t k => by refine XS.iload X3.here hx rfl (hb hby at_112) rfl ?_; exact k) ?_
            show Go p e below _ (T3.setTop (mkF m 114 #[.val (.int p0), .val (.int p1), .val (.int p2), .val (.int p3), .val (.int p4), .val (.ref b1), .val (.ref b3), .val (.int sa), .val (.int sb), .val (.ref b1), .val (.ref b3), .val (.int bF), .val (.int bL), .val (.int ex)] [(.int bL), (.int bF), (.ref b3), (.int p2), (.int p1), (.ref b1)]))
            obtain ⟨_, _, ⟨T32, L32, k32, n32⟩, -, X32, ⟨Lc32, hQ32, l32, y32, z32⟩, st32⟩ := Jvm.LawKit.callS X3 hx (y := (⟨"com/example/longhand/longhand/kernels/Limbs", "same", "([III[III)Z"⟩ : MethodName)) hown (mvT hZ (hw _ (List.mem_of_getElem? (i := 1) rfl))) (mvT hZ (hw _ (List.mem_of_getElem? (i := 2) rfl))) (mvT hZ (hw _ (List.mem_of_getElem? (i := 3) rfl))) (mvT hZ (hw _ (List.mem_of_getElem? (i := 4) rfl))) (by decide) (backOf (W := 0) (rm1 l Z a0 hw [] b1 p1 p2 b3 bF bL h3 n0 f4_Z) hZ (hw _ (List.mem_of_getElem? (i := 4) rfl)) (hw _ (List.mem_of_getElem? (i := 3) rfl)) (by decide) (by decide)) (g := (mkF m 114 #[.val (.int p0), .val (.int p1), .val (.int p2), .val (.int p3), .val (.int p4), .val (.ref b1), .val (.ref b3), .val (.int sa), .val (.int sb), .val (.ref b1), .val (.ref b3), .val (.int bF), .val (.int bL), .val (.int ex)] [(.int bL), (.int bF), (.ref b3), (.int p2), (.int p1), (.ref b1)])) rfl (by rw [hml]; rfl) (argsL := [(.ref b1), (.int p1), (.int p2), (.ref b3), (.int bF), (.int bL)]) (rest := []) (lenOf pd_0 rfl) rfl (by show 2 * 0 + _ ≤ _; exact Nat.le_of_eq rfl) (hb hby at_114) (fun _ _ => ⟨rfl, e3, (by decide : 2 + 0 ≤ _), (by decide : 4 + 0 ≤ _)⟩)
            dsimp only [Pt.U, Pt.locs, Pt.cells, Pt.slots] at X32 l32 y32 z32 st32 hQ32
            subst l32 y32 z32
            obtain ⟨rfl, N32q, e32⟩ := hQ32
            have N32 := Fr.app N0 N32q
            refine go st32 ?_
            show Go p e below _ (T32.setTop (mkF m 117 #[.val (.int p0), .val (.int p1), .val (.int p2), .val (.int p3), .val (.int p4), .val (.ref b1), .val (.ref b3), .val (.int sa), .val (.int sb), .val (.ref b1), .val (.ref b3), .val (.int bF), .val (.int bL), .val (.int ex)] [(.int (own_sm b1 p1 p2 b3 bF bL))]))
            refine go (fun t k => by refine XS.iload X32.here hx rfl (hb hby at_117) rfl ?_; exact k) ?_
            show Go p e below _ (T32.setTop (mkF m 119 #[.val (.int p0), .val (.int p1), .val (.int p2), .val (.int p3), .val (.int p4), .val (.ref b1), .val (.ref b3), .val (.int sa), .val (.int sb), .val (.ref b1), .val (.ref b3), .val (.int bF), .val (.int bL), .val (.int ex)] [(.int ex), (.int (own_sm b1 p1 p2 b3 bF bL))]))
            have c119_33 : ¬ (¬ (own_sm b1 p1 p2 b3 bF bL) = ex) := not_not_intro (by rw [hex]; simp [own_sm, hab, ne3_b1_b3])
            refine go (fun t k => by refine XS.icmpNo X32.here hx rfl (hb hby at_119) rfl (teq (Decidable.not_not.mp c119_33)).2 ?_; exact k) ?_
            show Go p e below _ (T32.setTop (mkF m 122 #[.val (.int p0), .val (.int p1), .val (.int p2), .val (.int p3), .val (.int p4), .val (.ref b1), .val (.ref b3), .val (.int sa), .val (.int sb), .val (.ref b1), .val (.ref b3), .val (.int bF), .val (.int bL), .val (.int ex)] []))
            refine go (fun t k => by refine XS.iconst X32.here hx rfl (hb hby at_122) ?_; exact k) ?_
            show Go p e below _ (T32.setTop (mkF m 123 #[.val (.int p0), .val (.int p1), .val (.int p2), .val (.int p3), .val (.int p4), .val (.ref b1), .val (.ref b3), .val (.int sa), .val (.int sb), .val (.ref b1), .val (.ref b3), .val (.int bF), .val (.int bL), .val (.int ex)] [(.int (1 : Int32))]))
            refine go (fun t k => by refine XS.goto X32.here hx rfl (pc0 := 123) (pc' := 127) rfl (hb hby at_123) (by decide) (by decide) ?_; exact k) ?_
            show Go p e below _ (T32.setTop (mkF m 127 #[.val (.int p0), .val (.int p1), .val (.int p2), .val (.int p3), .val (.int p4), .val (.ref b1), .val (.ref b3), .val (.int sa), .val (.int sb), .val (.ref b1), .val (.ref b3), .val (.int bF), .val (.int bL), .val (.int ex)] [(.int (1 : Int32))]))
            refine goOut X32 (fun h => by rw [Bd.returns] at h; cases h) hlk (fun fs hr => retN X32 hx (t := .boolean) Bd.returns (by simp) (hb hby at_127) hr) (by decide) (by decide) ?_
            rw [e32]
            exact ⟨rfl, N32⟩
          by_cases c82_34 : ¬ sa = sb
          · skip
            refine go (fun t k => by refine XS.icmpYes X3.here hx rfl (pc0 := 82) (pc' := 101) rfl (hb hby at_82) rfl (feq c82_34).2 (by decide) (by decide) ?_; exact k) ?_
            show Go p e below _ (T3.setTop (mkF m 101 #[.val (.int p0), .val (.int p1), .val (.int p2), .val (.int p3), .val (.int p4), .val (.ref b1), .val (.ref b3), .val (.int sa), .val (.int sb), .val (.ref b1), .val (.ref b3), .val (.int bF), .val (.int bL), .unset] []))
            refine go (fun t k => by refine XS.iconst X3.here hx rfl (hb hby at_101) ?_; exact k) ?_
            show Go p e below _ (T3.setTop (mkF m 102 #[.val (.int p0), .val (.int p1), .val (.int p2), .val (.int p3), .val (.int p4), .val (.ref b1), .val (.ref b3), .val (.int sa), .val (.int sb), .val (.ref b1), .val (.ref b3), .val (.int bF), .val (.int bL), .unset] [(.int (0 : Int32))]))
            exact J102_31 _ (by simp [c82_34])
          · skip
            refine go (fun t k => by refine XS.icmpNo X3.here hx rfl (hb hby at_82) rfl (teq (Decidable.not_not.mp c82_34)).2 ?_; exact k) ?_
            show Go p e below _ (T3.setTop (mkF m 85 #[.val (.int p0), .val (.int p1), .val (.int p2), .val (.int p3), .val (.int p4), .val (.ref b1), .val (.ref b3), .val (.int sa), .val (.int sb), .val (.ref b1), .val (.ref b3), .val (.int bF), .val (.int bL), .unset] []))
            refine go (fun t k => by refine XS.iloadN X3.here hx rfl (hb hby at_85) rfl ?_; exact k) ?_
            show Go p e below _ (T3.setTop (mkF m 86 #[.val (.int p0), .val (.int p1), .val (.int p2), .val (.int p3), .val (.int p4), .val (.ref b1), .val (.ref b3), .val (.int sa), .val (.int sb), .val (.ref b1), .val (.ref b3), .val (.int bF), .val (.int bL), .unset] [(.int p1)]))
            refine go (fun t k => by refine XS.iload X3.here hx rfl (hb hby at_86) rfl ?_; exact k) ?_
            show Go p e below _ (T3.setTop (mkF m 88 #[.val (.int p0), .val (.int p1), .val (.int p2), .val (.int p3), .val (.int p4), .val (.ref b1), .val (.ref b3), .val (.int sa), .val (.int sb), .val (.ref b1), .val (.ref b3), .val (.int bF), .val (.int bL), .unset] [(.int bF), (.int p1)]))
            by_cases c88_35 : ¬ p1 = bF
            · skip
              refine go (fun t k => by refine XS.icmpYes X3.here hx rfl (pc0 := 88) (pc' := 101) rfl (hb hby at_88) rfl (feq c88_35).2 (by decide) (by decide) ?_; exact k) ?_
              show Go p e below _ (T3.setTop (mkF m 101 #[.val (.int p0), .val (.int p1), .val (.int p2), .val (.int p3), .val (.int p4), .val (.ref b1), .val (.ref b3), .val (.int sa), .val (.int sb), .val (.ref b1), .val (.ref b3), .val (.int bF), .val (.int bL), .unset] []))
              refine go (fun t k => by refine XS.iconst X3.here hx rfl (hb hby at_101) ?_; exact k) ?_
              show Go p e below _ (T3.setTop (mkF m 102 #[.val (.int p0), .val (.int p1), .val (.int p2), .val (.int p3), .val (.int p4), .val (.ref b1), .val (.ref b3), .val (.int sa), .val (.int sb), .val (.ref b1), .val (.ref b3), .val (.int bF), .val (.int bL), .unset] [(.int (0 : Int32))]))
              exact J102_31 _ (by simp [c82_34, c88_35])
            · skip
              refine go (fun t k => by refine XS.icmpNo X3.here hx rfl (hb hby at_88) rfl (teq (Decidable.not_not.mp c88_35)).2 ?_; exact k) ?_
              show Go p e below _ (T3.setTop (mkF m 91 #[.val (.int p0), .val (.int p1), .val (.int p2), .val (.int p3), .val (.int p4), .val (.ref b1), .val (.ref b3), .val (.int sa), .val (.int sb), .val (.ref b1), .val (.ref b3), .val (.int bF), .val (.int bL), .unset] []))
              refine go (fun t k => by refine XS.iloadN X3.here hx rfl (hb hby at_91) rfl ?_; exact k) ?_
              show Go p e below _ (T3.setTop (mkF m 92 #[.val (.int p0), .val (.int p1), .val (.int p2), .val (.int p3), .val (.int p4), .val (.ref b1), .val (.ref b3), .val (.int sa), .val (.int sb), .val (.ref b1), .val (.ref b3), .val (.int bF), .val (.int bL), .unset] [(.int p2)]))
              refine go (fun t k => by refine XS.iload X3.here hx rfl (hb hby at_92) rfl ?_; exact k) ?_
              show Go p e below _ (T3.setTop (mkF m 94 #[.val (.int p0), .val (.int p1), .val (.int p2), .val (.int p3), .val (.int p4), .val (.ref b1), .val (.ref b3), .val (.int sa), .val (.int sb), .val (.ref b1), .val (.ref b3), .val (.int bF), .val (.int bL), .unset] [(.int bL), (.int p2)]))
              by_cases c94_36 : ¬ p2 = bL
              · skip
                refine go (fun t k => by refine XS.icmpYes X3.here hx rfl (pc0 := 94) (pc' := 101) rfl (hb hby at_94) rfl (feq c94_36).2 (by decide) (by decide) ?_; exact k) ?_
                show Go p e below _ (T3.setTop (mkF m 101 #[.val (.int p0), .val (.int p1), .val (.int p2), .val (.int p3), .val (.int p4), .val (.ref b1), .val (.ref b3), .val (.int sa), .val (.int sb), .val (.ref b1), .val (.ref b3), .val (.int bF), .val (.int bL), .unset] []))
                refine go (fun t k => by refine XS.iconst X3.here hx rfl (hb hby at_101) ?_; exact k) ?_
                show Go p e below _ (T3.setTop (mkF m 102 #[.val (.int p0), .val (.int p1), .val (.int p2), .val (.int p3), .val (.int p4), .val (.ref b1), .val (.ref b3), .val (.int sa), .val (.int sb), .val (.ref b1), .val (.ref b3), .val (.int bF), .val (.int bL), .unset] [(.int (0 : Int32))]))
                exact J102_31 _ (by simp [c82_34, c88_35, c94_36])
              · skip
                refine go (fun t k => by refine XS.icmpNo X3.here hx rfl (hb hby at_94) rfl (teq (Decidable.not_not.mp c94_36)).2 ?_; exact k) ?_
                show Go p e below _ (T3.setTop (mkF m 97 #[.val (.int p0), .val (.int p1), .val (.int p2), .val (.int p3), .val (.int p4), .val (.ref b1), .val (.ref b3), .val (.int sa), .val (.int sb), .val (.ref b1), .val (.ref b3), .val (.int bF), .val (.int bL), .unset] []))
                refine go (fun t k => by refine XS.iconst X3.here hx rfl (hb hby at_97) ?_; exact k) ?_
                show Go p e below _ (T3.setTop (mkF m 98 #[.val (.int p0), .val (.int p1), .val (.int p2), .val (.int p3), .val (.int p4), .val (.ref b1), .val (.ref b3), .val (.int sa), .val (.int sb), .val (.ref b1), .val (.ref b3), .val (.int bF), .val (.int bL), .unset] [(.int (1 : Int32))]))
                refine go (fun t k => by refine XS.goto X3.here hx rfl (pc0 := 98) (pc' := 102) rfl (hb hby at_98) (by decide) (by decide) ?_; exact k) ?_
                show Go p e below _ (T3.setTop (mkF m 102 #[.val (.int p0), .val (.int p1), .val (.int p2), .val (.int p3), .val (.int p4), .val (.ref b1), .val (.ref b3), .val (.int sa), .val (.int sb), .val (.ref b1), .val (.ref b3), .val (.int bF), .val (.int bL), .unset] [(.int (1 : Int32))]))
                exact J102_31 _ (by simp [c82_34, c88_35, c94_36])
        by_cases c67_37 : (p0 &&& (8 : Int32)) = (0 : Int32)
        · skip
          refine go (fun t k => by refine XS.ifYes X3.here hx rfl (pc0 := 67) (pc' := 74) rfl (hb hby at_67) rfl ((if0 _ _).trans (teq c67_37).1) (by decide) (by decide) ?_; exact k) ?_
          show Go p e below _ (T3.setTop (mkF m 74 #[.val (.int p0), .val (.int p1), .val (.int p2), .val (.int p3), .val (.int p4), .val (.ref b1), .val (.ref b3), .val (.int sa), .val (.int sb), .val (.ref b1), .val (.ref b3), .val (.int bF), .unset, .unset] []))
          refine go (fun t k => by refine XS.iload X3.here hx rfl (hb hby at_74) rfl ?_; exact k) ?_
          show Go p e below _ (T3.setTop (mkF m 76 #[.val (.int p0), .val (.int p1), .val (.int p2), .val (.int p3), .val (.int p4), .val (.ref b1), .val (.ref b3), .val (.int sa), .val (.int sb), .val (.ref b1), .val (.ref b3), .val (.int bF), .unset, .unset] [(.int p4)]))
          exact J76_30 _
        · skip
          refine go (fun t k => by refine XS.ifNo X3.here hx rfl (hb hby at_67) rfl ((if0 _ _).trans (feq c67_37).1) ?_; exact k) ?_
          show Go p e below _ (T3.setTop (mkF m 70 #[.val (.int p0), .val (.int p1), .val (.int p2), .val (.int p3), .val (.int p4), .val (.ref b1), .val (.ref b3), .val (.int sa), .val (.int sb), .val (.ref b1), .val (.ref b3), .val (.int bF), .unset, .unset] []))
          refine go (fun t k => by refine XS.iloadN X3.here hx rfl (hb hby at_70) rfl ?_; exact k) ?_
          show Go p e below _ (T3.setTop (mkF m 71 #[.val (.int p0), .val (.int p1), .val (.int p2), .val (.int p3), .val (.int p4), .val (.ref b1), .val (.ref b3), .val (.int sa), .val (.int sb), .val (.ref b1), .val (.ref b3), .val (.int bF), .unset, .unset] [(.int p2)]))
          refine go (fun t k => by refine XS.goto X3.here hx rfl (pc0 := 71) (pc' := 76) rfl (hb hby at_71) (by decide) (by decide) ?_; exact k) ?_
          show Go p e below _ (T3.setTop (mkF m 76 #[.val (.int p0), .val (.int p1), .val (.int p2), .val (.int p3), .val (.int p4), .val (.ref b1), .val (.ref b3), .val (.int sa), .val (.int sb), .val (.ref b1), .val (.ref b3), .val (.int bF), .unset, .unset] [(.int p2)]))
          exact J76_30 _
      by_cases c53_38 : (p0 &&& (4 : Int32)) = (0 : Int32)
      · skip
        refine go (fun t k => by refine XS.ifYes X3.here hx rfl (pc0 := 53) (pc' := 60) rfl (hb hby at_53) rfl ((if0 _ _).trans (teq c53_38).1) (by decide) (by decide) ?_; exact k) ?_
        show Go p e below _ (T3.setTop (mkF m 60 #[.val (.int p0), .val (.int p1), .val (.int p2), .val (.int p3), .val (.int p4), .val (.ref b1), .val (.ref b3), .val (.int sa), .val (.int sb), .val (.ref b1), .val (.ref b3), .unset, .unset, .unset] []))
        refine go (fun t k => by refine XS.iloadN X3.here hx rfl (hb hby at_60) rfl ?_; exact k) ?_
        show Go p e below _ (T3.setTop (mkF m 61 #[.val (.int p0), .val (.int p1), .val (.int p2), .val (.int p3), .val (.int p4), .val (.ref b1), .val (.ref b3), .val (.int sa), .val (.int sb), .val (.ref b1), .val (.ref b3), .unset, .unset, .unset] [(.int p3)]))
        exact J61_29 _
      · skip
        refine go (fun t k => by refine XS.ifNo X3.here hx rfl (hb hby at_53) rfl ((if0 _ _).trans (feq c53_38).1) ?_; exact k) ?_
        show Go p e below _ (T3.setTop (mkF m 56 #[.val (.int p0), .val (.int p1), .val (.int p2), .val (.int p3), .val (.int p4), .val (.ref b1), .val (.ref b3), .val (.int sa), .val (.int sb), .val (.ref b1), .val (.ref b3), .unset, .unset, .unset] []))
        refine go (fun t k => by refine XS.iloadN X3.here hx rfl (hb hby at_56) rfl ?_; exact k) ?_
        show Go p e below _ (T3.setTop (mkF m 57 #[.val (.int p0), .val (.int p1), .val (.int p2), .val (.int p3), .val (.int p4), .val (.ref b1), .val (.ref b3), .val (.int sa), .val (.int sb), .val (.ref b1), .val (.ref b3), .unset, .unset, .unset] [(.int p1)]))
        refine go (fun t k => by refine XS.goto X3.here hx rfl (pc0 := 57) (pc' := 61) rfl (hb hby at_57) (by decide) (by decide) ?_; exact k) ?_
        show Go p e below _ (T3.setTop (mkF m 61 #[.val (.int p0), .val (.int p1), .val (.int p2), .val (.int p3), .val (.int p4), .val (.ref b1), .val (.ref b3), .val (.int sa), .val (.int sb), .val (.ref b1), .val (.ref b3), .unset, .unset, .unset] [(.int p1)]))
        exact J61_29 _
    · skip
      refine go (fun t k => by refine XS.ifNo X3.here hx rfl (hb hby at_38) rfl ((if0 _ _).trans (teq (Decidable.not_not.mp c38_28)).2) ?_; exact k) ?_
      show Go p e below _ (T3.setTop (mkF m 41 #[.val (.int p0), .val (.int p1), .val (.int p2), .val (.int p3), .val (.int p4), .val (.ref b1), .val (.ref b3), .val (.int sa), .val (.int sb), .val (.ref b1), .unset, .unset, .unset, .unset] []))
      refine go (fun t k => by refine XS.aload X3.here hx rfl (hb hby at_41) rfl rfl ?_; exact k) ?_
      show Go p e below _ (T3.setTop (mkF m 43 #[.val (.int p0), .val (.int p1), .val (.int p2), .val (.int p3), .val (.int p4), .val (.ref b1), .val (.ref b3), .val (.int sa), .val (.int sb), .val (.ref b1), .unset, .unset, .unset, .unset] [(.ref b1)]))
      refine go (fun t k => by refine XS.goto X3.here hx rfl (pc0 := 43) (pc' := 48) rfl (hb hby at_43) (by decide) (by decide) ?_; exact k) ?_
      show Go p e below _ (T3.setTop (mkF m 48 #[.val (.int p0), .val (.int p1), .val (.int p2), .val (.int p3), .val (.int p4), .val (.ref b1), .val (.ref b3), .val (.int sa), .val (.int sb), .val (.ref b1), .unset, .unset, .unset, .unset] [(.ref b1)]))
      refine go (fun t k => by refine XS.astore X3.here hx rfl (hb hby at_48) rfl rfl (l' := #[.val (.int p0), .val (.int p1), .val (.int p2), .val (.int p3), .val (.int p4), .val (.ref b1), .val (.ref b3), .val (.int sa), .val (.int sb), .val (.ref b1), .val (.ref b1), .unset, .unset, .unset]) rfl ?_; exact k) ?_
      show Go p e below _ (T3.setTop (mkF m 50 #[.val (.int p0), .val (.int p1), .val (.int p2), .val (.int p3), .val (.int p4), .val (.ref b1), .val (.ref b3), .val (.int sa), .val (.int sb), .val (.ref b1), .val (.ref b1), .unset, .unset, .unset] []))
      refine go (fun t k => by refine XS.iloadN X3.here hx rfl (hb hby at_50) rfl ?_; exact k) ?_
      show Go p e below _ (T3.setTop (mkF m 51 #[.val (.int p0), .val (.int p1), .val (.int p2), .val (.int p3), .val (.int p4), .val (.ref b1), .val (.ref b3), .val (.int sa), .val (.int sb), .val (.ref b1), .val (.ref b1), .unset, .unset, .unset] [(.int p0)]))
      refine go (fun t k => by refine XS.iconst X3.here hx rfl (hb hby at_51) ?_; exact k) ?_
      show Go p e below _ (T3.setTop (mkF m 52 #[.val (.int p0), .val (.int p1), .val (.int p2), .val (.int p3), .val (.int p4), .val (.ref b1), .val (.ref b3), .val (.int sa), .val (.int sb), .val (.ref b1), .val (.ref b1), .unset, .unset, .unset] [(.int (4 : Int32)), (.int p0)]))
      refine go (fun t k => by refine XS.iand X3.here hx rfl (hb hby at_52) rfl ?_; exact k) ?_
      show Go p e below _ (T3.setTop (mkF m 53 #[.val (.int p0), .val (.int p1), .val (.int p2), .val (.int p3), .val (.int p4), .val (.ref b1), .val (.ref b3), .val (.int sa), .val (.int sb), .val (.ref b1), .val (.ref b1), .unset, .unset, .unset] [(.int (p0 &&& (4 : Int32)))]))
      have J61_39 : ∀ bF : Int32, Go p e below (Kq s (Q0 Z p0 p1 p2 p3 p4 h0 n0) room_1.cells room_1.slots) (T3.setTop (mkF m 61 #[.val (.int p0), .val (.int p1), .val (.int p2), .val (.int p3), .val (.int p4), .val (.ref b1), .val (.ref b3), .val (.int sa), .val (.int sb), .val (.ref b1), .val (.ref b1), .unset, .unset, .unset] [(.int bF)])) := by
        intro bF
        show Go p e below _ (T3.setTop (mkF m 61 #[.val (.int p0), .val (.int p1), .val (.int p2), .val (.int p3), .val (.int p4), .val (.ref b1), .val (.ref b3), .val (.int sa), .val (.int sb), .val (.ref b1), .val (.ref b1), .unset, .unset, .unset] [(.int bF)]))
        refine go (fun t k => by refine XS.istore X3.here hx rfl (hb hby at_61) rfl (l' := #[.val (.int p0), .val (.int p1), .val (.int p2), .val (.int p3), .val (.int p4), .val (.ref b1), .val (.ref b3), .val (.int sa), .val (.int sb), .val (.ref b1), .val (.ref b1), .val (.int bF), .unset, .unset]) rfl ?_; exact k) ?_
        show Go p e below _ (T3.setTop (mkF m 63 #[.val (.int p0), .val (.int p1), .val (.int p2), .val (.int p3), .val (.int p4), .val (.ref b1), .val (.ref b3), .val (.int sa), .val (.int sb), .val (.ref b1), .val (.ref b1), .val (.int bF), .unset, .unset] []))
        refine go (fun t k => by refine XS.iloadN X3.here hx rfl (hb hby at_63) rfl ?_; exact k) ?_
        show Go p e below _ (T3.setTop (mkF m 64 #[.val (.int p0), .val (.int p1), .val (.int p2), .val (.int p3), .val (.int p4), .val (.ref b1), .val (.ref b3), .val (.int sa), .val (.int sb), .val (.ref b1), .val (.ref b1), .val (.int bF), .unset, .unset] [(.int p0)]))
        refine go (fun t k => by refine XS.bipush X3.here hx rfl (hb hby at_64) ?_; exact k) ?_
        show Go p e below _ (T3.setTop (mkF m 66 #[.val (.int p0), .val (.int p1), .val (.int p2), .val (.int p3), .val (.int p4), .val (.ref b1), .val (.ref b3), .val (.int sa), .val (.int sb), .val (.ref b1), .val (.ref b1), .val (.int bF), .unset, .unset] [(.int (8 : Int32)), (.int p0)]))
        refine go (fun t k => by refine XS.iand X3.here hx rfl (hb hby at_66) rfl ?_; exact k) ?_
        show Go p e below _ (T3.setTop (mkF m 67 #[.val (.int p0), .val (.int p1), .val (.int p2), .val (.int p3), .val (.int p4), .val (.ref b1), .val (.ref b3), .val (.int sa), .val (.int sb), .val (.ref b1), .val (.ref b1), .val (.int bF), .unset, .unset] [(.int (p0 &&& (8 : Int32)))]))
        have J76_40 : ∀ bL : Int32, Go p e below (Kq s (Q0 Z p0 p1 p2 p3 p4 h0 n0) room_1.cells room_1.slots) (T3.setTop (mkF m 76 #[.val (.int p0), .val (.int p1), .val (.int p2), .val (.int p3), .val (.int p4), .val (.ref b1), .val (.ref b3), .val (.int sa), .val (.int sb), .val (.ref b1), .val (.ref b1), .val (.int bF), .unset, .unset] [(.int bL)])) := by
          intro bL
          show Go p e below _ (T3.setTop (mkF m 76 #[.val (.int p0), .val (.int p1), .val (.int p2), .val (.int p3), .val (.int p4), .val (.ref b1), .val (.ref b3), .val (.int sa), .val (.int sb), .val (.ref b1), .val (.ref b1), .val (.int bF), .unset, .unset] [(.int bL)]))
          refine go (fun t k => by refine XS.istore X3.here hx rfl (hb hby at_76) rfl (l' := #[.val (.int p0), .val (.int p1), .val (.int p2), .val (.int p3), .val (.int p4), .val (.ref b1), .val (.ref b3), .val (.int sa), .val (.int sb), .val (.ref b1), .val (.ref b1), .val (.int bF), .val (.int bL), .unset]) rfl ?_; exact k) ?_
          show Go p e below _ (T3.setTop (mkF m 78 #[.val (.int p0), .val (.int p1), .val (.int p2), .val (.int p3), .val (.int p4), .val (.ref b1), .val (.ref b3), .val (.int sa), .val (.int sb), .val (.ref b1), .val (.ref b1), .val (.int bF), .val (.int bL), .unset] []))
          refine go (fun t k => by refine XS.iload X3.here hx rfl (hb hby at_78) rfl ?_; exact k) ?_
          show Go p e below _ (T3.setTop (mkF m 80 #[.val (.int p0), .val (.int p1), .val (.int p2), .val (.int p3), .val (.int p4), .val (.ref b1), .val (.ref b3), .val (.int sa), .val (.int sb), .val (.ref b1), .val (.ref b1), .val (.int bF), .val (.int bL), .unset] [(.int sa)]))
          refine go (fun t k => by refine XS.iload X3.here hx rfl (hb hby at_80) rfl ?_; exact k) ?_
          show Go p e below _ (T3.setTop (mkF m 82 #[.val (.int p0), .val (.int p1), .val (.int p2), .val (.int p3), .val (.int p4), .val (.ref b1), .val (.ref b3), .val (.int sa), .val (.int sb), .val (.ref b1), .val (.ref b1), .val (.int bF), .val (.int bL), .unset] [(.int sb), (.int sa)]))
          have hab : sa = sb := by
            rcases o_sa with q | q <;> rcases o_sb with r | r <;> subst q <;> subst r <;> first | rfl | (exfalso; revert c24_6 c38_28; decide)
          have J102_41 : ∀ ex : Int32, (ex = (if sa = sb ∧ p1 = bF ∧ p2 = bL then 1 else 0)) → Go p e below (Kq s (Q0 Z p0 p1 p2 p3 p4 h0 n0) room_1.cells room_1.slots) (T3.setTop (mkF m 102 #[.val (.int p0), .val (.int p1), .val (.int p2), .val (.int p3), .val (.int p4), .val (.ref b1), .val (.ref b3), .val (.int sa), .val (.int sb), .val (.ref b1), .val (.ref b1), .val (.int bF), .val (.int bL), .unset] [(.int ex)])) := by
            intro ex hex
            show Go p e below _ (T3.setTop (mkF m 102 #[.val (.int p0), .val (.int p1), .val (.int p2), .val (.int p3), .val (.int p4), .val (.ref b1), .val (.ref b3), .val (.int sa), .val (.int sb), .val (.ref b1), .val (.ref b1), .val (.int bF), .val (.int bL), .unset] [(.int ex)]))
            refine go (fun t k => by refine XS.istore X3.here hx rfl (hb hby at_102) rfl (l' := #[.val (.int p0), .val (.int p1), .val (.int p2), .val (.int p3), .val (.int p4), .val (.ref b1), .val (.ref b3), .val (.int sa), .val (.int sb), .val (.ref b1), .val (.ref b1), .val (.int bF), .val (.int bL), .val (.int ex)]) rfl ?_; exact k) ?_
            show Go p e below _ (T3.setTop (mkF m 104 #[.val (.int p0), .val (.int p1), .val (.int p2), .val (.int p3), .val (.int p4), .val (.ref b1), .val (.ref b3), .val (.int sa), .val (.int sb), .val (.ref b1), .val (.ref b1), .val (.int bF), .val (.int bL), .val (.int ex)] []))
            refine go (fun t k => by refine XS.aload X3.here hx rfl (hb hby at_104) rfl rfl ?_; exact k) ?_
            show Go p e below _ (T3.setTop (mkF m 106 #[.val (.int p0), .val (.int p1), .val (.int p2), .val (.int p3), .val (.int p4), .val (.ref b1), .val (.ref b3), .val (.int sa), .val (.int sb), .val (.ref b1), .val (.ref b1), .val (.int bF), .val (.int bL), .val (.int ex)] [(.ref b1)]))
            refine go (fun t k => by refine XS.iloadN X3.here hx rfl (hb hby at_106) rfl ?_; exact k) ?_
            show Go p e below _ (T3.setTop (mkF m 107 #[.val (.int p0), .val (.int p1), .val (.int p2), .val (.int p3), .val (.int p4), .val (.ref b1), .val (.ref b3), .val (.int sa), .val (.int sb), .val (.ref b1), .val (.ref b1), .val (.int bF), .val (.int bL), .val (.int ex)] [(.int p1), (.ref b1)]))
            refine go (fun t k => by refine XS.iloadN X3.here hx rfl (hb hby at_107) rfl ?_; exact k) ?_
            show Go p e below _ (T3.setTop (mkF m 108 #[.val (.int p0), .val (.int p1), .val (.int p2), .val (.int p3), .val (.int p4), .val (.ref b1), .val (.ref b3), .val (.int sa), .val (.int sb), .val (.ref b1), .val (.ref b1), .val (.int bF), .val (.int bL), .val (.int ex)] [(.int p2), (.int p1), (.ref b1)]))
            refine go (fun t k => by refine XS.aload X3.here hx rfl (hb hby at_108) rfl rfl ?_; exact k) ?_
            show Go p e below _ (T3.setTop (mkF m 110 #[.val (.int p0), .val (.int p1), .val (.int p2), .val (.int p3), .val (.int p4), .val (.ref b1), .val (.ref b3), .val (.int sa), .val (.int sb), .val (.ref b1), .val (.ref b1), .val (.int bF), .val (.int bL), .val (.int ex)] [(.ref b1), (.int p2), (.int p1), (.ref b1)]))
            refine go (fun t k => by refine XS.iload X3.here hx rfl (hb hby at_110) rfl ?_; exact k) ?_
            show Go p e below _ (T3.setTop (mkF m 112 #[.val (.int p0), .val (.int p1), .val (.int p2), .val (.int p3), .val (.int p4), .val (.ref b1), .val (.ref b3), .val (.int sa), .val (.int sb), .val (.ref b1), .val (.ref b1), .val (.int bF), .val (.int bL), .val (.int ex)] [(.int bF), (.ref b1), (.int p2), (.int p1), (.ref b1)]))
            refine go (fun t k => by refine XS.iload X3.here hx rfl (hb hby at_112) rfl ?_; exact k) ?_
            show Go p e below _ (T3.setTop (mkF m 114 #[.val (.int p0), .val (.int p1), .val (.int p2), .val (.int p3), .val (.int p4), .val (.ref b1), .val (.ref b3), .val (.int sa), .val (.int sb), .val (.ref b1), .val (.ref b1), .val (.int bF), .val (.int bL), .val (.int ex)] [(.int bL), (.int bF), (.ref b1), (.int p2), (.int p1), (.ref b1)]))
            obtain ⟨_, _, ⟨T42, L42, k42, n42⟩, -, X42, ⟨Lc42, hQ42, l42, y42, z42⟩, st42⟩ := Jvm.LawKit.callS X3 hx (y := (⟨"com/example/longhand/longhand/kernels/Limbs", "same", "([III[III)Z"⟩ : MethodName)) hown (mvT hZ (hw _ (List.mem_of_getElem? (i := 1) rfl))) (mvT hZ (hw _ (List.mem_of_getElem? (i := 2) rfl))) (mvT hZ (hw _ (List.mem_of_getElem? (i := 3) rfl))) (mvT hZ (hw _ (List.mem_of_getElem? (i := 4) rfl))) (by decide) (backOf (W := 0) (rm1 l Z a0 hw [] b1 p1 p2 b1 bF bL h3 n0 f4_Z) hZ (hw _ (List.mem_of_getElem? (i := 4) rfl)) (hw _ (List.mem_of_getElem? (i := 3) rfl)) (by decide) (by decide)) (g := (mkF m 114 #[.val (.int p0), .val (.int p1), .val (.int p2), .val (.int p3), .val (.int p4), .val (.ref b1), .val (.ref b3), .val (.int sa), .val (.int sb), .val (.ref b1), .val (.ref b1), .val (.int bF), .val (.int bL), .val (.int ex)] [(.int bL), (.int bF), (.ref b1), (.int p2), (.int p1), (.ref b1)])) rfl (by rw [hml]; rfl) (argsL := [(.ref b1), (.int p1), (.int p2), (.ref b1), (.int bF), (.int bL)]) (rest := []) (lenOf pd_0 rfl) rfl (by show 2 * 0 + _ ≤ _; exact Nat.le_of_eq rfl) (hb hby at_114) (fun _ _ => ⟨rfl, e3, (by decide : 2 + 0 ≤ _), (by decide : 4 + 0 ≤ _)⟩)
            dsimp only [Pt.U, Pt.locs, Pt.cells, Pt.slots] at X42 l42 y42 z42 st42 hQ42
            subst l42 y42 z42
            obtain ⟨rfl, N42q, e42⟩ := hQ42
            have N42 := Fr.app N0 N42q
            refine go st42 ?_
            show Go p e below _ (T42.setTop (mkF m 117 #[.val (.int p0), .val (.int p1), .val (.int p2), .val (.int p3), .val (.int p4), .val (.ref b1), .val (.ref b3), .val (.int sa), .val (.int sb), .val (.ref b1), .val (.ref b1), .val (.int bF), .val (.int bL), .val (.int ex)] [(.int (own_sm b1 p1 p2 b1 bF bL))]))
            refine go (fun t k => by refine XS.iload X42.here hx rfl (hb hby at_117) rfl ?_; exact k) ?_
            show Go p e below _ (T42.setTop (mkF m 119 #[.val (.int p0), .val (.int p1), .val (.int p2), .val (.int p3), .val (.int p4), .val (.ref b1), .val (.ref b3), .val (.int sa), .val (.int sb), .val (.ref b1), .val (.ref b1), .val (.int bF), .val (.int bL), .val (.int ex)] [(.int ex), (.int (own_sm b1 p1 p2 b1 bF bL))]))
            have c119_43 : ¬ (¬ (own_sm b1 p1 p2 b1 bF bL) = ex) := not_not_intro (by rw [hex]; simp [own_sm, hab])
            refine go (fun t k => by refine XS.icmpNo X42.here hx rfl (hb hby at_119) rfl (teq (Decidable.not_not.mp c119_43)).2 ?_; exact k) ?_
            show Go p e below _ (T42.setTop (mkF m 122 #[.val (.int p0), .val (.int p1), .val (.int p2), .val (.int p3), .val (.int p4), .val (.ref b1), .val (.ref b3), .val (.int sa), .val (.int sb), .val (.ref b1), .val (.ref b1), .val (.int bF), .val (.int bL), .val (.int ex)] []))
            refine go (fun t k => by refine XS.iconst X42.here hx rfl (hb hby at_122) ?_; exact k) ?_
            show Go p e below _ (T42.setTop (mkF m 123 #[.val (.int p0), .val (.int p1), .val (.int p2), .val (.int p3), .val (.int p4), .val (.ref b1), .val (.ref b3), .val (.int sa), .val (.int sb), .val (.ref b1), .val (.ref b1), .val (.int bF), .val (.int bL), .val (.int ex)] [(.int (1 : Int32))]))
            refine go (fun t k => by refine XS.goto X42.here hx rfl (pc0 := 123) (pc' := 127) rfl (hb hby at_123) (by decide) (by decide) ?_; exact k) ?_
            show Go p e below _ (T42.setTop (mkF m 127 #[.val (.int p0), .val (.int p1), .val (.int p2), .val (.int p3), .val (.int p4), .val (.ref b1), .val (.ref b3), .val (.int sa), .val (.int sb), .val (.ref b1), .val (.ref b1), .val (.int bF), .val (.int bL), .val (.int ex)] [(.int (1 : Int32))]))
            refine goOut X42 (fun h => by rw [Bd.returns] at h; cases h) hlk (fun fs hr => retN X42 hx (t := .boolean) Bd.returns (by simp) (hb hby at_127) hr) (by decide) (by decide) ?_
            rw [e42]
            exact ⟨rfl, N42⟩
          by_cases c82_44 : ¬ sa = sb
          · skip
            refine go (fun t k => by refine XS.icmpYes X3.here hx rfl (pc0 := 82) (pc' := 101) rfl (hb hby at_82) rfl (feq c82_44).2 (by decide) (by decide) ?_; exact k) ?_
            show Go p e below _ (T3.setTop (mkF m 101 #[.val (.int p0), .val (.int p1), .val (.int p2), .val (.int p3), .val (.int p4), .val (.ref b1), .val (.ref b3), .val (.int sa), .val (.int sb), .val (.ref b1), .val (.ref b1), .val (.int bF), .val (.int bL), .unset] []))
            refine go (fun t k => by refine XS.iconst X3.here hx rfl (hb hby at_101) ?_; exact k) ?_
            show Go p e below _ (T3.setTop (mkF m 102 #[.val (.int p0), .val (.int p1), .val (.int p2), .val (.int p3), .val (.int p4), .val (.ref b1), .val (.ref b3), .val (.int sa), .val (.int sb), .val (.ref b1), .val (.ref b1), .val (.int bF), .val (.int bL), .unset] [(.int (0 : Int32))]))
            exact J102_41 _ (by simp [c82_44])
          · skip
            refine go (fun t k => by refine XS.icmpNo X3.here hx rfl (hb hby at_82) rfl (teq (Decidable.not_not.mp c82_44)).2 ?_; exact k) ?_
            show Go p e below _ (T3.setTop (mkF m 85 #[.val (.int p0), .val (.int p1), .val (.int p2), .val (.int p3), .val (.int p4), .val (.ref b1), .val (.ref b3), .val (.int sa), .val (.int sb), .val (.ref b1), .val (.ref b1), .val (.int bF), .val (.int bL), .unset] []))
            refine go (fun t k => by refine XS.iloadN X3.here hx rfl (hb hby at_85) rfl ?_; exact k) ?_
            show Go p e below _ (T3.setTop (mkF m 86 #[.val (.int p0), .val (.int p1), .val (.int p2), .val (.int p3), .val (.int p4), .val (.ref b1), .val (.ref b3), .val (.int sa), .val (.int sb), .val (.ref b1), .val (.ref b1), .val (.int bF), .val (.int bL), .unset] [(.int p1)]))
            refine go (fun t k => by refine XS.iload X3.here hx rfl (hb hby at_86) rfl ?_; exact k) ?_
            show Go p e below _ (T3.setTop (mkF m 88 #[.val (.int p0), .val (.int p1), .val (.int p2), .val (.int p3), .val (.int p4), .val (.ref b1), .val (.ref b3), .val (.int sa), .val (.int sb), .val (.ref b1), .val (.ref b1), .val (.int bF), .val (.int bL), .unset] [(.int bF), (.int p1)]))
            by_cases c88_45 : ¬ p1 = bF
            · skip
              refine go (fun t k => by refine XS.icmpYes X3.here hx rfl (pc0 := 88) (pc' := 101) rfl (hb hby at_88) rfl (feq c88_45).2 (by decide) (by decide) ?_; exact k) ?_
              show Go p e below _ (T3.setTop (mkF m 101 #[.val (.int p0), .val (.int p1), .val (.int p2), .val (.int p3), .val (.int p4), .val (.ref b1), .val (.ref b3), .val (.int sa), .val (.int sb), .val (.ref b1), .val (.ref b1), .val (.int bF), .val (.int bL), .unset] []))
              refine go (fun t k => by refine XS.iconst X3.here hx rfl (hb hby at_101) ?_; exact k) ?_
              show Go p e below _ (T3.setTop (mkF m 102 #[.val (.int p0), .val (.int p1), .val (.int p2), .val (.int p3), .val (.int p4), .val (.ref b1), .val (.ref b3), .val (.int sa), .val (.int sb), .val (.ref b1), .val (.ref b1), .val (.int bF), .val (.int bL), .unset] [(.int (0 : Int32))]))
              exact J102_41 _ (by simp [c82_44, c88_45])
            · skip
              refine go (fun t k => by refine XS.icmpNo X3.here hx rfl (hb hby at_88) rfl (teq (Decidable.not_not.mp c88_45)).2 ?_; exact k) ?_
              show Go p e below _ (T3.setTop (mkF m 91 #[.val (.int p0), .val (.int p1), .val (.int p2), .val (.int p3), .val (.int p4), .val (.ref b1), .val (.ref b3), .val (.int sa), .val (.int sb), .val (.ref b1), .val (.ref b1), .val (.int bF), .val (.int bL), .unset] []))
              refine go (fun t k => by refine XS.iloadN X3.here hx rfl (hb hby at_91) rfl ?_; exact k) ?_
              show Go p e below _ (T3.setTop (mkF m 92 #[.val (.int p0), .val (.int p1), .val (.int p2), .val (.int p3), .val (.int p4), .val (.ref b1), .val (.ref b3), .val (.int sa), .val (.int sb), .val (.ref b1), .val (.ref b1), .val (.int bF), .val (.int bL), .unset] [(.int p2)]))
              refine go (fun t k => by refine XS.iload X3.here hx rfl (hb hby at_92) rfl ?_; exact k) ?_
              show Go p e below _ (T3.setTop (mkF m 94 #[.val (.int p0), .val (.int p1), .val (.int p2), .val (.int p3), .val (.int p4), .val (.ref b1), .val (.ref b3), .val (.int sa), .val (.int sb), .val (.ref b1), .val (.ref b1), .val (.int bF), .val (.int bL), .unset] [(.int bL), (.int p2)]))
              by_cases c94_46 : ¬ p2 = bL
              · skip
                refine go (fun t k => by refine XS.icmpYes X3.here hx rfl (pc0 := 94) (pc' := 101) rfl (hb hby at_94) rfl (feq c94_46).2 (by decide) (by decide) ?_; exact k) ?_
                show Go p e below _ (T3.setTop (mkF m 101 #[.val (.int p0), .val (.int p1), .val (.int p2), .val (.int p3), .val (.int p4), .val (.ref b1), .val (.ref b3), .val (.int sa), .val (.int sb), .val (.ref b1), .val (.ref b1), .val (.int bF), .val (.int bL), .unset] []))
                refine go (fun t k => by refine XS.iconst X3.here hx rfl (hb hby at_101) ?_; exact k) ?_
                show Go p e below _ (T3.setTop (mkF m 102 #[.val (.int p0), .val (.int p1), .val (.int p2), .val (.int p3), .val (.int p4), .val (.ref b1), .val (.ref b3), .val (.int sa), .val (.int sb), .val (.ref b1), .val (.ref b1), .val (.int bF), .val (.int bL), .unset] [(.int (0 : Int32))]))
                exact J102_41 _ (by simp [c82_44, c88_45, c94_46])
              · skip
                refine go (fun t k => by refine XS.icmpNo X3.here hx rfl (hb hby at_94) rfl (teq (Decidable.not_not.mp c94_46)).2 ?_; exact k) ?_
                show Go p e below _ (T3.setTop (mkF m 97 #[.val (.int p0), .val (.int p1), .val (.int p2), .val (.int p3), .val (.int p4), .val (.ref b1), .val (.ref b3), .val (.int sa), .val (.int sb), .val (.ref b1), .val (.ref b1), .val (.int bF), .val (.int bL), .unset] []))
                refine go (fun t k => by refine XS.iconst X3.here hx rfl (hb hby at_97) ?_; exact k) ?_
                show Go p e below _ (T3.setTop (mkF m 98 #[.val (.int p0), .val (.int p1), .val (.int p2), .val (.int p3), .val (.int p4), .val (.ref b1), .val (.ref b3), .val (.int sa), .val (.int sb), .val (.ref b1), .val (.ref b1), .val (.int bF), .val (.int bL), .unset] [(.int (1 : Int32))]))
                refine go (fun t k => by refine XS.goto X3.here hx rfl (pc0 := 98) (pc' := 102) rfl (hb hby at_98) (by decide) (by decide) ?_; exact k) ?_
                show Go p e below _ (T3.setTop (mkF m 102 #[.val (.int p0), .val (.int p1), .val (.int p2), .val (.int p3), .val (.int p4), .val (.ref b1), .val (.ref b3), .val (.int sa), .val (.int sb), .val (.ref b1), .val (.ref b1), .val (.int bF), .val (.int bL), .unset] [(.int (1 : Int32))]))
                exact J102_41 _ (by simp [c82_44, c88_45, c94_46])
        by_cases c67_47 : (p0 &&& (8 : Int32)) = (0 : Int32)
        · skip
          refine go (fun t k => by refine XS.ifYes X3.here hx rfl (pc0 := 67) (pc' := 74) rfl (hb hby at_67) rfl ((if0 _ _).trans (teq c67_47).1) (by decide) (by decide) ?_; exact k) ?_
          show Go p e below _ (T3.setTop (mkF m 74 #[.val (.int p0), .val (.int p1), .val (.int p2), .val (.int p3), .val (.int p4), .val (.ref b1), .val (.ref b3), .val (.int sa), .val (.int sb), .val (.ref b1), .val (.ref b1), .val (.int bF), .unset, .unset] []))
          refine go (fun t k => by refine XS.iload X3.here hx rfl (hb hby at_74) rfl ?_; exact k) ?_
          show Go p e below _ (T3.setTop (mkF m 76 #[.val (.int p0), .val (.int p1), .val (.int p2), .val (.int p3), .val (.int p4), .val (.ref b1), .val (.ref b3), .val (.int sa), .val (.int sb), .val (.ref b1), .val (.ref b1), .val (.int bF), .unset, .unset] [(.int p4)]))
          exact J76_40 _
        · skip
          refine go (fun t k => by refine XS.ifNo X3.here hx rfl (hb hby at_67) rfl ((if0 _ _).trans (feq c67_47).1) ?_; exact k) ?_
          show Go p e below _ (T3.setTop (mkF m 70 #[.val (.int p0), .val (.int p1), .val (.int p2), .val (.int p3), .val (.int p4), .val (.ref b1), .val (.ref b3), .val (.int sa), .val (.int sb), .val (.ref b1), .val (.ref b1), .val (.int bF), .unset, .unset] []))
          refine go (fun t k => by refine XS.iloadN X3.here hx rfl (hb hby at_70) rfl ?_; exact k) ?_
          show Go p e below _ (T3.setTop (mkF m 71 #[.val (.int p0), .val (.int p1), .val (.int p2), .val (.int p3), .val (.int p4), .val (.ref b1), .val (.ref b3), .val (.int sa), .val (.int sb), .val (.ref b1), .val (.ref b1), .val (.int bF), .unset, .unset] [(.int p2)]))
          refine go (fun t k => by refine XS.goto X3.here hx rfl (pc0 := 71) (pc' := 76) rfl (hb hby at_71) (by decide) (by decide) ?_; exact k) ?_
          show Go p e below _ (T3.setTop (mkF m 76 #[.val (.int p0), .val (.int p1), .val (.int p2), .val (.int p3), .val (.int p4), .val (.ref b1), .val (.ref b3), .val (.int sa), .val (.int sb), .val (.ref b1), .val (.ref b1), .val (.int bF), .unset, .unset] [(.int p2)]))
          exact J76_40 _
      by_cases c53_48 : (p0 &&& (4 : Int32)) = (0 : Int32)
      · skip
        refine go (fun t k => by refine XS.ifYes X3.here hx rfl (pc0 := 53) (pc' := 60) rfl (hb hby at_53) rfl ((if0 _ _).trans (teq c53_48).1) (by decide) (by decide) ?_; exact k) ?_
        show Go p e below _ (T3.setTop (mkF m 60 #[.val (.int p0), .val (.int p1), .val (.int p2), .val (.int p3), .val (.int p4), .val (.ref b1), .val (.ref b3), .val (.int sa), .val (.int sb), .val (.ref b1), .val (.ref b1), .unset, .unset, .unset] []))
        refine go (fun t k => by refine XS.iloadN X3.here hx rfl (hb hby at_60) rfl ?_; exact k) ?_
        show Go p e below _ (T3.setTop (mkF m 61 #[.val (.int p0), .val (.int p1), .val (.int p2), .val (.int p3), .val (.int p4), .val (.ref b1), .val (.ref b3), .val (.int sa), .val (.int sb), .val (.ref b1), .val (.ref b1), .unset, .unset, .unset] [(.int p3)]))
        exact J61_39 _
      · skip
        refine go (fun t k => by refine XS.ifNo X3.here hx rfl (hb hby at_53) rfl ((if0 _ _).trans (feq c53_48).1) ?_; exact k) ?_
        show Go p e below _ (T3.setTop (mkF m 56 #[.val (.int p0), .val (.int p1), .val (.int p2), .val (.int p3), .val (.int p4), .val (.ref b1), .val (.ref b3), .val (.int sa), .val (.int sb), .val (.ref b1), .val (.ref b1), .unset, .unset, .unset] []))
        refine go (fun t k => by refine XS.iloadN X3.here hx rfl (hb hby at_56) rfl ?_; exact k) ?_
        show Go p e below _ (T3.setTop (mkF m 57 #[.val (.int p0), .val (.int p1), .val (.int p2), .val (.int p3), .val (.int p4), .val (.ref b1), .val (.ref b3), .val (.int sa), .val (.int sb), .val (.ref b1), .val (.ref b1), .unset, .unset, .unset] [(.int p1)]))
        refine go (fun t k => by refine XS.goto X3.here hx rfl (pc0 := 57) (pc' := 61) rfl (hb hby at_57) (by decide) (by decide) ?_; exact k) ?_
        show Go p e below _ (T3.setTop (mkF m 61 #[.val (.int p0), .val (.int p1), .val (.int p2), .val (.int p3), .val (.int p4), .val (.ref b1), .val (.ref b3), .val (.int sa), .val (.int sb), .val (.ref b1), .val (.ref b1), .unset, .unset, .unset] [(.int p1)]))
        exact J61_39 _
set_option maxRecDepth 65536 in
set_option maxHeartbeats 40000000 in
theorem comes_1 {Post : Tables → Env → Array Value → State → Outcome → State → Prop} (hpost : ∀ tb e args s v u, (limb_1_1.after args s (.returned v) u = true ∧ limb_1_2.after args s (.returned v) u = true ∧ True) → FrameEnd s (.returned v) u (Jvm.fieldLocs frame_1_writes args s ++ Jvm.arrayLocs frame_1_arrays args s ++ Jvm.staticLocs frame_1_statics s) 16 128 → Post tb e args s (.returned v) u) :
    ArmFor flags0 classFile x code maxLocals ret World_1 tables_1 room_1 Calls_1 rest_1 Pre_1 Post := by
  intro l hfl _ _ p e ha hc hk s m args below hf hA hF happ hP
  obtain ⟨hcalls, hrest, hpre⟩ := hP
  obtain ⟨-, -, -, hnamed, -, -, -, hat⟩ := (Spec.applies_iff hf).mp happ
  obtain ⟨hg, hn⟩ := and_e (Cond.before_iff.mp (show (Jvm.Cond.and given_1 narrow_1).before args s = true from hpre))
  obtain ⟨g1, g2⟩ := and_e hg
  obtain ⟨g3, g4⟩ := and_e g2
  obtain ⟨g5, g6⟩ := and_e g4
  obtain ⟨g7, g8⟩ := and_e g6
  obtain ⟨g9, g10⟩ := and_e g8
  obtain ⟨w0, w1, w2, w3, w4, rfl⟩ : ∃ w0 w1 w2 w3 w4 : Value, args = #[w0, w1, w2, w3, w4] := by
    have hs : args.size = 5 := by simpa [Cond.value, given_1] using g1
    obtain ⟨L⟩ := args
    match L, hs with
    | [w0, w1, w2, w3, w4], _ => exact ⟨w0, w1, w2, w3, w4, rfl⟩
  have hw := fun d (hd : d ∈ tables_1) => atoms_spec (ws := Jvm.Cond.code x code maxLocals ret :: tables_1) hat d (List.mem_cons_of_mem _ hd)
  have hfit : Fit s := fun {y c} hc i hi => by
    obtain ⟨ha, rfl⟩ := Array.getElem?_eq_some_iff.mp hc
    have q := List.all_eq_true.mp ((Array.all_eq_true_iff_forall_mem.mp hF) _ (Array.getElem_mem ha)) i (List.mem_range.mpr hi)
    simpa [Array.getElem?_eq_getElem hi] using q
  obtain ⟨i0, ei0⟩ := is_v g3
  obtain rfl : w0 = (.int i0) := Option.some.inj ei0
  obtain ⟨i1, ei1⟩ := is_v g5
  obtain rfl : w1 = (.int i1) := Option.some.inj ei1
  obtain ⟨i2, ei2⟩ := is_v g7
  obtain rfl : w2 = (.int i2) := Option.some.inj ei2
  obtain ⟨i3, ei3⟩ := is_v g9
  obtain rfl : w3 = (.int i3) := Option.some.inj ei3
  obtain ⟨i4, ei4⟩ := is_v g10
  obtain rfl : w4 = (.int i4) := Option.some.inj ei4
  obtain ⟨n, o, h1, h2, h3, _, L, rfl, ⟨rfl, N⟩, hq⟩ := rm0 l s _ hw tables_1 i0 i1 i2 i3 i4  s.heap s.heap.size (Nat.le_refl _)  p e ha hc hk s m _ below hf ((Spec.applies_iff_loose hf).mp happ).1 ⟨rfl, State.Warmed39.refl s, rfl⟩ trivial
  refine ⟨n, _, h1, h2, h3, hpost _ _ _ _ _ _ ⟨Cond.after_iff.mpr rfl, Cond.after_iff.mpr (eq_i res_at (Term.int_eval (1)) rfl), trivial⟩ ⟨hq.1, hq.2.1, (hq.2.2.sift fun y hy => Or.inr (N y hy)).mono (by decide) (by decide)⟩⟩
theorem main_1_1 : Claimed_1_1 := comes_1 fun _ _ _ _ _ _ h hF => ⟨h.1, hF⟩
theorem main_1_2 : Claimed_1_2 := comes_1 fun _ _ _ _ _ _ h hF => ⟨h.2.1, hF⟩
end Jvm.Pilot.@@N@@
namespace Jvm.Pilot.@@N@@
open Jvm Jvm.ClassFile Sem Op Lib Jvm.Free Jvm.Stand Jvm.Pilot.@@N@@.Jvm.D
/-! MADE BY PROGRAM (witnessworld.py) out of the Statement's table words and the real class files: 9 classes; the members and pool entries that the words name. The judged class is class 1, her method 1. -/
namespace start1
open Jvm.ClassFile
def u (s : String) : CpInfo := .utf8 (stringToUtf16 s)
/-- a pool by its gaps: so many unusable entries, then the entry; so many at the end -/
def gap : Nat → List CpInfo → List CpInfo
  | 0, r => r
  | n + 1, r => .unusable :: gap n r
def poolList (es : List (Nat × CpInfo)) (last : Nat) : List CpInfo := es.foldr (fun e r => gap e.1 (e.2 :: r)) (gap last [])
def pool (es : List (Nat × CpInfo)) (last : Nat) : Array CpInfo := ⟨poolList es last⟩
def fileOf (pool : Array CpInfo) (this : Nat) (attrs : Array Attribute := #[]) (ms : Array MethodInfo := #[]) (fl : Nat := 33) (sup : Nat := 0) (ifs : Array Nat := #[]) (fds : Array FieldInfo := #[]) : ClassFile where
  minorVersion := 0
  majorVersion := 65
  constantPool := pool
  accessFlags := fl
  thisClass := this
  superClass := sup
  interfaces := ifs
  fields := fds
  methods := ms
  attributes := attrs
def plain (name : String) (sup : Option ClassId) : Class where
  name := name
  kind := .ordinary
  loader := none
  accessFlags := 33
  super := sup
  interfaces := #[]
  cf := none
  fields := #[]
  methods := #[]
  instanceTypes := #[]
  staticTypes := #[]
  resolved := #[]
  callSites := []
  init := .initialized
  statics := none
  mirror := none

def pool0 : Array CpInfo := pool [(5, u "<init>"), (0, u "()V"), (1, .class_ 10), (1, u "java/lang/Object")] 113

def k0m0 : Method := { name := "<init>", desc := "()V", sig := { parameters := [], returnType := none }, accessFlags := 1, code := none }
/-- java/lang/Object -/
def k0 : Class := { plain "java/lang/Object" none with
  accessFlags := 33
  interfaces := #[]
  cf := some (fileOf pool0 8 #[] #[{ accessFlags := 1, nameIndex := 5, descriptorIndex := 6, attributes := #[] }] 33 0 #[] #[])
  fields := #[]
  methods := #[k0m0]
  instanceTypes := #[]
  staticTypes := #[]
  resolved := Array.replicate 124 none
  statics := none }

def pool1 : Array CpInfo := pool [(2, .class_ 4), (1, u "java/lang/Object"), (0, u "<init>"), (0, u "()V"), (0, .methodref 8 9), (0, .class_ 10), (0, .nameAndType 11 12), (0, u "com/example/longhand/longhand/kernels/Limbs"), (0, u "same"), (0, u "([III[III)Z"), (0, .class_ 14), (0, u "com/example/longhand/longhand/kernels/LimbsSamePinLaw"), (2, u "law"), (0, u "(IIIII)Z")] 5

def k1m0 : Method := { name := "<init>", desc := "()V", sig := { parameters := [], returnType := none }, accessFlags := 2, code := none }
def k1c1 : Code := { maxStack := 6, maxLocals := 14, code := code, exceptionTable := #[], attributes := #[] }
def k1m1 : Method := { name := "law", desc := "(IIIII)Z", sig := { parameters := [.int, .int, .int, .int, .int], returnType := some .boolean }, accessFlags := 9, code := some k1c1 }
/-- com/example/longhand/longhand/kernels/LimbsSamePinLaw -/
def k1 : Class := { plain "com/example/longhand/longhand/kernels/LimbsSamePinLaw" (some 0) with
  accessFlags := 49
  interfaces := #[]
  cf := some (fileOf pool1 13 #[] #[{ accessFlags := 2, nameIndex := 5, descriptorIndex := 6, attributes := #[] }, { accessFlags := 9, nameIndex := 17, descriptorIndex := 18, attributes := #[] }] 49 2 #[] #[])
  fields := #[]
  methods := #[k1m0, k1m1]
  instanceTypes := #[]
  staticTypes := #[]
  resolved := Array.replicate 24 none
  statics := none }

def pool2 : Array CpInfo := pool [(2, .class_ 4), (1, u "java/lang/Object"), (0, u "<init>"), (0, u "()V"), (1, .class_ 10), (1, u "com/example/longhand/longhand/kernels/Limbs"), (63, u "RADIX"), (0, u "I"), (9, u "DIGITS"), (3, u "same"), (0, u "([III[III)Z")] 10

def k2m0 : Method := { name := "<init>", desc := "()V", sig := { parameters := [], returnType := none }, accessFlags := 2, code := none }
def k2c1 : Code := { maxStack := 2, maxLocals := 6, code := prog_15_method_4_code, exceptionTable := #[], attributes := #[] }
def k2m1 : Method := { name := "same", desc := "([III[III)Z", sig := { parameters := [(.array .int), .int, .int, (.array .int), .int, .int], returnType := some .boolean }, accessFlags := 8, code := some k2c1 }
/-- com/example/longhand/longhand/kernels/Limbs -/
def k2 : Class := { plain "com/example/longhand/longhand/kernels/Limbs" (some 0) with
  accessFlags := 49
  interfaces := #[]
  cf := some (fileOf pool2 8 #[] #[{ accessFlags := 2, nameIndex := 5, descriptorIndex := 6, attributes := #[] }, { accessFlags := 8, nameIndex := 89, descriptorIndex := 90, attributes := #[] }] 49 2 #[] #[{ accessFlags := 25, nameIndex := 85, descriptorIndex := 75, attributes := #[] }, { accessFlags := 25, nameIndex := 74, descriptorIndex := 75, attributes := #[] }])
  fields := #[{ name := "DIGITS", type := .int, accessFlags := 25, slot := 0, constantValue := 0 }, { name := "RADIX", type := .int, accessFlags := 25, slot := 1, constantValue := 0 }]
  methods := #[k2m0, k2m1]
  instanceTypes := #[]
  staticTypes := #[.int, .int]
  resolved := Array.replicate 101 none
  statics := none }

def pool3 : Array CpInfo := pool [(1, u "java/lang/Cloneable"), (0, .class_ 1), (0, u "java/lang/Object"), (0, .class_ 3)] 3

/-- java/lang/Cloneable -/
def k3 : Class := { plain "java/lang/Cloneable" (some 0) with
  accessFlags := 1537
  interfaces := #[]
  cf := some (fileOf pool3 2 #[] #[] 1537 4 #[] #[])
  fields := #[]
  methods := #[]
  instanceTypes := #[]
  staticTypes := #[]
  resolved := Array.replicate 8 none
  statics := none }

def pool4 : Array CpInfo := pool [(1, u "java/io/Serializable"), (0, .class_ 1), (0, u "java/lang/Object"), (0, .class_ 3)] 3

/-- java/io/Serializable -/
def k4 : Class := { plain "java/io/Serializable" (some 0) with
  accessFlags := 1537
  interfaces := #[]
  cf := some (fileOf pool4 2 #[] #[] 1537 4 #[] #[])
  fields := #[]
  methods := #[]
  instanceTypes := #[]
  staticTypes := #[]
  resolved := Array.replicate 8 none
  statics := none }

/-- the primitive byte -/
def k5 : Class := { plain "byte" none with kind := .primitive 'B', accessFlags := 0x411 }
/-- [B -/
def k6 : Class := { plain "[B" (some 0) with kind := .array 5 .byte, interfaces := #[3, 4], accessFlags := 1041 }

/-- the primitive int -/
def k7 : Class := { plain "int" none with kind := .primitive 'I', accessFlags := 0x411 }
/-- [I -/
def k8 : Class := { plain "[I" (some 0) with kind := .array 7 .int, interfaces := #[3, 4], accessFlags := 1041 }

def heap : Heap := #[]
def classes : Array Class := #[k0, k1, k2, k3, k4, k5, k6, k7, k8]
def interned : List (Array UInt16 × Addr) := []
def slotsUsed : Nat := 0
def theMethod : MethodId := ⟨1, 1⟩
def args0 : Array Value := #[.int 5, .int 7, .int 1, .int 2, .int 3]
def aboutOver (below : List Frame) : State where
  vm := { classes := classes, interned := interned.toArray }
  heap := heap
  slotsUsed := slotsUsed
  threads := #[{ frames := .invoking theMethod args0 :: below }]
def below0 : List Frame := [.native { method := ⟨0, 0⟩, args := #[] }]
def about1 : State := aboutOver below0
def p0 : Program := .bare "" "" ""
def e0 : Env := launch0.env 0 0 0
theorem w_frames : about1.frames = Frame.invoking theMethod args0 :: below0 := rfl
set_option maxRecDepth 65536 in
theorem w_args : argsFit about1.vm theMethod args0 = true := by decide +kernel
set_option maxRecDepth 65536 in
theorem w_heap : heapFits about1 = true := by decide +kernel
set_option maxRecDepth 65536 in
theorem w_runnable : about1.curStatus? = some .runnable := by decide +kernel
set_option maxRecDepth 65536 in
theorem w_alone : about1.alone = true := by decide +kernel
set_option maxRecDepth 65536 in
theorem w_named : about1.methodNamed? x = some theMethod := by decide +kernel
set_option maxRecDepth 65536 in
theorem w_hears : about1.hears theMethod below0 = true := by decide +kernel
set_option maxRecDepth 65536 in
theorem w_ripe : about1.ripe theMethod args0 below0 = true := by decide +kernel
theorem w_running : about1.status = .running := rfl
set_option maxRecDepth 65536 in
theorem w_room : about1.hasRoom e0.platform room_1 = true :=
  launch0.hasRoom_least _ room_1 (by decide +kernel) (by decide +kernel) (by decide +kernel) (by decide +kernel) (by decide +kernel) (by decide +kernel)
theorem allAtoms_all (ts : List Jvm.Cond) (a : Array Jvm.Value) (st : Jvm.State) : (allAtoms ts).before a st = ts.all (fun c => c.before a st) := by
  induction ts with
  | nil => rfl
  | cons c t ih =>
    show (Jvm.Cond.and c (allAtoms t)).before a st = _
    rw [Jvm.Cond.before_and, ih, List.all_cons]
def words1 : List Jvm.Cond := Jvm.Cond.code x code maxLocals ret :: tables_1
/-- a 'code' word, met by the world's own term for the bytes: nothing is compared byte by byte -/
theorem code_word {y : MethodName} {bytes : ByteArray} {mx : Nat} {rt : Option FieldType} {a : Array Value} {s : State} {m : MethodId} {meth : Method} {c : Code} (h1 : s.methodNamed? y = some m) (h2 : s.vm.method? m = some meth) (h3 : meth.code = some c) (h4 : c.code = bytes)
    (h5 : (c.maxLocals == mx && c.exceptionTable.isEmpty && decide (c.maxStack ≤ mostOperands) && decide (meth.sig.returnType = rt) && !meth.locks && decide (parseMethodDescriptor y.desc = some meth.sig)) = true) : (Jvm.Cond.code y bytes mx rt).before a s = true := by
  simp only [Bool.and_eq_true, beq_iff_eq, Bool.not_eq_true', decide_eq_true_eq] at h5
  obtain ⟨⟨⟨⟨⟨g1, g2⟩, g3⟩, g4⟩, g5⟩, g6⟩ := h5
  simp [Cond.before, Cond.holds, Cond.value, h1, h2, h3, h4, g1, g2, g3, g4, g5, g6]
def isCode : Jvm.Cond → Bool
  | .code _ _ _ _ => true
  | _ => false
theorem all_split {L : List Jvm.Cond} {P : Jvm.Cond → Bool} (h1 : L.all (fun c => isCode c || P c) = true) (h2 : ∀ c ∈ L.filter isCode, P c = true) : L.all P = true := by
  refine List.all_eq_true.mpr fun c hc => ?_
  have h := List.all_eq_true.mp h1 c hc
  rcases Bool.eq_false_or_eq_true (isCode c) with hi | hi
  · exact h2 c (List.mem_filter.mpr ⟨hc, hi⟩)
  · simpa [hi] using h
set_option maxRecDepth 65536 in
theorem w_c0 : (Jvm.Cond.code x code maxLocals ret).before args0 about1 = true := code_word (m := ⟨1, 1⟩) (meth := k1m1) (c := k1c1) (by decide +kernel) rfl rfl rfl (by decide +kernel)
set_option maxRecDepth 65536 in
theorem w_c1 : (Jvm.Cond.code ({ cls := "com/example/longhand/longhand/kernels/Limbs", name := "same", desc := "([III[III)Z" } : Jvm.MethodName) prog_15_method_4_code (6 : Nat) (Option.some Jvm.ClassFile.FieldType.boolean)).before args0 about1 = true := code_word (m := ⟨2, 1⟩) (meth := k2m1) (c := k2c1) (by decide +kernel) rfl rfl rfl (by decide +kernel)
def codes1 : List Jvm.Cond := [Jvm.Cond.code x code maxLocals ret, Jvm.Cond.code ({ cls := "com/example/longhand/longhand/kernels/Limbs", name := "same", desc := "([III[III)Z" } : Jvm.MethodName) prog_15_method_4_code (6 : Nat) (Option.some Jvm.ClassFile.FieldType.boolean)]
set_option maxRecDepth 65536 in
theorem codes_eq : words1.filter isCode = codes1 := rfl
theorem w_codes : ∀ c ∈ words1.filter isCode, c.before args0 about1 = true := by
  rw [codes_eq]
  intro c hc
  simp only [codes1, List.mem_cons, List.not_mem_nil, or_false] at hc
  rcases hc with rfl | rfl
  · exact w_c0
  · exact w_c1
set_option maxRecDepth 65536 in
theorem w_t1 : words1.all (fun c => isCode c || c.before args0 about1) = true := by decide +kernel
theorem w_tables : (allAtoms (Jvm.Cond.code x code maxLocals ret :: tables_1)).before args0 about1 = true := by
  rw [allAtoms_all]
  show words1.all (fun c => c.before args0 about1) = true
  refine all_split ?_ w_codes
  rw [w_t1]
set_option maxRecDepth 65536 in
theorem w_case : (Jvm.Cond.and given_1 narrow_1).before args0 about1 = true := by decide +kernel
theorem w_applies : (headSpec (Jvm.Cond.code x code maxLocals ret :: tables_1) room_1).applies x e0.platform about1 = true :=
  (Spec.applies_iff w_frames).mpr ⟨w_running, w_runnable, w_alone, w_named, w_hears, w_ripe, w_room, w_tables⟩
theorem atStart : AtStart classFile x code maxLocals ret World_1 tables_1 room_1 Calls_1 rest_1 Pre_1 launch0 p0 e0 about1 theMethod args0 below0 :=
  ⟨lists_1, trivial, launch0.admits_env _ _ _, launch0.least_env, fairChoices_fair.cas, fairChoices_fair.clock, w_frames, w_args, w_heap, w_applies, trivial, trivial, w_case⟩
end start1
theorem witness_1 : WitnessClaimed_1 := ⟨start1.p0, start1.e0, start1.about1, start1.theMethod, start1.args0, start1.below0, start1.atStart⟩
end Jvm.Pilot.@@N@@
