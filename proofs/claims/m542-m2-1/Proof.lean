import JvmDerived
import JvmDerived.Pilot.@@N@@Statement
import JvmDerived.Pilot.@@N@@Code
set_option linter.unusedVariables false
set_option linter.unusedSimpArgs false
namespace Jvm.RoadKit
open Sem ClassFile Op Lib Jvm.Stand Jvm.Free Jvm.LawKit
section Own
variable {p : Program} {l : Launch} {e : Env} {R : Room} {s : State} {m : MethodId} {args : Array Value} {below : List Frame} {meth : Method} {c : Code} {T : State} {locs : List Loc} {cells slots : Nat}
/-- from S the run comes to the end of the call, and K holds there -/
def Go (p : Program) (e : Env) (below : List Frame) (K : State → Outcome → Prop) (S : State) : Prop := ∃ s₂ o, Steps p.tables e below S s₂ ∧ s₂.status = .running ∧ Ended s₂ below o ∧ K s₂ o
def Kq (s : State) (Q : Option Value → Heap → List Loc → Prop) (k n : Nat) (t : State) (o : Outcome) : Prop := ∃ v L, o = .returned v ∧ Q v t.heap L ∧ FrameEnd s o t L k n
theorem go {K : State → Outcome → Prop} {S S' : State} (h : ∀ t, Steps p.tables e below S' t → Steps p.tables e below S t) (g : Go p e below K S') : Go p e below K S := by
  obtain ⟨t, o, h1, h2⟩ := g
  exact ⟨t, o, h _ h1, h2⟩
theorem goOut (X : Stand p l e R s m args below meth c T locs cells slots) {Q : Option Value → Heap → List Loc → Prop} {k n : Nat} {S : State} {v : Option Value} (hv : meth.sig.returnType = none → v = none) (hlocks : meth.locks = false)
    (hs : ∀ fs, (∀ (f : JFrame) (acts : List Action), f.method = m → f.locked = none → f.entered = [] → (doReturn e (T.setTop f) acts v).1 = T.setFrames fs) → Steps p.tables e below S (T.setFrames fs))
    (hk : cells ≤ k) (hn : slots ≤ n) (hq : Q v T.heap locs) : Go p e below (Kq s Q k n) S := by
  obtain ⟨fs, hr, hrun, hended, hW, hsame⟩ := X.leave (v := v) hv hlocks
  exact ⟨_, _, hs fs hr, hrun, hended, _, _, rfl, hq, ⟨_, rfl⟩, hW, hsame.mono hk hn⟩
end Own
end Jvm.RoadKit
namespace Jvm.Pilot.@@N@@
open Jvm Jvm.ClassFile Sem Op Lib Jvm.Free Jvm.Stand Jvm.LawKit Jvm.RoadKit Bundle Jvm.Pilot.@@N@@.Jvm.D
def own_max (a b : Int32) : Int32 := if a < b then b else a
theorem d1_0 : decode jdk_29_method_65_code 0 = .ok (.iload_n 0, 1) := by decide +kernel
theorem d1_1 : decode jdk_29_method_65_code 1 = .ok (.iload_n 1, 1) := by decide +kernel
theorem d1_2 : decode jdk_29_method_65_code 2 = .ok (.if_icmp .lt 7, 3) := by decide +kernel
theorem d1_9 : decode jdk_29_method_65_code 9 = .ok (.iload_n 1, 1) := by decide +kernel
theorem d1_10 : decode jdk_29_method_65_code 10 = .ok (.ireturn, 1) := by decide +kernel
theorem d1_5 : decode jdk_29_method_65_code 5 = .ok (.iload_n 0, 1) := by decide +kernel
theorem d1_6 : decode jdk_29_method_65_code 6 = .ok (.goto 4, 3) := by decide +kernel
theorem ef_rm1 (m : MethodId) (x0 : Int32) (x1 : Int32) : entryFrame m #[(.int x0), (.int x1)] 2 = mkF m 0 #[.val (.int x0), .val (.int x1)] [] := by first | (simp [entryFrame, mkF, argsToLocals, Value.category]; done) | rfl
def Q1 (Z : State) (p0 : Int32) (p1 : Int32) (h0 : Heap) (n0 : Nat) (v : Option Value) (h : Heap) (L : List Loc) : Prop := v = some (.int (own_max p0 p1)) ∧ Fr n0 L ∧ h = h0
set_option maxRecDepth 65536 in
set_option maxHeartbeats 40000000 in
theorem rm1 (l : Launch) (Z : State) (a0 : Array Value) (hw : ∀ d ∈ tables_1, d.before a0 Z = true) (ws : List Jvm.Cond) (p0 : Int32) (p1 : Int32)  (h0 : Heap) (n0 : Nat) (Z0 : n0 ≤ h0.size)  :
    MetFree l (⟨"java/lang/Math", "max", "(II)I"⟩ : MethodName) (head1 (Jvm.Cond.code (⟨"java/lang/Math", "max", "(II)I"⟩ : MethodName) jdk_29_method_65_code 2 (some .int) :: ws) ({ frames := 0, cells := 0, slots := 0, locals := 0 } : Room)) (fun av' U => av' = #[(.int p0), (.int p1)] ∧ Z.Warmed39 U.vm ∧ U.heap = h0) (fun _ _ _ _ _ => True) (fun _ U o U' => ∃ v L, o = .returned v ∧ Q1 Z p0 p1 h0 n0 v U'.heap L ∧ FrameEnd U o U' L ({ frames := 0, cells := 0, slots := 0, locals := 0 } : Room).cells ({ frames := 0, cells := 0, slots := 0, locals := 0 } : Room).slots) := by
  refine MetFree.of_bodySF (Jvm.Free.JP.mathPlain rfl (by decide +kernel)) hisR ?_
  intro p e s m args below meth c s₁ Bd hml0 hP hK
  obtain ⟨rfl, hZ, hh⟩ := hP
  have hx := Bd.exec
  have hby := Bd.bytes
  have hlk := Bd.notSynchronized
  have hml : c.maxLocals = 2 := hml0
  have hown : s.vm.findClass "java/lang/Math" = some m.cls := findClass_of_methodNamed Bd.named
  have hnm := (name_of_methodNamed Bd.named Bd.method).1
  have X0 : Stand p l e ({ frames := 0, cells := 0, slots := 0, locals := 0 } : Room) s m #[(.int p0), (.int p1)] below meth c s₁ [] 0 0 := Stand.of_body Bd
  have e0 : s₁.heap = h0 := by rw [← hh, Bd.state]; rfl
  have N0 := Fr.nil n0
  show Go p e below (Kq s (Q1 Z p0 p1 h0 n0) ({ frames := 0, cells := 0, slots := 0, locals := 0 } : Room).cells ({ frames := 0, cells := 0, slots := 0, locals := 0 } : Room).slots) _
  refine go (fun t kt => castTop (ef_rm1 m p0 p1) kt) ?_
  show Go p e below _ (s₁.setTop (mkF m 0 #[.val (.int p0), .val (.int p1)] []))
  refine go (fun t kt' => by refine XS.iloadN X0.here hx rfl (hb hby d1_0) rfl ?_; exact kt') ?_
  show Go p e below _ (s₁.setTop (mkF m 1 #[.val (.int p0), .val (.int p1)] [(.int p0)]))
  refine go (fun t kt' => by refine XS.iloadN X0.here hx rfl (hb hby d1_1) rfl ?_; exact kt') ?_
  show Go p e below _ (s₁.setTop (mkF m 2 #[.val (.int p0), .val (.int p1)] [(.int p1), (.int p0)]))
  by_cases c2_1 : p0 < p1
  · skip
    refine go (fun t kt' => by refine XS.icmpYes X0.here hx rfl (pc0 := 2) (pc' := 9) rfl (hb hby d1_2) rfl (tlt c2_1).1 (by decide) (by decide) ?_; exact kt') ?_
    show Go p e below _ (s₁.setTop (mkF m 9 #[.val (.int p0), .val (.int p1)] []))
    refine go (fun t kt' => by refine XS.iloadN X0.here hx rfl (hb hby d1_9) rfl ?_; exact kt') ?_
    show Go p e below _ (s₁.setTop (mkF m 10 #[.val (.int p0), .val (.int p1)] [(.int p1)]))
    refine goOut X0 (fun h => by rw [Bd.returns] at h; cases h) hlk (fun fs hr => retOut X0 hx Bd.returns rfl (Or.inl ⟨rfl, Or.inl rfl, _, rfl⟩) (hb hby d1_10) hr) (by decide) (by decide) ?_
    rw [e0]
    exact ⟨by simp [own_max, c2_1, nar], N0, rfl⟩
  · skip
    refine go (fun t kt' => by refine XS.icmpNo X0.here hx rfl (hb hby d1_2) rfl (flt c2_1).1 ?_; exact kt') ?_
    show Go p e below _ (s₁.setTop (mkF m 5 #[.val (.int p0), .val (.int p1)] []))
    refine go (fun t kt' => by refine XS.iloadN X0.here hx rfl (hb hby d1_5) rfl ?_; exact kt') ?_
    show Go p e below _ (s₁.setTop (mkF m 6 #[.val (.int p0), .val (.int p1)] [(.int p0)]))
    refine go (fun t kt' => by refine XS.goto X0.here hx rfl (pc0 := 6) (pc' := 10) rfl (hb hby d1_6) (by decide) (by decide) ?_; exact kt') ?_
    show Go p e below _ (s₁.setTop (mkF m 10 #[.val (.int p0), .val (.int p1)] [(.int p0)]))
    refine goOut X0 (fun h => by rw [Bd.returns] at h; cases h) hlk (fun fs hr => retOut X0 hx Bd.returns rfl (Or.inl ⟨rfl, Or.inl rfl, _, rfl⟩) (hb hby d1_10) hr) (by decide) (by decide) ?_
    rw [e0]
    exact ⟨by simp [own_max, c2_1, nar], N0, rfl⟩
theorem d2_0 : decode prog_56_method_1_code 0 = .ok (.aload_n 0, 1) := by decide +kernel
theorem d2_1 : decode prog_56_method_1_code 1 = .ok (.invokespecial 1, 3) := by decide +kernel
theorem d2_4 : decode prog_56_method_1_code 4 = .ok (.return_, 1) := by decide +kernel
theorem pn_com_example_coreloom_coreloom_Transfer : plainName "com/example/coreloom/coreloom/Transfer" = true := by first | (simp [plainName, overriddenIn]; done) | decide +kernel
theorem ef_rm2 (m : MethodId) (x0 : Addr) : entryFrame m #[(.ref x0)] 1 = mkF m 0 #[.val (.ref x0)] [] := by first | (simp [entryFrame, mkF, argsToLocals, Value.category]; done) | rfl
def Q2 (Z : State) (a : Addr) (h0 : Heap) (n0 : Nat) (v : Option Value) (h : Heap) (L : List Loc) : Prop := v = none ∧ Fr n0 L ∧ h = h0
set_option maxRecDepth 65536 in
set_option maxHeartbeats 40000000 in
theorem rm2 (l : Launch) (Z : State) (a0 : Array Value) (hw : ∀ d ∈ tables_1, d.before a0 Z = true) (ws : List Jvm.Cond) (a : Addr)  (h0 : Heap) (n0 : Nat) (Z0 : n0 ≤ h0.size)  :
    MetFree l (⟨"com/example/coreloom/coreloom/Transfer", "<init>", "()V"⟩ : MethodName) (head1 (Jvm.Cond.code (⟨"com/example/coreloom/coreloom/Transfer", "<init>", "()V"⟩ : MethodName) prog_56_method_1_code 1 none :: ws) ({ frames := 1, cells := 0, slots := 0, locals := 12 } : Room)) (fun av' U => av' = #[(.ref a)] ∧ Z.Warmed39 U.vm ∧ U.heap = h0) (fun _ _ _ _ _ => True) (fun _ U o U' => ∃ v L, o = .returned v ∧ Q2 Z a h0 n0 v U'.heap L ∧ FrameEnd U o U' L ({ frames := 1, cells := 0, slots := 0, locals := 12 } : Room).cells ({ frames := 1, cells := 0, slots := 0, locals := 12 } : Room).slots) := by
  refine MetFree.of_bodySF (plainFor_of_name pn_com_example_coreloom_coreloom_Transfer) hisR ?_
  intro p e s m args below meth c s₁ Bd hml0 hP hK
  obtain ⟨rfl, hZ, hh⟩ := hP
  have hx := Bd.exec
  have hby := Bd.bytes
  have hlk := Bd.notSynchronized
  have hml : c.maxLocals = 1 := hml0
  have hown : s.vm.findClass "com/example/coreloom/coreloom/Transfer" = some m.cls := findClass_of_methodNamed Bd.named
  have hnm := (name_of_methodNamed Bd.named Bd.method).1
  have X0 : Stand p l e ({ frames := 1, cells := 0, slots := 0, locals := 12 } : Room) s m #[(.ref a)] below meth c s₁ [] 0 0 := Stand.of_body Bd
  have e0 : s₁.heap = h0 := by rw [← hh, Bd.state]; rfl
  have N0 := Fr.nil n0
  show Go p e below (Kq s (Q2 Z a h0 n0) ({ frames := 1, cells := 0, slots := 0, locals := 12 } : Room).cells ({ frames := 1, cells := 0, slots := 0, locals := 12 } : Room).slots) _
  refine go (fun t kt => castTop (ef_rm2 m a) kt) ?_
  show Go p e below _ (s₁.setTop (mkF m 0 #[.val (.ref a)] []))
  refine go (fun t kt' => by refine XS.aloadN X0.here hx rfl (hb hby d2_0) rfl rfl ?_; exact kt') ?_
  show Go p e below _ (s₁.setTop (mkF m 1 #[.val (.ref a)] [(.ref a)]))
  obtain ⟨T1, X1, e1, st1⟩ := initO X0 hx hZ hown (hw _ (List.mem_of_getElem? (i := 16) rfl)) (hw _ (List.mem_of_getElem? (i := 17) rfl)) (hw _ (List.mem_of_getElem? (i := 18) rfl)) e0 (g := (mkF m 1 #[.val (.ref a)] [(.ref a)])) rfl (by rw [hml]; rfl) rfl (hb hby d2_1) (by decide) (W := 0) (by show 2 * 0 + _ ≤ _; exact Nat.le_of_eq rfl) (by decide)
  refine go st1 ?_
  show Go p e below _ (T1.setTop (mkF m 4 #[.val (.ref a)] []))
  refine goOut X1 (fun _ => rfl) hlk (fun fs hr => X1.returnOut hx Bd.returns (hb hby d2_4) hr) (by decide) (by decide) ?_
  rw [e1]
  exact ⟨rfl, N0, rfl⟩
theorem d4_0 : decode prog_56_method_2_code 0 = .ok (.aload_n 0, 1) := by decide +kernel
theorem d4_1 : decode prog_56_method_2_code 1 = .ok (.aload_n 1, 1) := by decide +kernel
theorem d4_2 : decode prog_56_method_2_code 2 = .ok (.putfield 7, 3) := by decide +kernel
theorem d4_5 : decode prog_56_method_2_code 5 = .ok (.aload_n 0, 1) := by decide +kernel
theorem d4_6 : decode prog_56_method_2_code 6 = .ok (.iload_n 2, 1) := by decide +kernel
theorem d4_7 : decode prog_56_method_2_code 7 = .ok (.putfield 13, 3) := by decide +kernel
theorem d4_10 : decode prog_56_method_2_code 10 = .ok (.aload_n 0, 1) := by decide +kernel
theorem d4_11 : decode prog_56_method_2_code 11 = .ok (.lload_n 3, 1) := by decide +kernel
theorem d4_12 : decode prog_56_method_2_code 12 = .ok (.putfield 17, 3) := by decide +kernel
theorem d4_15 : decode prog_56_method_2_code 15 = .ok (.aload_n 0, 1) := by decide +kernel
theorem d4_16 : decode prog_56_method_2_code 16 = .ok (.aload 5, 2) := by decide +kernel
theorem d4_18 : decode prog_56_method_2_code 18 = .ok (.putfield 21, 3) := by decide +kernel
theorem d4_21 : decode prog_56_method_2_code 21 = .ok (.aload_n 0, 1) := by decide +kernel
theorem d4_22 : decode prog_56_method_2_code 22 = .ok (.iload 6, 2) := by decide +kernel
theorem d4_24 : decode prog_56_method_2_code 24 = .ok (.putfield 25, 3) := by decide +kernel
theorem d4_27 : decode prog_56_method_2_code 27 = .ok (.aload_n 0, 1) := by decide +kernel
theorem d4_28 : decode prog_56_method_2_code 28 = .ok (.iload 7, 2) := by decide +kernel
theorem d4_30 : decode prog_56_method_2_code 30 = .ok (.putfield 28, 3) := by decide +kernel
theorem d4_33 : decode prog_56_method_2_code 33 = .ok (.aload_n 0, 1) := by decide +kernel
theorem d4_34 : decode prog_56_method_2_code 34 = .ok (.iload 8, 2) := by decide +kernel
theorem d4_36 : decode prog_56_method_2_code 36 = .ok (.putfield 31, 3) := by decide +kernel
theorem d4_39 : decode prog_56_method_2_code 39 = .ok (.return_, 1) := by decide +kernel
theorem ef_rm4 (m : MethodId) (x0 : Addr) (x1 : Addr) (x2 : Int32) (x3 : Int64) (x4 : Int32) (x5 : Int32) (x6 : Int32) : entryFrame m #[(.ref x0), (.ref x1), (.int x2), (.long x3), .null, (.int x4), (.int x5), (.int x6)] 9 = mkF m 0 #[.val (.ref x0), .val (.ref x1), .val (.int x2), .val (.long x3), .second, .val .null, .val (.int x4), .val (.int x5), .val (.int x6)] [] := by first | (simp [entryFrame, mkF, argsToLocals, Value.category]; done) | rfl
def Q4 (Z : State) (a a1 : Addr) (p2 : Int32) (q3 : Int64) (p6 p7 p8 : Int32) (h0 : Heap) (n0 : Nat) (v : Option Value) (h : Heap) (L : List Loc) : Prop := v = none ∧ Fr n0 L ∧ Keep h0 h [a] ∧ Exa Z h a "com/example/coreloom/coreloom/Transfer" ∧ Fld Z h a "com/example/coreloom/coreloom/Transfer" "call" "Lcom/example/coreloom/coreloom/SystemCall;" (.ref a1) ∧ Fld Z h a "com/example/coreloom/coreloom/Transfer" "descriptor" "I" (.int p2) ∧ Fld Z h a "com/example/coreloom/coreloom/Transfer" "opening" "J" (.long q3) ∧ Fld Z h a "com/example/coreloom/coreloom/Transfer" "file" "Lcom/example/coreloom/coreloom/StorageFile;" .null ∧ Fld Z h a "com/example/coreloom/coreloom/Transfer" "position" "I" (.int p6) ∧ Fld Z h a "com/example/coreloom/coreloom/Transfer" "address" "I" (.int p7) ∧ Fld Z h a "com/example/coreloom/coreloom/Transfer" "cells" "I" (.int p8)
set_option maxRecDepth 65536 in
set_option maxHeartbeats 40000000 in
theorem rm4 (l : Launch) (Z : State) (a0 : Array Value) (hw : ∀ d ∈ tables_1, d.before a0 Z = true) (ws : List Jvm.Cond) (a : Addr) (a1 : Addr) (p2 : Int32) (q3 : Int64) (p6 : Int32) (p7 : Int32) (p8 : Int32) (u0 u1 u2 u3 u4 u5 u6 : Value) (h0 : Heap) (n0 : Nat) (Z0 : n0 ≤ h0.size) (E_a : Exa Z h0 a "com/example/coreloom/coreloom/Transfer") (g_a : n0 ≤ a) (F_call_a : Fld Z h0 a "com/example/coreloom/coreloom/Transfer" "call" "Lcom/example/coreloom/coreloom/SystemCall;" u0) (F_descriptor_a : Fld Z h0 a "com/example/coreloom/coreloom/Transfer" "descriptor" "I" u1) (F_opening_a : Fld Z h0 a "com/example/coreloom/coreloom/Transfer" "opening" "J" u2) (F_file_a : Fld Z h0 a "com/example/coreloom/coreloom/Transfer" "file" "Lcom/example/coreloom/coreloom/StorageFile;" u3) (F_position_a : Fld Z h0 a "com/example/coreloom/coreloom/Transfer" "position" "I" u4) (F_address_a : Fld Z h0 a "com/example/coreloom/coreloom/Transfer" "address" "I" u5) (F_cells_a : Fld Z h0 a "com/example/coreloom/coreloom/Transfer" "cells" "I" u6) :
    MetFree l (⟨"com/example/coreloom/coreloom/Transfer", "set", "(Lcom/example/coreloom/coreloom/SystemCall;IJLcom/example/coreloom/coreloom/StorageFile;III)V"⟩ : MethodName) (head1 (Jvm.Cond.code (⟨"com/example/coreloom/coreloom/Transfer", "set", "(Lcom/example/coreloom/coreloom/SystemCall;IJLcom/example/coreloom/coreloom/StorageFile;III)V"⟩ : MethodName) prog_56_method_2_code 9 none :: ws) ({ frames := 0, cells := 0, slots := 0, locals := 0 } : Room)) (fun av' U => av' = #[(.ref a), (.ref a1), (.int p2), (.long q3), .null, (.int p6), (.int p7), (.int p8)] ∧ Z.Warmed39 U.vm ∧ U.heap = h0) (fun _ _ _ _ _ => True) (fun _ U o U' => ∃ v L, o = .returned v ∧ Q4 Z a a1 p2 q3 p6 p7 p8 h0 n0 v U'.heap L ∧ FrameEnd U o U' L ({ frames := 0, cells := 0, slots := 0, locals := 0 } : Room).cells ({ frames := 0, cells := 0, slots := 0, locals := 0 } : Room).slots) := by
  refine MetFree.of_bodySF (plainFor_of_name pn_com_example_coreloom_coreloom_Transfer) hisR ?_
  intro p e s m args below meth c s₁ Bd hml0 hP hK
  obtain ⟨rfl, hZ, hh⟩ := hP
  have hx := Bd.exec
  have hby := Bd.bytes
  have hlk := Bd.notSynchronized
  have hml : c.maxLocals = 9 := hml0
  have hown : s.vm.findClass "com/example/coreloom/coreloom/Transfer" = some m.cls := findClass_of_methodNamed Bd.named
  have hnm := (name_of_methodNamed Bd.named Bd.method).1
  have X0 : Stand p l e ({ frames := 0, cells := 0, slots := 0, locals := 0 } : Room) s m #[(.ref a), (.ref a1), (.int p2), (.long q3), .null, (.int p6), (.int p7), (.int p8)] below meth c s₁ [] 0 0 := Stand.of_body Bd
  have e0 : s₁.heap = h0 := by rw [← hh, Bd.state]; rfl
  have N0 := Fr.nil n0
  show Go p e below (Kq s (Q4 Z a a1 p2 q3 p6 p7 p8 h0 n0) ({ frames := 0, cells := 0, slots := 0, locals := 0 } : Room).cells ({ frames := 0, cells := 0, slots := 0, locals := 0 } : Room).slots) _
  refine go (fun t kt => castTop (ef_rm4 m a a1 p2 q3 p6 p7 p8) kt) ?_
  have K0 := Keep.refl h0 [a]
  show Go p e below _ (s₁.setTop (mkF m 0 #[.val (.ref a), .val (.ref a1), .val (.int p2), .val (.long q3), .second, .val .null, .val (.int p6), .val (.int p7), .val (.int p8)] []))
  refine go (fun t kt' => by refine XS.aloadN X0.here hx rfl (hb hby d4_0) rfl rfl ?_; exact kt') ?_
  show Go p e below _ (s₁.setTop (mkF m 1 #[.val (.ref a), .val (.ref a1), .val (.int p2), .val (.long q3), .second, .val .null, .val (.int p6), .val (.int p7), .val (.int p8)] [(.ref a)]))
  refine go (fun t kt' => by refine XS.aloadN X0.here hx rfl (hb hby d4_1) rfl rfl ?_; exact kt') ?_
  show Go p e below _ (s₁.setTop (mkF m 2 #[.val (.ref a), .val (.ref a1), .val (.int p2), .val (.long q3), .second, .val .null, .val (.int p6), .val (.int p7), .val (.int p8)] [(.ref a1), (.ref a)]))
  obtain ⟨T1, h1, X1, e1, W1, st1⟩ := putF X0 hx hZ hown (host := "") (Or.inl (hw _ (List.mem_of_getElem? (i := 25) rfl))) Via.refl e0 F_call_a E_a (Or.inl (hw _ (List.mem_of_getElem? (i := 26) rfl))) (hw _ (List.mem_of_getElem? (i := 11) rfl)) (ty := (.object "com/example/coreloom/coreloom/SystemCall")) (by decide) rfl rfl (g := (mkF m 2 #[.val (.ref a), .val (.ref a1), .val (.int p2), .val (.long q3), .second, .val .null, .val (.int p6), .val (.int p7), .val (.int p8)] [(.ref a1), (.ref a)])) rfl rfl (hb hby d4_2)
  have N1 := Fr.snoc X1 N0 g_a
  have f2_Z := Nat.le_trans Z0 (Keep.of_wr W1).1
  have f3_K := K0.wr W1 (Or.inl (List.mem_of_getElem? (i := 0) rfl))
  have f4_E_a := E_a.wr W1
  have f5_F_a_call := F_call_a.same W1
  have f6_F_a_descriptor := F_descriptor_a.other W1 (Or.inr (slot_ne (Or.inl (hw _ (List.mem_of_getElem? (i := 28) rfl))) (Or.inl (hw _ (List.mem_of_getElem? (i := 26) rfl))) (by decide) (t := .int) (t' := (.object "com/example/coreloom/coreloom/SystemCall")) (by decide) (by decide)))
  have f7_F_a_opening := F_opening_a.other W1 (Or.inr (slot_ne (Or.inl (hw _ (List.mem_of_getElem? (i := 30) rfl))) (Or.inl (hw _ (List.mem_of_getElem? (i := 26) rfl))) (by decide) (t := .long) (t' := (.object "com/example/coreloom/coreloom/SystemCall")) (by decide) (by decide)))
  have f8_F_a_file := F_file_a.other W1 (Or.inr (slot_ne (Or.inl (hw _ (List.mem_of_getElem? (i := 32) rfl))) (Or.inl (hw _ (List.mem_of_getElem? (i := 26) rfl))) (by decide) (t := (.object "com/example/coreloom/coreloom/StorageFile")) (t' := (.object "com/example/coreloom/coreloom/SystemCall")) (by decide) (by decide)))
  have f9_F_a_position := F_position_a.other W1 (Or.inr (slot_ne (Or.inl (hw _ (List.mem_of_getElem? (i := 34) rfl))) (Or.inl (hw _ (List.mem_of_getElem? (i := 26) rfl))) (by decide) (t := .int) (t' := (.object "com/example/coreloom/coreloom/SystemCall")) (by decide) (by decide)))
  have f10_F_a_address := F_address_a.other W1 (Or.inr (slot_ne (Or.inl (hw _ (List.mem_of_getElem? (i := 36) rfl))) (Or.inl (hw _ (List.mem_of_getElem? (i := 26) rfl))) (by decide) (t := .int) (t' := (.object "com/example/coreloom/coreloom/SystemCall")) (by decide) (by decide)))
  have f11_F_a_cells := F_cells_a.other W1 (Or.inr (slot_ne (Or.inl (hw _ (List.mem_of_getElem? (i := 38) rfl))) (Or.inl (hw _ (List.mem_of_getElem? (i := 26) rfl))) (by decide) (t := .int) (t' := (.object "com/example/coreloom/coreloom/SystemCall")) (by decide) (by decide)))
  refine go st1 ?_
  show Go p e below _ (T1.setTop (mkF m 5 #[.val (.ref a), .val (.ref a1), .val (.int p2), .val (.long q3), .second, .val .null, .val (.int p6), .val (.int p7), .val (.int p8)] []))
  refine go (fun t kt' => by refine XS.aloadN X1.here hx rfl (hb hby d4_5) rfl rfl ?_; exact kt') ?_
  show Go p e below _ (T1.setTop (mkF m 6 #[.val (.ref a), .val (.ref a1), .val (.int p2), .val (.long q3), .second, .val .null, .val (.int p6), .val (.int p7), .val (.int p8)] [(.ref a)]))
  refine go (fun t kt' => by refine XS.iloadN X1.here hx rfl (hb hby d4_6) rfl ?_; exact kt') ?_
  show Go p e below _ (T1.setTop (mkF m 7 #[.val (.ref a), .val (.ref a1), .val (.int p2), .val (.long q3), .second, .val .null, .val (.int p6), .val (.int p7), .val (.int p8)] [(.int p2), (.ref a)]))
  obtain ⟨T12, h12, X12, e12, W12, st12⟩ := putF X1 hx hZ hown (host := "") (Or.inl (hw _ (List.mem_of_getElem? (i := 27) rfl))) Via.refl e1 f6_F_a_descriptor f4_E_a (Or.inl (hw _ (List.mem_of_getElem? (i := 28) rfl))) (hw _ (List.mem_of_getElem? (i := 11) rfl)) (ty := .int) (by decide) rfl rfl (g := (mkF m 7 #[.val (.ref a), .val (.ref a1), .val (.int p2), .val (.long q3), .second, .val .null, .val (.int p6), .val (.int p7), .val (.int p8)] [(.int p2), (.ref a)])) rfl rfl (hb hby d4_7)
  have N12 := Fr.snoc X12 N1 g_a
  have f13_Z := Nat.le_trans f2_Z (Keep.of_wr W12).1
  have f14_K := f3_K.wr W12 (Or.inl (List.mem_of_getElem? (i := 0) rfl))
  have f15_E_a := f4_E_a.wr W12
  have f16_F_a_call := f5_F_a_call.other W12 (Or.inr (slot_ne (Or.inl (hw _ (List.mem_of_getElem? (i := 26) rfl))) (Or.inl (hw _ (List.mem_of_getElem? (i := 28) rfl))) (by decide) (t := (.object "com/example/coreloom/coreloom/SystemCall")) (t' := .int) (by decide) (by decide)))
  have f17_F_a_descriptor := f6_F_a_descriptor.same W12
  have f18_F_a_opening := f7_F_a_opening.other W12 (Or.inr (slot_ne (Or.inl (hw _ (List.mem_of_getElem? (i := 30) rfl))) (Or.inl (hw _ (List.mem_of_getElem? (i := 28) rfl))) (by decide) (t := .long) (t' := .int) (by decide) (by decide)))
  have f19_F_a_file := f8_F_a_file.other W12 (Or.inr (slot_ne (Or.inl (hw _ (List.mem_of_getElem? (i := 32) rfl))) (Or.inl (hw _ (List.mem_of_getElem? (i := 28) rfl))) (by decide) (t := (.object "com/example/coreloom/coreloom/StorageFile")) (t' := .int) (by decide) (by decide)))
  have f20_F_a_position := f9_F_a_position.other W12 (Or.inr (slot_ne (Or.inl (hw _ (List.mem_of_getElem? (i := 34) rfl))) (Or.inl (hw _ (List.mem_of_getElem? (i := 28) rfl))) (by decide) (t := .int) (t' := .int) (by decide) (by decide)))
  have f21_F_a_address := f10_F_a_address.other W12 (Or.inr (slot_ne (Or.inl (hw _ (List.mem_of_getElem? (i := 36) rfl))) (Or.inl (hw _ (List.mem_of_getElem? (i := 28) rfl))) (by decide) (t := .int) (t' := .int) (by decide) (by decide)))
  have f22_F_a_cells := f11_F_a_cells.other W12 (Or.inr (slot_ne (Or.inl (hw _ (List.mem_of_getElem? (i := 38) rfl))) (Or.inl (hw _ (List.mem_of_getElem? (i := 28) rfl))) (by decide) (t := .int) (t' := .int) (by decide) (by decide)))
  refine go st12 ?_
  show Go p e below _ (T12.setTop (mkF m 10 #[.val (.ref a), .val (.ref a1), .val (.int p2), .val (.long q3), .second, .val .null, .val (.int p6), .val (.int p7), .val (.int p8)] []))
  refine go (fun t kt' => by refine XS.aloadN X12.here hx rfl (hb hby d4_10) rfl rfl ?_; exact kt') ?_
  show Go p e below _ (T12.setTop (mkF m 11 #[.val (.ref a), .val (.ref a1), .val (.int p2), .val (.long q3), .second, .val .null, .val (.int p6), .val (.int p7), .val (.int p8)] [(.ref a)]))
  refine go (fun t kt' => by refine XS.lloadN X12.here hx rfl (hb hby d4_11) rfl ?_; exact kt') ?_
  show Go p e below _ (T12.setTop (mkF m 12 #[.val (.ref a), .val (.ref a1), .val (.int p2), .val (.long q3), .second, .val .null, .val (.int p6), .val (.int p7), .val (.int p8)] [(.long q3), (.ref a)]))
  obtain ⟨T23, h23, X23, e23, W23, st23⟩ := putF X12 hx hZ hown (host := "") (Or.inl (hw _ (List.mem_of_getElem? (i := 29) rfl))) Via.refl e12 f18_F_a_opening f15_E_a (Or.inl (hw _ (List.mem_of_getElem? (i := 30) rfl))) (hw _ (List.mem_of_getElem? (i := 11) rfl)) (ty := .long) (by decide) rfl rfl (g := (mkF m 12 #[.val (.ref a), .val (.ref a1), .val (.int p2), .val (.long q3), .second, .val .null, .val (.int p6), .val (.int p7), .val (.int p8)] [(.long q3), (.ref a)])) rfl rfl (hb hby d4_12)
  have N23 := Fr.snoc X23 N12 g_a
  have f24_Z := Nat.le_trans f13_Z (Keep.of_wr W23).1
  have f25_K := f14_K.wr W23 (Or.inl (List.mem_of_getElem? (i := 0) rfl))
  have f26_E_a := f15_E_a.wr W23
  have f27_F_a_call := f16_F_a_call.other W23 (Or.inr (slot_ne (Or.inl (hw _ (List.mem_of_getElem? (i := 26) rfl))) (Or.inl (hw _ (List.mem_of_getElem? (i := 30) rfl))) (by decide) (t := (.object "com/example/coreloom/coreloom/SystemCall")) (t' := .long) (by decide) (by decide)))
  have f28_F_a_descriptor := f17_F_a_descriptor.other W23 (Or.inr (slot_ne (Or.inl (hw _ (List.mem_of_getElem? (i := 28) rfl))) (Or.inl (hw _ (List.mem_of_getElem? (i := 30) rfl))) (by decide) (t := .int) (t' := .long) (by decide) (by decide)))
  have f29_F_a_opening := f18_F_a_opening.same W23
  have f30_F_a_file := f19_F_a_file.other W23 (Or.inr (slot_ne (Or.inl (hw _ (List.mem_of_getElem? (i := 32) rfl))) (Or.inl (hw _ (List.mem_of_getElem? (i := 30) rfl))) (by decide) (t := (.object "com/example/coreloom/coreloom/StorageFile")) (t' := .long) (by decide) (by decide)))
  have f31_F_a_position := f20_F_a_position.other W23 (Or.inr (slot_ne (Or.inl (hw _ (List.mem_of_getElem? (i := 34) rfl))) (Or.inl (hw _ (List.mem_of_getElem? (i := 30) rfl))) (by decide) (t := .int) (t' := .long) (by decide) (by decide)))
  have f32_F_a_address := f21_F_a_address.other W23 (Or.inr (slot_ne (Or.inl (hw _ (List.mem_of_getElem? (i := 36) rfl))) (Or.inl (hw _ (List.mem_of_getElem? (i := 30) rfl))) (by decide) (t := .int) (t' := .long) (by decide) (by decide)))
  have f33_F_a_cells := f22_F_a_cells.other W23 (Or.inr (slot_ne (Or.inl (hw _ (List.mem_of_getElem? (i := 38) rfl))) (Or.inl (hw _ (List.mem_of_getElem? (i := 30) rfl))) (by decide) (t := .int) (t' := .long) (by decide) (by decide)))
  refine go st23 ?_
  show Go p e below _ (T23.setTop (mkF m 15 #[.val (.ref a), .val (.ref a1), .val (.int p2), .val (.long q3), .second, .val .null, .val (.int p6), .val (.int p7), .val (.int p8)] []))
  refine go (fun t kt' => by refine XS.aloadN X23.here hx rfl (hb hby d4_15) rfl rfl ?_; exact kt') ?_
  show Go p e below _ (T23.setTop (mkF m 16 #[.val (.ref a), .val (.ref a1), .val (.int p2), .val (.long q3), .second, .val .null, .val (.int p6), .val (.int p7), .val (.int p8)] [(.ref a)]))
  refine go (fun t kt' => by refine XS.aload X23.here hx rfl (hb hby d4_16) rfl rfl ?_; exact kt') ?_
  show Go p e below _ (T23.setTop (mkF m 18 #[.val (.ref a), .val (.ref a1), .val (.int p2), .val (.long q3), .second, .val .null, .val (.int p6), .val (.int p7), .val (.int p8)] [.null, (.ref a)]))
  obtain ⟨T34, h34, X34, e34, W34, st34⟩ := putF X23 hx hZ hown (host := "") (Or.inl (hw _ (List.mem_of_getElem? (i := 31) rfl))) Via.refl e23 f30_F_a_file f26_E_a (Or.inl (hw _ (List.mem_of_getElem? (i := 32) rfl))) (hw _ (List.mem_of_getElem? (i := 11) rfl)) (ty := (.object "com/example/coreloom/coreloom/StorageFile")) (by decide) rfl rfl (g := (mkF m 18 #[.val (.ref a), .val (.ref a1), .val (.int p2), .val (.long q3), .second, .val .null, .val (.int p6), .val (.int p7), .val (.int p8)] [.null, (.ref a)])) rfl rfl (hb hby d4_18)
  have N34 := Fr.snoc X34 N23 g_a
  have f35_Z := Nat.le_trans f24_Z (Keep.of_wr W34).1
  have f36_K := f25_K.wr W34 (Or.inl (List.mem_of_getElem? (i := 0) rfl))
  have f37_E_a := f26_E_a.wr W34
  have f38_F_a_call := f27_F_a_call.other W34 (Or.inr (slot_ne (Or.inl (hw _ (List.mem_of_getElem? (i := 26) rfl))) (Or.inl (hw _ (List.mem_of_getElem? (i := 32) rfl))) (by decide) (t := (.object "com/example/coreloom/coreloom/SystemCall")) (t' := (.object "com/example/coreloom/coreloom/StorageFile")) (by decide) (by decide)))
  have f39_F_a_descriptor := f28_F_a_descriptor.other W34 (Or.inr (slot_ne (Or.inl (hw _ (List.mem_of_getElem? (i := 28) rfl))) (Or.inl (hw _ (List.mem_of_getElem? (i := 32) rfl))) (by decide) (t := .int) (t' := (.object "com/example/coreloom/coreloom/StorageFile")) (by decide) (by decide)))
  have f40_F_a_opening := f29_F_a_opening.other W34 (Or.inr (slot_ne (Or.inl (hw _ (List.mem_of_getElem? (i := 30) rfl))) (Or.inl (hw _ (List.mem_of_getElem? (i := 32) rfl))) (by decide) (t := .long) (t' := (.object "com/example/coreloom/coreloom/StorageFile")) (by decide) (by decide)))
  have f41_F_a_file := f30_F_a_file.same W34
  have f42_F_a_position := f31_F_a_position.other W34 (Or.inr (slot_ne (Or.inl (hw _ (List.mem_of_getElem? (i := 34) rfl))) (Or.inl (hw _ (List.mem_of_getElem? (i := 32) rfl))) (by decide) (t := .int) (t' := (.object "com/example/coreloom/coreloom/StorageFile")) (by decide) (by decide)))
  have f43_F_a_address := f32_F_a_address.other W34 (Or.inr (slot_ne (Or.inl (hw _ (List.mem_of_getElem? (i := 36) rfl))) (Or.inl (hw _ (List.mem_of_getElem? (i := 32) rfl))) (by decide) (t := .int) (t' := (.object "com/example/coreloom/coreloom/StorageFile")) (by decide) (by decide)))
  have f44_F_a_cells := f33_F_a_cells.other W34 (Or.inr (slot_ne (Or.inl (hw _ (List.mem_of_getElem? (i := 38) rfl))) (Or.inl (hw _ (List.mem_of_getElem? (i := 32) rfl))) (by decide) (t := .int) (t' := (.object "com/example/coreloom/coreloom/StorageFile")) (by decide) (by decide)))
  refine go st34 ?_
  show Go p e below _ (T34.setTop (mkF m 21 #[.val (.ref a), .val (.ref a1), .val (.int p2), .val (.long q3), .second, .val .null, .val (.int p6), .val (.int p7), .val (.int p8)] []))
  refine go (fun t kt' => by refine XS.aloadN X34.here hx rfl (hb hby d4_21) rfl rfl ?_; exact kt') ?_
  show Go p e below _ (T34.setTop (mkF m 22 #[.val (.ref a), .val (.ref a1), .val (.int p2), .val (.long q3), .second, .val .null, .val (.int p6), .val (.int p7), .val (.int p8)] [(.ref a)]))
  refine go (fun t kt' => by refine XS.iload X34.here hx rfl (hb hby d4_22) rfl ?_; exact kt') ?_
  show Go p e below _ (T34.setTop (mkF m 24 #[.val (.ref a), .val (.ref a1), .val (.int p2), .val (.long q3), .second, .val .null, .val (.int p6), .val (.int p7), .val (.int p8)] [(.int p6), (.ref a)]))
  obtain ⟨T45, h45, X45, e45, W45, st45⟩ := putF X34 hx hZ hown (host := "") (Or.inl (hw _ (List.mem_of_getElem? (i := 33) rfl))) Via.refl e34 f42_F_a_position f37_E_a (Or.inl (hw _ (List.mem_of_getElem? (i := 34) rfl))) (hw _ (List.mem_of_getElem? (i := 11) rfl)) (ty := .int) (by decide) rfl rfl (g := (mkF m 24 #[.val (.ref a), .val (.ref a1), .val (.int p2), .val (.long q3), .second, .val .null, .val (.int p6), .val (.int p7), .val (.int p8)] [(.int p6), (.ref a)])) rfl rfl (hb hby d4_24)
  have N45 := Fr.snoc X45 N34 g_a
  have f46_Z := Nat.le_trans f35_Z (Keep.of_wr W45).1
  have f47_K := f36_K.wr W45 (Or.inl (List.mem_of_getElem? (i := 0) rfl))
  have f48_E_a := f37_E_a.wr W45
  have f49_F_a_call := f38_F_a_call.other W45 (Or.inr (slot_ne (Or.inl (hw _ (List.mem_of_getElem? (i := 26) rfl))) (Or.inl (hw _ (List.mem_of_getElem? (i := 34) rfl))) (by decide) (t := (.object "com/example/coreloom/coreloom/SystemCall")) (t' := .int) (by decide) (by decide)))
  have f50_F_a_descriptor := f39_F_a_descriptor.other W45 (Or.inr (slot_ne (Or.inl (hw _ (List.mem_of_getElem? (i := 28) rfl))) (Or.inl (hw _ (List.mem_of_getElem? (i := 34) rfl))) (by decide) (t := .int) (t' := .int) (by decide) (by decide)))
  have f51_F_a_opening := f40_F_a_opening.other W45 (Or.inr (slot_ne (Or.inl (hw _ (List.mem_of_getElem? (i := 30) rfl))) (Or.inl (hw _ (List.mem_of_getElem? (i := 34) rfl))) (by decide) (t := .long) (t' := .int) (by decide) (by decide)))
  have f52_F_a_file := f41_F_a_file.other W45 (Or.inr (slot_ne (Or.inl (hw _ (List.mem_of_getElem? (i := 32) rfl))) (Or.inl (hw _ (List.mem_of_getElem? (i := 34) rfl))) (by decide) (t := (.object "com/example/coreloom/coreloom/StorageFile")) (t' := .int) (by decide) (by decide)))
  have f53_F_a_position := f42_F_a_position.same W45
  have f54_F_a_address := f43_F_a_address.other W45 (Or.inr (slot_ne (Or.inl (hw _ (List.mem_of_getElem? (i := 36) rfl))) (Or.inl (hw _ (List.mem_of_getElem? (i := 34) rfl))) (by decide) (t := .int) (t' := .int) (by decide) (by decide)))
  have f55_F_a_cells := f44_F_a_cells.other W45 (Or.inr (slot_ne (Or.inl (hw _ (List.mem_of_getElem? (i := 38) rfl))) (Or.inl (hw _ (List.mem_of_getElem? (i := 34) rfl))) (by decide) (t := .int) (t' := .int) (by decide) (by decide)))
  refine go st45 ?_
  show Go p e below _ (T45.setTop (mkF m 27 #[.val (.ref a), .val (.ref a1), .val (.int p2), .val (.long q3), .second, .val .null, .val (.int p6), .val (.int p7), .val (.int p8)] []))
  refine go (fun t kt' => by refine XS.aloadN X45.here hx rfl (hb hby d4_27) rfl rfl ?_; exact kt') ?_
  show Go p e below _ (T45.setTop (mkF m 28 #[.val (.ref a), .val (.ref a1), .val (.int p2), .val (.long q3), .second, .val .null, .val (.int p6), .val (.int p7), .val (.int p8)] [(.ref a)]))
  refine go (fun t kt' => by refine XS.iload X45.here hx rfl (hb hby d4_28) rfl ?_; exact kt') ?_
  show Go p e below _ (T45.setTop (mkF m 30 #[.val (.ref a), .val (.ref a1), .val (.int p2), .val (.long q3), .second, .val .null, .val (.int p6), .val (.int p7), .val (.int p8)] [(.int p7), (.ref a)]))
  obtain ⟨T56, h56, X56, e56, W56, st56⟩ := putF X45 hx hZ hown (host := "") (Or.inl (hw _ (List.mem_of_getElem? (i := 35) rfl))) Via.refl e45 f54_F_a_address f48_E_a (Or.inl (hw _ (List.mem_of_getElem? (i := 36) rfl))) (hw _ (List.mem_of_getElem? (i := 11) rfl)) (ty := .int) (by decide) rfl rfl (g := (mkF m 30 #[.val (.ref a), .val (.ref a1), .val (.int p2), .val (.long q3), .second, .val .null, .val (.int p6), .val (.int p7), .val (.int p8)] [(.int p7), (.ref a)])) rfl rfl (hb hby d4_30)
  have N56 := Fr.snoc X56 N45 g_a
  have f57_Z := Nat.le_trans f46_Z (Keep.of_wr W56).1
  have f58_K := f47_K.wr W56 (Or.inl (List.mem_of_getElem? (i := 0) rfl))
  have f59_E_a := f48_E_a.wr W56
  have f60_F_a_call := f49_F_a_call.other W56 (Or.inr (slot_ne (Or.inl (hw _ (List.mem_of_getElem? (i := 26) rfl))) (Or.inl (hw _ (List.mem_of_getElem? (i := 36) rfl))) (by decide) (t := (.object "com/example/coreloom/coreloom/SystemCall")) (t' := .int) (by decide) (by decide)))
  have f61_F_a_descriptor := f50_F_a_descriptor.other W56 (Or.inr (slot_ne (Or.inl (hw _ (List.mem_of_getElem? (i := 28) rfl))) (Or.inl (hw _ (List.mem_of_getElem? (i := 36) rfl))) (by decide) (t := .int) (t' := .int) (by decide) (by decide)))
  have f62_F_a_opening := f51_F_a_opening.other W56 (Or.inr (slot_ne (Or.inl (hw _ (List.mem_of_getElem? (i := 30) rfl))) (Or.inl (hw _ (List.mem_of_getElem? (i := 36) rfl))) (by decide) (t := .long) (t' := .int) (by decide) (by decide)))
  have f63_F_a_file := f52_F_a_file.other W56 (Or.inr (slot_ne (Or.inl (hw _ (List.mem_of_getElem? (i := 32) rfl))) (Or.inl (hw _ (List.mem_of_getElem? (i := 36) rfl))) (by decide) (t := (.object "com/example/coreloom/coreloom/StorageFile")) (t' := .int) (by decide) (by decide)))
  have f64_F_a_position := f53_F_a_position.other W56 (Or.inr (slot_ne (Or.inl (hw _ (List.mem_of_getElem? (i := 34) rfl))) (Or.inl (hw _ (List.mem_of_getElem? (i := 36) rfl))) (by decide) (t := .int) (t' := .int) (by decide) (by decide)))
  have f65_F_a_address := f54_F_a_address.same W56
  have f66_F_a_cells := f55_F_a_cells.other W56 (Or.inr (slot_ne (Or.inl (hw _ (List.mem_of_getElem? (i := 38) rfl))) (Or.inl (hw _ (List.mem_of_getElem? (i := 36) rfl))) (by decide) (t := .int) (t' := .int) (by decide) (by decide)))
  refine go st56 ?_
  show Go p e below _ (T56.setTop (mkF m 33 #[.val (.ref a), .val (.ref a1), .val (.int p2), .val (.long q3), .second, .val .null, .val (.int p6), .val (.int p7), .val (.int p8)] []))
  refine go (fun t kt' => by refine XS.aloadN X56.here hx rfl (hb hby d4_33) rfl rfl ?_; exact kt') ?_
  show Go p e below _ (T56.setTop (mkF m 34 #[.val (.ref a), .val (.ref a1), .val (.int p2), .val (.long q3), .second, .val .null, .val (.int p6), .val (.int p7), .val (.int p8)] [(.ref a)]))
  refine go (fun t kt' => by refine XS.iload X56.here hx rfl (hb hby d4_34) rfl ?_; exact kt') ?_
  show Go p e below _ (T56.setTop (mkF m 36 #[.val (.ref a), .val (.ref a1), .val (.int p2), .val (.long q3), .second, .val .null, .val (.int p6), .val (.int p7), .val (.int p8)] [(.int p8), (.ref a)]))
  obtain ⟨T67, h67, X67, e67, W67, st67⟩ := putF X56 hx hZ hown (host := "") (Or.inl (hw _ (List.mem_of_getElem? (i := 37) rfl))) Via.refl e56 f66_F_a_cells f59_E_a (Or.inl (hw _ (List.mem_of_getElem? (i := 38) rfl))) (hw _ (List.mem_of_getElem? (i := 11) rfl)) (ty := .int) (by decide) rfl rfl (g := (mkF m 36 #[.val (.ref a), .val (.ref a1), .val (.int p2), .val (.long q3), .second, .val .null, .val (.int p6), .val (.int p7), .val (.int p8)] [(.int p8), (.ref a)])) rfl rfl (hb hby d4_36)
  have N67 := Fr.snoc X67 N56 g_a
  have f68_Z := Nat.le_trans f57_Z (Keep.of_wr W67).1
  have f69_K := f58_K.wr W67 (Or.inl (List.mem_of_getElem? (i := 0) rfl))
  have f70_E_a := f59_E_a.wr W67
  have f71_F_a_call := f60_F_a_call.other W67 (Or.inr (slot_ne (Or.inl (hw _ (List.mem_of_getElem? (i := 26) rfl))) (Or.inl (hw _ (List.mem_of_getElem? (i := 38) rfl))) (by decide) (t := (.object "com/example/coreloom/coreloom/SystemCall")) (t' := .int) (by decide) (by decide)))
  have f72_F_a_descriptor := f61_F_a_descriptor.other W67 (Or.inr (slot_ne (Or.inl (hw _ (List.mem_of_getElem? (i := 28) rfl))) (Or.inl (hw _ (List.mem_of_getElem? (i := 38) rfl))) (by decide) (t := .int) (t' := .int) (by decide) (by decide)))
  have f73_F_a_opening := f62_F_a_opening.other W67 (Or.inr (slot_ne (Or.inl (hw _ (List.mem_of_getElem? (i := 30) rfl))) (Or.inl (hw _ (List.mem_of_getElem? (i := 38) rfl))) (by decide) (t := .long) (t' := .int) (by decide) (by decide)))
  have f74_F_a_file := f63_F_a_file.other W67 (Or.inr (slot_ne (Or.inl (hw _ (List.mem_of_getElem? (i := 32) rfl))) (Or.inl (hw _ (List.mem_of_getElem? (i := 38) rfl))) (by decide) (t := (.object "com/example/coreloom/coreloom/StorageFile")) (t' := .int) (by decide) (by decide)))
  have f75_F_a_position := f64_F_a_position.other W67 (Or.inr (slot_ne (Or.inl (hw _ (List.mem_of_getElem? (i := 34) rfl))) (Or.inl (hw _ (List.mem_of_getElem? (i := 38) rfl))) (by decide) (t := .int) (t' := .int) (by decide) (by decide)))
  have f76_F_a_address := f65_F_a_address.other W67 (Or.inr (slot_ne (Or.inl (hw _ (List.mem_of_getElem? (i := 36) rfl))) (Or.inl (hw _ (List.mem_of_getElem? (i := 38) rfl))) (by decide) (t := .int) (t' := .int) (by decide) (by decide)))
  have f77_F_a_cells := f66_F_a_cells.same W67
  refine go st67 ?_
  show Go p e below _ (T67.setTop (mkF m 39 #[.val (.ref a), .val (.ref a1), .val (.int p2), .val (.long q3), .second, .val .null, .val (.int p6), .val (.int p7), .val (.int p8)] []))
  refine goOut X67 (fun _ => rfl) hlk (fun fs hr => X67.returnOut hx Bd.returns (hb hby d4_39) hr) (by decide) (by decide) ?_
  rw [e67]
  exact ⟨rfl, N67, f69_K, f70_E_a, f71_F_a_call, f72_F_a_descriptor, f73_F_a_opening, f74_F_a_file, f75_F_a_position, f76_F_a_address, f77_F_a_cells⟩
theorem d5_0 : decode prog_56_method_4_code 0 = .ok (.aload_n 0, 1) := by decide +kernel
theorem d5_1 : decode prog_56_method_4_code 1 = .ok (.getfield 7, 3) := by decide +kernel
theorem d5_4 : decode prog_56_method_4_code 4 = .ok (.areturn, 1) := by decide +kernel
theorem ef_rm5 (m : MethodId) (x0 : Addr) : entryFrame m #[(.ref x0)] 1 = mkF m 0 #[.val (.ref x0)] [] := by first | (simp [entryFrame, mkF, argsToLocals, Value.category]; done) | rfl
def Q5 (Z : State) (vv : Addr) (h0 : Heap) (n0 : Nat) (v : Option Value) (h : Heap) (L : List Loc) : Prop := v = some (.ref vv) ∧ Fr n0 L ∧ h = h0
set_option maxRecDepth 65536 in
set_option maxHeartbeats 40000000 in
theorem rm5 (l : Launch) (Z : State) (a0 : Array Value) (hw : ∀ d ∈ tables_1, d.before a0 Z = true) (ws : List Jvm.Cond) (a : Addr) (vv : Addr) (h0 : Heap) (n0 : Nat) (Z0 : n0 ≤ h0.size) (E_a : Exa Z h0 a "com/example/coreloom/coreloom/Transfer") (F_call_a : Fld Z h0 a "com/example/coreloom/coreloom/Transfer" "call" "Lcom/example/coreloom/coreloom/SystemCall;" (.ref vv)) :
    MetFree l (⟨"com/example/coreloom/coreloom/Transfer", "call", "()Lcom/example/coreloom/coreloom/SystemCall;"⟩ : MethodName) (head1 (Jvm.Cond.code (⟨"com/example/coreloom/coreloom/Transfer", "call", "()Lcom/example/coreloom/coreloom/SystemCall;"⟩ : MethodName) prog_56_method_4_code 1 (some (.object "com/example/coreloom/coreloom/SystemCall")) :: ws) ({ frames := 0, cells := 0, slots := 0, locals := 0 } : Room)) (fun av' U => av' = #[(.ref a)] ∧ Z.Warmed39 U.vm ∧ U.heap = h0) (fun _ _ _ _ _ => True) (fun _ U o U' => ∃ v L, o = .returned v ∧ Q5 Z vv h0 n0 v U'.heap L ∧ FrameEnd U o U' L ({ frames := 0, cells := 0, slots := 0, locals := 0 } : Room).cells ({ frames := 0, cells := 0, slots := 0, locals := 0 } : Room).slots) := by
  refine MetFree.of_bodySF (plainFor_of_name pn_com_example_coreloom_coreloom_Transfer) hisR ?_
  intro p e s m args below meth c s₁ Bd hml0 hP hK
  obtain ⟨rfl, hZ, hh⟩ := hP
  have hx := Bd.exec
  have hby := Bd.bytes
  have hlk := Bd.notSynchronized
  have hml : c.maxLocals = 1 := hml0
  have hown : s.vm.findClass "com/example/coreloom/coreloom/Transfer" = some m.cls := findClass_of_methodNamed Bd.named
  have hnm := (name_of_methodNamed Bd.named Bd.method).1
  have X0 : Stand p l e ({ frames := 0, cells := 0, slots := 0, locals := 0 } : Room) s m #[(.ref a)] below meth c s₁ [] 0 0 := Stand.of_body Bd
  have e0 : s₁.heap = h0 := by rw [← hh, Bd.state]; rfl
  have N0 := Fr.nil n0
  show Go p e below (Kq s (Q5 Z vv h0 n0) ({ frames := 0, cells := 0, slots := 0, locals := 0 } : Room).cells ({ frames := 0, cells := 0, slots := 0, locals := 0 } : Room).slots) _
  refine go (fun t kt => castTop (ef_rm5 m a) kt) ?_
  show Go p e below _ (s₁.setTop (mkF m 0 #[.val (.ref a)] []))
  refine go (fun t kt' => by refine XS.aloadN X0.here hx rfl (hb hby d5_0) rfl rfl ?_; exact kt') ?_
  show Go p e below _ (s₁.setTop (mkF m 1 #[.val (.ref a)] [(.ref a)]))
  obtain ⟨T1, X1, e1, st1⟩ := getF X0 hx hZ hown (host := "") (Or.inl (hw _ (List.mem_of_getElem? (i := 25) rfl))) Via.refl e0 F_call_a (g := (mkF m 1 #[.val (.ref a)] [(.ref a)])) rfl rfl (hb hby d5_1)
  refine go st1 ?_
  show Go p e below _ (T1.setTop (mkF m 4 #[.val (.ref a)] [(.ref vv)]))
  refine goOut X1 (fun h => by rw [Bd.returns] at h; cases h) hlk (fun fs hr => retOut X1 hx Bd.returns rfl (Or.inr (Or.inr (Or.inr (Or.inr ⟨rfl, rfl, rfl⟩)))) (hb hby d5_4) hr) (by decide) (by decide) ?_
  rw [e1]
  exact ⟨rfl, N0, rfl⟩
theorem d6_0 : decode prog_56_method_5_code 0 = .ok (.aload_n 0, 1) := by decide +kernel
theorem d6_1 : decode prog_56_method_5_code 1 = .ok (.getfield 13, 3) := by decide +kernel
theorem d6_4 : decode prog_56_method_5_code 4 = .ok (.ireturn, 1) := by decide +kernel
theorem ef_rm6 (m : MethodId) (x0 : Addr) : entryFrame m #[(.ref x0)] 1 = mkF m 0 #[.val (.ref x0)] [] := by first | (simp [entryFrame, mkF, argsToLocals, Value.category]; done) | rfl
def Q6 (Z : State) (vv : Int32) (h0 : Heap) (n0 : Nat) (v : Option Value) (h : Heap) (L : List Loc) : Prop := v = some (.int vv) ∧ Fr n0 L ∧ h = h0
set_option maxRecDepth 65536 in
set_option maxHeartbeats 40000000 in
theorem rm6 (l : Launch) (Z : State) (a0 : Array Value) (hw : ∀ d ∈ tables_1, d.before a0 Z = true) (ws : List Jvm.Cond) (a : Addr) (vv : Int32) (h0 : Heap) (n0 : Nat) (Z0 : n0 ≤ h0.size) (E_a : Exa Z h0 a "com/example/coreloom/coreloom/Transfer") (F_descriptor_a : Fld Z h0 a "com/example/coreloom/coreloom/Transfer" "descriptor" "I" (.int vv)) :
    MetFree l (⟨"com/example/coreloom/coreloom/Transfer", "descriptor", "()I"⟩ : MethodName) (head1 (Jvm.Cond.code (⟨"com/example/coreloom/coreloom/Transfer", "descriptor", "()I"⟩ : MethodName) prog_56_method_5_code 1 (some .int) :: ws) ({ frames := 0, cells := 0, slots := 0, locals := 0 } : Room)) (fun av' U => av' = #[(.ref a)] ∧ Z.Warmed39 U.vm ∧ U.heap = h0) (fun _ _ _ _ _ => True) (fun _ U o U' => ∃ v L, o = .returned v ∧ Q6 Z vv h0 n0 v U'.heap L ∧ FrameEnd U o U' L ({ frames := 0, cells := 0, slots := 0, locals := 0 } : Room).cells ({ frames := 0, cells := 0, slots := 0, locals := 0 } : Room).slots) := by
  refine MetFree.of_bodySF (plainFor_of_name pn_com_example_coreloom_coreloom_Transfer) hisR ?_
  intro p e s m args below meth c s₁ Bd hml0 hP hK
  obtain ⟨rfl, hZ, hh⟩ := hP
  have hx := Bd.exec
  have hby := Bd.bytes
  have hlk := Bd.notSynchronized
  have hml : c.maxLocals = 1 := hml0
  have hown : s.vm.findClass "com/example/coreloom/coreloom/Transfer" = some m.cls := findClass_of_methodNamed Bd.named
  have hnm := (name_of_methodNamed Bd.named Bd.method).1
  have X0 : Stand p l e ({ frames := 0, cells := 0, slots := 0, locals := 0 } : Room) s m #[(.ref a)] below meth c s₁ [] 0 0 := Stand.of_body Bd
  have e0 : s₁.heap = h0 := by rw [← hh, Bd.state]; rfl
  have N0 := Fr.nil n0
  show Go p e below (Kq s (Q6 Z vv h0 n0) ({ frames := 0, cells := 0, slots := 0, locals := 0 } : Room).cells ({ frames := 0, cells := 0, slots := 0, locals := 0 } : Room).slots) _
  refine go (fun t kt => castTop (ef_rm6 m a) kt) ?_
  show Go p e below _ (s₁.setTop (mkF m 0 #[.val (.ref a)] []))
  refine go (fun t kt' => by refine XS.aloadN X0.here hx rfl (hb hby d6_0) rfl rfl ?_; exact kt') ?_
  show Go p e below _ (s₁.setTop (mkF m 1 #[.val (.ref a)] [(.ref a)]))
  obtain ⟨T1, X1, e1, st1⟩ := getF X0 hx hZ hown (host := "") (Or.inl (hw _ (List.mem_of_getElem? (i := 27) rfl))) Via.refl e0 F_descriptor_a (g := (mkF m 1 #[.val (.ref a)] [(.ref a)])) rfl rfl (hb hby d6_1)
  refine go st1 ?_
  show Go p e below _ (T1.setTop (mkF m 4 #[.val (.ref a)] [(.int vv)]))
  refine goOut X1 (fun h => by rw [Bd.returns] at h; cases h) hlk (fun fs hr => retOut X1 hx Bd.returns rfl (Or.inl ⟨rfl, Or.inl rfl, _, rfl⟩) (hb hby d6_4) hr) (by decide) (by decide) ?_
  rw [e1]
  exact ⟨rfl, N0, rfl⟩
theorem d7_0 : decode prog_56_method_6_code 0 = .ok (.aload_n 0, 1) := by decide +kernel
theorem d7_1 : decode prog_56_method_6_code 1 = .ok (.getfield 17, 3) := by decide +kernel
theorem d7_4 : decode prog_56_method_6_code 4 = .ok (.lreturn, 1) := by decide +kernel
theorem ef_rm7 (m : MethodId) (x0 : Addr) : entryFrame m #[(.ref x0)] 1 = mkF m 0 #[.val (.ref x0)] [] := by first | (simp [entryFrame, mkF, argsToLocals, Value.category]; done) | rfl
def Q7 (Z : State) (vv : Int64) (h0 : Heap) (n0 : Nat) (v : Option Value) (h : Heap) (L : List Loc) : Prop := v = some (.long vv) ∧ Fr n0 L ∧ h = h0
set_option maxRecDepth 65536 in
set_option maxHeartbeats 40000000 in
theorem rm7 (l : Launch) (Z : State) (a0 : Array Value) (hw : ∀ d ∈ tables_1, d.before a0 Z = true) (ws : List Jvm.Cond) (a : Addr) (vv : Int64) (h0 : Heap) (n0 : Nat) (Z0 : n0 ≤ h0.size) (E_a : Exa Z h0 a "com/example/coreloom/coreloom/Transfer") (F_opening_a : Fld Z h0 a "com/example/coreloom/coreloom/Transfer" "opening" "J" (.long vv)) :
    MetFree l (⟨"com/example/coreloom/coreloom/Transfer", "opening", "()J"⟩ : MethodName) (head1 (Jvm.Cond.code (⟨"com/example/coreloom/coreloom/Transfer", "opening", "()J"⟩ : MethodName) prog_56_method_6_code 1 (some .long) :: ws) ({ frames := 0, cells := 0, slots := 0, locals := 0 } : Room)) (fun av' U => av' = #[(.ref a)] ∧ Z.Warmed39 U.vm ∧ U.heap = h0) (fun _ _ _ _ _ => True) (fun _ U o U' => ∃ v L, o = .returned v ∧ Q7 Z vv h0 n0 v U'.heap L ∧ FrameEnd U o U' L ({ frames := 0, cells := 0, slots := 0, locals := 0 } : Room).cells ({ frames := 0, cells := 0, slots := 0, locals := 0 } : Room).slots) := by
  refine MetFree.of_bodySF (plainFor_of_name pn_com_example_coreloom_coreloom_Transfer) hisR ?_
  intro p e s m args below meth c s₁ Bd hml0 hP hK
  obtain ⟨rfl, hZ, hh⟩ := hP
  have hx := Bd.exec
  have hby := Bd.bytes
  have hlk := Bd.notSynchronized
  have hml : c.maxLocals = 1 := hml0
  have hown : s.vm.findClass "com/example/coreloom/coreloom/Transfer" = some m.cls := findClass_of_methodNamed Bd.named
  have hnm := (name_of_methodNamed Bd.named Bd.method).1
  have X0 : Stand p l e ({ frames := 0, cells := 0, slots := 0, locals := 0 } : Room) s m #[(.ref a)] below meth c s₁ [] 0 0 := Stand.of_body Bd
  have e0 : s₁.heap = h0 := by rw [← hh, Bd.state]; rfl
  have N0 := Fr.nil n0
  show Go p e below (Kq s (Q7 Z vv h0 n0) ({ frames := 0, cells := 0, slots := 0, locals := 0 } : Room).cells ({ frames := 0, cells := 0, slots := 0, locals := 0 } : Room).slots) _
  refine go (fun t kt => castTop (ef_rm7 m a) kt) ?_
  show Go p e below _ (s₁.setTop (mkF m 0 #[.val (.ref a)] []))
  refine go (fun t kt' => by refine XS.aloadN X0.here hx rfl (hb hby d7_0) rfl rfl ?_; exact kt') ?_
  show Go p e below _ (s₁.setTop (mkF m 1 #[.val (.ref a)] [(.ref a)]))
  obtain ⟨T1, X1, e1, st1⟩ := getF X0 hx hZ hown (host := "") (Or.inl (hw _ (List.mem_of_getElem? (i := 29) rfl))) Via.refl e0 F_opening_a (g := (mkF m 1 #[.val (.ref a)] [(.ref a)])) rfl rfl (hb hby d7_1)
  refine go st1 ?_
  show Go p e below _ (T1.setTop (mkF m 4 #[.val (.ref a)] [(.long vv)]))
  refine goOut X1 (fun h => by rw [Bd.returns] at h; cases h) hlk (fun fs hr => retOut X1 hx Bd.returns rfl (Or.inr (Or.inl ⟨rfl, rfl, _, rfl⟩)) (hb hby d7_4) hr) (by decide) (by decide) ?_
  rw [e1]
  exact ⟨rfl, N0, rfl⟩
theorem d8_0 : decode prog_56_method_7_code 0 = .ok (.aload_n 0, 1) := by decide +kernel
theorem d8_1 : decode prog_56_method_7_code 1 = .ok (.getfield 31, 3) := by decide +kernel
theorem d8_4 : decode prog_56_method_7_code 4 = .ok (.ireturn, 1) := by decide +kernel
theorem ef_rm8 (m : MethodId) (x0 : Addr) : entryFrame m #[(.ref x0)] 1 = mkF m 0 #[.val (.ref x0)] [] := by first | (simp [entryFrame, mkF, argsToLocals, Value.category]; done) | rfl
def Q8 (Z : State) (vv : Int32) (h0 : Heap) (n0 : Nat) (v : Option Value) (h : Heap) (L : List Loc) : Prop := v = some (.int vv) ∧ Fr n0 L ∧ h = h0
set_option maxRecDepth 65536 in
set_option maxHeartbeats 40000000 in
theorem rm8 (l : Launch) (Z : State) (a0 : Array Value) (hw : ∀ d ∈ tables_1, d.before a0 Z = true) (ws : List Jvm.Cond) (a : Addr) (vv : Int32) (h0 : Heap) (n0 : Nat) (Z0 : n0 ≤ h0.size) (E_a : Exa Z h0 a "com/example/coreloom/coreloom/Transfer") (F_cells_a : Fld Z h0 a "com/example/coreloom/coreloom/Transfer" "cells" "I" (.int vv)) :
    MetFree l (⟨"com/example/coreloom/coreloom/Transfer", "cells", "()I"⟩ : MethodName) (head1 (Jvm.Cond.code (⟨"com/example/coreloom/coreloom/Transfer", "cells", "()I"⟩ : MethodName) prog_56_method_7_code 1 (some .int) :: ws) ({ frames := 0, cells := 0, slots := 0, locals := 0 } : Room)) (fun av' U => av' = #[(.ref a)] ∧ Z.Warmed39 U.vm ∧ U.heap = h0) (fun _ _ _ _ _ => True) (fun _ U o U' => ∃ v L, o = .returned v ∧ Q8 Z vv h0 n0 v U'.heap L ∧ FrameEnd U o U' L ({ frames := 0, cells := 0, slots := 0, locals := 0 } : Room).cells ({ frames := 0, cells := 0, slots := 0, locals := 0 } : Room).slots) := by
  refine MetFree.of_bodySF (plainFor_of_name pn_com_example_coreloom_coreloom_Transfer) hisR ?_
  intro p e s m args below meth c s₁ Bd hml0 hP hK
  obtain ⟨rfl, hZ, hh⟩ := hP
  have hx := Bd.exec
  have hby := Bd.bytes
  have hlk := Bd.notSynchronized
  have hml : c.maxLocals = 1 := hml0
  have hown : s.vm.findClass "com/example/coreloom/coreloom/Transfer" = some m.cls := findClass_of_methodNamed Bd.named
  have hnm := (name_of_methodNamed Bd.named Bd.method).1
  have X0 : Stand p l e ({ frames := 0, cells := 0, slots := 0, locals := 0 } : Room) s m #[(.ref a)] below meth c s₁ [] 0 0 := Stand.of_body Bd
  have e0 : s₁.heap = h0 := by rw [← hh, Bd.state]; rfl
  have N0 := Fr.nil n0
  show Go p e below (Kq s (Q8 Z vv h0 n0) ({ frames := 0, cells := 0, slots := 0, locals := 0 } : Room).cells ({ frames := 0, cells := 0, slots := 0, locals := 0 } : Room).slots) _
  refine go (fun t kt => castTop (ef_rm8 m a) kt) ?_
  show Go p e below _ (s₁.setTop (mkF m 0 #[.val (.ref a)] []))
  refine go (fun t kt' => by refine XS.aloadN X0.here hx rfl (hb hby d8_0) rfl rfl ?_; exact kt') ?_
  show Go p e below _ (s₁.setTop (mkF m 1 #[.val (.ref a)] [(.ref a)]))
  obtain ⟨T1, X1, e1, st1⟩ := getF X0 hx hZ hown (host := "") (Or.inl (hw _ (List.mem_of_getElem? (i := 37) rfl))) Via.refl e0 F_cells_a (g := (mkF m 1 #[.val (.ref a)] [(.ref a)])) rfl rfl (hb hby d8_1)
  refine go st1 ?_
  show Go p e below _ (T1.setTop (mkF m 4 #[.val (.ref a)] [(.int vv)]))
  refine goOut X1 (fun h => by rw [Bd.returns] at h; cases h) hlk (fun fs hr => retOut X1 hx Bd.returns rfl (Or.inl ⟨rfl, Or.inl rfl, _, rfl⟩) (hb hby d8_4) hr) (by decide) (by decide) ?_
  rw [e1]
  exact ⟨rfl, N0, rfl⟩
theorem pd_0 : parseMethodDescriptor "(II)I" = some ⟨[.int, .int], some .int⟩ := by decide +kernel
theorem pd_1 : parseMethodDescriptor "()V" = some ⟨[], none⟩ := by decide +kernel
theorem pd_2 : parseMethodDescriptor "(Lcom/example/coreloom/coreloom/SystemCall;IJLcom/example/coreloom/coreloom/StorageFile;III)V" = some ⟨[(.object "com/example/coreloom/coreloom/SystemCall"), .int, .long, (.object "com/example/coreloom/coreloom/StorageFile"), .int, .int, .int], none⟩ := by decide +kernel
theorem pd_3 : parseMethodDescriptor "()Lcom/example/coreloom/coreloom/SystemCall;" = some ⟨[], some (.object "com/example/coreloom/coreloom/SystemCall")⟩ := by decide +kernel
theorem pd_4 : parseMethodDescriptor "()I" = some ⟨[], some .int⟩ := by decide +kernel
theorem pd_5 : parseMethodDescriptor "()J" = some ⟨[], some .long⟩ := by decide +kernel
theorem pn_com_example_coreloom_coreloom_TransferSetPinLaw : plainName "com/example/coreloom/coreloom/TransferSetPinLaw" = true := by first | (simp [plainName, overriddenIn]; done) | decide +kernel
theorem ef_rm0 (m : MethodId) (x0 : Int32) (x1 : Int32) (x2 : Int64) (x3 : Int32) (x4 : Int32) (x5 : Int32) : entryFrame m #[(.int x0), (.int x1), (.long x2), (.int x3), (.int x4), (.int x5)] maxLocals = mkF m 0 #[.val (.int x0), .val (.int x1), .val (.long x2), .second, .val (.int x3), .val (.int x4), .val (.int x5), .unset, .unset, .unset, .unset, .unset, .unset, .unset, .unset] [] := by first | (simp [entryFrame, mkF, argsToLocals, Value.category, maxLocals]; done) | rfl
def Q0 (Z : State) (h0 : Heap) (n0 : Nat) (v : Option Value) (h : Heap) (L : List Loc) : Prop := v = some (.int 1) ∧ Fr n0 L
set_option maxRecDepth 65536 in
set_option maxHeartbeats 40000000 in
theorem rm0 (l : Launch) (Z : State) (a0 : Array Value) (hw : ∀ d ∈ tables_1, d.before a0 Z = true) (ws : List Jvm.Cond) (p0 : Int32) (p1 : Int32) (q2 : Int64) (p3 : Int32) (p4 : Int32) (p5 : Int32) (r1 r2 : Addr) (h0 : Heap) (n0 : Nat) (Z0 : n0 ≤ h0.size) (S_READ : Sta Z h0 "com/example/coreloom/coreloom/SystemCall" "READ" "Lcom/example/coreloom/coreloom/SystemCall;" (.ref r1)) (S_WRITE : Sta Z h0 "com/example/coreloom/coreloom/SystemCall" "WRITE" "Lcom/example/coreloom/coreloom/SystemCall;" (.ref r2)) :
    MetFree l x (head1 (Jvm.Cond.code x code maxLocals ret :: ws) room_1) (fun av' U => av' = #[(.int p0), (.int p1), (.long q2), (.int p3), (.int p4), (.int p5)] ∧ Z.Warmed39 U.vm ∧ U.heap = h0) (fun _ _ _ _ _ => True) (fun _ U o U' => ∃ v L, o = .returned v ∧ Q0 Z  h0 n0 v U'.heap L ∧ FrameEnd U o U' L room_1.cells room_1.slots) := by
  refine MetFree.of_bodySF (plainFor_of_name pn_com_example_coreloom_coreloom_TransferSetPinLaw) hisR ?_
  intro p e s m args below meth c s₁ Bd hml0 hP hK
  obtain ⟨rfl, hZ, hh⟩ := hP
  have hx := Bd.exec
  have hby := Bd.bytes
  have hlk := Bd.notSynchronized
  have hml : c.maxLocals = 15 := hml0
  have hown : s.vm.findClass "com/example/coreloom/coreloom/TransferSetPinLaw" = some m.cls := findClass_of_methodNamed Bd.named
  have hnm := (name_of_methodNamed Bd.named Bd.method).1
  have X0 : Stand p l e room_1 s m #[(.int p0), (.int p1), (.long q2), (.int p3), (.int p4), (.int p5)] below meth c s₁ [] 0 0 := Stand.of_body Bd
  have e0 : s₁.heap = h0 := by rw [← hh, Bd.state]; rfl
  have N0 := Fr.nil n0
  show Go p e below (Kq s (Q0 Z  h0 n0) room_1.cells room_1.slots) _
  refine go (fun t kt => castTop (ef_rm0 m p0 p1 q2 p3 p4 p5) kt) ?_
  show Go p e below _ (s₁.setTop (mkF m 0 #[.val (.int p0), .val (.int p1), .val (.long q2), .second, .val (.int p3), .val (.int p4), .val (.int p5), .unset, .unset, .unset, .unset, .unset, .unset, .unset, .unset] []))
  refine go (fun t kt' => by refine XS.iloadN X0.here hx rfl (hb hby at_0) rfl ?_; exact kt') ?_
  show Go p e below _ (s₁.setTop (mkF m 1 #[.val (.int p0), .val (.int p1), .val (.long q2), .second, .val (.int p3), .val (.int p4), .val (.int p5), .unset, .unset, .unset, .unset, .unset, .unset, .unset, .unset] [(.int p0)]))
  refine go (fun t kt' => by refine XS.iconst X0.here hx rfl (hb hby at_1) ?_; exact kt') ?_
  show Go p e below _ (s₁.setTop (mkF m 2 #[.val (.int p0), .val (.int p1), .val (.long q2), .second, .val (.int p3), .val (.int p4), .val (.int p5), .unset, .unset, .unset, .unset, .unset, .unset, .unset, .unset] [(.int (1 : Int32)), (.int p0)]))
  refine go (fun t kt' => by refine XS.iand X0.here hx rfl (hb hby at_2) rfl ?_; exact kt') ?_
  show Go p e below _ (s₁.setTop (mkF m 3 #[.val (.int p0), .val (.int p1), .val (.long q2), .second, .val (.int p3), .val (.int p4), .val (.int p5), .unset, .unset, .unset, .unset, .unset, .unset, .unset, .unset] [(.int (p0 &&& (1 : Int32)))]))
  by_cases c3_1 : (p0 &&& (1 : Int32)) = (0 : Int32)
  · skip
    refine go (fun t kt' => by refine XS.ifYes X0.here hx rfl (pc0 := 3) (pc' := 10) rfl (hb hby at_3) rfl ((if0 _ _).trans (teq c3_1).1) (by decide) (by decide) ?_; exact kt') ?_
    show Go p e below _ (s₁.setTop (mkF m 10 #[.val (.int p0), .val (.int p1), .val (.long q2), .second, .val (.int p3), .val (.int p4), .val (.int p5), .unset, .unset, .unset, .unset, .unset, .unset, .unset, .unset] []))
    refine go (fun t kt' => by refine XS.iconst X0.here hx rfl (hb hby at_10) ?_; exact kt') ?_
    show Go p e below _ (s₁.setTop (mkF m 11 #[.val (.int p0), .val (.int p1), .val (.long q2), .second, .val (.int p3), .val (.int p4), .val (.int p5), .unset, .unset, .unset, .unset, .unset, .unset, .unset, .unset] [(.int (0 : Int32))]))
    refine go (fun t kt' => by refine XS.istore X0.here hx rfl (hb hby at_11) rfl (l' := #[.val (.int p0), .val (.int p1), .val (.long q2), .second, .val (.int p3), .val (.int p4), .val (.int p5), .val (.int (0 : Int32)), .unset, .unset, .unset, .unset, .unset, .unset, .unset]) rfl ?_; exact kt') ?_
    show Go p e below _ (s₁.setTop (mkF m 13 #[.val (.int p0), .val (.int p1), .val (.long q2), .second, .val (.int p3), .val (.int p4), .val (.int p5), .val (.int (0 : Int32)), .unset, .unset, .unset, .unset, .unset, .unset, .unset] []))
    refine go (fun t kt' => by refine XS.iload X0.here hx rfl (hb hby at_13) rfl ?_; exact kt') ?_
    show Go p e below _ (s₁.setTop (mkF m 15 #[.val (.int p0), .val (.int p1), .val (.long q2), .second, .val (.int p3), .val (.int p4), .val (.int p5), .val (.int (0 : Int32)), .unset, .unset, .unset, .unset, .unset, .unset, .unset] [(.int (0 : Int32))]))
    have c15_2 : (0 : Int32) = (0 : Int32) := by decide
    refine go (fun t kt' => by refine XS.ifYes X0.here hx rfl (pc0 := 15) (pc' := 24) rfl (hb hby at_15) rfl ((if0 _ _).trans (teq c15_2).1) (by decide) (by decide) ?_; exact kt') ?_
    show Go p e below _ (s₁.setTop (mkF m 24 #[.val (.int p0), .val (.int p1), .val (.long q2), .second, .val (.int p3), .val (.int p4), .val (.int p5), .val (.int (0 : Int32)), .unset, .unset, .unset, .unset, .unset, .unset, .unset] []))
    obtain ⟨T3, X3, e3, st3⟩ := getS2 X0 hx hZ hown (host := "") (Or.inl (hw _ (List.mem_of_getElem? (i := 0) rfl))) Via.refl e0 S_WRITE (g := (mkF m 24 #[.val (.int p0), .val (.int p1), .val (.long q2), .second, .val (.int p3), .val (.int p4), .val (.int p5), .val (.int (0 : Int32)), .unset, .unset, .unset, .unset, .unset, .unset, .unset] [])) rfl (hb hby at_24)
    refine go st3 ?_
    show Go p e below _ (T3.setTop (mkF m 27 #[.val (.int p0), .val (.int p1), .val (.long q2), .second, .val (.int p3), .val (.int p4), .val (.int p5), .val (.int (0 : Int32)), .unset, .unset, .unset, .unset, .unset, .unset, .unset] [(.ref r2)]))
    refine go (fun t kt' => by refine XS.astore X3.here hx rfl (hb hby at_27) rfl rfl (l' := #[.val (.int p0), .val (.int p1), .val (.long q2), .second, .val (.int p3), .val (.int p4), .val (.int p5), .val (.int (0 : Int32)), .val (.ref r2), .unset, .unset, .unset, .unset, .unset, .unset]) rfl ?_; exact kt') ?_
    show Go p e below _ (T3.setTop (mkF m 29 #[.val (.int p0), .val (.int p1), .val (.long q2), .second, .val (.int p3), .val (.int p4), .val (.int p5), .val (.int (0 : Int32)), .val (.ref r2), .unset, .unset, .unset, .unset, .unset, .unset] []))
    refine go (fun t kt' => by refine XS.iload X3.here hx rfl (hb hby at_29) rfl ?_; exact kt') ?_
    show Go p e below _ (T3.setTop (mkF m 31 #[.val (.int p0), .val (.int p1), .val (.long q2), .second, .val (.int p3), .val (.int p4), .val (.int p5), .val (.int (0 : Int32)), .val (.ref r2), .unset, .unset, .unset, .unset, .unset, .unset] [(.int (0 : Int32))]))
    have c31_4 : (0 : Int32) = (0 : Int32) := by decide
    refine go (fun t kt' => by refine XS.ifYes X3.here hx rfl (pc0 := 31) (pc' := 40) rfl (hb hby at_31) rfl ((if0 _ _).trans (teq c31_4).1) (by decide) (by decide) ?_; exact kt') ?_
    show Go p e below _ (T3.setTop (mkF m 40 #[.val (.int p0), .val (.int p1), .val (.long q2), .second, .val (.int p3), .val (.int p4), .val (.int p5), .val (.int (0 : Int32)), .val (.ref r2), .unset, .unset, .unset, .unset, .unset, .unset] []))
    obtain ⟨T5, X5, e5, st5⟩ := getS2 X3 hx hZ hown (host := "") (Or.inl (hw _ (List.mem_of_getElem? (i := 3) rfl))) Via.refl e3 S_READ (g := (mkF m 40 #[.val (.int p0), .val (.int p1), .val (.long q2), .second, .val (.int p3), .val (.int p4), .val (.int p5), .val (.int (0 : Int32)), .val (.ref r2), .unset, .unset, .unset, .unset, .unset, .unset] [])) rfl (hb hby at_40)
    refine go st5 ?_
    show Go p e below _ (T5.setTop (mkF m 43 #[.val (.int p0), .val (.int p1), .val (.long q2), .second, .val (.int p3), .val (.int p4), .val (.int p5), .val (.int (0 : Int32)), .val (.ref r2), .unset, .unset, .unset, .unset, .unset, .unset] [(.ref r1)]))
    refine go (fun t kt' => by refine XS.astore X5.here hx rfl (hb hby at_43) rfl rfl (l' := #[.val (.int p0), .val (.int p1), .val (.long q2), .second, .val (.int p3), .val (.int p4), .val (.int p5), .val (.int (0 : Int32)), .val (.ref r2), .val (.ref r1), .unset, .unset, .unset, .unset, .unset]) rfl ?_; exact kt') ?_
    show Go p e below _ (T5.setTop (mkF m 45 #[.val (.int p0), .val (.int p1), .val (.long q2), .second, .val (.int p3), .val (.int p4), .val (.int p5), .val (.int (0 : Int32)), .val (.ref r2), .val (.ref r1), .unset, .unset, .unset, .unset, .unset] []))
    refine go (fun t kt' => by refine XS.iconst X5.here hx rfl (hb hby at_45) ?_; exact kt') ?_
    show Go p e below _ (T5.setTop (mkF m 46 #[.val (.int p0), .val (.int p1), .val (.long q2), .second, .val (.int p3), .val (.int p4), .val (.int p5), .val (.int (0 : Int32)), .val (.ref r2), .val (.ref r1), .unset, .unset, .unset, .unset, .unset] [(.int (1 : Int32))]))
    refine go (fun t kt' => by refine XS.iload X5.here hx rfl (hb hby at_46) rfl ?_; exact kt') ?_
    show Go p e below _ (T5.setTop (mkF m 48 #[.val (.int p0), .val (.int p1), .val (.long q2), .second, .val (.int p3), .val (.int p4), .val (.int p5), .val (.int (0 : Int32)), .val (.ref r2), .val (.ref r1), .unset, .unset, .unset, .unset, .unset] [(.int p3), (.int (1 : Int32))]))
    refine go (fun t kt' => by refine X5.ldcI hx hown (mvT hZ (hw _ (List.mem_of_getElem? (i := 5) rfl))) rfl (hb hby at_48) ?_; exact kt') ?_
    show Go p e below _ (T5.setTop (mkF m 50 #[.val (.int p0), .val (.int p1), .val (.long q2), .second, .val (.int p3), .val (.int p4), .val (.int p5), .val (.int (0 : Int32)), .val (.ref r2), .val (.ref r1), .unset, .unset, .unset, .unset, .unset] [(.int (2147483647 : Int32)), (.int p3), (.int (1 : Int32))]))
    refine go (fun t kt' => by refine XS.iand X5.here hx rfl (hb hby at_50) rfl ?_; exact kt') ?_
    show Go p e below _ (T5.setTop (mkF m 51 #[.val (.int p0), .val (.int p1), .val (.long q2), .second, .val (.int p3), .val (.int p4), .val (.int p5), .val (.int (0 : Int32)), .val (.ref r2), .val (.ref r1), .unset, .unset, .unset, .unset, .unset] [(.int (p3 &&& (2147483647 : Int32))), (.int (1 : Int32))]))
    obtain ⟨_, _, ⟨T6, L6, k6, n6⟩, -, X6, ⟨Lc6, hQ6, l6, y6, z6⟩, st6⟩ := Jvm.LawKit.callS X5 hx (y := (⟨"java/lang/Math", "max", "(II)I"⟩ : MethodName)) hown (mvT hZ (hw _ (List.mem_of_getElem? (i := 6) rfl))) (mvT hZ (hw _ (List.mem_of_getElem? (i := 7) rfl))) (mvT hZ (hw _ (List.mem_of_getElem? (i := 8) rfl))) (mvT hZ (hw _ (List.mem_of_getElem? (i := 9) rfl))) (by decide) (backOf (W := 0) (rm1 l Z a0 hw [] (1 : Int32) (p3 &&& (2147483647 : Int32)) h0 n0 Z0) hZ (hw _ (List.mem_of_getElem? (i := 9) rfl)) (hw _ (List.mem_of_getElem? (i := 8) rfl)) (by decide) (by decide)) (g := (mkF m 51 #[.val (.int p0), .val (.int p1), .val (.long q2), .second, .val (.int p3), .val (.int p4), .val (.int p5), .val (.int (0 : Int32)), .val (.ref r2), .val (.ref r1), .unset, .unset, .unset, .unset, .unset] [(.int (p3 &&& (2147483647 : Int32))), (.int (1 : Int32))])) rfl (by rw [hml]; rfl) (argsL := [(.int (1 : Int32)), (.int (p3 &&& (2147483647 : Int32)))]) (rest := []) (lenOf pd_0 rfl) rfl (by show 2 * 0 + _ ≤ _; exact Nat.le_of_eq rfl) (hb hby at_51) (fun _ _ => ⟨rfl, e5, (by decide : 0 + 0 ≤ _), (by decide : 0 + 0 ≤ _)⟩)
    dsimp only [Pt.U, Pt.locs, Pt.cells, Pt.slots] at X6 l6 y6 z6 st6 hQ6
    subst l6 y6 z6
    obtain ⟨rfl, N6q, e6⟩ := hQ6
    have N6 := Fr.app N0 N6q
    refine go st6 ?_
    show Go p e below _ (T6.setTop (mkF m 54 #[.val (.int p0), .val (.int p1), .val (.long q2), .second, .val (.int p3), .val (.int p4), .val (.int p5), .val (.int (0 : Int32)), .val (.ref r2), .val (.ref r1), .unset, .unset, .unset, .unset, .unset] [(.int (own_max (1 : Int32) (p3 &&& (2147483647 : Int32))))]))
    refine go (fun t kt' => by refine XS.istore X6.here hx rfl (hb hby at_54) rfl (l' := #[.val (.int p0), .val (.int p1), .val (.long q2), .second, .val (.int p3), .val (.int p4), .val (.int p5), .val (.int (0 : Int32)), .val (.ref r2), .val (.ref r1), .val (.int (own_max (1 : Int32) (p3 &&& (2147483647 : Int32)))), .unset, .unset, .unset, .unset]) rfl ?_; exact kt') ?_
    show Go p e below _ (T6.setTop (mkF m 56 #[.val (.int p0), .val (.int p1), .val (.long q2), .second, .val (.int p3), .val (.int p4), .val (.int p5), .val (.int (0 : Int32)), .val (.ref r2), .val (.ref r1), .val (.int (own_max (1 : Int32) (p3 &&& (2147483647 : Int32)))), .unset, .unset, .unset, .unset] []))
    refine go (fun t kt' => by refine XS.iload X6.here hx rfl (hb hby at_56) rfl ?_; exact kt') ?_
    show Go p e below _ (T6.setTop (mkF m 58 #[.val (.int p0), .val (.int p1), .val (.long q2), .second, .val (.int p3), .val (.int p4), .val (.int p5), .val (.int (0 : Int32)), .val (.ref r2), .val (.ref r1), .val (.int (own_max (1 : Int32) (p3 &&& (2147483647 : Int32)))), .unset, .unset, .unset, .unset] [(.int (own_max (1 : Int32) (p3 &&& (2147483647 : Int32))))]))
    refine go (fun t kt' => by refine XS.iconst X6.here hx rfl (hb hby at_58) ?_; exact kt') ?_
    show Go p e below _ (T6.setTop (mkF m 59 #[.val (.int p0), .val (.int p1), .val (.long q2), .second, .val (.int p3), .val (.int p4), .val (.int p5), .val (.int (0 : Int32)), .val (.ref r2), .val (.ref r1), .val (.int (own_max (1 : Int32) (p3 &&& (2147483647 : Int32)))), .unset, .unset, .unset, .unset] [(.int (1 : Int32)), (.int (own_max (1 : Int32) (p3 &&& (2147483647 : Int32))))]))
    have J67_7 : ∀ fc : Int32, Go p e below (Kq s (Q0 Z  h0 n0) room_1.cells room_1.slots) (T6.setTop (mkF m 67 #[.val (.int p0), .val (.int p1), .val (.long q2), .second, .val (.int p3), .val (.int p4), .val (.int p5), .val (.int (0 : Int32)), .val (.ref r2), .val (.ref r1), .val (.int (own_max (1 : Int32) (p3 &&& (2147483647 : Int32)))), .unset, .unset, .unset, .unset] [(.int fc)])) := by
      intro fc
      show Go p e below _ (T6.setTop (mkF m 67 #[.val (.int p0), .val (.int p1), .val (.long q2), .second, .val (.int p3), .val (.int p4), .val (.int p5), .val (.int (0 : Int32)), .val (.ref r2), .val (.ref r1), .val (.int (own_max (1 : Int32) (p3 &&& (2147483647 : Int32)))), .unset, .unset, .unset, .unset] [(.int fc)]))
      refine go (fun t kt' => by refine XS.istore X6.here hx rfl (hb hby at_67) rfl (l' := #[.val (.int p0), .val (.int p1), .val (.long q2), .second, .val (.int p3), .val (.int p4), .val (.int p5), .val (.int (0 : Int32)), .val (.ref r2), .val (.ref r1), .val (.int (own_max (1 : Int32) (p3 &&& (2147483647 : Int32)))), .val (.int fc), .unset, .unset, .unset]) rfl ?_; exact kt') ?_
      show Go p e below _ (T6.setTop (mkF m 69 #[.val (.int p0), .val (.int p1), .val (.long q2), .second, .val (.int p3), .val (.int p4), .val (.int p5), .val (.int (0 : Int32)), .val (.ref r2), .val (.ref r1), .val (.int (own_max (1 : Int32) (p3 &&& (2147483647 : Int32)))), .val (.int fc), .unset, .unset, .unset] []))
      refine go (fun t kt' => by refine XS.iload X6.here hx rfl (hb hby at_69) rfl ?_; exact kt') ?_
      show Go p e below _ (T6.setTop (mkF m 71 #[.val (.int p0), .val (.int p1), .val (.long q2), .second, .val (.int p3), .val (.int p4), .val (.int p5), .val (.int (0 : Int32)), .val (.ref r2), .val (.ref r1), .val (.int (own_max (1 : Int32) (p3 &&& (2147483647 : Int32)))), .val (.int fc), .unset, .unset, .unset] [(.int p4)]))
      refine go (fun t kt' => by refine X6.ldcI hx hown (mvT hZ (hw _ (List.mem_of_getElem? (i := 5) rfl))) rfl (hb hby at_71) ?_; exact kt') ?_
      show Go p e below _ (T6.setTop (mkF m 73 #[.val (.int p0), .val (.int p1), .val (.long q2), .second, .val (.int p3), .val (.int p4), .val (.int p5), .val (.int (0 : Int32)), .val (.ref r2), .val (.ref r1), .val (.int (own_max (1 : Int32) (p3 &&& (2147483647 : Int32)))), .val (.int fc), .unset, .unset, .unset] [(.int (2147483647 : Int32)), (.int p4)]))
      refine go (fun t kt' => by refine XS.iand X6.here hx rfl (hb hby at_73) rfl ?_; exact kt') ?_
      show Go p e below _ (T6.setTop (mkF m 74 #[.val (.int p0), .val (.int p1), .val (.long q2), .second, .val (.int p3), .val (.int p4), .val (.int p5), .val (.int (0 : Int32)), .val (.ref r2), .val (.ref r1), .val (.int (own_max (1 : Int32) (p3 &&& (2147483647 : Int32)))), .val (.int fc), .unset, .unset, .unset] [(.int (p4 &&& (2147483647 : Int32)))]))
      refine go (fun t kt' => by refine XS.istore X6.here hx rfl (hb hby at_74) rfl (l' := #[.val (.int p0), .val (.int p1), .val (.long q2), .second, .val (.int p3), .val (.int p4), .val (.int p5), .val (.int (0 : Int32)), .val (.ref r2), .val (.ref r1), .val (.int (own_max (1 : Int32) (p3 &&& (2147483647 : Int32)))), .val (.int fc), .val (.int (p4 &&& (2147483647 : Int32))), .unset, .unset]) rfl ?_; exact kt') ?_
      show Go p e below _ (T6.setTop (mkF m 76 #[.val (.int p0), .val (.int p1), .val (.long q2), .second, .val (.int p3), .val (.int p4), .val (.int p5), .val (.int (0 : Int32)), .val (.ref r2), .val (.ref r1), .val (.int (own_max (1 : Int32) (p3 &&& (2147483647 : Int32)))), .val (.int fc), .val (.int (p4 &&& (2147483647 : Int32))), .unset, .unset] []))
      refine go (fun t kt' => by refine XS.iload X6.here hx rfl (hb hby at_76) rfl ?_; exact kt') ?_
      show Go p e below _ (T6.setTop (mkF m 78 #[.val (.int p0), .val (.int p1), .val (.long q2), .second, .val (.int p3), .val (.int p4), .val (.int p5), .val (.int (0 : Int32)), .val (.ref r2), .val (.ref r1), .val (.int (own_max (1 : Int32) (p3 &&& (2147483647 : Int32)))), .val (.int fc), .val (.int (p4 &&& (2147483647 : Int32))), .unset, .unset] [(.int p5)]))
      refine go (fun t kt' => by refine X6.ldcI hx hown (mvT hZ (hw _ (List.mem_of_getElem? (i := 5) rfl))) rfl (hb hby at_78) ?_; exact kt') ?_
      show Go p e below _ (T6.setTop (mkF m 80 #[.val (.int p0), .val (.int p1), .val (.long q2), .second, .val (.int p3), .val (.int p4), .val (.int p5), .val (.int (0 : Int32)), .val (.ref r2), .val (.ref r1), .val (.int (own_max (1 : Int32) (p3 &&& (2147483647 : Int32)))), .val (.int fc), .val (.int (p4 &&& (2147483647 : Int32))), .unset, .unset] [(.int (2147483647 : Int32)), (.int p5)]))
      refine go (fun t kt' => by refine XS.iand X6.here hx rfl (hb hby at_80) rfl ?_; exact kt') ?_
      show Go p e below _ (T6.setTop (mkF m 81 #[.val (.int p0), .val (.int p1), .val (.long q2), .second, .val (.int p3), .val (.int p4), .val (.int p5), .val (.int (0 : Int32)), .val (.ref r2), .val (.ref r1), .val (.int (own_max (1 : Int32) (p3 &&& (2147483647 : Int32)))), .val (.int fc), .val (.int (p4 &&& (2147483647 : Int32))), .unset, .unset] [(.int (p5 &&& (2147483647 : Int32)))]))
      refine go (fun t kt' => by refine XS.istore X6.here hx rfl (hb hby at_81) rfl (l' := #[.val (.int p0), .val (.int p1), .val (.long q2), .second, .val (.int p3), .val (.int p4), .val (.int p5), .val (.int (0 : Int32)), .val (.ref r2), .val (.ref r1), .val (.int (own_max (1 : Int32) (p3 &&& (2147483647 : Int32)))), .val (.int fc), .val (.int (p4 &&& (2147483647 : Int32))), .val (.int (p5 &&& (2147483647 : Int32))), .unset]) rfl ?_; exact kt') ?_
      show Go p e below _ (T6.setTop (mkF m 83 #[.val (.int p0), .val (.int p1), .val (.long q2), .second, .val (.int p3), .val (.int p4), .val (.int p5), .val (.int (0 : Int32)), .val (.ref r2), .val (.ref r1), .val (.int (own_max (1 : Int32) (p3 &&& (2147483647 : Int32)))), .val (.int fc), .val (.int (p4 &&& (2147483647 : Int32))), .val (.int (p5 &&& (2147483647 : Int32))), .unset] []))
      obtain ⟨T8, h8, X8, e8, E8, A8, D8, -, st8⟩ := newO X6 hx hZ hown (hw _ (List.mem_of_getElem? (i := 10) rfl)) (hw _ (List.mem_of_getElem? (i := 11) rfl)) (hw _ (List.mem_of_getElem? (i := 12) rfl)) e6 (g := (mkF m 83 #[.val (.int p0), .val (.int p1), .val (.long q2), .second, .val (.int p3), .val (.int p4), .val (.int p5), .val (.int (0 : Int32)), .val (.ref r2), .val (.ref r1), .val (.int (own_max (1 : Int32) (p3 &&& (2147483647 : Int32)))), .val (.int fc), .val (.int (p4 &&& (2147483647 : Int32))), .val (.int (p5 &&& (2147483647 : Int32))), .unset] [])) rfl (hb hby at_83) (by decide) (by decide)
      obtain ⟨b8, g8⟩ : ∃ z, z = h0.size := ⟨_, rfl⟩
      have n0_b8 : n0 ≤ b8 := Nat.le_trans Z0 (Nat.le_of_eq g8.symm)
      rw [← g8] at A8 D8 st8
      have f9_Z := Nat.le_trans Z0 E8.1
      have F8_call : Fld Z h8 b8 "com/example/coreloom/coreloom/Transfer" "call" "Lcom/example/coreloom/coreloom/SystemCall;" .null := D8 (Or.inl (hw _ (List.mem_of_getElem? (i := 26) rfl))) (ty := (.object "com/example/coreloom/coreloom/SystemCall")) (by decide)
      have F8_descriptor : Fld Z h8 b8 "com/example/coreloom/coreloom/Transfer" "descriptor" "I" (.int (0 : Int32)) := D8 (Or.inl (hw _ (List.mem_of_getElem? (i := 28) rfl))) (ty := .int) (by decide)
      have F8_opening : Fld Z h8 b8 "com/example/coreloom/coreloom/Transfer" "opening" "J" (.long (0 : Int64)) := D8 (Or.inl (hw _ (List.mem_of_getElem? (i := 30) rfl))) (ty := .long) (by decide)
      have F8_file : Fld Z h8 b8 "com/example/coreloom/coreloom/Transfer" "file" "Lcom/example/coreloom/coreloom/StorageFile;" .null := D8 (Or.inl (hw _ (List.mem_of_getElem? (i := 32) rfl))) (ty := (.object "com/example/coreloom/coreloom/StorageFile")) (by decide)
      have F8_position : Fld Z h8 b8 "com/example/coreloom/coreloom/Transfer" "position" "I" (.int (0 : Int32)) := D8 (Or.inl (hw _ (List.mem_of_getElem? (i := 34) rfl))) (ty := .int) (by decide)
      have F8_address : Fld Z h8 b8 "com/example/coreloom/coreloom/Transfer" "address" "I" (.int (0 : Int32)) := D8 (Or.inl (hw _ (List.mem_of_getElem? (i := 36) rfl))) (ty := .int) (by decide)
      have F8_cells : Fld Z h8 b8 "com/example/coreloom/coreloom/Transfer" "cells" "I" (.int (0 : Int32)) := D8 (Or.inl (hw _ (List.mem_of_getElem? (i := 38) rfl))) (ty := .int) (by decide)
      refine go st8 ?_
      show Go p e below _ (T8.setTop (mkF m 86 #[.val (.int p0), .val (.int p1), .val (.long q2), .second, .val (.int p3), .val (.int p4), .val (.int p5), .val (.int (0 : Int32)), .val (.ref r2), .val (.ref r1), .val (.int (own_max (1 : Int32) (p3 &&& (2147483647 : Int32)))), .val (.int fc), .val (.int (p4 &&& (2147483647 : Int32))), .val (.int (p5 &&& (2147483647 : Int32))), .unset] [(.ref b8)]))
      refine go (fun t kt' => by refine XS.dup X8.here hx rfl (hb hby at_86) rfl rfl ?_; exact kt') ?_
      show Go p e below _ (T8.setTop (mkF m 87 #[.val (.int p0), .val (.int p1), .val (.long q2), .second, .val (.int p3), .val (.int p4), .val (.int p5), .val (.int (0 : Int32)), .val (.ref r2), .val (.ref r1), .val (.int (own_max (1 : Int32) (p3 &&& (2147483647 : Int32)))), .val (.int fc), .val (.int (p4 &&& (2147483647 : Int32))), .val (.int (p5 &&& (2147483647 : Int32))), .unset] [(.ref b8), (.ref b8)]))
      obtain ⟨_, _, ⟨T10, L10, k10, n10⟩, -, X10, ⟨Lc10, hQ10, l10, y10, z10⟩, st10⟩ := X8.specialBack hx (y := (⟨"com/example/coreloom/coreloom/Transfer", "<init>", "()V"⟩ : MethodName)) rfl hown (mvT hZ (hw _ (List.mem_of_getElem? (i := 13) rfl))) (mvT hZ (hw _ (List.mem_of_getElem? (i := 14) rfl))) (mvT hZ (hw _ (List.mem_of_getElem? (i := 15) rfl))) (by decide) (backOf (W := 1) (rm2 l Z a0 hw [] b8 h8 n0 f9_Z) hZ (hw _ (List.mem_of_getElem? (i := 15) rfl)) (hw _ (List.mem_of_getElem? (i := 12) rfl)) (by decide) (by decide)) (g := (mkF m 87 #[.val (.int p0), .val (.int p1), .val (.long q2), .second, .val (.int p3), .val (.int p4), .val (.int p5), .val (.int (0 : Int32)), .val (.ref r2), .val (.ref r1), .val (.int (own_max (1 : Int32) (p3 &&& (2147483647 : Int32)))), .val (.int fc), .val (.int (p4 &&& (2147483647 : Int32))), .val (.int (p5 &&& (2147483647 : Int32))), .unset] [(.ref b8), (.ref b8)])) rfl (by rw [hml]; rfl) (Steps.refl _) (a := b8) (argsL := []) (rest := [(.ref b8)]) (lenOf pd_1 rfl) rfl (by show 2 * 0 + _ ≤ _; exact Nat.le_of_eq rfl) (hb hby at_87) (fun _ _ => ⟨rfl, e8, (by decide : 1 + 0 ≤ _), (by decide : 7 + 0 ≤ _)⟩)
      dsimp only [Pt.U, Pt.locs, Pt.cells, Pt.slots] at X10 l10 y10 z10 st10 hQ10
      subst l10 y10 z10
      obtain ⟨rfl, N10q, e10⟩ := hQ10
      have N10 := Fr.app N6 N10q
      refine go (fun t kt => st10.trans kt) ?_
      show Go p e below _ (T10.setTop (mkF m 90 #[.val (.int p0), .val (.int p1), .val (.long q2), .second, .val (.int p3), .val (.int p4), .val (.int p5), .val (.int (0 : Int32)), .val (.ref r2), .val (.ref r1), .val (.int (own_max (1 : Int32) (p3 &&& (2147483647 : Int32)))), .val (.int fc), .val (.int (p4 &&& (2147483647 : Int32))), .val (.int (p5 &&& (2147483647 : Int32))), .unset] [(.ref b8)]))
      refine go (fun t kt' => by refine XS.astore X10.here hx rfl (hb hby at_90) rfl rfl (l' := #[.val (.int p0), .val (.int p1), .val (.long q2), .second, .val (.int p3), .val (.int p4), .val (.int p5), .val (.int (0 : Int32)), .val (.ref r2), .val (.ref r1), .val (.int (own_max (1 : Int32) (p3 &&& (2147483647 : Int32)))), .val (.int fc), .val (.int (p4 &&& (2147483647 : Int32))), .val (.int (p5 &&& (2147483647 : Int32))), .val (.ref b8)]) rfl ?_; exact kt') ?_
      show Go p e below _ (T10.setTop (mkF m 92 #[.val (.int p0), .val (.int p1), .val (.long q2), .second, .val (.int p3), .val (.int p4), .val (.int p5), .val (.int (0 : Int32)), .val (.ref r2), .val (.ref r1), .val (.int (own_max (1 : Int32) (p3 &&& (2147483647 : Int32)))), .val (.int fc), .val (.int (p4 &&& (2147483647 : Int32))), .val (.int (p5 &&& (2147483647 : Int32))), .val (.ref b8)] []))
      refine go (fun t kt' => by refine XS.aload X10.here hx rfl (hb hby at_92) rfl rfl ?_; exact kt') ?_
      show Go p e below _ (T10.setTop (mkF m 94 #[.val (.int p0), .val (.int p1), .val (.long q2), .second, .val (.int p3), .val (.int p4), .val (.int p5), .val (.int (0 : Int32)), .val (.ref r2), .val (.ref r1), .val (.int (own_max (1 : Int32) (p3 &&& (2147483647 : Int32)))), .val (.int fc), .val (.int (p4 &&& (2147483647 : Int32))), .val (.int (p5 &&& (2147483647 : Int32))), .val (.ref b8)] [(.ref b8)]))
      refine go (fun t kt' => by refine XS.aload X10.here hx rfl (hb hby at_94) rfl rfl ?_; exact kt') ?_
      show Go p e below _ (T10.setTop (mkF m 96 #[.val (.int p0), .val (.int p1), .val (.long q2), .second, .val (.int p3), .val (.int p4), .val (.int p5), .val (.int (0 : Int32)), .val (.ref r2), .val (.ref r1), .val (.int (own_max (1 : Int32) (p3 &&& (2147483647 : Int32)))), .val (.int fc), .val (.int (p4 &&& (2147483647 : Int32))), .val (.int (p5 &&& (2147483647 : Int32))), .val (.ref b8)] [(.ref r1), (.ref b8)]))
      refine go (fun t kt' => by refine XS.iloadN X10.here hx rfl (hb hby at_96) rfl ?_; exact kt') ?_
      show Go p e below _ (T10.setTop (mkF m 97 #[.val (.int p0), .val (.int p1), .val (.long q2), .second, .val (.int p3), .val (.int p4), .val (.int p5), .val (.int (0 : Int32)), .val (.ref r2), .val (.ref r1), .val (.int (own_max (1 : Int32) (p3 &&& (2147483647 : Int32)))), .val (.int fc), .val (.int (p4 &&& (2147483647 : Int32))), .val (.int (p5 &&& (2147483647 : Int32))), .val (.ref b8)] [(.int p1), (.ref r1), (.ref b8)]))
      refine go (fun t kt' => by refine XS.iconst X10.here hx rfl (hb hby at_97) ?_; exact kt') ?_
      show Go p e below _ (T10.setTop (mkF m 98 #[.val (.int p0), .val (.int p1), .val (.long q2), .second, .val (.int p3), .val (.int p4), .val (.int p5), .val (.int (0 : Int32)), .val (.ref r2), .val (.ref r1), .val (.int (own_max (1 : Int32) (p3 &&& (2147483647 : Int32)))), .val (.int fc), .val (.int (p4 &&& (2147483647 : Int32))), .val (.int (p5 &&& (2147483647 : Int32))), .val (.ref b8)] [(.int (-1 : Int32)), (.int p1), (.ref r1), (.ref b8)]))
      refine go (fun t kt' => by refine XS.ixor X10.here hx rfl (hb hby at_98) rfl ?_; exact kt') ?_
      show Go p e below _ (T10.setTop (mkF m 99 #[.val (.int p0), .val (.int p1), .val (.long q2), .second, .val (.int p3), .val (.int p4), .val (.int p5), .val (.int (0 : Int32)), .val (.ref r2), .val (.ref r1), .val (.int (own_max (1 : Int32) (p3 &&& (2147483647 : Int32)))), .val (.int fc), .val (.int (p4 &&& (2147483647 : Int32))), .val (.int (p5 &&& (2147483647 : Int32))), .val (.ref b8)] [(.int (p1 ^^^ (-1 : Int32))), (.ref r1), (.ref b8)]))
      refine go (fun t kt' => by refine XS.lloadN X10.here hx rfl (hb hby at_99) rfl ?_; exact kt') ?_
      show Go p e below _ (T10.setTop (mkF m 100 #[.val (.int p0), .val (.int p1), .val (.long q2), .second, .val (.int p3), .val (.int p4), .val (.int p5), .val (.int (0 : Int32)), .val (.ref r2), .val (.ref r1), .val (.int (own_max (1 : Int32) (p3 &&& (2147483647 : Int32)))), .val (.int fc), .val (.int (p4 &&& (2147483647 : Int32))), .val (.int (p5 &&& (2147483647 : Int32))), .val (.ref b8)] [(.long q2), (.int (p1 ^^^ (-1 : Int32))), (.ref r1), (.ref b8)]))
      refine go (fun t kt' => by refine X10.ldc2J hx hown (mvT hZ (hw _ (List.mem_of_getElem? (i := 19) rfl))) rfl (hb hby at_100) ?_; exact kt') ?_
      show Go p e below _ (T10.setTop (mkF m 103 #[.val (.int p0), .val (.int p1), .val (.long q2), .second, .val (.int p3), .val (.int p4), .val (.int p5), .val (.int (0 : Int32)), .val (.ref r2), .val (.ref r1), .val (.int (own_max (1 : Int32) (p3 &&& (2147483647 : Int32)))), .val (.int fc), .val (.int (p4 &&& (2147483647 : Int32))), .val (.int (p5 &&& (2147483647 : Int32))), .val (.ref b8)] [(.long (-1 : Int64)), (.long q2), (.int (p1 ^^^ (-1 : Int32))), (.ref r1), (.ref b8)]))
      refine go (fun t kt' => by refine XS.lxor X10.here hx rfl (hb hby at_103) rfl ?_; exact kt') ?_
      show Go p e below _ (T10.setTop (mkF m 104 #[.val (.int p0), .val (.int p1), .val (.long q2), .second, .val (.int p3), .val (.int p4), .val (.int p5), .val (.int (0 : Int32)), .val (.ref r2), .val (.ref r1), .val (.int (own_max (1 : Int32) (p3 &&& (2147483647 : Int32)))), .val (.int fc), .val (.int (p4 &&& (2147483647 : Int32))), .val (.int (p5 &&& (2147483647 : Int32))), .val (.ref b8)] [(.long (q2 ^^^ (-1 : Int64))), (.int (p1 ^^^ (-1 : Int32))), (.ref r1), (.ref b8)]))
      refine go (fun t kt' => by refine XS.aconstNull X10.here hx rfl (hb hby at_104) ?_; exact kt') ?_
      show Go p e below _ (T10.setTop (mkF m 105 #[.val (.int p0), .val (.int p1), .val (.long q2), .second, .val (.int p3), .val (.int p4), .val (.int p5), .val (.int (0 : Int32)), .val (.ref r2), .val (.ref r1), .val (.int (own_max (1 : Int32) (p3 &&& (2147483647 : Int32)))), .val (.int fc), .val (.int (p4 &&& (2147483647 : Int32))), .val (.int (p5 &&& (2147483647 : Int32))), .val (.ref b8)] [.null, (.long (q2 ^^^ (-1 : Int64))), (.int (p1 ^^^ (-1 : Int32))), (.ref r1), (.ref b8)]))
      refine go (fun t kt' => by refine XS.iload X10.here hx rfl (hb hby at_105) rfl ?_; exact kt') ?_
      show Go p e below _ (T10.setTop (mkF m 107 #[.val (.int p0), .val (.int p1), .val (.long q2), .second, .val (.int p3), .val (.int p4), .val (.int p5), .val (.int (0 : Int32)), .val (.ref r2), .val (.ref r1), .val (.int (own_max (1 : Int32) (p3 &&& (2147483647 : Int32)))), .val (.int fc), .val (.int (p4 &&& (2147483647 : Int32))), .val (.int (p5 &&& (2147483647 : Int32))), .val (.ref b8)] [(.int (p4 &&& (2147483647 : Int32))), .null, (.long (q2 ^^^ (-1 : Int64))), (.int (p1 ^^^ (-1 : Int32))), (.ref r1), (.ref b8)]))
      refine go (fun t kt' => by refine XS.iconst X10.here hx rfl (hb hby at_107) ?_; exact kt') ?_
      show Go p e below _ (T10.setTop (mkF m 108 #[.val (.int p0), .val (.int p1), .val (.long q2), .second, .val (.int p3), .val (.int p4), .val (.int p5), .val (.int (0 : Int32)), .val (.ref r2), .val (.ref r1), .val (.int (own_max (1 : Int32) (p3 &&& (2147483647 : Int32)))), .val (.int fc), .val (.int (p4 &&& (2147483647 : Int32))), .val (.int (p5 &&& (2147483647 : Int32))), .val (.ref b8)] [(.int (-1 : Int32)), (.int (p4 &&& (2147483647 : Int32))), .null, (.long (q2 ^^^ (-1 : Int64))), (.int (p1 ^^^ (-1 : Int32))), (.ref r1), (.ref b8)]))
      refine go (fun t kt' => by refine XS.ixor X10.here hx rfl (hb hby at_108) rfl ?_; exact kt') ?_
      show Go p e below _ (T10.setTop (mkF m 109 #[.val (.int p0), .val (.int p1), .val (.long q2), .second, .val (.int p3), .val (.int p4), .val (.int p5), .val (.int (0 : Int32)), .val (.ref r2), .val (.ref r1), .val (.int (own_max (1 : Int32) (p3 &&& (2147483647 : Int32)))), .val (.int fc), .val (.int (p4 &&& (2147483647 : Int32))), .val (.int (p5 &&& (2147483647 : Int32))), .val (.ref b8)] [(.int ((p4 &&& (2147483647 : Int32)) ^^^ (-1 : Int32))), .null, (.long (q2 ^^^ (-1 : Int64))), (.int (p1 ^^^ (-1 : Int32))), (.ref r1), (.ref b8)]))
      refine go (fun t kt' => by refine X10.ldcI hx hown (mvT hZ (hw _ (List.mem_of_getElem? (i := 5) rfl))) rfl (hb hby at_109) ?_; exact kt') ?_
      show Go p e below _ (T10.setTop (mkF m 111 #[.val (.int p0), .val (.int p1), .val (.long q2), .second, .val (.int p3), .val (.int p4), .val (.int p5), .val (.int (0 : Int32)), .val (.ref r2), .val (.ref r1), .val (.int (own_max (1 : Int32) (p3 &&& (2147483647 : Int32)))), .val (.int fc), .val (.int (p4 &&& (2147483647 : Int32))), .val (.int (p5 &&& (2147483647 : Int32))), .val (.ref b8)] [(.int (2147483647 : Int32)), (.int ((p4 &&& (2147483647 : Int32)) ^^^ (-1 : Int32))), .null, (.long (q2 ^^^ (-1 : Int64))), (.int (p1 ^^^ (-1 : Int32))), (.ref r1), (.ref b8)]))
      refine go (fun t kt' => by refine XS.iand X10.here hx rfl (hb hby at_111) rfl ?_; exact kt') ?_
      show Go p e below _ (T10.setTop (mkF m 112 #[.val (.int p0), .val (.int p1), .val (.long q2), .second, .val (.int p3), .val (.int p4), .val (.int p5), .val (.int (0 : Int32)), .val (.ref r2), .val (.ref r1), .val (.int (own_max (1 : Int32) (p3 &&& (2147483647 : Int32)))), .val (.int fc), .val (.int (p4 &&& (2147483647 : Int32))), .val (.int (p5 &&& (2147483647 : Int32))), .val (.ref b8)] [(.int (((p4 &&& (2147483647 : Int32)) ^^^ (-1 : Int32)) &&& (2147483647 : Int32))), .null, (.long (q2 ^^^ (-1 : Int64))), (.int (p1 ^^^ (-1 : Int32))), (.ref r1), (.ref b8)]))
      refine go (fun t kt' => by refine XS.iload X10.here hx rfl (hb hby at_112) rfl ?_; exact kt') ?_
      show Go p e below _ (T10.setTop (mkF m 114 #[.val (.int p0), .val (.int p1), .val (.long q2), .second, .val (.int p3), .val (.int p4), .val (.int p5), .val (.int (0 : Int32)), .val (.ref r2), .val (.ref r1), .val (.int (own_max (1 : Int32) (p3 &&& (2147483647 : Int32)))), .val (.int fc), .val (.int (p4 &&& (2147483647 : Int32))), .val (.int (p5 &&& (2147483647 : Int32))), .val (.ref b8)] [(.int (p5 &&& (2147483647 : Int32))), (.int (((p4 &&& (2147483647 : Int32)) ^^^ (-1 : Int32)) &&& (2147483647 : Int32))), .null, (.long (q2 ^^^ (-1 : Int64))), (.int (p1 ^^^ (-1 : Int32))), (.ref r1), (.ref b8)]))
      refine go (fun t kt' => by refine XS.iconst X10.here hx rfl (hb hby at_114) ?_; exact kt') ?_
      show Go p e below _ (T10.setTop (mkF m 115 #[.val (.int p0), .val (.int p1), .val (.long q2), .second, .val (.int p3), .val (.int p4), .val (.int p5), .val (.int (0 : Int32)), .val (.ref r2), .val (.ref r1), .val (.int (own_max (1 : Int32) (p3 &&& (2147483647 : Int32)))), .val (.int fc), .val (.int (p4 &&& (2147483647 : Int32))), .val (.int (p5 &&& (2147483647 : Int32))), .val (.ref b8)] [(.int (-1 : Int32)), (.int (p5 &&& (2147483647 : Int32))), (.int (((p4 &&& (2147483647 : Int32)) ^^^ (-1 : Int32)) &&& (2147483647 : Int32))), .null, (.long (q2 ^^^ (-1 : Int64))), (.int (p1 ^^^ (-1 : Int32))), (.ref r1), (.ref b8)]))
      refine go (fun t kt' => by refine XS.ixor X10.here hx rfl (hb hby at_115) rfl ?_; exact kt') ?_
      show Go p e below _ (T10.setTop (mkF m 116 #[.val (.int p0), .val (.int p1), .val (.long q2), .second, .val (.int p3), .val (.int p4), .val (.int p5), .val (.int (0 : Int32)), .val (.ref r2), .val (.ref r1), .val (.int (own_max (1 : Int32) (p3 &&& (2147483647 : Int32)))), .val (.int fc), .val (.int (p4 &&& (2147483647 : Int32))), .val (.int (p5 &&& (2147483647 : Int32))), .val (.ref b8)] [(.int ((p5 &&& (2147483647 : Int32)) ^^^ (-1 : Int32))), (.int (((p4 &&& (2147483647 : Int32)) ^^^ (-1 : Int32)) &&& (2147483647 : Int32))), .null, (.long (q2 ^^^ (-1 : Int64))), (.int (p1 ^^^ (-1 : Int32))), (.ref r1), (.ref b8)]))
      refine go (fun t kt' => by refine X10.ldcI hx hown (mvT hZ (hw _ (List.mem_of_getElem? (i := 5) rfl))) rfl (hb hby at_116) ?_; exact kt') ?_
      show Go p e below _ (T10.setTop (mkF m 118 #[.val (.int p0), .val (.int p1), .val (.long q2), .second, .val (.int p3), .val (.int p4), .val (.int p5), .val (.int (0 : Int32)), .val (.ref r2), .val (.ref r1), .val (.int (own_max (1 : Int32) (p3 &&& (2147483647 : Int32)))), .val (.int fc), .val (.int (p4 &&& (2147483647 : Int32))), .val (.int (p5 &&& (2147483647 : Int32))), .val (.ref b8)] [(.int (2147483647 : Int32)), (.int ((p5 &&& (2147483647 : Int32)) ^^^ (-1 : Int32))), (.int (((p4 &&& (2147483647 : Int32)) ^^^ (-1 : Int32)) &&& (2147483647 : Int32))), .null, (.long (q2 ^^^ (-1 : Int64))), (.int (p1 ^^^ (-1 : Int32))), (.ref r1), (.ref b8)]))
      refine go (fun t kt' => by refine XS.iand X10.here hx rfl (hb hby at_118) rfl ?_; exact kt') ?_
      show Go p e below _ (T10.setTop (mkF m 119 #[.val (.int p0), .val (.int p1), .val (.long q2), .second, .val (.int p3), .val (.int p4), .val (.int p5), .val (.int (0 : Int32)), .val (.ref r2), .val (.ref r1), .val (.int (own_max (1 : Int32) (p3 &&& (2147483647 : Int32)))), .val (.int fc), .val (.int (p4 &&& (2147483647 : Int32))), .val (.int (p5 &&& (2147483647 : Int32))), .val (.ref b8)] [(.int (((p5 &&& (2147483647 : Int32)) ^^^ (-1 : Int32)) &&& (2147483647 : Int32))), (.int (((p4 &&& (2147483647 : Int32)) ^^^ (-1 : Int32)) &&& (2147483647 : Int32))), .null, (.long (q2 ^^^ (-1 : Int64))), (.int (p1 ^^^ (-1 : Int32))), (.ref r1), (.ref b8)]))
      refine go (fun t kt' => by refine XS.iload X10.here hx rfl (hb hby at_119) rfl ?_; exact kt') ?_
      show Go p e below _ (T10.setTop (mkF m 121 #[.val (.int p0), .val (.int p1), .val (.long q2), .second, .val (.int p3), .val (.int p4), .val (.int p5), .val (.int (0 : Int32)), .val (.ref r2), .val (.ref r1), .val (.int (own_max (1 : Int32) (p3 &&& (2147483647 : Int32)))), .val (.int fc), .val (.int (p4 &&& (2147483647 : Int32))), .val (.int (p5 &&& (2147483647 : Int32))), .val (.ref b8)] [(.int fc), (.int (((p5 &&& (2147483647 : Int32)) ^^^ (-1 : Int32)) &&& (2147483647 : Int32))), (.int (((p4 &&& (2147483647 : Int32)) ^^^ (-1 : Int32)) &&& (2147483647 : Int32))), .null, (.long (q2 ^^^ (-1 : Int64))), (.int (p1 ^^^ (-1 : Int32))), (.ref r1), (.ref b8)]))
      obtain ⟨cq11, kq11, q11a, q11b, q11c⟩ := isOf hZ e10 A8
      obtain ⟨_, _, ⟨T11, L11, k11, n11⟩, -, X11, ⟨Lc11, hQ11, l11, y11, z11⟩, st11⟩ := X10.virtualBack hx (y := (⟨"com/example/coreloom/coreloom/Transfer", "set", "(Lcom/example/coreloom/coreloom/SystemCall;IJLcom/example/coreloom/coreloom/StorageFile;III)V"⟩ : MethodName)) (z := (⟨"com/example/coreloom/coreloom/Transfer", "set", "(Lcom/example/coreloom/coreloom/SystemCall;IJLcom/example/coreloom/coreloom/StorageFile;III)V"⟩ : MethodName)) hown (mvT hZ (hw _ (List.mem_of_getElem? (i := 20) rfl))) (mvT hZ (hw _ (List.mem_of_getElem? (i := 21) rfl))) (notFace_of_selects (args := #[]) (mvT hZ (hw _ (List.mem_of_getElem? (i := 23) rfl)))) (mvT hZ (hw _ (List.mem_of_getElem? (i := 23) rfl))) (mvT hZ (hw _ (List.mem_of_getElem? (i := 22) rfl))) (by decide) (backOf (W := 0) (rm4 l Z a0 hw [] b8 r1 (p1 ^^^ (-1 : Int32)) (q2 ^^^ (-1 : Int64)) (((p4 &&& (2147483647 : Int32)) ^^^ (-1 : Int32)) &&& (2147483647 : Int32)) (((p5 &&& (2147483647 : Int32)) ^^^ (-1 : Int32)) &&& (2147483647 : Int32)) fc .null (.int (0 : Int32)) (.long (0 : Int64)) .null (.int (0 : Int32)) (.int (0 : Int32)) (.int (0 : Int32)) h8 n0 f9_Z A8 n0_b8 F8_call F8_descriptor F8_opening F8_file F8_position F8_address F8_cells) hZ (hw _ (List.mem_of_getElem? (i := 24) rfl)) (hw _ (List.mem_of_getElem? (i := 12) rfl)) (by decide) (by decide)) q11a q11c (g := (mkF m 121 #[.val (.int p0), .val (.int p1), .val (.long q2), .second, .val (.int p3), .val (.int p4), .val (.int p5), .val (.int (0 : Int32)), .val (.ref r2), .val (.ref r1), .val (.int (own_max (1 : Int32) (p3 &&& (2147483647 : Int32)))), .val (.int fc), .val (.int (p4 &&& (2147483647 : Int32))), .val (.int (p5 &&& (2147483647 : Int32))), .val (.ref b8)] [(.int fc), (.int (((p5 &&& (2147483647 : Int32)) ^^^ (-1 : Int32)) &&& (2147483647 : Int32))), (.int (((p4 &&& (2147483647 : Int32)) ^^^ (-1 : Int32)) &&& (2147483647 : Int32))), .null, (.long (q2 ^^^ (-1 : Int64))), (.int (p1 ^^^ (-1 : Int32))), (.ref r1), (.ref b8)])) rfl (by rw [hml]; rfl) (Steps.refl _) (argsL := [(.ref r1), (.int (p1 ^^^ (-1 : Int32))), (.long (q2 ^^^ (-1 : Int64))), .null, (.int (((p4 &&& (2147483647 : Int32)) ^^^ (-1 : Int32)) &&& (2147483647 : Int32))), (.int (((p5 &&& (2147483647 : Int32)) ^^^ (-1 : Int32)) &&& (2147483647 : Int32))), (.int fc)]) (rest := []) (lenOf pd_2 rfl) rfl (by show 2 * 0 + _ ≤ _; exact Nat.le_of_eq rfl) (hb hby at_121) (fun _ _ => ⟨rfl, e10, (by decide : 1 + 0 ≤ _), (by decide : 7 + 0 ≤ _)⟩)
      dsimp only [Pt.U, Pt.locs, Pt.cells, Pt.slots] at X11 l11 y11 z11 st11 hQ11
      subst l11 y11 z11
      obtain ⟨rfl, N11q, K11, P11_0, P11_1, P11_2, P11_3, P11_4, P11_5, P11_6, P11_7⟩ := hQ11
      have N11 := Fr.app N10 N11q
      have f12_Z := Nat.le_trans f9_Z K11.1
      refine go (fun t kt => st11.trans kt) ?_
      show Go p e below _ (T11.setTop (mkF m 124 #[.val (.int p0), .val (.int p1), .val (.long q2), .second, .val (.int p3), .val (.int p4), .val (.int p5), .val (.int (0 : Int32)), .val (.ref r2), .val (.ref r1), .val (.int (own_max (1 : Int32) (p3 &&& (2147483647 : Int32)))), .val (.int fc), .val (.int (p4 &&& (2147483647 : Int32))), .val (.int (p5 &&& (2147483647 : Int32))), .val (.ref b8)] []))
      refine go (fun t kt' => by refine XS.aload X11.here hx rfl (hb hby at_124) rfl rfl ?_; exact kt') ?_
      show Go p e below _ (T11.setTop (mkF m 126 #[.val (.int p0), .val (.int p1), .val (.long q2), .second, .val (.int p3), .val (.int p4), .val (.int p5), .val (.int (0 : Int32)), .val (.ref r2), .val (.ref r1), .val (.int (own_max (1 : Int32) (p3 &&& (2147483647 : Int32)))), .val (.int fc), .val (.int (p4 &&& (2147483647 : Int32))), .val (.int (p5 &&& (2147483647 : Int32))), .val (.ref b8)] [(.ref b8)]))
      refine go (fun t kt' => by refine XS.aload X11.here hx rfl (hb hby at_126) rfl rfl ?_; exact kt') ?_
      show Go p e below _ (T11.setTop (mkF m 128 #[.val (.int p0), .val (.int p1), .val (.long q2), .second, .val (.int p3), .val (.int p4), .val (.int p5), .val (.int (0 : Int32)), .val (.ref r2), .val (.ref r1), .val (.int (own_max (1 : Int32) (p3 &&& (2147483647 : Int32)))), .val (.int fc), .val (.int (p4 &&& (2147483647 : Int32))), .val (.int (p5 &&& (2147483647 : Int32))), .val (.ref b8)] [(.ref r2), (.ref b8)]))
      refine go (fun t kt' => by refine XS.iloadN X11.here hx rfl (hb hby at_128) rfl ?_; exact kt') ?_
      show Go p e below _ (T11.setTop (mkF m 129 #[.val (.int p0), .val (.int p1), .val (.long q2), .second, .val (.int p3), .val (.int p4), .val (.int p5), .val (.int (0 : Int32)), .val (.ref r2), .val (.ref r1), .val (.int (own_max (1 : Int32) (p3 &&& (2147483647 : Int32)))), .val (.int fc), .val (.int (p4 &&& (2147483647 : Int32))), .val (.int (p5 &&& (2147483647 : Int32))), .val (.ref b8)] [(.int p1), (.ref r2), (.ref b8)]))
      refine go (fun t kt' => by refine XS.lloadN X11.here hx rfl (hb hby at_129) rfl ?_; exact kt') ?_
      show Go p e below _ (T11.setTop (mkF m 130 #[.val (.int p0), .val (.int p1), .val (.long q2), .second, .val (.int p3), .val (.int p4), .val (.int p5), .val (.int (0 : Int32)), .val (.ref r2), .val (.ref r1), .val (.int (own_max (1 : Int32) (p3 &&& (2147483647 : Int32)))), .val (.int fc), .val (.int (p4 &&& (2147483647 : Int32))), .val (.int (p5 &&& (2147483647 : Int32))), .val (.ref b8)] [(.long q2), (.int p1), (.ref r2), (.ref b8)]))
      refine go (fun t kt' => by refine XS.aconstNull X11.here hx rfl (hb hby at_130) ?_; exact kt') ?_
      show Go p e below _ (T11.setTop (mkF m 131 #[.val (.int p0), .val (.int p1), .val (.long q2), .second, .val (.int p3), .val (.int p4), .val (.int p5), .val (.int (0 : Int32)), .val (.ref r2), .val (.ref r1), .val (.int (own_max (1 : Int32) (p3 &&& (2147483647 : Int32)))), .val (.int fc), .val (.int (p4 &&& (2147483647 : Int32))), .val (.int (p5 &&& (2147483647 : Int32))), .val (.ref b8)] [.null, (.long q2), (.int p1), (.ref r2), (.ref b8)]))
      refine go (fun t kt' => by refine XS.iload X11.here hx rfl (hb hby at_131) rfl ?_; exact kt') ?_
      show Go p e below _ (T11.setTop (mkF m 133 #[.val (.int p0), .val (.int p1), .val (.long q2), .second, .val (.int p3), .val (.int p4), .val (.int p5), .val (.int (0 : Int32)), .val (.ref r2), .val (.ref r1), .val (.int (own_max (1 : Int32) (p3 &&& (2147483647 : Int32)))), .val (.int fc), .val (.int (p4 &&& (2147483647 : Int32))), .val (.int (p5 &&& (2147483647 : Int32))), .val (.ref b8)] [(.int (p4 &&& (2147483647 : Int32))), .null, (.long q2), (.int p1), (.ref r2), (.ref b8)]))
      refine go (fun t kt' => by refine XS.iload X11.here hx rfl (hb hby at_133) rfl ?_; exact kt') ?_
      show Go p e below _ (T11.setTop (mkF m 135 #[.val (.int p0), .val (.int p1), .val (.long q2), .second, .val (.int p3), .val (.int p4), .val (.int p5), .val (.int (0 : Int32)), .val (.ref r2), .val (.ref r1), .val (.int (own_max (1 : Int32) (p3 &&& (2147483647 : Int32)))), .val (.int fc), .val (.int (p4 &&& (2147483647 : Int32))), .val (.int (p5 &&& (2147483647 : Int32))), .val (.ref b8)] [(.int (p5 &&& (2147483647 : Int32))), (.int (p4 &&& (2147483647 : Int32))), .null, (.long q2), (.int p1), (.ref r2), (.ref b8)]))
      refine go (fun t kt' => by refine XS.iload X11.here hx rfl (hb hby at_135) rfl ?_; exact kt') ?_
      show Go p e below _ (T11.setTop (mkF m 137 #[.val (.int p0), .val (.int p1), .val (.long q2), .second, .val (.int p3), .val (.int p4), .val (.int p5), .val (.int (0 : Int32)), .val (.ref r2), .val (.ref r1), .val (.int (own_max (1 : Int32) (p3 &&& (2147483647 : Int32)))), .val (.int fc), .val (.int (p4 &&& (2147483647 : Int32))), .val (.int (p5 &&& (2147483647 : Int32))), .val (.ref b8)] [(.int (own_max (1 : Int32) (p3 &&& (2147483647 : Int32)))), (.int (p5 &&& (2147483647 : Int32))), (.int (p4 &&& (2147483647 : Int32))), .null, (.long q2), (.int p1), (.ref r2), (.ref b8)]))
      obtain ⟨cq13, kq13, q13a, q13b, q13c⟩ := isOf hZ rfl P11_0
      obtain ⟨_, _, ⟨T13, L13, k13, n13⟩, -, X13, ⟨Lc13, hQ13, l13, y13, z13⟩, st13⟩ := X11.virtualBack hx (y := (⟨"com/example/coreloom/coreloom/Transfer", "set", "(Lcom/example/coreloom/coreloom/SystemCall;IJLcom/example/coreloom/coreloom/StorageFile;III)V"⟩ : MethodName)) (z := (⟨"com/example/coreloom/coreloom/Transfer", "set", "(Lcom/example/coreloom/coreloom/SystemCall;IJLcom/example/coreloom/coreloom/StorageFile;III)V"⟩ : MethodName)) hown (mvT hZ (hw _ (List.mem_of_getElem? (i := 20) rfl))) (mvT hZ (hw _ (List.mem_of_getElem? (i := 21) rfl))) (notFace_of_selects (args := #[]) (mvT hZ (hw _ (List.mem_of_getElem? (i := 23) rfl)))) (mvT hZ (hw _ (List.mem_of_getElem? (i := 23) rfl))) (mvT hZ (hw _ (List.mem_of_getElem? (i := 22) rfl))) (by decide) (backOf (W := 0) (rm4 l Z a0 hw [] b8 r2 p1 q2 (p4 &&& (2147483647 : Int32)) (p5 &&& (2147483647 : Int32)) (own_max (1 : Int32) (p3 &&& (2147483647 : Int32))) (.ref r1) (.int (p1 ^^^ (-1 : Int32))) (.long (q2 ^^^ (-1 : Int64))) .null (.int (((p4 &&& (2147483647 : Int32)) ^^^ (-1 : Int32)) &&& (2147483647 : Int32))) (.int (((p5 &&& (2147483647 : Int32)) ^^^ (-1 : Int32)) &&& (2147483647 : Int32))) (.int fc) T11.heap n0 f12_Z P11_0 n0_b8 P11_1 P11_2 P11_3 P11_4 P11_5 P11_6 P11_7) hZ (hw _ (List.mem_of_getElem? (i := 24) rfl)) (hw _ (List.mem_of_getElem? (i := 12) rfl)) (by decide) (by decide)) q13a q13c (g := (mkF m 137 #[.val (.int p0), .val (.int p1), .val (.long q2), .second, .val (.int p3), .val (.int p4), .val (.int p5), .val (.int (0 : Int32)), .val (.ref r2), .val (.ref r1), .val (.int (own_max (1 : Int32) (p3 &&& (2147483647 : Int32)))), .val (.int fc), .val (.int (p4 &&& (2147483647 : Int32))), .val (.int (p5 &&& (2147483647 : Int32))), .val (.ref b8)] [(.int (own_max (1 : Int32) (p3 &&& (2147483647 : Int32)))), (.int (p5 &&& (2147483647 : Int32))), (.int (p4 &&& (2147483647 : Int32))), .null, (.long q2), (.int p1), (.ref r2), (.ref b8)])) rfl (by rw [hml]; rfl) (Steps.refl _) (argsL := [(.ref r2), (.int p1), (.long q2), .null, (.int (p4 &&& (2147483647 : Int32))), (.int (p5 &&& (2147483647 : Int32))), (.int (own_max (1 : Int32) (p3 &&& (2147483647 : Int32))))]) (rest := []) (lenOf pd_2 rfl) rfl (by show 2 * 0 + _ ≤ _; exact Nat.le_of_eq rfl) (hb hby at_137) (fun _ _ => ⟨rfl, rfl, (by decide : 1 + 0 ≤ _), (by decide : 7 + 0 ≤ _)⟩)
      dsimp only [Pt.U, Pt.locs, Pt.cells, Pt.slots] at X13 l13 y13 z13 st13 hQ13
      subst l13 y13 z13
      obtain ⟨rfl, N13q, K13, P13_0, P13_1, P13_2, P13_3, P13_4, P13_5, P13_6, P13_7⟩ := hQ13
      have N13 := Fr.app N11 N13q
      have f14_Z := Nat.le_trans f12_Z K13.1
      refine go (fun t kt => st13.trans kt) ?_
      show Go p e below _ (T13.setTop (mkF m 140 #[.val (.int p0), .val (.int p1), .val (.long q2), .second, .val (.int p3), .val (.int p4), .val (.int p5), .val (.int (0 : Int32)), .val (.ref r2), .val (.ref r1), .val (.int (own_max (1 : Int32) (p3 &&& (2147483647 : Int32)))), .val (.int fc), .val (.int (p4 &&& (2147483647 : Int32))), .val (.int (p5 &&& (2147483647 : Int32))), .val (.ref b8)] []))
      refine go (fun t kt' => by refine XS.aload X13.here hx rfl (hb hby at_140) rfl rfl ?_; exact kt') ?_
      show Go p e below _ (T13.setTop (mkF m 142 #[.val (.int p0), .val (.int p1), .val (.long q2), .second, .val (.int p3), .val (.int p4), .val (.int p5), .val (.int (0 : Int32)), .val (.ref r2), .val (.ref r1), .val (.int (own_max (1 : Int32) (p3 &&& (2147483647 : Int32)))), .val (.int fc), .val (.int (p4 &&& (2147483647 : Int32))), .val (.int (p5 &&& (2147483647 : Int32))), .val (.ref b8)] [(.ref b8)]))
      obtain ⟨cq15, kq15, q15a, q15b, q15c⟩ := isOf hZ rfl P13_0
      obtain ⟨_, _, ⟨T15, L15, k15, n15⟩, -, X15, ⟨Lc15, hQ15, l15, y15, z15⟩, st15⟩ := X13.virtualBack hx (y := (⟨"com/example/coreloom/coreloom/Transfer", "call", "()Lcom/example/coreloom/coreloom/SystemCall;"⟩ : MethodName)) (z := (⟨"com/example/coreloom/coreloom/Transfer", "call", "()Lcom/example/coreloom/coreloom/SystemCall;"⟩ : MethodName)) hown (mvT hZ (hw _ (List.mem_of_getElem? (i := 39) rfl))) (mvT hZ (hw _ (List.mem_of_getElem? (i := 40) rfl))) (notFace_of_selects (args := #[]) (mvT hZ (hw _ (List.mem_of_getElem? (i := 42) rfl)))) (mvT hZ (hw _ (List.mem_of_getElem? (i := 42) rfl))) (mvT hZ (hw _ (List.mem_of_getElem? (i := 41) rfl))) (by decide) (backOf (W := 0) (rm5 l Z a0 hw [] b8 r2 T13.heap n0 f14_Z P13_0 P13_1) hZ (hw _ (List.mem_of_getElem? (i := 43) rfl)) (hw _ (List.mem_of_getElem? (i := 12) rfl)) (by decide) (by decide)) q15a q15c (g := (mkF m 142 #[.val (.int p0), .val (.int p1), .val (.long q2), .second, .val (.int p3), .val (.int p4), .val (.int p5), .val (.int (0 : Int32)), .val (.ref r2), .val (.ref r1), .val (.int (own_max (1 : Int32) (p3 &&& (2147483647 : Int32)))), .val (.int fc), .val (.int (p4 &&& (2147483647 : Int32))), .val (.int (p5 &&& (2147483647 : Int32))), .val (.ref b8)] [(.ref b8)])) rfl (by rw [hml]; rfl) (Steps.refl _) (argsL := []) (rest := []) (lenOf pd_3 rfl) rfl (by show 2 * 0 + _ ≤ _; exact Nat.le_of_eq rfl) (hb hby at_142) (fun _ _ => ⟨rfl, rfl, (by decide : 1 + 0 ≤ _), (by decide : 7 + 0 ≤ _)⟩)
      dsimp only [Pt.U, Pt.locs, Pt.cells, Pt.slots] at X15 l15 y15 z15 st15 hQ15
      subst l15 y15 z15
      obtain ⟨rfl, N15q, e15⟩ := hQ15
      have N15 := Fr.app N13 N15q
      refine go (fun t kt => st15.trans kt) ?_
      show Go p e below _ (T15.setTop (mkF m 145 #[.val (.int p0), .val (.int p1), .val (.long q2), .second, .val (.int p3), .val (.int p4), .val (.int p5), .val (.int (0 : Int32)), .val (.ref r2), .val (.ref r1), .val (.int (own_max (1 : Int32) (p3 &&& (2147483647 : Int32)))), .val (.int fc), .val (.int (p4 &&& (2147483647 : Int32))), .val (.int (p5 &&& (2147483647 : Int32))), .val (.ref b8)] [(.ref r2)]))
      refine go (fun t kt' => by refine XS.aload X15.here hx rfl (hb hby at_145) rfl rfl ?_; exact kt') ?_
      show Go p e below _ (T15.setTop (mkF m 147 #[.val (.int p0), .val (.int p1), .val (.long q2), .second, .val (.int p3), .val (.int p4), .val (.int p5), .val (.int (0 : Int32)), .val (.ref r2), .val (.ref r1), .val (.int (own_max (1 : Int32) (p3 &&& (2147483647 : Int32)))), .val (.int fc), .val (.int (p4 &&& (2147483647 : Int32))), .val (.int (p5 &&& (2147483647 : Int32))), .val (.ref b8)] [(.ref r2), (.ref r2)]))
      refine go (fun t kt' => by refine XS.acmpNo X15.here hx rfl (hb hby at_147) rfl (by simp [if_acmp.holds]) ?_; exact kt') ?_
      show Go p e below _ (T15.setTop (mkF m 150 #[.val (.int p0), .val (.int p1), .val (.long q2), .second, .val (.int p3), .val (.int p4), .val (.int p5), .val (.int (0 : Int32)), .val (.ref r2), .val (.ref r1), .val (.int (own_max (1 : Int32) (p3 &&& (2147483647 : Int32)))), .val (.int fc), .val (.int (p4 &&& (2147483647 : Int32))), .val (.int (p5 &&& (2147483647 : Int32))), .val (.ref b8)] []))
      refine go (fun t kt' => by refine XS.aload X15.here hx rfl (hb hby at_150) rfl rfl ?_; exact kt') ?_
      show Go p e below _ (T15.setTop (mkF m 152 #[.val (.int p0), .val (.int p1), .val (.long q2), .second, .val (.int p3), .val (.int p4), .val (.int p5), .val (.int (0 : Int32)), .val (.ref r2), .val (.ref r1), .val (.int (own_max (1 : Int32) (p3 &&& (2147483647 : Int32)))), .val (.int fc), .val (.int (p4 &&& (2147483647 : Int32))), .val (.int (p5 &&& (2147483647 : Int32))), .val (.ref b8)] [(.ref b8)]))
      obtain ⟨cq16, kq16, q16a, q16b, q16c⟩ := isOf hZ e15 P13_0
      obtain ⟨_, _, ⟨T16, L16, k16, n16⟩, -, X16, ⟨Lc16, hQ16, l16, y16, z16⟩, st16⟩ := X15.virtualBack hx (y := (⟨"com/example/coreloom/coreloom/Transfer", "descriptor", "()I"⟩ : MethodName)) (z := (⟨"com/example/coreloom/coreloom/Transfer", "descriptor", "()I"⟩ : MethodName)) hown (mvT hZ (hw _ (List.mem_of_getElem? (i := 44) rfl))) (mvT hZ (hw _ (List.mem_of_getElem? (i := 45) rfl))) (notFace_of_selects (args := #[]) (mvT hZ (hw _ (List.mem_of_getElem? (i := 47) rfl)))) (mvT hZ (hw _ (List.mem_of_getElem? (i := 47) rfl))) (mvT hZ (hw _ (List.mem_of_getElem? (i := 46) rfl))) (by decide) (backOf (W := 0) (rm6 l Z a0 hw [] b8 p1 T13.heap n0 f14_Z P13_0 P13_2) hZ (hw _ (List.mem_of_getElem? (i := 48) rfl)) (hw _ (List.mem_of_getElem? (i := 12) rfl)) (by decide) (by decide)) q16a q16c (g := (mkF m 152 #[.val (.int p0), .val (.int p1), .val (.long q2), .second, .val (.int p3), .val (.int p4), .val (.int p5), .val (.int (0 : Int32)), .val (.ref r2), .val (.ref r1), .val (.int (own_max (1 : Int32) (p3 &&& (2147483647 : Int32)))), .val (.int fc), .val (.int (p4 &&& (2147483647 : Int32))), .val (.int (p5 &&& (2147483647 : Int32))), .val (.ref b8)] [(.ref b8)])) rfl (by rw [hml]; rfl) (Steps.refl _) (argsL := []) (rest := []) (lenOf pd_4 rfl) rfl (by show 2 * 0 + _ ≤ _; exact Nat.le_of_eq rfl) (hb hby at_152) (fun _ _ => ⟨rfl, e15, (by decide : 1 + 0 ≤ _), (by decide : 7 + 0 ≤ _)⟩)
      dsimp only [Pt.U, Pt.locs, Pt.cells, Pt.slots] at X16 l16 y16 z16 st16 hQ16
      subst l16 y16 z16
      obtain ⟨rfl, N16q, e16⟩ := hQ16
      have N16 := Fr.app N15 N16q
      refine go (fun t kt => st16.trans kt) ?_
      show Go p e below _ (T16.setTop (mkF m 155 #[.val (.int p0), .val (.int p1), .val (.long q2), .second, .val (.int p3), .val (.int p4), .val (.int p5), .val (.int (0 : Int32)), .val (.ref r2), .val (.ref r1), .val (.int (own_max (1 : Int32) (p3 &&& (2147483647 : Int32)))), .val (.int fc), .val (.int (p4 &&& (2147483647 : Int32))), .val (.int (p5 &&& (2147483647 : Int32))), .val (.ref b8)] [(.int p1)]))
      refine go (fun t kt' => by refine XS.iloadN X16.here hx rfl (hb hby at_155) rfl ?_; exact kt') ?_
      show Go p e below _ (T16.setTop (mkF m 156 #[.val (.int p0), .val (.int p1), .val (.long q2), .second, .val (.int p3), .val (.int p4), .val (.int p5), .val (.int (0 : Int32)), .val (.ref r2), .val (.ref r1), .val (.int (own_max (1 : Int32) (p3 &&& (2147483647 : Int32)))), .val (.int fc), .val (.int (p4 &&& (2147483647 : Int32))), .val (.int (p5 &&& (2147483647 : Int32))), .val (.ref b8)] [(.int p1), (.int p1)]))
      have c156_17 : ¬ (¬ p1 = p1) := not_not_intro rfl
      refine go (fun t kt' => by refine XS.icmpNo X16.here hx rfl (hb hby at_156) rfl (teq (Decidable.not_not.mp c156_17)).2 ?_; exact kt') ?_
      show Go p e below _ (T16.setTop (mkF m 159 #[.val (.int p0), .val (.int p1), .val (.long q2), .second, .val (.int p3), .val (.int p4), .val (.int p5), .val (.int (0 : Int32)), .val (.ref r2), .val (.ref r1), .val (.int (own_max (1 : Int32) (p3 &&& (2147483647 : Int32)))), .val (.int fc), .val (.int (p4 &&& (2147483647 : Int32))), .val (.int (p5 &&& (2147483647 : Int32))), .val (.ref b8)] []))
      refine go (fun t kt' => by refine XS.aload X16.here hx rfl (hb hby at_159) rfl rfl ?_; exact kt') ?_
      show Go p e below _ (T16.setTop (mkF m 161 #[.val (.int p0), .val (.int p1), .val (.long q2), .second, .val (.int p3), .val (.int p4), .val (.int p5), .val (.int (0 : Int32)), .val (.ref r2), .val (.ref r1), .val (.int (own_max (1 : Int32) (p3 &&& (2147483647 : Int32)))), .val (.int fc), .val (.int (p4 &&& (2147483647 : Int32))), .val (.int (p5 &&& (2147483647 : Int32))), .val (.ref b8)] [(.ref b8)]))
      obtain ⟨cq18, kq18, q18a, q18b, q18c⟩ := isOf hZ e16 P13_0
      obtain ⟨_, _, ⟨T18, L18, k18, n18⟩, -, X18, ⟨Lc18, hQ18, l18, y18, z18⟩, st18⟩ := X16.virtualBack hx (y := (⟨"com/example/coreloom/coreloom/Transfer", "opening", "()J"⟩ : MethodName)) (z := (⟨"com/example/coreloom/coreloom/Transfer", "opening", "()J"⟩ : MethodName)) hown (mvT hZ (hw _ (List.mem_of_getElem? (i := 49) rfl))) (mvT hZ (hw _ (List.mem_of_getElem? (i := 50) rfl))) (notFace_of_selects (args := #[]) (mvT hZ (hw _ (List.mem_of_getElem? (i := 52) rfl)))) (mvT hZ (hw _ (List.mem_of_getElem? (i := 52) rfl))) (mvT hZ (hw _ (List.mem_of_getElem? (i := 51) rfl))) (by decide) (backOf (W := 0) (rm7 l Z a0 hw [] b8 q2 T13.heap n0 f14_Z P13_0 P13_3) hZ (hw _ (List.mem_of_getElem? (i := 53) rfl)) (hw _ (List.mem_of_getElem? (i := 12) rfl)) (by decide) (by decide)) q18a q18c (g := (mkF m 161 #[.val (.int p0), .val (.int p1), .val (.long q2), .second, .val (.int p3), .val (.int p4), .val (.int p5), .val (.int (0 : Int32)), .val (.ref r2), .val (.ref r1), .val (.int (own_max (1 : Int32) (p3 &&& (2147483647 : Int32)))), .val (.int fc), .val (.int (p4 &&& (2147483647 : Int32))), .val (.int (p5 &&& (2147483647 : Int32))), .val (.ref b8)] [(.ref b8)])) rfl (by rw [hml]; rfl) (Steps.refl _) (argsL := []) (rest := []) (lenOf pd_5 rfl) rfl (by show 2 * 0 + _ ≤ _; exact Nat.le_of_eq rfl) (hb hby at_161) (fun _ _ => ⟨rfl, e16, (by decide : 1 + 0 ≤ _), (by decide : 7 + 0 ≤ _)⟩)
      dsimp only [Pt.U, Pt.locs, Pt.cells, Pt.slots] at X18 l18 y18 z18 st18 hQ18
      subst l18 y18 z18
      obtain ⟨rfl, N18q, e18⟩ := hQ18
      have N18 := Fr.app N16 N18q
      refine go (fun t kt => st18.trans kt) ?_
      show Go p e below _ (T18.setTop (mkF m 164 #[.val (.int p0), .val (.int p1), .val (.long q2), .second, .val (.int p3), .val (.int p4), .val (.int p5), .val (.int (0 : Int32)), .val (.ref r2), .val (.ref r1), .val (.int (own_max (1 : Int32) (p3 &&& (2147483647 : Int32)))), .val (.int fc), .val (.int (p4 &&& (2147483647 : Int32))), .val (.int (p5 &&& (2147483647 : Int32))), .val (.ref b8)] [(.long q2)]))
      refine go (fun t kt' => by refine XS.lloadN X18.here hx rfl (hb hby at_164) rfl ?_; exact kt') ?_
      show Go p e below _ (T18.setTop (mkF m 165 #[.val (.int p0), .val (.int p1), .val (.long q2), .second, .val (.int p3), .val (.int p4), .val (.int p5), .val (.int (0 : Int32)), .val (.ref r2), .val (.ref r1), .val (.int (own_max (1 : Int32) (p3 &&& (2147483647 : Int32)))), .val (.int fc), .val (.int (p4 &&& (2147483647 : Int32))), .val (.int (p5 &&& (2147483647 : Int32))), .val (.ref b8)] [(.long q2), (.long q2)]))
      refine go (fun t kt' => by refine XS.lcmp X18.here hx rfl (hb hby at_165) rfl ?_; exact kt') ?_
      show Go p e below _ (T18.setTop (mkF m 166 #[.val (.int p0), .val (.int p1), .val (.long q2), .second, .val (.int p3), .val (.int p4), .val (.int p5), .val (.int (0 : Int32)), .val (.ref r2), .val (.ref r1), .val (.int (own_max (1 : Int32) (p3 &&& (2147483647 : Int32)))), .val (.int fc), .val (.int (p4 &&& (2147483647 : Int32))), .val (.int (p5 &&& (2147483647 : Int32))), .val (.ref b8)] [(.int (lcmpW q2 q2))]))
      have c166_19 : ¬ (¬ q2 = q2) := not_not_intro rfl
      refine go (fun t kt' => by refine XS.ifNo X18.here hx rfl (hb hby at_166) rfl ((if0 _ _).trans (teq ((lw_eq _ _).mpr (Decidable.not_not.mp c166_19))).2) ?_; exact kt') ?_
      show Go p e below _ (T18.setTop (mkF m 169 #[.val (.int p0), .val (.int p1), .val (.long q2), .second, .val (.int p3), .val (.int p4), .val (.int p5), .val (.int (0 : Int32)), .val (.ref r2), .val (.ref r1), .val (.int (own_max (1 : Int32) (p3 &&& (2147483647 : Int32)))), .val (.int fc), .val (.int (p4 &&& (2147483647 : Int32))), .val (.int (p5 &&& (2147483647 : Int32))), .val (.ref b8)] []))
      refine go (fun t kt' => by refine XS.aload X18.here hx rfl (hb hby at_169) rfl rfl ?_; exact kt') ?_
      show Go p e below _ (T18.setTop (mkF m 171 #[.val (.int p0), .val (.int p1), .val (.long q2), .second, .val (.int p3), .val (.int p4), .val (.int p5), .val (.int (0 : Int32)), .val (.ref r2), .val (.ref r1), .val (.int (own_max (1 : Int32) (p3 &&& (2147483647 : Int32)))), .val (.int fc), .val (.int (p4 &&& (2147483647 : Int32))), .val (.int (p5 &&& (2147483647 : Int32))), .val (.ref b8)] [(.ref b8)]))
      obtain ⟨cq20, kq20, q20a, q20b, q20c⟩ := isOf hZ e18 P13_0
      obtain ⟨_, _, ⟨T20, L20, k20, n20⟩, -, X20, ⟨Lc20, hQ20, l20, y20, z20⟩, st20⟩ := X18.virtualBack hx (y := (⟨"com/example/coreloom/coreloom/Transfer", "cells", "()I"⟩ : MethodName)) (z := (⟨"com/example/coreloom/coreloom/Transfer", "cells", "()I"⟩ : MethodName)) hown (mvT hZ (hw _ (List.mem_of_getElem? (i := 54) rfl))) (mvT hZ (hw _ (List.mem_of_getElem? (i := 55) rfl))) (notFace_of_selects (args := #[]) (mvT hZ (hw _ (List.mem_of_getElem? (i := 57) rfl)))) (mvT hZ (hw _ (List.mem_of_getElem? (i := 57) rfl))) (mvT hZ (hw _ (List.mem_of_getElem? (i := 56) rfl))) (by decide) (backOf (W := 0) (rm8 l Z a0 hw [] b8 (own_max (1 : Int32) (p3 &&& (2147483647 : Int32))) T13.heap n0 f14_Z P13_0 P13_7) hZ (hw _ (List.mem_of_getElem? (i := 58) rfl)) (hw _ (List.mem_of_getElem? (i := 12) rfl)) (by decide) (by decide)) q20a q20c (g := (mkF m 171 #[.val (.int p0), .val (.int p1), .val (.long q2), .second, .val (.int p3), .val (.int p4), .val (.int p5), .val (.int (0 : Int32)), .val (.ref r2), .val (.ref r1), .val (.int (own_max (1 : Int32) (p3 &&& (2147483647 : Int32)))), .val (.int fc), .val (.int (p4 &&& (2147483647 : Int32))), .val (.int (p5 &&& (2147483647 : Int32))), .val (.ref b8)] [(.ref b8)])) rfl (by rw [hml]; rfl) (Steps.refl _) (argsL := []) (rest := []) (lenOf pd_4 rfl) rfl (by show 2 * 0 + _ ≤ _; exact Nat.le_of_eq rfl) (hb hby at_171) (fun _ _ => ⟨rfl, e18, (by decide : 1 + 0 ≤ _), (by decide : 7 + 0 ≤ _)⟩)
      dsimp only [Pt.U, Pt.locs, Pt.cells, Pt.slots] at X20 l20 y20 z20 st20 hQ20
      subst l20 y20 z20
      obtain ⟨rfl, N20q, e20⟩ := hQ20
      have N20 := Fr.app N18 N20q
      refine go (fun t kt => st20.trans kt) ?_
      show Go p e below _ (T20.setTop (mkF m 174 #[.val (.int p0), .val (.int p1), .val (.long q2), .second, .val (.int p3), .val (.int p4), .val (.int p5), .val (.int (0 : Int32)), .val (.ref r2), .val (.ref r1), .val (.int (own_max (1 : Int32) (p3 &&& (2147483647 : Int32)))), .val (.int fc), .val (.int (p4 &&& (2147483647 : Int32))), .val (.int (p5 &&& (2147483647 : Int32))), .val (.ref b8)] [(.int (own_max (1 : Int32) (p3 &&& (2147483647 : Int32))))]))
      refine go (fun t kt' => by refine XS.iload X20.here hx rfl (hb hby at_174) rfl ?_; exact kt') ?_
      show Go p e below _ (T20.setTop (mkF m 176 #[.val (.int p0), .val (.int p1), .val (.long q2), .second, .val (.int p3), .val (.int p4), .val (.int p5), .val (.int (0 : Int32)), .val (.ref r2), .val (.ref r1), .val (.int (own_max (1 : Int32) (p3 &&& (2147483647 : Int32)))), .val (.int fc), .val (.int (p4 &&& (2147483647 : Int32))), .val (.int (p5 &&& (2147483647 : Int32))), .val (.ref b8)] [(.int (own_max (1 : Int32) (p3 &&& (2147483647 : Int32)))), (.int (own_max (1 : Int32) (p3 &&& (2147483647 : Int32))))]))
      have c176_21 : ¬ (¬ (own_max (1 : Int32) (p3 &&& (2147483647 : Int32))) = (own_max (1 : Int32) (p3 &&& (2147483647 : Int32)))) := not_not_intro rfl
      refine go (fun t kt' => by refine XS.icmpNo X20.here hx rfl (hb hby at_176) rfl (teq (Decidable.not_not.mp c176_21)).2 ?_; exact kt') ?_
      show Go p e below _ (T20.setTop (mkF m 179 #[.val (.int p0), .val (.int p1), .val (.long q2), .second, .val (.int p3), .val (.int p4), .val (.int p5), .val (.int (0 : Int32)), .val (.ref r2), .val (.ref r1), .val (.int (own_max (1 : Int32) (p3 &&& (2147483647 : Int32)))), .val (.int fc), .val (.int (p4 &&& (2147483647 : Int32))), .val (.int (p5 &&& (2147483647 : Int32))), .val (.ref b8)] []))
      refine go (fun t kt' => by refine XS.iconst X20.here hx rfl (hb hby at_179) ?_; exact kt') ?_
      show Go p e below _ (T20.setTop (mkF m 180 #[.val (.int p0), .val (.int p1), .val (.long q2), .second, .val (.int p3), .val (.int p4), .val (.int p5), .val (.int (0 : Int32)), .val (.ref r2), .val (.ref r1), .val (.int (own_max (1 : Int32) (p3 &&& (2147483647 : Int32)))), .val (.int fc), .val (.int (p4 &&& (2147483647 : Int32))), .val (.int (p5 &&& (2147483647 : Int32))), .val (.ref b8)] [(.int (1 : Int32))]))
      refine go (fun t kt' => by refine XS.goto X20.here hx rfl (pc0 := 180) (pc' := 184) rfl (hb hby at_180) (by decide) (by decide) ?_; exact kt') ?_
      show Go p e below _ (T20.setTop (mkF m 184 #[.val (.int p0), .val (.int p1), .val (.long q2), .second, .val (.int p3), .val (.int p4), .val (.int p5), .val (.int (0 : Int32)), .val (.ref r2), .val (.ref r1), .val (.int (own_max (1 : Int32) (p3 &&& (2147483647 : Int32)))), .val (.int fc), .val (.int (p4 &&& (2147483647 : Int32))), .val (.int (p5 &&& (2147483647 : Int32))), .val (.ref b8)] [(.int (1 : Int32))]))
      refine goOut X20 (fun h => by rw [Bd.returns] at h; cases h) hlk (fun fs hr => retN X20 hx (t := .boolean) Bd.returns (by simp) (hb hby at_184) hr) (by decide) (by decide) ?_
      rw [e20]
      exact ⟨rfl, N20⟩
    by_cases c59_22 : ¬ (own_max (1 : Int32) (p3 &&& (2147483647 : Int32))) = (1 : Int32)
    · skip
      refine go (fun t kt' => by refine XS.icmpYes X6.here hx rfl (pc0 := 59) (pc' := 66) rfl (hb hby at_59) rfl (feq c59_22).2 (by decide) (by decide) ?_; exact kt') ?_
      show Go p e below _ (T6.setTop (mkF m 66 #[.val (.int p0), .val (.int p1), .val (.long q2), .second, .val (.int p3), .val (.int p4), .val (.int p5), .val (.int (0 : Int32)), .val (.ref r2), .val (.ref r1), .val (.int (own_max (1 : Int32) (p3 &&& (2147483647 : Int32)))), .unset, .unset, .unset, .unset] []))
      refine go (fun t kt' => by refine XS.iconst X6.here hx rfl (hb hby at_66) ?_; exact kt') ?_
      show Go p e below _ (T6.setTop (mkF m 67 #[.val (.int p0), .val (.int p1), .val (.long q2), .second, .val (.int p3), .val (.int p4), .val (.int p5), .val (.int (0 : Int32)), .val (.ref r2), .val (.ref r1), .val (.int (own_max (1 : Int32) (p3 &&& (2147483647 : Int32)))), .unset, .unset, .unset, .unset] [(.int (1 : Int32))]))
      exact J67_7 _
    · skip
      refine go (fun t kt' => by refine XS.icmpNo X6.here hx rfl (hb hby at_59) rfl (teq (Decidable.not_not.mp c59_22)).2 ?_; exact kt') ?_
      show Go p e below _ (T6.setTop (mkF m 62 #[.val (.int p0), .val (.int p1), .val (.long q2), .second, .val (.int p3), .val (.int p4), .val (.int p5), .val (.int (0 : Int32)), .val (.ref r2), .val (.ref r1), .val (.int (own_max (1 : Int32) (p3 &&& (2147483647 : Int32)))), .unset, .unset, .unset, .unset] []))
      refine go (fun t kt' => by refine XS.iconst X6.here hx rfl (hb hby at_62) ?_; exact kt') ?_
      show Go p e below _ (T6.setTop (mkF m 63 #[.val (.int p0), .val (.int p1), .val (.long q2), .second, .val (.int p3), .val (.int p4), .val (.int p5), .val (.int (0 : Int32)), .val (.ref r2), .val (.ref r1), .val (.int (own_max (1 : Int32) (p3 &&& (2147483647 : Int32)))), .unset, .unset, .unset, .unset] [(.int (2 : Int32))]))
      refine go (fun t kt' => by refine XS.goto X6.here hx rfl (pc0 := 63) (pc' := 67) rfl (hb hby at_63) (by decide) (by decide) ?_; exact kt') ?_
      show Go p e below _ (T6.setTop (mkF m 67 #[.val (.int p0), .val (.int p1), .val (.long q2), .second, .val (.int p3), .val (.int p4), .val (.int p5), .val (.int (0 : Int32)), .val (.ref r2), .val (.ref r1), .val (.int (own_max (1 : Int32) (p3 &&& (2147483647 : Int32)))), .unset, .unset, .unset, .unset] [(.int (2 : Int32))]))
      exact J67_7 _
  · skip
    refine go (fun t kt' => by refine XS.ifNo X0.here hx rfl (hb hby at_3) rfl ((if0 _ _).trans (feq c3_1).1) ?_; exact kt') ?_
    show Go p e below _ (s₁.setTop (mkF m 6 #[.val (.int p0), .val (.int p1), .val (.long q2), .second, .val (.int p3), .val (.int p4), .val (.int p5), .unset, .unset, .unset, .unset, .unset, .unset, .unset, .unset] []))
    refine go (fun t kt' => by refine XS.iconst X0.here hx rfl (hb hby at_6) ?_; exact kt') ?_
    show Go p e below _ (s₁.setTop (mkF m 7 #[.val (.int p0), .val (.int p1), .val (.long q2), .second, .val (.int p3), .val (.int p4), .val (.int p5), .unset, .unset, .unset, .unset, .unset, .unset, .unset, .unset] [(.int (1 : Int32))]))
    refine go (fun t kt' => by refine XS.goto X0.here hx rfl (pc0 := 7) (pc' := 11) rfl (hb hby at_7) (by decide) (by decide) ?_; exact kt') ?_
    show Go p e below _ (s₁.setTop (mkF m 11 #[.val (.int p0), .val (.int p1), .val (.long q2), .second, .val (.int p3), .val (.int p4), .val (.int p5), .unset, .unset, .unset, .unset, .unset, .unset, .unset, .unset] [(.int (1 : Int32))]))
    refine go (fun t kt' => by refine XS.istore X0.here hx rfl (hb hby at_11) rfl (l' := #[.val (.int p0), .val (.int p1), .val (.long q2), .second, .val (.int p3), .val (.int p4), .val (.int p5), .val (.int (1 : Int32)), .unset, .unset, .unset, .unset, .unset, .unset, .unset]) rfl ?_; exact kt') ?_
    show Go p e below _ (s₁.setTop (mkF m 13 #[.val (.int p0), .val (.int p1), .val (.long q2), .second, .val (.int p3), .val (.int p4), .val (.int p5), .val (.int (1 : Int32)), .unset, .unset, .unset, .unset, .unset, .unset, .unset] []))
    refine go (fun t kt' => by refine XS.iload X0.here hx rfl (hb hby at_13) rfl ?_; exact kt') ?_
    show Go p e below _ (s₁.setTop (mkF m 15 #[.val (.int p0), .val (.int p1), .val (.long q2), .second, .val (.int p3), .val (.int p4), .val (.int p5), .val (.int (1 : Int32)), .unset, .unset, .unset, .unset, .unset, .unset, .unset] [(.int (1 : Int32))]))
    have c15_23 : ¬ ((1 : Int32) = (0 : Int32)) := by decide
    refine go (fun t kt' => by refine XS.ifNo X0.here hx rfl (hb hby at_15) rfl ((if0 _ _).trans (feq c15_23).1) ?_; exact kt') ?_
    show Go p e below _ (s₁.setTop (mkF m 18 #[.val (.int p0), .val (.int p1), .val (.long q2), .second, .val (.int p3), .val (.int p4), .val (.int p5), .val (.int (1 : Int32)), .unset, .unset, .unset, .unset, .unset, .unset, .unset] []))
    obtain ⟨T24, X24, e24, st24⟩ := getS2 X0 hx hZ hown (host := "") (Or.inl (hw _ (List.mem_of_getElem? (i := 3) rfl))) Via.refl e0 S_READ (g := (mkF m 18 #[.val (.int p0), .val (.int p1), .val (.long q2), .second, .val (.int p3), .val (.int p4), .val (.int p5), .val (.int (1 : Int32)), .unset, .unset, .unset, .unset, .unset, .unset, .unset] [])) rfl (hb hby at_18)
    refine go st24 ?_
    show Go p e below _ (T24.setTop (mkF m 21 #[.val (.int p0), .val (.int p1), .val (.long q2), .second, .val (.int p3), .val (.int p4), .val (.int p5), .val (.int (1 : Int32)), .unset, .unset, .unset, .unset, .unset, .unset, .unset] [(.ref r1)]))
    refine go (fun t kt' => by refine XS.goto X24.here hx rfl (pc0 := 21) (pc' := 27) rfl (hb hby at_21) (by decide) (by decide) ?_; exact kt') ?_
    show Go p e below _ (T24.setTop (mkF m 27 #[.val (.int p0), .val (.int p1), .val (.long q2), .second, .val (.int p3), .val (.int p4), .val (.int p5), .val (.int (1 : Int32)), .unset, .unset, .unset, .unset, .unset, .unset, .unset] [(.ref r1)]))
    refine go (fun t kt' => by refine XS.astore X24.here hx rfl (hb hby at_27) rfl rfl (l' := #[.val (.int p0), .val (.int p1), .val (.long q2), .second, .val (.int p3), .val (.int p4), .val (.int p5), .val (.int (1 : Int32)), .val (.ref r1), .unset, .unset, .unset, .unset, .unset, .unset]) rfl ?_; exact kt') ?_
    show Go p e below _ (T24.setTop (mkF m 29 #[.val (.int p0), .val (.int p1), .val (.long q2), .second, .val (.int p3), .val (.int p4), .val (.int p5), .val (.int (1 : Int32)), .val (.ref r1), .unset, .unset, .unset, .unset, .unset, .unset] []))
    refine go (fun t kt' => by refine XS.iload X24.here hx rfl (hb hby at_29) rfl ?_; exact kt') ?_
    show Go p e below _ (T24.setTop (mkF m 31 #[.val (.int p0), .val (.int p1), .val (.long q2), .second, .val (.int p3), .val (.int p4), .val (.int p5), .val (.int (1 : Int32)), .val (.ref r1), .unset, .unset, .unset, .unset, .unset, .unset] [(.int (1 : Int32))]))
    have c31_25 : ¬ ((1 : Int32) = (0 : Int32)) := by decide
    refine go (fun t kt' => by refine XS.ifNo X24.here hx rfl (hb hby at_31) rfl ((if0 _ _).trans (feq c31_25).1) ?_; exact kt') ?_
    show Go p e below _ (T24.setTop (mkF m 34 #[.val (.int p0), .val (.int p1), .val (.long q2), .second, .val (.int p3), .val (.int p4), .val (.int p5), .val (.int (1 : Int32)), .val (.ref r1), .unset, .unset, .unset, .unset, .unset, .unset] []))
    obtain ⟨T26, X26, e26, st26⟩ := getS2 X24 hx hZ hown (host := "") (Or.inl (hw _ (List.mem_of_getElem? (i := 0) rfl))) Via.refl e24 S_WRITE (g := (mkF m 34 #[.val (.int p0), .val (.int p1), .val (.long q2), .second, .val (.int p3), .val (.int p4), .val (.int p5), .val (.int (1 : Int32)), .val (.ref r1), .unset, .unset, .unset, .unset, .unset, .unset] [])) rfl (hb hby at_34)
    refine go st26 ?_
    show Go p e below _ (T26.setTop (mkF m 37 #[.val (.int p0), .val (.int p1), .val (.long q2), .second, .val (.int p3), .val (.int p4), .val (.int p5), .val (.int (1 : Int32)), .val (.ref r1), .unset, .unset, .unset, .unset, .unset, .unset] [(.ref r2)]))
    refine go (fun t kt' => by refine XS.goto X26.here hx rfl (pc0 := 37) (pc' := 43) rfl (hb hby at_37) (by decide) (by decide) ?_; exact kt') ?_
    show Go p e below _ (T26.setTop (mkF m 43 #[.val (.int p0), .val (.int p1), .val (.long q2), .second, .val (.int p3), .val (.int p4), .val (.int p5), .val (.int (1 : Int32)), .val (.ref r1), .unset, .unset, .unset, .unset, .unset, .unset] [(.ref r2)]))
    refine go (fun t kt' => by refine XS.astore X26.here hx rfl (hb hby at_43) rfl rfl (l' := #[.val (.int p0), .val (.int p1), .val (.long q2), .second, .val (.int p3), .val (.int p4), .val (.int p5), .val (.int (1 : Int32)), .val (.ref r1), .val (.ref r2), .unset, .unset, .unset, .unset, .unset]) rfl ?_; exact kt') ?_
    show Go p e below _ (T26.setTop (mkF m 45 #[.val (.int p0), .val (.int p1), .val (.long q2), .second, .val (.int p3), .val (.int p4), .val (.int p5), .val (.int (1 : Int32)), .val (.ref r1), .val (.ref r2), .unset, .unset, .unset, .unset, .unset] []))
    refine go (fun t kt' => by refine XS.iconst X26.here hx rfl (hb hby at_45) ?_; exact kt') ?_
    show Go p e below _ (T26.setTop (mkF m 46 #[.val (.int p0), .val (.int p1), .val (.long q2), .second, .val (.int p3), .val (.int p4), .val (.int p5), .val (.int (1 : Int32)), .val (.ref r1), .val (.ref r2), .unset, .unset, .unset, .unset, .unset] [(.int (1 : Int32))]))
    refine go (fun t kt' => by refine XS.iload X26.here hx rfl (hb hby at_46) rfl ?_; exact kt') ?_
    show Go p e below _ (T26.setTop (mkF m 48 #[.val (.int p0), .val (.int p1), .val (.long q2), .second, .val (.int p3), .val (.int p4), .val (.int p5), .val (.int (1 : Int32)), .val (.ref r1), .val (.ref r2), .unset, .unset, .unset, .unset, .unset] [(.int p3), (.int (1 : Int32))]))
    refine go (fun t kt' => by refine X26.ldcI hx hown (mvT hZ (hw _ (List.mem_of_getElem? (i := 5) rfl))) rfl (hb hby at_48) ?_; exact kt') ?_
    show Go p e below _ (T26.setTop (mkF m 50 #[.val (.int p0), .val (.int p1), .val (.long q2), .second, .val (.int p3), .val (.int p4), .val (.int p5), .val (.int (1 : Int32)), .val (.ref r1), .val (.ref r2), .unset, .unset, .unset, .unset, .unset] [(.int (2147483647 : Int32)), (.int p3), (.int (1 : Int32))]))
    refine go (fun t kt' => by refine XS.iand X26.here hx rfl (hb hby at_50) rfl ?_; exact kt') ?_
    show Go p e below _ (T26.setTop (mkF m 51 #[.val (.int p0), .val (.int p1), .val (.long q2), .second, .val (.int p3), .val (.int p4), .val (.int p5), .val (.int (1 : Int32)), .val (.ref r1), .val (.ref r2), .unset, .unset, .unset, .unset, .unset] [(.int (p3 &&& (2147483647 : Int32))), (.int (1 : Int32))]))
    obtain ⟨_, _, ⟨T27, L27, k27, n27⟩, -, X27, ⟨Lc27, hQ27, l27, y27, z27⟩, st27⟩ := Jvm.LawKit.callS X26 hx (y := (⟨"java/lang/Math", "max", "(II)I"⟩ : MethodName)) hown (mvT hZ (hw _ (List.mem_of_getElem? (i := 6) rfl))) (mvT hZ (hw _ (List.mem_of_getElem? (i := 7) rfl))) (mvT hZ (hw _ (List.mem_of_getElem? (i := 8) rfl))) (mvT hZ (hw _ (List.mem_of_getElem? (i := 9) rfl))) (by decide) (backOf (W := 0) (rm1 l Z a0 hw [] (1 : Int32) (p3 &&& (2147483647 : Int32)) h0 n0 Z0) hZ (hw _ (List.mem_of_getElem? (i := 9) rfl)) (hw _ (List.mem_of_getElem? (i := 8) rfl)) (by decide) (by decide)) (g := (mkF m 51 #[.val (.int p0), .val (.int p1), .val (.long q2), .second, .val (.int p3), .val (.int p4), .val (.int p5), .val (.int (1 : Int32)), .val (.ref r1), .val (.ref r2), .unset, .unset, .unset, .unset, .unset] [(.int (p3 &&& (2147483647 : Int32))), (.int (1 : Int32))])) rfl (by rw [hml]; rfl) (argsL := [(.int (1 : Int32)), (.int (p3 &&& (2147483647 : Int32)))]) (rest := []) (lenOf pd_0 rfl) rfl (by show 2 * 0 + _ ≤ _; exact Nat.le_of_eq rfl) (hb hby at_51) (fun _ _ => ⟨rfl, e26, (by decide : 0 + 0 ≤ _), (by decide : 0 + 0 ≤ _)⟩)
    dsimp only [Pt.U, Pt.locs, Pt.cells, Pt.slots] at X27 l27 y27 z27 st27 hQ27
    subst l27 y27 z27
    obtain ⟨rfl, N27q, e27⟩ := hQ27
    have N27 := Fr.app N0 N27q
    refine go st27 ?_
    show Go p e below _ (T27.setTop (mkF m 54 #[.val (.int p0), .val (.int p1), .val (.long q2), .second, .val (.int p3), .val (.int p4), .val (.int p5), .val (.int (1 : Int32)), .val (.ref r1), .val (.ref r2), .unset, .unset, .unset, .unset, .unset] [(.int (own_max (1 : Int32) (p3 &&& (2147483647 : Int32))))]))
    refine go (fun t kt' => by refine XS.istore X27.here hx rfl (hb hby at_54) rfl (l' := #[.val (.int p0), .val (.int p1), .val (.long q2), .second, .val (.int p3), .val (.int p4), .val (.int p5), .val (.int (1 : Int32)), .val (.ref r1), .val (.ref r2), .val (.int (own_max (1 : Int32) (p3 &&& (2147483647 : Int32)))), .unset, .unset, .unset, .unset]) rfl ?_; exact kt') ?_
    show Go p e below _ (T27.setTop (mkF m 56 #[.val (.int p0), .val (.int p1), .val (.long q2), .second, .val (.int p3), .val (.int p4), .val (.int p5), .val (.int (1 : Int32)), .val (.ref r1), .val (.ref r2), .val (.int (own_max (1 : Int32) (p3 &&& (2147483647 : Int32)))), .unset, .unset, .unset, .unset] []))
    refine go (fun t kt' => by refine XS.iload X27.here hx rfl (hb hby at_56) rfl ?_; exact kt') ?_
    show Go p e below _ (T27.setTop (mkF m 58 #[.val (.int p0), .val (.int p1), .val (.long q2), .second, .val (.int p3), .val (.int p4), .val (.int p5), .val (.int (1 : Int32)), .val (.ref r1), .val (.ref r2), .val (.int (own_max (1 : Int32) (p3 &&& (2147483647 : Int32)))), .unset, .unset, .unset, .unset] [(.int (own_max (1 : Int32) (p3 &&& (2147483647 : Int32))))]))
    refine go (fun t kt' => by refine XS.iconst X27.here hx rfl (hb hby at_58) ?_; exact kt') ?_
    show Go p e below _ (T27.setTop (mkF m 59 #[.val (.int p0), .val (.int p1), .val (.long q2), .second, .val (.int p3), .val (.int p4), .val (.int p5), .val (.int (1 : Int32)), .val (.ref r1), .val (.ref r2), .val (.int (own_max (1 : Int32) (p3 &&& (2147483647 : Int32)))), .unset, .unset, .unset, .unset] [(.int (1 : Int32)), (.int (own_max (1 : Int32) (p3 &&& (2147483647 : Int32))))]))
    have J67_28 : ∀ fc : Int32, Go p e below (Kq s (Q0 Z  h0 n0) room_1.cells room_1.slots) (T27.setTop (mkF m 67 #[.val (.int p0), .val (.int p1), .val (.long q2), .second, .val (.int p3), .val (.int p4), .val (.int p5), .val (.int (1 : Int32)), .val (.ref r1), .val (.ref r2), .val (.int (own_max (1 : Int32) (p3 &&& (2147483647 : Int32)))), .unset, .unset, .unset, .unset] [(.int fc)])) := by
      intro fc
      show Go p e below _ (T27.setTop (mkF m 67 #[.val (.int p0), .val (.int p1), .val (.long q2), .second, .val (.int p3), .val (.int p4), .val (.int p5), .val (.int (1 : Int32)), .val (.ref r1), .val (.ref r2), .val (.int (own_max (1 : Int32) (p3 &&& (2147483647 : Int32)))), .unset, .unset, .unset, .unset] [(.int fc)]))
      refine go (fun t kt' => by refine XS.istore X27.here hx rfl (hb hby at_67) rfl (l' := #[.val (.int p0), .val (.int p1), .val (.long q2), .second, .val (.int p3), .val (.int p4), .val (.int p5), .val (.int (1 : Int32)), .val (.ref r1), .val (.ref r2), .val (.int (own_max (1 : Int32) (p3 &&& (2147483647 : Int32)))), .val (.int fc), .unset, .unset, .unset]) rfl ?_; exact kt') ?_
      show Go p e below _ (T27.setTop (mkF m 69 #[.val (.int p0), .val (.int p1), .val (.long q2), .second, .val (.int p3), .val (.int p4), .val (.int p5), .val (.int (1 : Int32)), .val (.ref r1), .val (.ref r2), .val (.int (own_max (1 : Int32) (p3 &&& (2147483647 : Int32)))), .val (.int fc), .unset, .unset, .unset] []))
      refine go (fun t kt' => by refine XS.iload X27.here hx rfl (hb hby at_69) rfl ?_; exact kt') ?_
      show Go p e below _ (T27.setTop (mkF m 71 #[.val (.int p0), .val (.int p1), .val (.long q2), .second, .val (.int p3), .val (.int p4), .val (.int p5), .val (.int (1 : Int32)), .val (.ref r1), .val (.ref r2), .val (.int (own_max (1 : Int32) (p3 &&& (2147483647 : Int32)))), .val (.int fc), .unset, .unset, .unset] [(.int p4)]))
      refine go (fun t kt' => by refine X27.ldcI hx hown (mvT hZ (hw _ (List.mem_of_getElem? (i := 5) rfl))) rfl (hb hby at_71) ?_; exact kt') ?_
      show Go p e below _ (T27.setTop (mkF m 73 #[.val (.int p0), .val (.int p1), .val (.long q2), .second, .val (.int p3), .val (.int p4), .val (.int p5), .val (.int (1 : Int32)), .val (.ref r1), .val (.ref r2), .val (.int (own_max (1 : Int32) (p3 &&& (2147483647 : Int32)))), .val (.int fc), .unset, .unset, .unset] [(.int (2147483647 : Int32)), (.int p4)]))
      refine go (fun t kt' => by refine XS.iand X27.here hx rfl (hb hby at_73) rfl ?_; exact kt') ?_
      show Go p e below _ (T27.setTop (mkF m 74 #[.val (.int p0), .val (.int p1), .val (.long q2), .second, .val (.int p3), .val (.int p4), .val (.int p5), .val (.int (1 : Int32)), .val (.ref r1), .val (.ref r2), .val (.int (own_max (1 : Int32) (p3 &&& (2147483647 : Int32)))), .val (.int fc), .unset, .unset, .unset] [(.int (p4 &&& (2147483647 : Int32)))]))
      refine go (fun t kt' => by refine XS.istore X27.here hx rfl (hb hby at_74) rfl (l' := #[.val (.int p0), .val (.int p1), .val (.long q2), .second, .val (.int p3), .val (.int p4), .val (.int p5), .val (.int (1 : Int32)), .val (.ref r1), .val (.ref r2), .val (.int (own_max (1 : Int32) (p3 &&& (2147483647 : Int32)))), .val (.int fc), .val (.int (p4 &&& (2147483647 : Int32))), .unset, .unset]) rfl ?_; exact kt') ?_
      show Go p e below _ (T27.setTop (mkF m 76 #[.val (.int p0), .val (.int p1), .val (.long q2), .second, .val (.int p3), .val (.int p4), .val (.int p5), .val (.int (1 : Int32)), .val (.ref r1), .val (.ref r2), .val (.int (own_max (1 : Int32) (p3 &&& (2147483647 : Int32)))), .val (.int fc), .val (.int (p4 &&& (2147483647 : Int32))), .unset, .unset] []))
      refine go (fun t kt' => by refine XS.iload X27.here hx rfl (hb hby at_76) rfl ?_; exact kt') ?_
      show Go p e below _ (T27.setTop (mkF m 78 #[.val (.int p0), .val (.int p1), .val (.long q2), .second, .val (.int p3), .val (.int p4), .val (.int p5), .val (.int (1 : Int32)), .val (.ref r1), .val (.ref r2), .val (.int (own_max (1 : Int32) (p3 &&& (2147483647 : Int32)))), .val (.int fc), .val (.int (p4 &&& (2147483647 : Int32))), .unset, .unset] [(.int p5)]))
      refine go (fun t kt' => by refine X27.ldcI hx hown (mvT hZ (hw _ (List.mem_of_getElem? (i := 5) rfl))) rfl (hb hby at_78) ?_; exact kt') ?_
      show Go p e below _ (T27.setTop (mkF m 80 #[.val (.int p0), .val (.int p1), .val (.long q2), .second, .val (.int p3), .val (.int p4), .val (.int p5), .val (.int (1 : Int32)), .val (.ref r1), .val (.ref r2), .val (.int (own_max (1 : Int32) (p3 &&& (2147483647 : Int32)))), .val (.int fc), .val (.int (p4 &&& (2147483647 : Int32))), .unset, .unset] [(.int (2147483647 : Int32)), (.int p5)]))
      refine go (fun t kt' => by refine XS.iand X27.here hx rfl (hb hby at_80) rfl ?_; exact kt') ?_
      show Go p e below _ (T27.setTop (mkF m 81 #[.val (.int p0), .val (.int p1), .val (.long q2), .second, .val (.int p3), .val (.int p4), .val (.int p5), .val (.int (1 : Int32)), .val (.ref r1), .val (.ref r2), .val (.int (own_max (1 : Int32) (p3 &&& (2147483647 : Int32)))), .val (.int fc), .val (.int (p4 &&& (2147483647 : Int32))), .unset, .unset] [(.int (p5 &&& (2147483647 : Int32)))]))
      refine go (fun t kt' => by refine XS.istore X27.here hx rfl (hb hby at_81) rfl (l' := #[.val (.int p0), .val (.int p1), .val (.long q2), .second, .val (.int p3), .val (.int p4), .val (.int p5), .val (.int (1 : Int32)), .val (.ref r1), .val (.ref r2), .val (.int (own_max (1 : Int32) (p3 &&& (2147483647 : Int32)))), .val (.int fc), .val (.int (p4 &&& (2147483647 : Int32))), .val (.int (p5 &&& (2147483647 : Int32))), .unset]) rfl ?_; exact kt') ?_
      show Go p e below _ (T27.setTop (mkF m 83 #[.val (.int p0), .val (.int p1), .val (.long q2), .second, .val (.int p3), .val (.int p4), .val (.int p5), .val (.int (1 : Int32)), .val (.ref r1), .val (.ref r2), .val (.int (own_max (1 : Int32) (p3 &&& (2147483647 : Int32)))), .val (.int fc), .val (.int (p4 &&& (2147483647 : Int32))), .val (.int (p5 &&& (2147483647 : Int32))), .unset] []))
      obtain ⟨T29, h29, X29, e29, E29, A29, D29, -, st29⟩ := newO X27 hx hZ hown (hw _ (List.mem_of_getElem? (i := 10) rfl)) (hw _ (List.mem_of_getElem? (i := 11) rfl)) (hw _ (List.mem_of_getElem? (i := 12) rfl)) e27 (g := (mkF m 83 #[.val (.int p0), .val (.int p1), .val (.long q2), .second, .val (.int p3), .val (.int p4), .val (.int p5), .val (.int (1 : Int32)), .val (.ref r1), .val (.ref r2), .val (.int (own_max (1 : Int32) (p3 &&& (2147483647 : Int32)))), .val (.int fc), .val (.int (p4 &&& (2147483647 : Int32))), .val (.int (p5 &&& (2147483647 : Int32))), .unset] [])) rfl (hb hby at_83) (by decide) (by decide)
      obtain ⟨b29, g29⟩ : ∃ z, z = h0.size := ⟨_, rfl⟩
      have n0_b29 : n0 ≤ b29 := Nat.le_trans Z0 (Nat.le_of_eq g29.symm)
      rw [← g29] at A29 D29 st29
      have f30_Z := Nat.le_trans Z0 E29.1
      have F29_call : Fld Z h29 b29 "com/example/coreloom/coreloom/Transfer" "call" "Lcom/example/coreloom/coreloom/SystemCall;" .null := D29 (Or.inl (hw _ (List.mem_of_getElem? (i := 26) rfl))) (ty := (.object "com/example/coreloom/coreloom/SystemCall")) (by decide)
      have F29_descriptor : Fld Z h29 b29 "com/example/coreloom/coreloom/Transfer" "descriptor" "I" (.int (0 : Int32)) := D29 (Or.inl (hw _ (List.mem_of_getElem? (i := 28) rfl))) (ty := .int) (by decide)
      have F29_opening : Fld Z h29 b29 "com/example/coreloom/coreloom/Transfer" "opening" "J" (.long (0 : Int64)) := D29 (Or.inl (hw _ (List.mem_of_getElem? (i := 30) rfl))) (ty := .long) (by decide)
      have F29_file : Fld Z h29 b29 "com/example/coreloom/coreloom/Transfer" "file" "Lcom/example/coreloom/coreloom/StorageFile;" .null := D29 (Or.inl (hw _ (List.mem_of_getElem? (i := 32) rfl))) (ty := (.object "com/example/coreloom/coreloom/StorageFile")) (by decide)
      have F29_position : Fld Z h29 b29 "com/example/coreloom/coreloom/Transfer" "position" "I" (.int (0 : Int32)) := D29 (Or.inl (hw _ (List.mem_of_getElem? (i := 34) rfl))) (ty := .int) (by decide)
      have F29_address : Fld Z h29 b29 "com/example/coreloom/coreloom/Transfer" "address" "I" (.int (0 : Int32)) := D29 (Or.inl (hw _ (List.mem_of_getElem? (i := 36) rfl))) (ty := .int) (by decide)
      have F29_cells : Fld Z h29 b29 "com/example/coreloom/coreloom/Transfer" "cells" "I" (.int (0 : Int32)) := D29 (Or.inl (hw _ (List.mem_of_getElem? (i := 38) rfl))) (ty := .int) (by decide)
      refine go st29 ?_
      show Go p e below _ (T29.setTop (mkF m 86 #[.val (.int p0), .val (.int p1), .val (.long q2), .second, .val (.int p3), .val (.int p4), .val (.int p5), .val (.int (1 : Int32)), .val (.ref r1), .val (.ref r2), .val (.int (own_max (1 : Int32) (p3 &&& (2147483647 : Int32)))), .val (.int fc), .val (.int (p4 &&& (2147483647 : Int32))), .val (.int (p5 &&& (2147483647 : Int32))), .unset] [(.ref b29)]))
      refine go (fun t kt' => by refine XS.dup X29.here hx rfl (hb hby at_86) rfl rfl ?_; exact kt') ?_
      show Go p e below _ (T29.setTop (mkF m 87 #[.val (.int p0), .val (.int p1), .val (.long q2), .second, .val (.int p3), .val (.int p4), .val (.int p5), .val (.int (1 : Int32)), .val (.ref r1), .val (.ref r2), .val (.int (own_max (1 : Int32) (p3 &&& (2147483647 : Int32)))), .val (.int fc), .val (.int (p4 &&& (2147483647 : Int32))), .val (.int (p5 &&& (2147483647 : Int32))), .unset] [(.ref b29), (.ref b29)]))
      obtain ⟨_, _, ⟨T31, L31, k31, n31⟩, -, X31, ⟨Lc31, hQ31, l31, y31, z31⟩, st31⟩ := X29.specialBack hx (y := (⟨"com/example/coreloom/coreloom/Transfer", "<init>", "()V"⟩ : MethodName)) rfl hown (mvT hZ (hw _ (List.mem_of_getElem? (i := 13) rfl))) (mvT hZ (hw _ (List.mem_of_getElem? (i := 14) rfl))) (mvT hZ (hw _ (List.mem_of_getElem? (i := 15) rfl))) (by decide) (backOf (W := 1) (rm2 l Z a0 hw [] b29 h29 n0 f30_Z) hZ (hw _ (List.mem_of_getElem? (i := 15) rfl)) (hw _ (List.mem_of_getElem? (i := 12) rfl)) (by decide) (by decide)) (g := (mkF m 87 #[.val (.int p0), .val (.int p1), .val (.long q2), .second, .val (.int p3), .val (.int p4), .val (.int p5), .val (.int (1 : Int32)), .val (.ref r1), .val (.ref r2), .val (.int (own_max (1 : Int32) (p3 &&& (2147483647 : Int32)))), .val (.int fc), .val (.int (p4 &&& (2147483647 : Int32))), .val (.int (p5 &&& (2147483647 : Int32))), .unset] [(.ref b29), (.ref b29)])) rfl (by rw [hml]; rfl) (Steps.refl _) (a := b29) (argsL := []) (rest := [(.ref b29)]) (lenOf pd_1 rfl) rfl (by show 2 * 0 + _ ≤ _; exact Nat.le_of_eq rfl) (hb hby at_87) (fun _ _ => ⟨rfl, e29, (by decide : 1 + 0 ≤ _), (by decide : 7 + 0 ≤ _)⟩)
      dsimp only [Pt.U, Pt.locs, Pt.cells, Pt.slots] at X31 l31 y31 z31 st31 hQ31
      subst l31 y31 z31
      obtain ⟨rfl, N31q, e31⟩ := hQ31
      have N31 := Fr.app N27 N31q
      refine go (fun t kt => st31.trans kt) ?_
      show Go p e below _ (T31.setTop (mkF m 90 #[.val (.int p0), .val (.int p1), .val (.long q2), .second, .val (.int p3), .val (.int p4), .val (.int p5), .val (.int (1 : Int32)), .val (.ref r1), .val (.ref r2), .val (.int (own_max (1 : Int32) (p3 &&& (2147483647 : Int32)))), .val (.int fc), .val (.int (p4 &&& (2147483647 : Int32))), .val (.int (p5 &&& (2147483647 : Int32))), .unset] [(.ref b29)]))
      refine go (fun t kt' => by refine XS.astore X31.here hx rfl (hb hby at_90) rfl rfl (l' := #[.val (.int p0), .val (.int p1), .val (.long q2), .second, .val (.int p3), .val (.int p4), .val (.int p5), .val (.int (1 : Int32)), .val (.ref r1), .val (.ref r2), .val (.int (own_max (1 : Int32) (p3 &&& (2147483647 : Int32)))), .val (.int fc), .val (.int (p4 &&& (2147483647 : Int32))), .val (.int (p5 &&& (2147483647 : Int32))), .val (.ref b29)]) rfl ?_; exact kt') ?_
      show Go p e below _ (T31.setTop (mkF m 92 #[.val (.int p0), .val (.int p1), .val (.long q2), .second, .val (.int p3), .val (.int p4), .val (.int p5), .val (.int (1 : Int32)), .val (.ref r1), .val (.ref r2), .val (.int (own_max (1 : Int32) (p3 &&& (2147483647 : Int32)))), .val (.int fc), .val (.int (p4 &&& (2147483647 : Int32))), .val (.int (p5 &&& (2147483647 : Int32))), .val (.ref b29)] []))
      refine go (fun t kt' => by refine XS.aload X31.here hx rfl (hb hby at_92) rfl rfl ?_; exact kt') ?_
      show Go p e below _ (T31.setTop (mkF m 94 #[.val (.int p0), .val (.int p1), .val (.long q2), .second, .val (.int p3), .val (.int p4), .val (.int p5), .val (.int (1 : Int32)), .val (.ref r1), .val (.ref r2), .val (.int (own_max (1 : Int32) (p3 &&& (2147483647 : Int32)))), .val (.int fc), .val (.int (p4 &&& (2147483647 : Int32))), .val (.int (p5 &&& (2147483647 : Int32))), .val (.ref b29)] [(.ref b29)]))
      refine go (fun t kt' => by refine XS.aload X31.here hx rfl (hb hby at_94) rfl rfl ?_; exact kt') ?_
      show Go p e below _ (T31.setTop (mkF m 96 #[.val (.int p0), .val (.int p1), .val (.long q2), .second, .val (.int p3), .val (.int p4), .val (.int p5), .val (.int (1 : Int32)), .val (.ref r1), .val (.ref r2), .val (.int (own_max (1 : Int32) (p3 &&& (2147483647 : Int32)))), .val (.int fc), .val (.int (p4 &&& (2147483647 : Int32))), .val (.int (p5 &&& (2147483647 : Int32))), .val (.ref b29)] [(.ref r2), (.ref b29)]))
      refine go (fun t kt' => by refine XS.iloadN X31.here hx rfl (hb hby at_96) rfl ?_; exact kt') ?_
      show Go p e below _ (T31.setTop (mkF m 97 #[.val (.int p0), .val (.int p1), .val (.long q2), .second, .val (.int p3), .val (.int p4), .val (.int p5), .val (.int (1 : Int32)), .val (.ref r1), .val (.ref r2), .val (.int (own_max (1 : Int32) (p3 &&& (2147483647 : Int32)))), .val (.int fc), .val (.int (p4 &&& (2147483647 : Int32))), .val (.int (p5 &&& (2147483647 : Int32))), .val (.ref b29)] [(.int p1), (.ref r2), (.ref b29)]))
      refine go (fun t kt' => by refine XS.iconst X31.here hx rfl (hb hby at_97) ?_; exact kt') ?_
      show Go p e below _ (T31.setTop (mkF m 98 #[.val (.int p0), .val (.int p1), .val (.long q2), .second, .val (.int p3), .val (.int p4), .val (.int p5), .val (.int (1 : Int32)), .val (.ref r1), .val (.ref r2), .val (.int (own_max (1 : Int32) (p3 &&& (2147483647 : Int32)))), .val (.int fc), .val (.int (p4 &&& (2147483647 : Int32))), .val (.int (p5 &&& (2147483647 : Int32))), .val (.ref b29)] [(.int (-1 : Int32)), (.int p1), (.ref r2), (.ref b29)]))
      refine go (fun t kt' => by refine XS.ixor X31.here hx rfl (hb hby at_98) rfl ?_; exact kt') ?_
      show Go p e below _ (T31.setTop (mkF m 99 #[.val (.int p0), .val (.int p1), .val (.long q2), .second, .val (.int p3), .val (.int p4), .val (.int p5), .val (.int (1 : Int32)), .val (.ref r1), .val (.ref r2), .val (.int (own_max (1 : Int32) (p3 &&& (2147483647 : Int32)))), .val (.int fc), .val (.int (p4 &&& (2147483647 : Int32))), .val (.int (p5 &&& (2147483647 : Int32))), .val (.ref b29)] [(.int (p1 ^^^ (-1 : Int32))), (.ref r2), (.ref b29)]))
      refine go (fun t kt' => by refine XS.lloadN X31.here hx rfl (hb hby at_99) rfl ?_; exact kt') ?_
      show Go p e below _ (T31.setTop (mkF m 100 #[.val (.int p0), .val (.int p1), .val (.long q2), .second, .val (.int p3), .val (.int p4), .val (.int p5), .val (.int (1 : Int32)), .val (.ref r1), .val (.ref r2), .val (.int (own_max (1 : Int32) (p3 &&& (2147483647 : Int32)))), .val (.int fc), .val (.int (p4 &&& (2147483647 : Int32))), .val (.int (p5 &&& (2147483647 : Int32))), .val (.ref b29)] [(.long q2), (.int (p1 ^^^ (-1 : Int32))), (.ref r2), (.ref b29)]))
      refine go (fun t kt' => by refine X31.ldc2J hx hown (mvT hZ (hw _ (List.mem_of_getElem? (i := 19) rfl))) rfl (hb hby at_100) ?_; exact kt') ?_
      show Go p e below _ (T31.setTop (mkF m 103 #[.val (.int p0), .val (.int p1), .val (.long q2), .second, .val (.int p3), .val (.int p4), .val (.int p5), .val (.int (1 : Int32)), .val (.ref r1), .val (.ref r2), .val (.int (own_max (1 : Int32) (p3 &&& (2147483647 : Int32)))), .val (.int fc), .val (.int (p4 &&& (2147483647 : Int32))), .val (.int (p5 &&& (2147483647 : Int32))), .val (.ref b29)] [(.long (-1 : Int64)), (.long q2), (.int (p1 ^^^ (-1 : Int32))), (.ref r2), (.ref b29)]))
      refine go (fun t kt' => by refine XS.lxor X31.here hx rfl (hb hby at_103) rfl ?_; exact kt') ?_
      show Go p e below _ (T31.setTop (mkF m 104 #[.val (.int p0), .val (.int p1), .val (.long q2), .second, .val (.int p3), .val (.int p4), .val (.int p5), .val (.int (1 : Int32)), .val (.ref r1), .val (.ref r2), .val (.int (own_max (1 : Int32) (p3 &&& (2147483647 : Int32)))), .val (.int fc), .val (.int (p4 &&& (2147483647 : Int32))), .val (.int (p5 &&& (2147483647 : Int32))), .val (.ref b29)] [(.long (q2 ^^^ (-1 : Int64))), (.int (p1 ^^^ (-1 : Int32))), (.ref r2), (.ref b29)]))
      refine go (fun t kt' => by refine XS.aconstNull X31.here hx rfl (hb hby at_104) ?_; exact kt') ?_
      show Go p e below _ (T31.setTop (mkF m 105 #[.val (.int p0), .val (.int p1), .val (.long q2), .second, .val (.int p3), .val (.int p4), .val (.int p5), .val (.int (1 : Int32)), .val (.ref r1), .val (.ref r2), .val (.int (own_max (1 : Int32) (p3 &&& (2147483647 : Int32)))), .val (.int fc), .val (.int (p4 &&& (2147483647 : Int32))), .val (.int (p5 &&& (2147483647 : Int32))), .val (.ref b29)] [.null, (.long (q2 ^^^ (-1 : Int64))), (.int (p1 ^^^ (-1 : Int32))), (.ref r2), (.ref b29)]))
      refine go (fun t kt' => by refine XS.iload X31.here hx rfl (hb hby at_105) rfl ?_; exact kt') ?_
      show Go p e below _ (T31.setTop (mkF m 107 #[.val (.int p0), .val (.int p1), .val (.long q2), .second, .val (.int p3), .val (.int p4), .val (.int p5), .val (.int (1 : Int32)), .val (.ref r1), .val (.ref r2), .val (.int (own_max (1 : Int32) (p3 &&& (2147483647 : Int32)))), .val (.int fc), .val (.int (p4 &&& (2147483647 : Int32))), .val (.int (p5 &&& (2147483647 : Int32))), .val (.ref b29)] [(.int (p4 &&& (2147483647 : Int32))), .null, (.long (q2 ^^^ (-1 : Int64))), (.int (p1 ^^^ (-1 : Int32))), (.ref r2), (.ref b29)]))
      refine go (fun t kt' => by refine XS.iconst X31.here hx rfl (hb hby at_107) ?_; exact kt') ?_
      show Go p e below _ (T31.setTop (mkF m 108 #[.val (.int p0), .val (.int p1), .val (.long q2), .second, .val (.int p3), .val (.int p4), .val (.int p5), .val (.int (1 : Int32)), .val (.ref r1), .val (.ref r2), .val (.int (own_max (1 : Int32) (p3 &&& (2147483647 : Int32)))), .val (.int fc), .val (.int (p4 &&& (2147483647 : Int32))), .val (.int (p5 &&& (2147483647 : Int32))), .val (.ref b29)] [(.int (-1 : Int32)), (.int (p4 &&& (2147483647 : Int32))), .null, (.long (q2 ^^^ (-1 : Int64))), (.int (p1 ^^^ (-1 : Int32))), (.ref r2), (.ref b29)]))
      refine go (fun t kt' => by refine XS.ixor X31.here hx rfl (hb hby at_108) rfl ?_; exact kt') ?_
      show Go p e below _ (T31.setTop (mkF m 109 #[.val (.int p0), .val (.int p1), .val (.long q2), .second, .val (.int p3), .val (.int p4), .val (.int p5), .val (.int (1 : Int32)), .val (.ref r1), .val (.ref r2), .val (.int (own_max (1 : Int32) (p3 &&& (2147483647 : Int32)))), .val (.int fc), .val (.int (p4 &&& (2147483647 : Int32))), .val (.int (p5 &&& (2147483647 : Int32))), .val (.ref b29)] [(.int ((p4 &&& (2147483647 : Int32)) ^^^ (-1 : Int32))), .null, (.long (q2 ^^^ (-1 : Int64))), (.int (p1 ^^^ (-1 : Int32))), (.ref r2), (.ref b29)]))
      refine go (fun t kt' => by refine X31.ldcI hx hown (mvT hZ (hw _ (List.mem_of_getElem? (i := 5) rfl))) rfl (hb hby at_109) ?_; exact kt') ?_
      show Go p e below _ (T31.setTop (mkF m 111 #[.val (.int p0), .val (.int p1), .val (.long q2), .second, .val (.int p3), .val (.int p4), .val (.int p5), .val (.int (1 : Int32)), .val (.ref r1), .val (.ref r2), .val (.int (own_max (1 : Int32) (p3 &&& (2147483647 : Int32)))), .val (.int fc), .val (.int (p4 &&& (2147483647 : Int32))), .val (.int (p5 &&& (2147483647 : Int32))), .val (.ref b29)] [(.int (2147483647 : Int32)), (.int ((p4 &&& (2147483647 : Int32)) ^^^ (-1 : Int32))), .null, (.long (q2 ^^^ (-1 : Int64))), (.int (p1 ^^^ (-1 : Int32))), (.ref r2), (.ref b29)]))
      refine go (fun t kt' => by refine XS.iand X31.here hx rfl (hb hby at_111) rfl ?_; exact kt') ?_
      show Go p e below _ (T31.setTop (mkF m 112 #[.val (.int p0), .val (.int p1), .val (.long q2), .second, .val (.int p3), .val (.int p4), .val (.int p5), .val (.int (1 : Int32)), .val (.ref r1), .val (.ref r2), .val (.int (own_max (1 : Int32) (p3 &&& (2147483647 : Int32)))), .val (.int fc), .val (.int (p4 &&& (2147483647 : Int32))), .val (.int (p5 &&& (2147483647 : Int32))), .val (.ref b29)] [(.int (((p4 &&& (2147483647 : Int32)) ^^^ (-1 : Int32)) &&& (2147483647 : Int32))), .null, (.long (q2 ^^^ (-1 : Int64))), (.int (p1 ^^^ (-1 : Int32))), (.ref r2), (.ref b29)]))
      refine go (fun t kt' => by refine XS.iload X31.here hx rfl (hb hby at_112) rfl ?_; exact kt') ?_
      show Go p e below _ (T31.setTop (mkF m 114 #[.val (.int p0), .val (.int p1), .val (.long q2), .second, .val (.int p3), .val (.int p4), .val (.int p5), .val (.int (1 : Int32)), .val (.ref r1), .val (.ref r2), .val (.int (own_max (1 : Int32) (p3 &&& (2147483647 : Int32)))), .val (.int fc), .val (.int (p4 &&& (2147483647 : Int32))), .val (.int (p5 &&& (2147483647 : Int32))), .val (.ref b29)] [(.int (p5 &&& (2147483647 : Int32))), (.int (((p4 &&& (2147483647 : Int32)) ^^^ (-1 : Int32)) &&& (2147483647 : Int32))), .null, (.long (q2 ^^^ (-1 : Int64))), (.int (p1 ^^^ (-1 : Int32))), (.ref r2), (.ref b29)]))
      refine go (fun t kt' => by refine XS.iconst X31.here hx rfl (hb hby at_114) ?_; exact kt') ?_
      show Go p e below _ (T31.setTop (mkF m 115 #[.val (.int p0), .val (.int p1), .val (.long q2), .second, .val (.int p3), .val (.int p4), .val (.int p5), .val (.int (1 : Int32)), .val (.ref r1), .val (.ref r2), .val (.int (own_max (1 : Int32) (p3 &&& (2147483647 : Int32)))), .val (.int fc), .val (.int (p4 &&& (2147483647 : Int32))), .val (.int (p5 &&& (2147483647 : Int32))), .val (.ref b29)] [(.int (-1 : Int32)), (.int (p5 &&& (2147483647 : Int32))), (.int (((p4 &&& (2147483647 : Int32)) ^^^ (-1 : Int32)) &&& (2147483647 : Int32))), .null, (.long (q2 ^^^ (-1 : Int64))), (.int (p1 ^^^ (-1 : Int32))), (.ref r2), (.ref b29)]))
      refine go (fun t kt' => by refine XS.ixor X31.here hx rfl (hb hby at_115) rfl ?_; exact kt') ?_
      show Go p e below _ (T31.setTop (mkF m 116 #[.val (.int p0), .val (.int p1), .val (.long q2), .second, .val (.int p3), .val (.int p4), .val (.int p5), .val (.int (1 : Int32)), .val (.ref r1), .val (.ref r2), .val (.int (own_max (1 : Int32) (p3 &&& (2147483647 : Int32)))), .val (.int fc), .val (.int (p4 &&& (2147483647 : Int32))), .val (.int (p5 &&& (2147483647 : Int32))), .val (.ref b29)] [(.int ((p5 &&& (2147483647 : Int32)) ^^^ (-1 : Int32))), (.int (((p4 &&& (2147483647 : Int32)) ^^^ (-1 : Int32)) &&& (2147483647 : Int32))), .null, (.long (q2 ^^^ (-1 : Int64))), (.int (p1 ^^^ (-1 : Int32))), (.ref r2), (.ref b29)]))
      refine go (fun t kt' => by refine X31.ldcI hx hown (mvT hZ (hw _ (List.mem_of_getElem? (i := 5) rfl))) rfl (hb hby at_116) ?_; exact kt') ?_
      show Go p e below _ (T31.setTop (mkF m 118 #[.val (.int p0), .val (.int p1), .val (.long q2), .second, .val (.int p3), .val (.int p4), .val (.int p5), .val (.int (1 : Int32)), .val (.ref r1), .val (.ref r2), .val (.int (own_max (1 : Int32) (p3 &&& (2147483647 : Int32)))), .val (.int fc), .val (.int (p4 &&& (2147483647 : Int32))), .val (.int (p5 &&& (2147483647 : Int32))), .val (.ref b29)] [(.int (2147483647 : Int32)), (.int ((p5 &&& (2147483647 : Int32)) ^^^ (-1 : Int32))), (.int (((p4 &&& (2147483647 : Int32)) ^^^ (-1 : Int32)) &&& (2147483647 : Int32))), .null, (.long (q2 ^^^ (-1 : Int64))), (.int (p1 ^^^ (-1 : Int32))), (.ref r2), (.ref b29)]))
      refine go (fun t kt' => by refine XS.iand X31.here hx rfl (hb hby at_118) rfl ?_; exact kt') ?_
      show Go p e below _ (T31.setTop (mkF m 119 #[.val (.int p0), .val (.int p1), .val (.long q2), .second, .val (.int p3), .val (.int p4), .val (.int p5), .val (.int (1 : Int32)), .val (.ref r1), .val (.ref r2), .val (.int (own_max (1 : Int32) (p3 &&& (2147483647 : Int32)))), .val (.int fc), .val (.int (p4 &&& (2147483647 : Int32))), .val (.int (p5 &&& (2147483647 : Int32))), .val (.ref b29)] [(.int (((p5 &&& (2147483647 : Int32)) ^^^ (-1 : Int32)) &&& (2147483647 : Int32))), (.int (((p4 &&& (2147483647 : Int32)) ^^^ (-1 : Int32)) &&& (2147483647 : Int32))), .null, (.long (q2 ^^^ (-1 : Int64))), (.int (p1 ^^^ (-1 : Int32))), (.ref r2), (.ref b29)]))
      refine go (fun t kt' => by refine XS.iload X31.here hx rfl (hb hby at_119) rfl ?_; exact kt') ?_
      show Go p e below _ (T31.setTop (mkF m 121 #[.val (.int p0), .val (.int p1), .val (.long q2), .second, .val (.int p3), .val (.int p4), .val (.int p5), .val (.int (1 : Int32)), .val (.ref r1), .val (.ref r2), .val (.int (own_max (1 : Int32) (p3 &&& (2147483647 : Int32)))), .val (.int fc), .val (.int (p4 &&& (2147483647 : Int32))), .val (.int (p5 &&& (2147483647 : Int32))), .val (.ref b29)] [(.int fc), (.int (((p5 &&& (2147483647 : Int32)) ^^^ (-1 : Int32)) &&& (2147483647 : Int32))), (.int (((p4 &&& (2147483647 : Int32)) ^^^ (-1 : Int32)) &&& (2147483647 : Int32))), .null, (.long (q2 ^^^ (-1 : Int64))), (.int (p1 ^^^ (-1 : Int32))), (.ref r2), (.ref b29)]))
      obtain ⟨cq32, kq32, q32a, q32b, q32c⟩ := isOf hZ e31 A29
      obtain ⟨_, _, ⟨T32, L32, k32, n32⟩, -, X32, ⟨Lc32, hQ32, l32, y32, z32⟩, st32⟩ := X31.virtualBack hx (y := (⟨"com/example/coreloom/coreloom/Transfer", "set", "(Lcom/example/coreloom/coreloom/SystemCall;IJLcom/example/coreloom/coreloom/StorageFile;III)V"⟩ : MethodName)) (z := (⟨"com/example/coreloom/coreloom/Transfer", "set", "(Lcom/example/coreloom/coreloom/SystemCall;IJLcom/example/coreloom/coreloom/StorageFile;III)V"⟩ : MethodName)) hown (mvT hZ (hw _ (List.mem_of_getElem? (i := 20) rfl))) (mvT hZ (hw _ (List.mem_of_getElem? (i := 21) rfl))) (notFace_of_selects (args := #[]) (mvT hZ (hw _ (List.mem_of_getElem? (i := 23) rfl)))) (mvT hZ (hw _ (List.mem_of_getElem? (i := 23) rfl))) (mvT hZ (hw _ (List.mem_of_getElem? (i := 22) rfl))) (by decide) (backOf (W := 0) (rm4 l Z a0 hw [] b29 r2 (p1 ^^^ (-1 : Int32)) (q2 ^^^ (-1 : Int64)) (((p4 &&& (2147483647 : Int32)) ^^^ (-1 : Int32)) &&& (2147483647 : Int32)) (((p5 &&& (2147483647 : Int32)) ^^^ (-1 : Int32)) &&& (2147483647 : Int32)) fc .null (.int (0 : Int32)) (.long (0 : Int64)) .null (.int (0 : Int32)) (.int (0 : Int32)) (.int (0 : Int32)) h29 n0 f30_Z A29 n0_b29 F29_call F29_descriptor F29_opening F29_file F29_position F29_address F29_cells) hZ (hw _ (List.mem_of_getElem? (i := 24) rfl)) (hw _ (List.mem_of_getElem? (i := 12) rfl)) (by decide) (by decide)) q32a q32c (g := (mkF m 121 #[.val (.int p0), .val (.int p1), .val (.long q2), .second, .val (.int p3), .val (.int p4), .val (.int p5), .val (.int (1 : Int32)), .val (.ref r1), .val (.ref r2), .val (.int (own_max (1 : Int32) (p3 &&& (2147483647 : Int32)))), .val (.int fc), .val (.int (p4 &&& (2147483647 : Int32))), .val (.int (p5 &&& (2147483647 : Int32))), .val (.ref b29)] [(.int fc), (.int (((p5 &&& (2147483647 : Int32)) ^^^ (-1 : Int32)) &&& (2147483647 : Int32))), (.int (((p4 &&& (2147483647 : Int32)) ^^^ (-1 : Int32)) &&& (2147483647 : Int32))), .null, (.long (q2 ^^^ (-1 : Int64))), (.int (p1 ^^^ (-1 : Int32))), (.ref r2), (.ref b29)])) rfl (by rw [hml]; rfl) (Steps.refl _) (argsL := [(.ref r2), (.int (p1 ^^^ (-1 : Int32))), (.long (q2 ^^^ (-1 : Int64))), .null, (.int (((p4 &&& (2147483647 : Int32)) ^^^ (-1 : Int32)) &&& (2147483647 : Int32))), (.int (((p5 &&& (2147483647 : Int32)) ^^^ (-1 : Int32)) &&& (2147483647 : Int32))), (.int fc)]) (rest := []) (lenOf pd_2 rfl) rfl (by show 2 * 0 + _ ≤ _; exact Nat.le_of_eq rfl) (hb hby at_121) (fun _ _ => ⟨rfl, e31, (by decide : 1 + 0 ≤ _), (by decide : 7 + 0 ≤ _)⟩)
      dsimp only [Pt.U, Pt.locs, Pt.cells, Pt.slots] at X32 l32 y32 z32 st32 hQ32
      subst l32 y32 z32
      obtain ⟨rfl, N32q, K32, P32_0, P32_1, P32_2, P32_3, P32_4, P32_5, P32_6, P32_7⟩ := hQ32
      have N32 := Fr.app N31 N32q
      have f33_Z := Nat.le_trans f30_Z K32.1
      refine go (fun t kt => st32.trans kt) ?_
      show Go p e below _ (T32.setTop (mkF m 124 #[.val (.int p0), .val (.int p1), .val (.long q2), .second, .val (.int p3), .val (.int p4), .val (.int p5), .val (.int (1 : Int32)), .val (.ref r1), .val (.ref r2), .val (.int (own_max (1 : Int32) (p3 &&& (2147483647 : Int32)))), .val (.int fc), .val (.int (p4 &&& (2147483647 : Int32))), .val (.int (p5 &&& (2147483647 : Int32))), .val (.ref b29)] []))
      refine go (fun t kt' => by refine XS.aload X32.here hx rfl (hb hby at_124) rfl rfl ?_; exact kt') ?_
      show Go p e below _ (T32.setTop (mkF m 126 #[.val (.int p0), .val (.int p1), .val (.long q2), .second, .val (.int p3), .val (.int p4), .val (.int p5), .val (.int (1 : Int32)), .val (.ref r1), .val (.ref r2), .val (.int (own_max (1 : Int32) (p3 &&& (2147483647 : Int32)))), .val (.int fc), .val (.int (p4 &&& (2147483647 : Int32))), .val (.int (p5 &&& (2147483647 : Int32))), .val (.ref b29)] [(.ref b29)]))
      refine go (fun t kt' => by refine XS.aload X32.here hx rfl (hb hby at_126) rfl rfl ?_; exact kt') ?_
      show Go p e below _ (T32.setTop (mkF m 128 #[.val (.int p0), .val (.int p1), .val (.long q2), .second, .val (.int p3), .val (.int p4), .val (.int p5), .val (.int (1 : Int32)), .val (.ref r1), .val (.ref r2), .val (.int (own_max (1 : Int32) (p3 &&& (2147483647 : Int32)))), .val (.int fc), .val (.int (p4 &&& (2147483647 : Int32))), .val (.int (p5 &&& (2147483647 : Int32))), .val (.ref b29)] [(.ref r1), (.ref b29)]))
      refine go (fun t kt' => by refine XS.iloadN X32.here hx rfl (hb hby at_128) rfl ?_; exact kt') ?_
      show Go p e below _ (T32.setTop (mkF m 129 #[.val (.int p0), .val (.int p1), .val (.long q2), .second, .val (.int p3), .val (.int p4), .val (.int p5), .val (.int (1 : Int32)), .val (.ref r1), .val (.ref r2), .val (.int (own_max (1 : Int32) (p3 &&& (2147483647 : Int32)))), .val (.int fc), .val (.int (p4 &&& (2147483647 : Int32))), .val (.int (p5 &&& (2147483647 : Int32))), .val (.ref b29)] [(.int p1), (.ref r1), (.ref b29)]))
      refine go (fun t kt' => by refine XS.lloadN X32.here hx rfl (hb hby at_129) rfl ?_; exact kt') ?_
      show Go p e below _ (T32.setTop (mkF m 130 #[.val (.int p0), .val (.int p1), .val (.long q2), .second, .val (.int p3), .val (.int p4), .val (.int p5), .val (.int (1 : Int32)), .val (.ref r1), .val (.ref r2), .val (.int (own_max (1 : Int32) (p3 &&& (2147483647 : Int32)))), .val (.int fc), .val (.int (p4 &&& (2147483647 : Int32))), .val (.int (p5 &&& (2147483647 : Int32))), .val (.ref b29)] [(.long q2), (.int p1), (.ref r1), (.ref b29)]))
      refine go (fun t kt' => by refine XS.aconstNull X32.here hx rfl (hb hby at_130) ?_; exact kt') ?_
      show Go p e below _ (T32.setTop (mkF m 131 #[.val (.int p0), .val (.int p1), .val (.long q2), .second, .val (.int p3), .val (.int p4), .val (.int p5), .val (.int (1 : Int32)), .val (.ref r1), .val (.ref r2), .val (.int (own_max (1 : Int32) (p3 &&& (2147483647 : Int32)))), .val (.int fc), .val (.int (p4 &&& (2147483647 : Int32))), .val (.int (p5 &&& (2147483647 : Int32))), .val (.ref b29)] [.null, (.long q2), (.int p1), (.ref r1), (.ref b29)]))
      refine go (fun t kt' => by refine XS.iload X32.here hx rfl (hb hby at_131) rfl ?_; exact kt') ?_
      show Go p e below _ (T32.setTop (mkF m 133 #[.val (.int p0), .val (.int p1), .val (.long q2), .second, .val (.int p3), .val (.int p4), .val (.int p5), .val (.int (1 : Int32)), .val (.ref r1), .val (.ref r2), .val (.int (own_max (1 : Int32) (p3 &&& (2147483647 : Int32)))), .val (.int fc), .val (.int (p4 &&& (2147483647 : Int32))), .val (.int (p5 &&& (2147483647 : Int32))), .val (.ref b29)] [(.int (p4 &&& (2147483647 : Int32))), .null, (.long q2), (.int p1), (.ref r1), (.ref b29)]))
      refine go (fun t kt' => by refine XS.iload X32.here hx rfl (hb hby at_133) rfl ?_; exact kt') ?_
      show Go p e below _ (T32.setTop (mkF m 135 #[.val (.int p0), .val (.int p1), .val (.long q2), .second, .val (.int p3), .val (.int p4), .val (.int p5), .val (.int (1 : Int32)), .val (.ref r1), .val (.ref r2), .val (.int (own_max (1 : Int32) (p3 &&& (2147483647 : Int32)))), .val (.int fc), .val (.int (p4 &&& (2147483647 : Int32))), .val (.int (p5 &&& (2147483647 : Int32))), .val (.ref b29)] [(.int (p5 &&& (2147483647 : Int32))), (.int (p4 &&& (2147483647 : Int32))), .null, (.long q2), (.int p1), (.ref r1), (.ref b29)]))
      refine go (fun t kt' => by refine XS.iload X32.here hx rfl (hb hby at_135) rfl ?_; exact kt') ?_
      show Go p e below _ (T32.setTop (mkF m 137 #[.val (.int p0), .val (.int p1), .val (.long q2), .second, .val (.int p3), .val (.int p4), .val (.int p5), .val (.int (1 : Int32)), .val (.ref r1), .val (.ref r2), .val (.int (own_max (1 : Int32) (p3 &&& (2147483647 : Int32)))), .val (.int fc), .val (.int (p4 &&& (2147483647 : Int32))), .val (.int (p5 &&& (2147483647 : Int32))), .val (.ref b29)] [(.int (own_max (1 : Int32) (p3 &&& (2147483647 : Int32)))), (.int (p5 &&& (2147483647 : Int32))), (.int (p4 &&& (2147483647 : Int32))), .null, (.long q2), (.int p1), (.ref r1), (.ref b29)]))
      obtain ⟨cq34, kq34, q34a, q34b, q34c⟩ := isOf hZ rfl P32_0
      obtain ⟨_, _, ⟨T34, L34, k34, n34⟩, -, X34, ⟨Lc34, hQ34, l34, y34, z34⟩, st34⟩ := X32.virtualBack hx (y := (⟨"com/example/coreloom/coreloom/Transfer", "set", "(Lcom/example/coreloom/coreloom/SystemCall;IJLcom/example/coreloom/coreloom/StorageFile;III)V"⟩ : MethodName)) (z := (⟨"com/example/coreloom/coreloom/Transfer", "set", "(Lcom/example/coreloom/coreloom/SystemCall;IJLcom/example/coreloom/coreloom/StorageFile;III)V"⟩ : MethodName)) hown (mvT hZ (hw _ (List.mem_of_getElem? (i := 20) rfl))) (mvT hZ (hw _ (List.mem_of_getElem? (i := 21) rfl))) (notFace_of_selects (args := #[]) (mvT hZ (hw _ (List.mem_of_getElem? (i := 23) rfl)))) (mvT hZ (hw _ (List.mem_of_getElem? (i := 23) rfl))) (mvT hZ (hw _ (List.mem_of_getElem? (i := 22) rfl))) (by decide) (backOf (W := 0) (rm4 l Z a0 hw [] b29 r1 p1 q2 (p4 &&& (2147483647 : Int32)) (p5 &&& (2147483647 : Int32)) (own_max (1 : Int32) (p3 &&& (2147483647 : Int32))) (.ref r2) (.int (p1 ^^^ (-1 : Int32))) (.long (q2 ^^^ (-1 : Int64))) .null (.int (((p4 &&& (2147483647 : Int32)) ^^^ (-1 : Int32)) &&& (2147483647 : Int32))) (.int (((p5 &&& (2147483647 : Int32)) ^^^ (-1 : Int32)) &&& (2147483647 : Int32))) (.int fc) T32.heap n0 f33_Z P32_0 n0_b29 P32_1 P32_2 P32_3 P32_4 P32_5 P32_6 P32_7) hZ (hw _ (List.mem_of_getElem? (i := 24) rfl)) (hw _ (List.mem_of_getElem? (i := 12) rfl)) (by decide) (by decide)) q34a q34c (g := (mkF m 137 #[.val (.int p0), .val (.int p1), .val (.long q2), .second, .val (.int p3), .val (.int p4), .val (.int p5), .val (.int (1 : Int32)), .val (.ref r1), .val (.ref r2), .val (.int (own_max (1 : Int32) (p3 &&& (2147483647 : Int32)))), .val (.int fc), .val (.int (p4 &&& (2147483647 : Int32))), .val (.int (p5 &&& (2147483647 : Int32))), .val (.ref b29)] [(.int (own_max (1 : Int32) (p3 &&& (2147483647 : Int32)))), (.int (p5 &&& (2147483647 : Int32))), (.int (p4 &&& (2147483647 : Int32))), .null, (.long q2), (.int p1), (.ref r1), (.ref b29)])) rfl (by rw [hml]; rfl) (Steps.refl _) (argsL := [(.ref r1), (.int p1), (.long q2), .null, (.int (p4 &&& (2147483647 : Int32))), (.int (p5 &&& (2147483647 : Int32))), (.int (own_max (1 : Int32) (p3 &&& (2147483647 : Int32))))]) (rest := []) (lenOf pd_2 rfl) rfl (by show 2 * 0 + _ ≤ _; exact Nat.le_of_eq rfl) (hb hby at_137) (fun _ _ => ⟨rfl, rfl, (by decide : 1 + 0 ≤ _), (by decide : 7 + 0 ≤ _)⟩)
      dsimp only [Pt.U, Pt.locs, Pt.cells, Pt.slots] at X34 l34 y34 z34 st34 hQ34
      subst l34 y34 z34
      obtain ⟨rfl, N34q, K34, P34_0, P34_1, P34_2, P34_3, P34_4, P34_5, P34_6, P34_7⟩ := hQ34
      have N34 := Fr.app N32 N34q
      have f35_Z := Nat.le_trans f33_Z K34.1
      refine go (fun t kt => st34.trans kt) ?_
      show Go p e below _ (T34.setTop (mkF m 140 #[.val (.int p0), .val (.int p1), .val (.long q2), .second, .val (.int p3), .val (.int p4), .val (.int p5), .val (.int (1 : Int32)), .val (.ref r1), .val (.ref r2), .val (.int (own_max (1 : Int32) (p3 &&& (2147483647 : Int32)))), .val (.int fc), .val (.int (p4 &&& (2147483647 : Int32))), .val (.int (p5 &&& (2147483647 : Int32))), .val (.ref b29)] []))
      refine go (fun t kt' => by refine XS.aload X34.here hx rfl (hb hby at_140) rfl rfl ?_; exact kt') ?_
      show Go p e below _ (T34.setTop (mkF m 142 #[.val (.int p0), .val (.int p1), .val (.long q2), .second, .val (.int p3), .val (.int p4), .val (.int p5), .val (.int (1 : Int32)), .val (.ref r1), .val (.ref r2), .val (.int (own_max (1 : Int32) (p3 &&& (2147483647 : Int32)))), .val (.int fc), .val (.int (p4 &&& (2147483647 : Int32))), .val (.int (p5 &&& (2147483647 : Int32))), .val (.ref b29)] [(.ref b29)]))
      obtain ⟨cq36, kq36, q36a, q36b, q36c⟩ := isOf hZ rfl P34_0
      obtain ⟨_, _, ⟨T36, L36, k36, n36⟩, -, X36, ⟨Lc36, hQ36, l36, y36, z36⟩, st36⟩ := X34.virtualBack hx (y := (⟨"com/example/coreloom/coreloom/Transfer", "call", "()Lcom/example/coreloom/coreloom/SystemCall;"⟩ : MethodName)) (z := (⟨"com/example/coreloom/coreloom/Transfer", "call", "()Lcom/example/coreloom/coreloom/SystemCall;"⟩ : MethodName)) hown (mvT hZ (hw _ (List.mem_of_getElem? (i := 39) rfl))) (mvT hZ (hw _ (List.mem_of_getElem? (i := 40) rfl))) (notFace_of_selects (args := #[]) (mvT hZ (hw _ (List.mem_of_getElem? (i := 42) rfl)))) (mvT hZ (hw _ (List.mem_of_getElem? (i := 42) rfl))) (mvT hZ (hw _ (List.mem_of_getElem? (i := 41) rfl))) (by decide) (backOf (W := 0) (rm5 l Z a0 hw [] b29 r1 T34.heap n0 f35_Z P34_0 P34_1) hZ (hw _ (List.mem_of_getElem? (i := 43) rfl)) (hw _ (List.mem_of_getElem? (i := 12) rfl)) (by decide) (by decide)) q36a q36c (g := (mkF m 142 #[.val (.int p0), .val (.int p1), .val (.long q2), .second, .val (.int p3), .val (.int p4), .val (.int p5), .val (.int (1 : Int32)), .val (.ref r1), .val (.ref r2), .val (.int (own_max (1 : Int32) (p3 &&& (2147483647 : Int32)))), .val (.int fc), .val (.int (p4 &&& (2147483647 : Int32))), .val (.int (p5 &&& (2147483647 : Int32))), .val (.ref b29)] [(.ref b29)])) rfl (by rw [hml]; rfl) (Steps.refl _) (argsL := []) (rest := []) (lenOf pd_3 rfl) rfl (by show 2 * 0 + _ ≤ _; exact Nat.le_of_eq rfl) (hb hby at_142) (fun _ _ => ⟨rfl, rfl, (by decide : 1 + 0 ≤ _), (by decide : 7 + 0 ≤ _)⟩)
      dsimp only [Pt.U, Pt.locs, Pt.cells, Pt.slots] at X36 l36 y36 z36 st36 hQ36
      subst l36 y36 z36
      obtain ⟨rfl, N36q, e36⟩ := hQ36
      have N36 := Fr.app N34 N36q
      refine go (fun t kt => st36.trans kt) ?_
      show Go p e below _ (T36.setTop (mkF m 145 #[.val (.int p0), .val (.int p1), .val (.long q2), .second, .val (.int p3), .val (.int p4), .val (.int p5), .val (.int (1 : Int32)), .val (.ref r1), .val (.ref r2), .val (.int (own_max (1 : Int32) (p3 &&& (2147483647 : Int32)))), .val (.int fc), .val (.int (p4 &&& (2147483647 : Int32))), .val (.int (p5 &&& (2147483647 : Int32))), .val (.ref b29)] [(.ref r1)]))
      refine go (fun t kt' => by refine XS.aload X36.here hx rfl (hb hby at_145) rfl rfl ?_; exact kt') ?_
      show Go p e below _ (T36.setTop (mkF m 147 #[.val (.int p0), .val (.int p1), .val (.long q2), .second, .val (.int p3), .val (.int p4), .val (.int p5), .val (.int (1 : Int32)), .val (.ref r1), .val (.ref r2), .val (.int (own_max (1 : Int32) (p3 &&& (2147483647 : Int32)))), .val (.int fc), .val (.int (p4 &&& (2147483647 : Int32))), .val (.int (p5 &&& (2147483647 : Int32))), .val (.ref b29)] [(.ref r1), (.ref r1)]))
      refine go (fun t kt' => by refine XS.acmpNo X36.here hx rfl (hb hby at_147) rfl (by simp [if_acmp.holds]) ?_; exact kt') ?_
      show Go p e below _ (T36.setTop (mkF m 150 #[.val (.int p0), .val (.int p1), .val (.long q2), .second, .val (.int p3), .val (.int p4), .val (.int p5), .val (.int (1 : Int32)), .val (.ref r1), .val (.ref r2), .val (.int (own_max (1 : Int32) (p3 &&& (2147483647 : Int32)))), .val (.int fc), .val (.int (p4 &&& (2147483647 : Int32))), .val (.int (p5 &&& (2147483647 : Int32))), .val (.ref b29)] []))
      refine go (fun t kt' => by refine XS.aload X36.here hx rfl (hb hby at_150) rfl rfl ?_; exact kt') ?_
      show Go p e below _ (T36.setTop (mkF m 152 #[.val (.int p0), .val (.int p1), .val (.long q2), .second, .val (.int p3), .val (.int p4), .val (.int p5), .val (.int (1 : Int32)), .val (.ref r1), .val (.ref r2), .val (.int (own_max (1 : Int32) (p3 &&& (2147483647 : Int32)))), .val (.int fc), .val (.int (p4 &&& (2147483647 : Int32))), .val (.int (p5 &&& (2147483647 : Int32))), .val (.ref b29)] [(.ref b29)]))
      obtain ⟨cq37, kq37, q37a, q37b, q37c⟩ := isOf hZ e36 P34_0
      obtain ⟨_, _, ⟨T37, L37, k37, n37⟩, -, X37, ⟨Lc37, hQ37, l37, y37, z37⟩, st37⟩ := X36.virtualBack hx (y := (⟨"com/example/coreloom/coreloom/Transfer", "descriptor", "()I"⟩ : MethodName)) (z := (⟨"com/example/coreloom/coreloom/Transfer", "descriptor", "()I"⟩ : MethodName)) hown (mvT hZ (hw _ (List.mem_of_getElem? (i := 44) rfl))) (mvT hZ (hw _ (List.mem_of_getElem? (i := 45) rfl))) (notFace_of_selects (args := #[]) (mvT hZ (hw _ (List.mem_of_getElem? (i := 47) rfl)))) (mvT hZ (hw _ (List.mem_of_getElem? (i := 47) rfl))) (mvT hZ (hw _ (List.mem_of_getElem? (i := 46) rfl))) (by decide) (backOf (W := 0) (rm6 l Z a0 hw [] b29 p1 T34.heap n0 f35_Z P34_0 P34_2) hZ (hw _ (List.mem_of_getElem? (i := 48) rfl)) (hw _ (List.mem_of_getElem? (i := 12) rfl)) (by decide) (by decide)) q37a q37c (g := (mkF m 152 #[.val (.int p0), .val (.int p1), .val (.long q2), .second, .val (.int p3), .val (.int p4), .val (.int p5), .val (.int (1 : Int32)), .val (.ref r1), .val (.ref r2), .val (.int (own_max (1 : Int32) (p3 &&& (2147483647 : Int32)))), .val (.int fc), .val (.int (p4 &&& (2147483647 : Int32))), .val (.int (p5 &&& (2147483647 : Int32))), .val (.ref b29)] [(.ref b29)])) rfl (by rw [hml]; rfl) (Steps.refl _) (argsL := []) (rest := []) (lenOf pd_4 rfl) rfl (by show 2 * 0 + _ ≤ _; exact Nat.le_of_eq rfl) (hb hby at_152) (fun _ _ => ⟨rfl, e36, (by decide : 1 + 0 ≤ _), (by decide : 7 + 0 ≤ _)⟩)
      dsimp only [Pt.U, Pt.locs, Pt.cells, Pt.slots] at X37 l37 y37 z37 st37 hQ37
      subst l37 y37 z37
      obtain ⟨rfl, N37q, e37⟩ := hQ37
      have N37 := Fr.app N36 N37q
      refine go (fun t kt => st37.trans kt) ?_
      show Go p e below _ (T37.setTop (mkF m 155 #[.val (.int p0), .val (.int p1), .val (.long q2), .second, .val (.int p3), .val (.int p4), .val (.int p5), .val (.int (1 : Int32)), .val (.ref r1), .val (.ref r2), .val (.int (own_max (1 : Int32) (p3 &&& (2147483647 : Int32)))), .val (.int fc), .val (.int (p4 &&& (2147483647 : Int32))), .val (.int (p5 &&& (2147483647 : Int32))), .val (.ref b29)] [(.int p1)]))
      refine go (fun t kt' => by refine XS.iloadN X37.here hx rfl (hb hby at_155) rfl ?_; exact kt') ?_
      show Go p e below _ (T37.setTop (mkF m 156 #[.val (.int p0), .val (.int p1), .val (.long q2), .second, .val (.int p3), .val (.int p4), .val (.int p5), .val (.int (1 : Int32)), .val (.ref r1), .val (.ref r2), .val (.int (own_max (1 : Int32) (p3 &&& (2147483647 : Int32)))), .val (.int fc), .val (.int (p4 &&& (2147483647 : Int32))), .val (.int (p5 &&& (2147483647 : Int32))), .val (.ref b29)] [(.int p1), (.int p1)]))
      have c156_38 : ¬ (¬ p1 = p1) := not_not_intro rfl
      refine go (fun t kt' => by refine XS.icmpNo X37.here hx rfl (hb hby at_156) rfl (teq (Decidable.not_not.mp c156_38)).2 ?_; exact kt') ?_
      show Go p e below _ (T37.setTop (mkF m 159 #[.val (.int p0), .val (.int p1), .val (.long q2), .second, .val (.int p3), .val (.int p4), .val (.int p5), .val (.int (1 : Int32)), .val (.ref r1), .val (.ref r2), .val (.int (own_max (1 : Int32) (p3 &&& (2147483647 : Int32)))), .val (.int fc), .val (.int (p4 &&& (2147483647 : Int32))), .val (.int (p5 &&& (2147483647 : Int32))), .val (.ref b29)] []))
      refine go (fun t kt' => by refine XS.aload X37.here hx rfl (hb hby at_159) rfl rfl ?_; exact kt') ?_
      show Go p e below _ (T37.setTop (mkF m 161 #[.val (.int p0), .val (.int p1), .val (.long q2), .second, .val (.int p3), .val (.int p4), .val (.int p5), .val (.int (1 : Int32)), .val (.ref r1), .val (.ref r2), .val (.int (own_max (1 : Int32) (p3 &&& (2147483647 : Int32)))), .val (.int fc), .val (.int (p4 &&& (2147483647 : Int32))), .val (.int (p5 &&& (2147483647 : Int32))), .val (.ref b29)] [(.ref b29)]))
      obtain ⟨cq39, kq39, q39a, q39b, q39c⟩ := isOf hZ e37 P34_0
      obtain ⟨_, _, ⟨T39, L39, k39, n39⟩, -, X39, ⟨Lc39, hQ39, l39, y39, z39⟩, st39⟩ := X37.virtualBack hx (y := (⟨"com/example/coreloom/coreloom/Transfer", "opening", "()J"⟩ : MethodName)) (z := (⟨"com/example/coreloom/coreloom/Transfer", "opening", "()J"⟩ : MethodName)) hown (mvT hZ (hw _ (List.mem_of_getElem? (i := 49) rfl))) (mvT hZ (hw _ (List.mem_of_getElem? (i := 50) rfl))) (notFace_of_selects (args := #[]) (mvT hZ (hw _ (List.mem_of_getElem? (i := 52) rfl)))) (mvT hZ (hw _ (List.mem_of_getElem? (i := 52) rfl))) (mvT hZ (hw _ (List.mem_of_getElem? (i := 51) rfl))) (by decide) (backOf (W := 0) (rm7 l Z a0 hw [] b29 q2 T34.heap n0 f35_Z P34_0 P34_3) hZ (hw _ (List.mem_of_getElem? (i := 53) rfl)) (hw _ (List.mem_of_getElem? (i := 12) rfl)) (by decide) (by decide)) q39a q39c (g := (mkF m 161 #[.val (.int p0), .val (.int p1), .val (.long q2), .second, .val (.int p3), .val (.int p4), .val (.int p5), .val (.int (1 : Int32)), .val (.ref r1), .val (.ref r2), .val (.int (own_max (1 : Int32) (p3 &&& (2147483647 : Int32)))), .val (.int fc), .val (.int (p4 &&& (2147483647 : Int32))), .val (.int (p5 &&& (2147483647 : Int32))), .val (.ref b29)] [(.ref b29)])) rfl (by rw [hml]; rfl) (Steps.refl _) (argsL := []) (rest := []) (lenOf pd_5 rfl) rfl (by show 2 * 0 + _ ≤ _; exact Nat.le_of_eq rfl) (hb hby at_161) (fun _ _ => ⟨rfl, e37, (by decide : 1 + 0 ≤ _), (by decide : 7 + 0 ≤ _)⟩)
      dsimp only [Pt.U, Pt.locs, Pt.cells, Pt.slots] at X39 l39 y39 z39 st39 hQ39
      subst l39 y39 z39
      obtain ⟨rfl, N39q, e39⟩ := hQ39
      have N39 := Fr.app N37 N39q
      refine go (fun t kt => st39.trans kt) ?_
      show Go p e below _ (T39.setTop (mkF m 164 #[.val (.int p0), .val (.int p1), .val (.long q2), .second, .val (.int p3), .val (.int p4), .val (.int p5), .val (.int (1 : Int32)), .val (.ref r1), .val (.ref r2), .val (.int (own_max (1 : Int32) (p3 &&& (2147483647 : Int32)))), .val (.int fc), .val (.int (p4 &&& (2147483647 : Int32))), .val (.int (p5 &&& (2147483647 : Int32))), .val (.ref b29)] [(.long q2)]))
      refine go (fun t kt' => by refine XS.lloadN X39.here hx rfl (hb hby at_164) rfl ?_; exact kt') ?_
      show Go p e below _ (T39.setTop (mkF m 165 #[.val (.int p0), .val (.int p1), .val (.long q2), .second, .val (.int p3), .val (.int p4), .val (.int p5), .val (.int (1 : Int32)), .val (.ref r1), .val (.ref r2), .val (.int (own_max (1 : Int32) (p3 &&& (2147483647 : Int32)))), .val (.int fc), .val (.int (p4 &&& (2147483647 : Int32))), .val (.int (p5 &&& (2147483647 : Int32))), .val (.ref b29)] [(.long q2), (.long q2)]))
      refine go (fun t kt' => by refine XS.lcmp X39.here hx rfl (hb hby at_165) rfl ?_; exact kt') ?_
      show Go p e below _ (T39.setTop (mkF m 166 #[.val (.int p0), .val (.int p1), .val (.long q2), .second, .val (.int p3), .val (.int p4), .val (.int p5), .val (.int (1 : Int32)), .val (.ref r1), .val (.ref r2), .val (.int (own_max (1 : Int32) (p3 &&& (2147483647 : Int32)))), .val (.int fc), .val (.int (p4 &&& (2147483647 : Int32))), .val (.int (p5 &&& (2147483647 : Int32))), .val (.ref b29)] [(.int (lcmpW q2 q2))]))
      have c166_40 : ¬ (¬ q2 = q2) := not_not_intro rfl
      refine go (fun t kt' => by refine XS.ifNo X39.here hx rfl (hb hby at_166) rfl ((if0 _ _).trans (teq ((lw_eq _ _).mpr (Decidable.not_not.mp c166_40))).2) ?_; exact kt') ?_
      show Go p e below _ (T39.setTop (mkF m 169 #[.val (.int p0), .val (.int p1), .val (.long q2), .second, .val (.int p3), .val (.int p4), .val (.int p5), .val (.int (1 : Int32)), .val (.ref r1), .val (.ref r2), .val (.int (own_max (1 : Int32) (p3 &&& (2147483647 : Int32)))), .val (.int fc), .val (.int (p4 &&& (2147483647 : Int32))), .val (.int (p5 &&& (2147483647 : Int32))), .val (.ref b29)] []))
      refine go (fun t kt' => by refine XS.aload X39.here hx rfl (hb hby at_169) rfl rfl ?_; exact kt') ?_
      show Go p e below _ (T39.setTop (mkF m 171 #[.val (.int p0), .val (.int p1), .val (.long q2), .second, .val (.int p3), .val (.int p4), .val (.int p5), .val (.int (1 : Int32)), .val (.ref r1), .val (.ref r2), .val (.int (own_max (1 : Int32) (p3 &&& (2147483647 : Int32)))), .val (.int fc), .val (.int (p4 &&& (2147483647 : Int32))), .val (.int (p5 &&& (2147483647 : Int32))), .val (.ref b29)] [(.ref b29)]))
      obtain ⟨cq41, kq41, q41a, q41b, q41c⟩ := isOf hZ e39 P34_0
      obtain ⟨_, _, ⟨T41, L41, k41, n41⟩, -, X41, ⟨Lc41, hQ41, l41, y41, z41⟩, st41⟩ := X39.virtualBack hx (y := (⟨"com/example/coreloom/coreloom/Transfer", "cells", "()I"⟩ : MethodName)) (z := (⟨"com/example/coreloom/coreloom/Transfer", "cells", "()I"⟩ : MethodName)) hown (mvT hZ (hw _ (List.mem_of_getElem? (i := 54) rfl))) (mvT hZ (hw _ (List.mem_of_getElem? (i := 55) rfl))) (notFace_of_selects (args := #[]) (mvT hZ (hw _ (List.mem_of_getElem? (i := 57) rfl)))) (mvT hZ (hw _ (List.mem_of_getElem? (i := 57) rfl))) (mvT hZ (hw _ (List.mem_of_getElem? (i := 56) rfl))) (by decide) (backOf (W := 0) (rm8 l Z a0 hw [] b29 (own_max (1 : Int32) (p3 &&& (2147483647 : Int32))) T34.heap n0 f35_Z P34_0 P34_7) hZ (hw _ (List.mem_of_getElem? (i := 58) rfl)) (hw _ (List.mem_of_getElem? (i := 12) rfl)) (by decide) (by decide)) q41a q41c (g := (mkF m 171 #[.val (.int p0), .val (.int p1), .val (.long q2), .second, .val (.int p3), .val (.int p4), .val (.int p5), .val (.int (1 : Int32)), .val (.ref r1), .val (.ref r2), .val (.int (own_max (1 : Int32) (p3 &&& (2147483647 : Int32)))), .val (.int fc), .val (.int (p4 &&& (2147483647 : Int32))), .val (.int (p5 &&& (2147483647 : Int32))), .val (.ref b29)] [(.ref b29)])) rfl (by rw [hml]; rfl) (Steps.refl _) (argsL := []) (rest := []) (lenOf pd_4 rfl) rfl (by show 2 * 0 + _ ≤ _; exact Nat.le_of_eq rfl) (hb hby at_171) (fun _ _ => ⟨rfl, e39, (by decide : 1 + 0 ≤ _), (by decide : 7 + 0 ≤ _)⟩)
      dsimp only [Pt.U, Pt.locs, Pt.cells, Pt.slots] at X41 l41 y41 z41 st41 hQ41
      subst l41 y41 z41
      obtain ⟨rfl, N41q, e41⟩ := hQ41
      have N41 := Fr.app N39 N41q
      refine go (fun t kt => st41.trans kt) ?_
      show Go p e below _ (T41.setTop (mkF m 174 #[.val (.int p0), .val (.int p1), .val (.long q2), .second, .val (.int p3), .val (.int p4), .val (.int p5), .val (.int (1 : Int32)), .val (.ref r1), .val (.ref r2), .val (.int (own_max (1 : Int32) (p3 &&& (2147483647 : Int32)))), .val (.int fc), .val (.int (p4 &&& (2147483647 : Int32))), .val (.int (p5 &&& (2147483647 : Int32))), .val (.ref b29)] [(.int (own_max (1 : Int32) (p3 &&& (2147483647 : Int32))))]))
      refine go (fun t kt' => by refine XS.iload X41.here hx rfl (hb hby at_174) rfl ?_; exact kt') ?_
      show Go p e below _ (T41.setTop (mkF m 176 #[.val (.int p0), .val (.int p1), .val (.long q2), .second, .val (.int p3), .val (.int p4), .val (.int p5), .val (.int (1 : Int32)), .val (.ref r1), .val (.ref r2), .val (.int (own_max (1 : Int32) (p3 &&& (2147483647 : Int32)))), .val (.int fc), .val (.int (p4 &&& (2147483647 : Int32))), .val (.int (p5 &&& (2147483647 : Int32))), .val (.ref b29)] [(.int (own_max (1 : Int32) (p3 &&& (2147483647 : Int32)))), (.int (own_max (1 : Int32) (p3 &&& (2147483647 : Int32))))]))
      have c176_42 : ¬ (¬ (own_max (1 : Int32) (p3 &&& (2147483647 : Int32))) = (own_max (1 : Int32) (p3 &&& (2147483647 : Int32)))) := not_not_intro rfl
      refine go (fun t kt' => by refine XS.icmpNo X41.here hx rfl (hb hby at_176) rfl (teq (Decidable.not_not.mp c176_42)).2 ?_; exact kt') ?_
      show Go p e below _ (T41.setTop (mkF m 179 #[.val (.int p0), .val (.int p1), .val (.long q2), .second, .val (.int p3), .val (.int p4), .val (.int p5), .val (.int (1 : Int32)), .val (.ref r1), .val (.ref r2), .val (.int (own_max (1 : Int32) (p3 &&& (2147483647 : Int32)))), .val (.int fc), .val (.int (p4 &&& (2147483647 : Int32))), .val (.int (p5 &&& (2147483647 : Int32))), .val (.ref b29)] []))
      refine go (fun t kt' => by refine XS.iconst X41.here hx rfl (hb hby at_179) ?_; exact kt') ?_
      show Go p e below _ (T41.setTop (mkF m 180 #[.val (.int p0), .val (.int p1), .val (.long q2), .second, .val (.int p3), .val (.int p4), .val (.int p5), .val (.int (1 : Int32)), .val (.ref r1), .val (.ref r2), .val (.int (own_max (1 : Int32) (p3 &&& (2147483647 : Int32)))), .val (.int fc), .val (.int (p4 &&& (2147483647 : Int32))), .val (.int (p5 &&& (2147483647 : Int32))), .val (.ref b29)] [(.int (1 : Int32))]))
      refine go (fun t kt' => by refine XS.goto X41.here hx rfl (pc0 := 180) (pc' := 184) rfl (hb hby at_180) (by decide) (by decide) ?_; exact kt') ?_
      show Go p e below _ (T41.setTop (mkF m 184 #[.val (.int p0), .val (.int p1), .val (.long q2), .second, .val (.int p3), .val (.int p4), .val (.int p5), .val (.int (1 : Int32)), .val (.ref r1), .val (.ref r2), .val (.int (own_max (1 : Int32) (p3 &&& (2147483647 : Int32)))), .val (.int fc), .val (.int (p4 &&& (2147483647 : Int32))), .val (.int (p5 &&& (2147483647 : Int32))), .val (.ref b29)] [(.int (1 : Int32))]))
      refine goOut X41 (fun h => by rw [Bd.returns] at h; cases h) hlk (fun fs hr => retN X41 hx (t := .boolean) Bd.returns (by simp) (hb hby at_184) hr) (by decide) (by decide) ?_
      rw [e41]
      exact ⟨rfl, N41⟩
    by_cases c59_43 : ¬ (own_max (1 : Int32) (p3 &&& (2147483647 : Int32))) = (1 : Int32)
    · skip
      refine go (fun t kt' => by refine XS.icmpYes X27.here hx rfl (pc0 := 59) (pc' := 66) rfl (hb hby at_59) rfl (feq c59_43).2 (by decide) (by decide) ?_; exact kt') ?_
      show Go p e below _ (T27.setTop (mkF m 66 #[.val (.int p0), .val (.int p1), .val (.long q2), .second, .val (.int p3), .val (.int p4), .val (.int p5), .val (.int (1 : Int32)), .val (.ref r1), .val (.ref r2), .val (.int (own_max (1 : Int32) (p3 &&& (2147483647 : Int32)))), .unset, .unset, .unset, .unset] []))
      refine go (fun t kt' => by refine XS.iconst X27.here hx rfl (hb hby at_66) ?_; exact kt') ?_
      show Go p e below _ (T27.setTop (mkF m 67 #[.val (.int p0), .val (.int p1), .val (.long q2), .second, .val (.int p3), .val (.int p4), .val (.int p5), .val (.int (1 : Int32)), .val (.ref r1), .val (.ref r2), .val (.int (own_max (1 : Int32) (p3 &&& (2147483647 : Int32)))), .unset, .unset, .unset, .unset] [(.int (1 : Int32))]))
      exact J67_28 _
    · skip
      refine go (fun t kt' => by refine XS.icmpNo X27.here hx rfl (hb hby at_59) rfl (teq (Decidable.not_not.mp c59_43)).2 ?_; exact kt') ?_
      show Go p e below _ (T27.setTop (mkF m 62 #[.val (.int p0), .val (.int p1), .val (.long q2), .second, .val (.int p3), .val (.int p4), .val (.int p5), .val (.int (1 : Int32)), .val (.ref r1), .val (.ref r2), .val (.int (own_max (1 : Int32) (p3 &&& (2147483647 : Int32)))), .unset, .unset, .unset, .unset] []))
      refine go (fun t kt' => by refine XS.iconst X27.here hx rfl (hb hby at_62) ?_; exact kt') ?_
      show Go p e below _ (T27.setTop (mkF m 63 #[.val (.int p0), .val (.int p1), .val (.long q2), .second, .val (.int p3), .val (.int p4), .val (.int p5), .val (.int (1 : Int32)), .val (.ref r1), .val (.ref r2), .val (.int (own_max (1 : Int32) (p3 &&& (2147483647 : Int32)))), .unset, .unset, .unset, .unset] [(.int (2 : Int32))]))
      refine go (fun t kt' => by refine XS.goto X27.here hx rfl (pc0 := 63) (pc' := 67) rfl (hb hby at_63) (by decide) (by decide) ?_; exact kt') ?_
      show Go p e below _ (T27.setTop (mkF m 67 #[.val (.int p0), .val (.int p1), .val (.long q2), .second, .val (.int p3), .val (.int p4), .val (.int p5), .val (.int (1 : Int32)), .val (.ref r1), .val (.ref r2), .val (.int (own_max (1 : Int32) (p3 &&& (2147483647 : Int32)))), .unset, .unset, .unset, .unset] [(.int (2 : Int32))]))
      exact J67_28 _
set_option maxRecDepth 65536 in
set_option maxHeartbeats 40000000 in
theorem comes_1 {Post : Tables → Env → Array Value → State → Outcome → State → Prop} (hpost : ∀ tb e args s v u, (limb_1_1.after args s (.returned v) u = true ∧ limb_1_2.after args s (.returned v) u = true ∧ True) → FrameEnd s (.returned v) u (Jvm.fieldLocs frame_1_writes args s ++ Jvm.arrayLocs frame_1_arrays args s ++ Jvm.staticLocs frame_1_statics s) 16 128 → Post tb e args s (.returned v) u) :
    ArmFor flags0 classFile x code maxLocals ret World_1 tables_1 room_1 Calls_1 rest_1 Pre_1 Post := by
  intro l hfl _ _ p e ha hc hk s m args below hf hA hF happ hP
  obtain ⟨hcalls, hrest, hpre⟩ := hP
  obtain ⟨-, -, -, hnamed, -, -, -, hat⟩ := (Spec.applies_iff hf).mp happ
  obtain ⟨hg, hn⟩ := and_e (Cond.before_iff.mp (show (Jvm.Cond.and given_1 narrow_1).before args s = true from hpre))
  obtain ⟨g1, g2⟩ := and_e hg
  obtain ⟨g3, g4⟩ := and_e g2
  obtain ⟨g5, g6⟩ := and_e g4
  obtain ⟨g7, g8⟩ := and_e g6
  obtain ⟨g9, g10⟩ := and_e g8
  obtain ⟨g11, g12⟩ := and_e g10
  obtain ⟨w0, w1, w2, w3, w4, w5, rfl⟩ : ∃ w0 w1 w2 w3 w4 w5 : Value, args = #[w0, w1, w2, w3, w4, w5] := by
    have hs : args.size = 6 := by simpa [Cond.value, given_1] using g1
    obtain ⟨L⟩ := args
    match L, hs with
    | [w0, w1, w2, w3, w4, w5], _ => exact ⟨w0, w1, w2, w3, w4, w5, rfl⟩
  have hw := fun d (hd : d ∈ tables_1) => atoms_spec (ws := Jvm.Cond.code x code maxLocals ret :: tables_1) hat d (List.mem_cons_of_mem _ hd)
  have hfit : Fit s := fun {y c} hc i hi => by
    obtain ⟨ha, rfl⟩ := Array.getElem?_eq_some_iff.mp hc
    have q := List.all_eq_true.mp ((Array.all_eq_true_iff_forall_mem.mp hF) _ (Array.getElem_mem ha)) i (List.mem_range.mpr hi)
    simpa [Array.getElem?_eq_getElem hi] using q
  obtain ⟨i0, ei0⟩ := is_v g3
  obtain rfl : w0 = (.int i0) := Option.some.inj ei0
  obtain ⟨i1, ei1⟩ := is_v g5
  obtain rfl : w1 = (.int i1) := Option.some.inj ei1
  obtain ⟨i2, ei2⟩ := isL_v g7
  obtain rfl : w2 = (.long i2) := Option.some.inj ei2
  obtain ⟨i3, ei3⟩ := is_v g9
  obtain rfl : w3 = (.int i3) := Option.some.inj ei3
  obtain ⟨i4, ei4⟩ := is_v g11
  obtain rfl : w4 = (.int i4) := Option.some.inj ei4
  obtain ⟨i5, ei5⟩ := is_v g12
  obtain rfl : w5 = (.int i5) := Option.some.inj ei5
  obtain ⟨hnw, hnr⟩ := and_e hn
  obtain ⟨r2, er2⟩ := exa_v hnw
  obtain ⟨r1, er1⟩ := exa_v hnr
  have S1 := Sta.start er1 (Or.inr ⟨(hw _ (List.mem_of_getElem? (i := 1) rfl)), (hw _ (List.mem_of_getElem? (i := 4) rfl))⟩)
  have S2 := Sta.start er2 (Or.inr ⟨(hw _ (List.mem_of_getElem? (i := 1) rfl)), (hw _ (List.mem_of_getElem? (i := 2) rfl))⟩)
  obtain ⟨n, o, h1, h2, h3, _, L, rfl, ⟨rfl, N⟩, hq⟩ := rm0 l s _ hw tables_1 i0 i1 i2 i3 i4 i5 r1 r2 s.heap s.heap.size (Nat.le_refl _) S1 S2 p e ha hc hk s m _ below hf ((Spec.applies_iff_loose hf).mp happ).1 ⟨rfl, State.Warmed39.refl s, rfl⟩ trivial
  refine ⟨n, _, h1, h2, h3, hpost _ _ _ _ _ _ ⟨Cond.after_iff.mpr rfl, Cond.after_iff.mpr (eq_i res_at (Term.int_eval (1)) rfl), trivial⟩ ⟨hq.1, hq.2.1, (hq.2.2.sift fun y hy => Or.inr (N y hy)).mono (by decide) (by decide)⟩⟩
theorem main_1_1 : Claimed_1_1 := comes_1 fun _ _ _ _ _ _ h hF => ⟨h.1, hF⟩
theorem main_1_2 : Claimed_1_2 := comes_1 fun _ _ _ _ _ _ h hF => ⟨h.2.1, hF⟩
end Jvm.Pilot.@@N@@
namespace Jvm.Pilot.@@N@@
open Jvm Jvm.ClassFile Sem Op Lib Jvm.Free Jvm.Stand Jvm.Pilot.@@N@@.Jvm.D
/-! MADE BY PROGRAM (witnessworld.py) out of the Statement's table words and the real class files: 14 classes; the members and pool entries that the words name. The judged class is class 1, her method 1. -/
namespace start1
open Jvm.ClassFile
def u (s : String) : CpInfo := .utf8 (stringToUtf16 s)
/-- a pool by its gaps: so many unusable entries, then the entry; so many at the end -/
def gap : Nat → List CpInfo → List CpInfo
  | 0, r => r
  | n + 1, r => .unusable :: gap n r
def poolList (es : List (Nat × CpInfo)) (last : Nat) : List CpInfo := es.foldr (fun e r => gap e.1 (e.2 :: r)) (gap last [])
def pool (es : List (Nat × CpInfo)) (last : Nat) : Array CpInfo := ⟨poolList es last⟩
def fileOf (pool : Array CpInfo) (this : Nat) (attrs : Array Attribute := #[]) (ms : Array MethodInfo := #[]) (fl : Nat := 33) (sup : Nat := 0) (ifs : Array Nat := #[]) (fds : Array FieldInfo := #[]) : ClassFile where
  minorVersion := 0
  majorVersion := 65
  constantPool := pool
  accessFlags := fl
  thisClass := this
  superClass := sup
  interfaces := ifs
  fields := fds
  methods := ms
  attributes := attrs
def plain (name : String) (sup : Option ClassId) : Class where
  name := name
  kind := .ordinary
  loader := none
  accessFlags := 33
  super := sup
  interfaces := #[]
  cf := none
  fields := #[]
  methods := #[]
  instanceTypes := #[]
  staticTypes := #[]
  resolved := #[]
  callSites := []
  init := .initialized
  statics := none
  mirror := none

def pool0 : Array CpInfo := pool [(5, u "<init>"), (0, u "()V"), (1, .class_ 10), (1, u "java/lang/Object")] 113

def k0c0 : Code := { maxStack := 0, maxLocals := 1, code := object_method_1_code, exceptionTable := #[], attributes := #[] }
def k0m0 : Method := { name := "<init>", desc := "()V", sig := { parameters := [], returnType := none }, accessFlags := 1, code := some k0c0 }
/-- java/lang/Object -/
def k0 : Class := { plain "java/lang/Object" none with
  accessFlags := 33
  interfaces := #[]
  cf := some (fileOf pool0 8 #[] #[{ accessFlags := 1, nameIndex := 5, descriptorIndex := 6, attributes := #[] }] 33 0 #[] #[])
  fields := #[]
  methods := #[k0m0]
  instanceTypes := #[]
  staticTypes := #[]
  resolved := Array.replicate 124 none
  statics := none }

def pool1 : Array CpInfo := pool [(2, .class_ 4), (0, .nameAndType 5 6), (0, u "java/lang/Object"), (0, u "<init>"), (0, u "()V"), (0, .fieldref 8 9), (0, .class_ 10), (0, .nameAndType 11 12), (0, u "com/example/coreloom/coreloom/SystemCall"), (0, u "READ"), (0, u "Lcom/example/coreloom/coreloom/SystemCall;"), (0, .fieldref 8 14), (0, .nameAndType 15 12), (0, u "WRITE"), (0, .integer 2147483647), (0, .methodref 18 19), (0, .class_ 20), (0, .nameAndType 21 22), (0, u "java/lang/Math"), (0, u "max"), (0, u "(II)I"), (0, .class_ 24), (0, u "com/example/coreloom/coreloom/Transfer"), (0, .methodref 23 3), (0, .long 18446744073709551615), (1, .methodref 23 29), (0, .nameAndType 30 31), (0, u "set"), (0, u "(Lcom/example/coreloom/coreloom/SystemCall;IJLcom/example/coreloom/coreloom/StorageFile;III)V"), (0, .methodref 23 33), (0, .nameAndType 34 35), (0, u "call"), (0, u "()Lcom/example/coreloom/coreloom/SystemCall;"), (0, .methodref 23 37), (0, .nameAndType 38 39), (0, u "descriptor"), (0, u "()I"), (0, .methodref 23 41), (0, .nameAndType 42 43), (0, u "opening"), (0, u "()J"), (0, .methodref 23 45), (0, .nameAndType 46 39), (0, u "cells"), (0, .class_ 48), (0, u "com/example/coreloom/coreloom/TransferSetPinLaw"), (2, u "law"), (0, u "(IIJIII)Z")] 3

def k1m0 : Method := { name := "<init>", desc := "()V", sig := { parameters := [], returnType := none }, accessFlags := 2, code := none }
def k1c1 : Code := { maxStack := 9, maxLocals := 15, code := code, exceptionTable := #[], attributes := #[] }
def k1m1 : Method := { name := "law", desc := "(IIJIII)Z", sig := { parameters := [.int, .int, .long, .int, .int, .int], returnType := some .boolean }, accessFlags := 9, code := some k1c1 }
/-- com/example/coreloom/coreloom/TransferSetPinLaw -/
def k1 : Class := { plain "com/example/coreloom/coreloom/TransferSetPinLaw" (some 0) with
  accessFlags := 49
  interfaces := #[]
  cf := some (fileOf pool1 47 #[] #[{ accessFlags := 2, nameIndex := 5, descriptorIndex := 6, attributes := #[] }, { accessFlags := 9, nameIndex := 51, descriptorIndex := 52, attributes := #[] }] 49 2 #[] #[])
  fields := #[]
  methods := #[k1m0, k1m1]
  instanceTypes := #[]
  staticTypes := #[]
  resolved := Array.replicate 56 none
  statics := none }

def pool2 : Array CpInfo := pool [(1, .class_ 2), (0, u "java/lang/constant/Constable"), (0, .class_ 4), (0, u "java/lang/Object")] 6

/-- java/lang/constant/Constable -/
def k2 : Class := { plain "java/lang/constant/Constable" (some 0) with
  accessFlags := 1537
  interfaces := #[]
  cf := some (fileOf pool2 1 #[] #[] 1537 3 #[] #[])
  fields := #[]
  methods := #[]
  instanceTypes := #[]
  staticTypes := #[]
  resolved := Array.replicate 11 none
  statics := none }

def pool3 : Array CpInfo := pool [(1, .class_ 2), (0, u "java/lang/Comparable"), (0, .class_ 4), (0, u "java/lang/Object")] 7

/-- java/lang/Comparable -/
def k3 : Class := { plain "java/lang/Comparable" (some 0) with
  accessFlags := 1537
  interfaces := #[]
  cf := some (fileOf pool3 1 #[] #[] 1537 3 #[] #[])
  fields := #[]
  methods := #[]
  instanceTypes := #[]
  staticTypes := #[]
  resolved := Array.replicate 12 none
  statics := none }

def pool4 : Array CpInfo := pool [(1, .class_ 2), (0, u "java/io/Serializable"), (0, .class_ 4), (0, u "java/lang/Object")] 2

/-- java/io/Serializable -/
def k4 : Class := { plain "java/io/Serializable" (some 0) with
  accessFlags := 1537
  interfaces := #[]
  cf := some (fileOf pool4 1 #[] #[] 1537 3 #[] #[])
  fields := #[]
  methods := #[]
  instanceTypes := #[]
  staticTypes := #[]
  resolved := Array.replicate 7 none
  statics := none }

def pool5 : Array CpInfo := pool [(2, .class_ 4), (1, u "java/lang/Enum"), (0, u "name"), (0, u "Ljava/lang/String;"), (2, u "ordinal"), (0, u "I"), (1, .class_ 14), (1, u "java/lang/Object"), (4, u "hash"), (86, .class_ 108), (1, u "java/lang/Enum$EnumDesc"), (2, .class_ 112), (0, u "java/lang/constant/Constable"), (0, .class_ 114), (0, u "java/lang/Comparable"), (0, .class_ 116), (0, u "java/io/Serializable")] 87

/-- java/lang/Enum -/
def k5 : Class := { plain "java/lang/Enum" (some 0) with
  accessFlags := 1057
  interfaces := #[2, 3, 4]
  cf := some (fileOf pool5 2 #[.nestMembers #[106]] #[] 1057 12 #[111, 113, 115] #[{ accessFlags := 18, nameIndex := 5, descriptorIndex := 6, attributes := #[] }, { accessFlags := 18, nameIndex := 9, descriptorIndex := 10, attributes := #[] }, { accessFlags := 2, nameIndex := 19, descriptorIndex := 10, attributes := #[] }])
  fields := #[{ name := "name", type := (.object "java/lang/String"), accessFlags := 18, slot := 0, constantValue := 0 }, { name := "ordinal", type := .int, accessFlags := 18, slot := 1, constantValue := 0 }, { name := "hash", type := .int, accessFlags := 2, slot := 2, constantValue := 0 }]
  methods := #[]
  instanceTypes := #[(.object "java/lang/String"), .int, .int]
  staticTypes := #[]
  resolved := Array.replicate 204 none
  statics := none }

def pool6 : Array CpInfo := pool [(1, .class_ 2), (0, u "com/example/coreloom/coreloom/SystemCall"), (2, u "STARTTHREAD"), (0, u "Lcom/example/coreloom/coreloom/SystemCall;"), (2, u "YIELD"), (2, u "STOP"), (2, u "OPEN"), (2, u "READ"), (2, u "WRITE"), (2, u "CLOSE"), (2, u "SYSCONF"), (2, u "$VALUES"), (0, u "[Lcom/example/coreloom/coreloom/SystemCall;"), (6, .class_ 40), (1, u "java/lang/Enum"), (8, u "number"), (0, u "I"), (2, u "BY_NAME"), (0, u "Ljava/util/Map;"), (14, u "BY_NUMBER"), (36, u "RESULT"), (2, u "FIRST_ARGUMENT")] 18

/-- com/example/coreloom/coreloom/SystemCall -/
def k6 : Class := { plain "com/example/coreloom/coreloom/SystemCall" (some 5) with
  accessFlags := 16432
  interfaces := #[]
  cf := some (fileOf pool6 1 #[] #[] 16432 38 #[] #[{ accessFlags := 16409, nameIndex := 5, descriptorIndex := 6, attributes := #[] }, { accessFlags := 16409, nameIndex := 9, descriptorIndex := 6, attributes := #[] }, { accessFlags := 16409, nameIndex := 12, descriptorIndex := 6, attributes := #[] }, { accessFlags := 16409, nameIndex := 15, descriptorIndex := 6, attributes := #[] }, { accessFlags := 16409, nameIndex := 18, descriptorIndex := 6, attributes := #[] }, { accessFlags := 16409, nameIndex := 21, descriptorIndex := 6, attributes := #[] }, { accessFlags := 16409, nameIndex := 24, descriptorIndex := 6, attributes := #[] }, { accessFlags := 16409, nameIndex := 27, descriptorIndex := 6, attributes := #[] }, { accessFlags := 24, nameIndex := 106, descriptorIndex := 50, attributes := #[] }, { accessFlags := 24, nameIndex := 109, descriptorIndex := 50, attributes := #[] }, { accessFlags := 26, nameIndex := 53, descriptorIndex := 54, attributes := #[] }, { accessFlags := 26, nameIndex := 69, descriptorIndex := 54, attributes := #[] }, { accessFlags := 18, nameIndex := 49, descriptorIndex := 50, attributes := #[] }, { accessFlags := 4122, nameIndex := 30, descriptorIndex := 31, attributes := #[] }])
  fields := #[{ name := "STARTTHREAD", type := (.object "com/example/coreloom/coreloom/SystemCall"), accessFlags := 16409, slot := 0, constantValue := 0 }, { name := "YIELD", type := (.object "com/example/coreloom/coreloom/SystemCall"), accessFlags := 16409, slot := 1, constantValue := 0 }, { name := "STOP", type := (.object "com/example/coreloom/coreloom/SystemCall"), accessFlags := 16409, slot := 2, constantValue := 0 }, { name := "OPEN", type := (.object "com/example/coreloom/coreloom/SystemCall"), accessFlags := 16409, slot := 3, constantValue := 0 }, { name := "READ", type := (.object "com/example/coreloom/coreloom/SystemCall"), accessFlags := 16409, slot := 4, constantValue := 0 }, { name := "WRITE", type := (.object "com/example/coreloom/coreloom/SystemCall"), accessFlags := 16409, slot := 5, constantValue := 0 }, { name := "CLOSE", type := (.object "com/example/coreloom/coreloom/SystemCall"), accessFlags := 16409, slot := 6, constantValue := 0 }, { name := "SYSCONF", type := (.object "com/example/coreloom/coreloom/SystemCall"), accessFlags := 16409, slot := 7, constantValue := 0 }, { name := "RESULT", type := .int, accessFlags := 24, slot := 8, constantValue := 0 }, { name := "FIRST_ARGUMENT", type := .int, accessFlags := 24, slot := 9, constantValue := 0 }, { name := "BY_NAME", type := (.object "java/util/Map"), accessFlags := 26, slot := 10, constantValue := 0 }, { name := "BY_NUMBER", type := (.object "java/util/Map"), accessFlags := 26, slot := 11, constantValue := 0 }, { name := "number", type := .int, accessFlags := 18, slot := 3, constantValue := 0 }, { name := "$VALUES", type := (.array (.object "com/example/coreloom/coreloom/SystemCall")), accessFlags := 4122, slot := 12, constantValue := 0 }]
  methods := #[]
  instanceTypes := #[(.object "java/lang/String"), .int, .int, .int]
  staticTypes := #[(.object "com/example/coreloom/coreloom/SystemCall"), (.object "com/example/coreloom/coreloom/SystemCall"), (.object "com/example/coreloom/coreloom/SystemCall"), (.object "com/example/coreloom/coreloom/SystemCall"), (.object "com/example/coreloom/coreloom/SystemCall"), (.object "com/example/coreloom/coreloom/SystemCall"), (.object "com/example/coreloom/coreloom/SystemCall"), (.object "com/example/coreloom/coreloom/SystemCall"), .int, .int, (.object "java/util/Map"), (.object "java/util/Map"), (.array (.object "com/example/coreloom/coreloom/SystemCall"))]
  resolved := Array.replicate 128 none
  statics := some 0 }

def pool7 : Array CpInfo := pool [(1, .class_ 2), (0, u "java/lang/Math"), (1, .class_ 6), (1, u "java/lang/Object"), (0, u "<init>"), (0, u "()V"), (89, .class_ 100), (1, u "java/lang/Math$RandomNumberGeneratorHolder"), (71, u "negativeZeroFloatBits"), (0, u "J"), (2, u "negativeZeroDoubleBits"), (21, u "max"), (46, u "$assertionsDisabled"), (0, u "Z"), (88, u "(II)I"), (2, u "twoToTheDoubleScaleDown"), (0, u "D"), (4, u "twoToTheDoubleScaleUp"), (9, u "E"), (3, u "PI"), (2, u "TAU"), (2, u "DEGREES_TO_RADIANS"), (0, u "RADIANS_TO_DEGREES")] 94

def k7m0 : Method := { name := "<init>", desc := "()V", sig := { parameters := [], returnType := none }, accessFlags := 2, code := none }
def k7c1 : Code := { maxStack := 2, maxLocals := 2, code := jdk_29_method_65_code, exceptionTable := #[], attributes := #[] }
def k7m1 : Method := { name := "max", desc := "(II)I", sig := { parameters := [.int, .int], returnType := some .int }, accessFlags := 9, code := some k7c1 }
/-- java/lang/Math -/
def k7 : Class := { plain "java/lang/Math" (some 0) with
  accessFlags := 49
  interfaces := #[]
  cf := some (fileOf pool7 1 #[.nestMembers #[98]] #[{ accessFlags := 2, nameIndex := 7, descriptorIndex := 8, attributes := #[] }, { accessFlags := 9, nameIndex := 198, descriptorIndex := 335, attributes := #[] }] 49 4 #[] #[{ accessFlags := 25, nameIndex := 354, descriptorIndex := 339, attributes := #[] }, { accessFlags := 25, nameIndex := 358, descriptorIndex := 339, attributes := #[] }, { accessFlags := 25, nameIndex := 361, descriptorIndex := 339, attributes := #[] }, { accessFlags := 26, nameIndex := 364, descriptorIndex := 339, attributes := #[] }, { accessFlags := 26, nameIndex := 365, descriptorIndex := 339, attributes := #[] }, { accessFlags := 26, nameIndex := 172, descriptorIndex := 173, attributes := #[] }, { accessFlags := 26, nameIndex := 176, descriptorIndex := 173, attributes := #[] }, { accessFlags := 8, nameIndex := 344, descriptorIndex := 339, attributes := #[] }, { accessFlags := 8, nameIndex := 338, descriptorIndex := 339, attributes := #[] }, { accessFlags := 4120, nameIndex := 245, descriptorIndex := 246, attributes := #[] }])
  fields := #[{ name := "E", type := .double, accessFlags := 25, slot := 0, constantValue := 0 }, { name := "PI", type := .double, accessFlags := 25, slot := 1, constantValue := 0 }, { name := "TAU", type := .double, accessFlags := 25, slot := 2, constantValue := 0 }, { name := "DEGREES_TO_RADIANS", type := .double, accessFlags := 26, slot := 3, constantValue := 0 }, { name := "RADIANS_TO_DEGREES", type := .double, accessFlags := 26, slot := 4, constantValue := 0 }, { name := "negativeZeroFloatBits", type := .long, accessFlags := 26, slot := 5, constantValue := 0 }, { name := "negativeZeroDoubleBits", type := .long, accessFlags := 26, slot := 6, constantValue := 0 }, { name := "twoToTheDoubleScaleUp", type := .double, accessFlags := 8, slot := 7, constantValue := 0 }, { name := "twoToTheDoubleScaleDown", type := .double, accessFlags := 8, slot := 8, constantValue := 0 }, { name := "$assertionsDisabled", type := .boolean, accessFlags := 4120, slot := 9, constantValue := 0 }]
  methods := #[k7m0, k7m1]
  instanceTypes := #[]
  staticTypes := #[.double, .double, .double, .double, .double, .long, .long, .double, .double, .boolean]
  resolved := Array.replicate 460 none
  statics := none }

def pool8 : Array CpInfo := pool [(1, .methodref 2 3), (0, .class_ 4), (0, .nameAndType 5 6), (0, u "java/lang/Object"), (0, u "<init>"), (0, u "()V"), (0, .fieldref 8 9), (0, .class_ 10), (0, .nameAndType 11 12), (0, u "com/example/coreloom/coreloom/Transfer"), (0, u "call"), (0, u "Lcom/example/coreloom/coreloom/SystemCall;"), (0, .fieldref 8 14), (0, .nameAndType 15 16), (0, u "descriptor"), (0, u "I"), (0, .fieldref 8 18), (0, .nameAndType 19 20), (0, u "opening"), (0, u "J"), (0, .fieldref 8 22), (0, .nameAndType 23 24), (0, u "file"), (0, u "Lcom/example/coreloom/coreloom/StorageFile;"), (0, .fieldref 8 26), (0, .nameAndType 27 16), (0, u "position"), (0, .fieldref 8 29), (0, .nameAndType 30 16), (0, u "address"), (0, .fieldref 8 32), (0, .nameAndType 33 16), (0, u "cells"), (26, u "BYTES"), (2, u "set"), (0, u "(Lcom/example/coreloom/coreloom/SystemCall;IJLcom/example/coreloom/coreloom/StorageFile;III)V"), (3, u "()Lcom/example/coreloom/coreloom/SystemCall;"), (0, u "()I"), (0, u "()J")] 3

def k8c0 : Code := { maxStack := 1, maxLocals := 1, code := prog_56_method_1_code, exceptionTable := #[], attributes := #[] }
def k8m0 : Method := { name := "<init>", desc := "()V", sig := { parameters := [], returnType := none }, accessFlags := 0, code := some k8c0 }
def k8c1 : Code := { maxStack := 3, maxLocals := 9, code := prog_56_method_2_code, exceptionTable := #[], attributes := #[] }
def k8m1 : Method := { name := "set", desc := "(Lcom/example/coreloom/coreloom/SystemCall;IJLcom/example/coreloom/coreloom/StorageFile;III)V", sig := { parameters := [(.object "com/example/coreloom/coreloom/SystemCall"), .int, .long, (.object "com/example/coreloom/coreloom/StorageFile"), .int, .int, .int], returnType := none }, accessFlags := 0, code := some k8c1 }
def k8c2 : Code := { maxStack := 1, maxLocals := 1, code := prog_56_method_4_code, exceptionTable := #[], attributes := #[] }
def k8m2 : Method := { name := "call", desc := "()Lcom/example/coreloom/coreloom/SystemCall;", sig := { parameters := [], returnType := some (.object "com/example/coreloom/coreloom/SystemCall") }, accessFlags := 0, code := some k8c2 }
def k8c3 : Code := { maxStack := 1, maxLocals := 1, code := prog_56_method_5_code, exceptionTable := #[], attributes := #[] }
def k8m3 : Method := { name := "descriptor", desc := "()I", sig := { parameters := [], returnType := some .int }, accessFlags := 0, code := some k8c3 }
def k8c4 : Code := { maxStack := 2, maxLocals := 1, code := prog_56_method_6_code, exceptionTable := #[], attributes := #[] }
def k8m4 : Method := { name := "opening", desc := "()J", sig := { parameters := [], returnType := some .long }, accessFlags := 0, code := some k8c4 }
def k8c5 : Code := { maxStack := 1, maxLocals := 1, code := prog_56_method_7_code, exceptionTable := #[], attributes := #[] }
def k8m5 : Method := { name := "cells", desc := "()I", sig := { parameters := [], returnType := some .int }, accessFlags := 0, code := some k8c5 }
/-- com/example/coreloom/coreloom/Transfer -/
def k8 : Class := { plain "com/example/coreloom/coreloom/Transfer" (some 0) with
  accessFlags := 48
  interfaces := #[]
  cf := some (fileOf pool8 8 #[] #[{ accessFlags := 0, nameIndex := 5, descriptorIndex := 6, attributes := #[] }, { accessFlags := 0, nameIndex := 63, descriptorIndex := 64, attributes := #[] }, { accessFlags := 0, nameIndex := 11, descriptorIndex := 68, attributes := #[] }, { accessFlags := 0, nameIndex := 15, descriptorIndex := 69, attributes := #[] }, { accessFlags := 0, nameIndex := 19, descriptorIndex := 70, attributes := #[] }, { accessFlags := 0, nameIndex := 33, descriptorIndex := 69, attributes := #[] }] 48 2 #[] #[{ accessFlags := 24, nameIndex := 60, descriptorIndex := 20, attributes := #[] }, { accessFlags := 2, nameIndex := 11, descriptorIndex := 12, attributes := #[] }, { accessFlags := 2, nameIndex := 15, descriptorIndex := 16, attributes := #[] }, { accessFlags := 2, nameIndex := 19, descriptorIndex := 20, attributes := #[] }, { accessFlags := 2, nameIndex := 23, descriptorIndex := 24, attributes := #[] }, { accessFlags := 2, nameIndex := 27, descriptorIndex := 16, attributes := #[] }, { accessFlags := 2, nameIndex := 30, descriptorIndex := 16, attributes := #[] }, { accessFlags := 2, nameIndex := 33, descriptorIndex := 16, attributes := #[] }])
  fields := #[{ name := "BYTES", type := .long, accessFlags := 24, slot := 0, constantValue := 0 }, { name := "call", type := (.object "com/example/coreloom/coreloom/SystemCall"), accessFlags := 2, slot := 0, constantValue := 0 }, { name := "descriptor", type := .int, accessFlags := 2, slot := 1, constantValue := 0 }, { name := "opening", type := .long, accessFlags := 2, slot := 2, constantValue := 0 }, { name := "file", type := (.object "com/example/coreloom/coreloom/StorageFile"), accessFlags := 2, slot := 3, constantValue := 0 }, { name := "position", type := .int, accessFlags := 2, slot := 4, constantValue := 0 }, { name := "address", type := .int, accessFlags := 2, slot := 5, constantValue := 0 }, { name := "cells", type := .int, accessFlags := 2, slot := 6, constantValue := 0 }]
  methods := #[k8m0, k8m1, k8m2, k8m3, k8m4, k8m5]
  instanceTypes := #[(.object "com/example/coreloom/coreloom/SystemCall"), .int, .long, (.object "com/example/coreloom/coreloom/StorageFile"), .int, .int, .int]
  staticTypes := #[.long]
  resolved := Array.replicate 74 none
  statics := none }

def pool9 : Array CpInfo := pool [(1, u "java/lang/Cloneable"), (0, .class_ 1), (0, u "java/lang/Object"), (0, .class_ 3)] 3

/-- java/lang/Cloneable -/
def k9 : Class := { plain "java/lang/Cloneable" (some 0) with
  accessFlags := 1537
  interfaces := #[]
  cf := some (fileOf pool9 2 #[] #[] 1537 4 #[] #[])
  fields := #[]
  methods := #[]
  instanceTypes := #[]
  staticTypes := #[]
  resolved := Array.replicate 8 none
  statics := none }

/-- the primitive byte -/
def k10 : Class := { plain "byte" none with kind := .primitive 'B', accessFlags := 0x411 }
/-- [B -/
def k11 : Class := { plain "[B" (some 0) with kind := .array 10 .byte, interfaces := #[9, 4], accessFlags := 1041 }

/-- the primitive int -/
def k12 : Class := { plain "int" none with kind := .primitive 'I', accessFlags := 0x411 }
/-- [I -/
def k13 : Class := { plain "[I" (some 0) with kind := .array 12 .int, interfaces := #[9, 4], accessFlags := 1041 }

def heap : Heap := #[{ cls := 6, slots := #[.null, .null, .null, .null, .ref 1, .ref 2, .null, .null, .int 0, .int 0, .null, .null, .null], vm := .statics 6 },
  { cls := 6, slots := #[.null, .int 0, .int 0, .int 0], vm := .none },
  { cls := 6, slots := #[.null, .int 1, .int 0, .int 0], vm := .none }]
def classes : Array Class := #[k0, k1, k2, k3, k4, k5, k6, k7, k8, k9, k10, k11, k12, k13]
def interned : List (Array UInt16 × Addr) := []
def slotsUsed : Nat := 21
def theMethod : MethodId := ⟨1, 1⟩
def args0 : Array Value := #[.int 5, .int 7, .long 1, .int 2, .int 3, .int 4]
def aboutOver (below : List Frame) : State where
  vm := { classes := classes, interned := interned.toArray }
  heap := heap
  slotsUsed := slotsUsed
  threads := #[{ frames := .invoking theMethod args0 :: below }]
def below0 : List Frame := [.native { method := ⟨0, 0⟩, args := #[] }]
def about1 : State := aboutOver below0
def p0 : Program := .bare "" "" ""
def e0 : Env := launch0.env 0 0 0
theorem w_frames : about1.frames = Frame.invoking theMethod args0 :: below0 := rfl
set_option maxRecDepth 65536 in
theorem w_args : argsFit about1.vm theMethod args0 = true := by decide +kernel
set_option maxRecDepth 65536 in
theorem w_heap : heapFits about1 = true := by decide +kernel
set_option maxRecDepth 65536 in
theorem w_runnable : about1.curStatus? = some .runnable := by decide +kernel
set_option maxRecDepth 65536 in
theorem w_alone : about1.alone = true := by decide +kernel
set_option maxRecDepth 65536 in
theorem w_named : about1.methodNamed? x = some theMethod := by decide +kernel
set_option maxRecDepth 65536 in
theorem w_hears : about1.hears theMethod below0 = true := by decide +kernel
set_option maxRecDepth 65536 in
theorem w_ripe : about1.ripe theMethod args0 below0 = true := by decide +kernel
theorem w_running : about1.status = .running := rfl
set_option maxRecDepth 65536 in
theorem w_room : about1.hasRoom e0.platform room_1 = true :=
  launch0.hasRoom_least _ room_1 (by decide +kernel) (by decide +kernel) (by decide +kernel) (by decide +kernel) (by decide +kernel) (by decide +kernel)
theorem allAtoms_all (ts : List Jvm.Cond) (a : Array Jvm.Value) (st : Jvm.State) : (allAtoms ts).before a st = ts.all (fun c => c.before a st) := by
  induction ts with
  | nil => rfl
  | cons c t ih =>
    show (Jvm.Cond.and c (allAtoms t)).before a st = _
    rw [Jvm.Cond.before_and, ih, List.all_cons]
def words1 : List Jvm.Cond := Jvm.Cond.code x code maxLocals ret :: tables_1
/-- a 'code' word, met by the world's own term for the bytes: nothing is compared byte by byte -/
theorem code_word {y : MethodName} {bytes : ByteArray} {mx : Nat} {rt : Option FieldType} {a : Array Value} {s : State} {m : MethodId} {meth : Method} {c : Code} (h1 : s.methodNamed? y = some m) (h2 : s.vm.method? m = some meth) (h3 : meth.code = some c) (h4 : c.code = bytes)
    (h5 : (c.maxLocals == mx && c.exceptionTable.isEmpty && decide (c.maxStack ≤ mostOperands) && decide (meth.sig.returnType = rt) && !meth.locks && decide (parseMethodDescriptor y.desc = some meth.sig)) = true) : (Jvm.Cond.code y bytes mx rt).before a s = true := by
  simp only [Bool.and_eq_true, beq_iff_eq, Bool.not_eq_true', decide_eq_true_eq] at h5
  obtain ⟨⟨⟨⟨⟨g1, g2⟩, g3⟩, g4⟩, g5⟩, g6⟩ := h5
  simp [Cond.before, Cond.holds, Cond.value, h1, h2, h3, h4, g1, g2, g3, g4, g5, g6]
def isCode : Jvm.Cond → Bool
  | .code _ _ _ _ => true
  | _ => false
theorem all_split {L : List Jvm.Cond} {P : Jvm.Cond → Bool} (h1 : L.all (fun c => isCode c || P c) = true) (h2 : ∀ c ∈ L.filter isCode, P c = true) : L.all P = true := by
  refine List.all_eq_true.mpr fun c hc => ?_
  have h := List.all_eq_true.mp h1 c hc
  rcases Bool.eq_false_or_eq_true (isCode c) with hi | hi
  · exact h2 c (List.mem_filter.mpr ⟨hc, hi⟩)
  · simpa [hi] using h
set_option maxRecDepth 65536 in
theorem w_c0 : (Jvm.Cond.code x code maxLocals ret).before args0 about1 = true := code_word (m := ⟨1, 1⟩) (meth := k1m1) (c := k1c1) (by decide +kernel) rfl rfl rfl (by decide +kernel)
set_option maxRecDepth 65536 in
theorem w_c1 : (Jvm.Cond.code ({ cls := "java/lang/Math", name := "max", desc := "(II)I" } : Jvm.MethodName) jdk_29_method_65_code (2 : Nat) (Option.some Jvm.ClassFile.FieldType.int)).before args0 about1 = true := code_word (m := ⟨7, 1⟩) (meth := k7m1) (c := k7c1) (by decide +kernel) rfl rfl rfl (by decide +kernel)
set_option maxRecDepth 65536 in
theorem w_c2 : (Jvm.Cond.code ({ cls := "com/example/coreloom/coreloom/Transfer", name := "<init>", desc := "()V" } : Jvm.MethodName) prog_56_method_1_code (1 : Nat) (Option.none : Option Jvm.ClassFile.FieldType)).before args0 about1 = true := code_word (m := ⟨8, 0⟩) (meth := k8m0) (c := k8c0) (by decide +kernel) rfl rfl rfl (by decide +kernel)
set_option maxRecDepth 65536 in
theorem w_c3 : (Jvm.Cond.code ({ cls := "java/lang/Object", name := "<init>", desc := "()V" } : Jvm.MethodName) object_method_1_code (1 : Nat) (Option.none : Option Jvm.ClassFile.FieldType)).before args0 about1 = true := code_word (m := ⟨0, 0⟩) (meth := k0m0) (c := k0c0) (by decide +kernel) rfl rfl rfl (by decide +kernel)
set_option maxRecDepth 65536 in
theorem w_c4 : (Jvm.Cond.code ({ cls := "com/example/coreloom/coreloom/Transfer", name := "set", desc := "(Lcom/example/coreloom/coreloom/SystemCall;IJLcom/example/coreloom/coreloom/StorageFile;III)V" } : Jvm.MethodName) prog_56_method_2_code (9 : Nat) (Option.none : Option Jvm.ClassFile.FieldType)).before args0 about1 = true := code_word (m := ⟨8, 1⟩) (meth := k8m1) (c := k8c1) (by decide +kernel) rfl rfl rfl (by decide +kernel)
set_option maxRecDepth 65536 in
theorem w_c5 : (Jvm.Cond.code ({ cls := "com/example/coreloom/coreloom/Transfer", name := "call", desc := "()Lcom/example/coreloom/coreloom/SystemCall;" } : Jvm.MethodName) prog_56_method_4_code (1 : Nat) (Option.some (Jvm.ClassFile.FieldType.object "com/example/coreloom/coreloom/SystemCall"))).before args0 about1 = true := code_word (m := ⟨8, 2⟩) (meth := k8m2) (c := k8c2) (by decide +kernel) rfl rfl rfl (by decide +kernel)
set_option maxRecDepth 65536 in
theorem w_c6 : (Jvm.Cond.code ({ cls := "com/example/coreloom/coreloom/Transfer", name := "descriptor", desc := "()I" } : Jvm.MethodName) prog_56_method_5_code (1 : Nat) (Option.some Jvm.ClassFile.FieldType.int)).before args0 about1 = true := code_word (m := ⟨8, 3⟩) (meth := k8m3) (c := k8c3) (by decide +kernel) rfl rfl rfl (by decide +kernel)
set_option maxRecDepth 65536 in
theorem w_c7 : (Jvm.Cond.code ({ cls := "com/example/coreloom/coreloom/Transfer", name := "opening", desc := "()J" } : Jvm.MethodName) prog_56_method_6_code (1 : Nat) (Option.some Jvm.ClassFile.FieldType.long)).before args0 about1 = true := code_word (m := ⟨8, 4⟩) (meth := k8m4) (c := k8c4) (by decide +kernel) rfl rfl rfl (by decide +kernel)
set_option maxRecDepth 65536 in
theorem w_c8 : (Jvm.Cond.code ({ cls := "com/example/coreloom/coreloom/Transfer", name := "cells", desc := "()I" } : Jvm.MethodName) prog_56_method_7_code (1 : Nat) (Option.some Jvm.ClassFile.FieldType.int)).before args0 about1 = true := code_word (m := ⟨8, 5⟩) (meth := k8m5) (c := k8c5) (by decide +kernel) rfl rfl rfl (by decide +kernel)
def codes1 : List Jvm.Cond := [Jvm.Cond.code x code maxLocals ret, Jvm.Cond.code ({ cls := "java/lang/Math", name := "max", desc := "(II)I" } : Jvm.MethodName) jdk_29_method_65_code (2 : Nat) (Option.some Jvm.ClassFile.FieldType.int), Jvm.Cond.code ({ cls := "com/example/coreloom/coreloom/Transfer", name := "<init>", desc := "()V" } : Jvm.MethodName) prog_56_method_1_code (1 : Nat) (Option.none : Option Jvm.ClassFile.FieldType), Jvm.Cond.code ({ cls := "java/lang/Object", name := "<init>", desc := "()V" } : Jvm.MethodName) object_method_1_code (1 : Nat) (Option.none : Option Jvm.ClassFile.FieldType), Jvm.Cond.code ({ cls := "com/example/coreloom/coreloom/Transfer", name := "set", desc := "(Lcom/example/coreloom/coreloom/SystemCall;IJLcom/example/coreloom/coreloom/StorageFile;III)V" } : Jvm.MethodName) prog_56_method_2_code (9 : Nat) (Option.none : Option Jvm.ClassFile.FieldType), Jvm.Cond.code ({ cls := "com/example/coreloom/coreloom/Transfer", name := "call", desc := "()Lcom/example/coreloom/coreloom/SystemCall;" } : Jvm.MethodName) prog_56_method_4_code (1 : Nat) (Option.some (Jvm.ClassFile.FieldType.object "com/example/coreloom/coreloom/SystemCall")), Jvm.Cond.code ({ cls := "com/example/coreloom/coreloom/Transfer", name := "descriptor", desc := "()I" } : Jvm.MethodName) prog_56_method_5_code (1 : Nat) (Option.some Jvm.ClassFile.FieldType.int), Jvm.Cond.code ({ cls := "com/example/coreloom/coreloom/Transfer", name := "opening", desc := "()J" } : Jvm.MethodName) prog_56_method_6_code (1 : Nat) (Option.some Jvm.ClassFile.FieldType.long), Jvm.Cond.code ({ cls := "com/example/coreloom/coreloom/Transfer", name := "cells", desc := "()I" } : Jvm.MethodName) prog_56_method_7_code (1 : Nat) (Option.some Jvm.ClassFile.FieldType.int)]
set_option maxRecDepth 65536 in
theorem codes_eq : words1.filter isCode = codes1 := rfl
theorem w_codes : ∀ c ∈ words1.filter isCode, c.before args0 about1 = true := by
  rw [codes_eq]
  intro c hc
  simp only [codes1, List.mem_cons, List.not_mem_nil, or_false] at hc
  rcases hc with rfl | rfl | rfl | rfl | rfl | rfl | rfl | rfl | rfl
  · exact w_c0
  · exact w_c1
  · exact w_c2
  · exact w_c3
  · exact w_c4
  · exact w_c5
  · exact w_c6
  · exact w_c7
  · exact w_c8
set_option maxRecDepth 65536 in
theorem w_t1 : (words1.take 24).all (fun c => isCode c || c.before args0 about1) = true := by decide +kernel
set_option maxRecDepth 65536 in
theorem w_t2 : ((words1.drop 24).take 24).all (fun c => isCode c || c.before args0 about1) = true := by decide +kernel
set_option maxRecDepth 65536 in
theorem w_t3 : ((words1.drop 24).drop 24).all (fun c => isCode c || c.before args0 about1) = true := by decide +kernel
theorem w_tables : (allAtoms (Jvm.Cond.code x code maxLocals ret :: tables_1)).before args0 about1 = true := by
  rw [allAtoms_all]
  show words1.all (fun c => c.before args0 about1) = true
  refine all_split ?_ w_codes
  rw [← List.take_append_drop 24 words1, List.all_append, w_t1, ← List.take_append_drop 24 (words1.drop 24), List.all_append, w_t2, w_t3]
  rfl
set_option maxRecDepth 65536 in
theorem w_case : (Jvm.Cond.and given_1 narrow_1).before args0 about1 = true := by decide +kernel
theorem w_applies : (headSpec (Jvm.Cond.code x code maxLocals ret :: tables_1) room_1).applies x e0.platform about1 = true :=
  (Spec.applies_iff w_frames).mpr ⟨w_running, w_runnable, w_alone, w_named, w_hears, w_ripe, w_room, w_tables⟩
theorem atStart : AtStart classFile x code maxLocals ret World_1 tables_1 room_1 Calls_1 rest_1 Pre_1 launch0 p0 e0 about1 theMethod args0 below0 :=
  ⟨lists_1, trivial, launch0.admits_env _ _ _, launch0.least_env, fairChoices_fair.cas, fairChoices_fair.clock, w_frames, w_args, w_heap, w_applies, trivial, trivial, w_case⟩
end start1
theorem witness_1 : WitnessClaimed_1 := ⟨start1.p0, start1.e0, start1.about1, start1.theMethod, start1.args0, start1.below0, start1.atStart⟩
end Jvm.Pilot.@@N@@
