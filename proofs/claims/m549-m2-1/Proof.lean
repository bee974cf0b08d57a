import JvmDerived
import JvmDerived.Pilot.@@N@@Statement
import JvmDerived.Pilot.@@N@@Code
set_option linter.unusedVariables false
set_option linter.unusedSimpArgs false
namespace Jvm.RoadKit
open Sem ClassFile Op Lib Jvm.Stand Jvm.Free Jvm.LawKit
section Own
variable {p : Program} {l : Launch} {e : Env} {R : Room} {s : State} {m : MethodId} {args : Array Value} {below : List Frame} {meth : Method} {c : Code} {T : State} {locs : List Loc} {cells slots : Nat}
/-- from S the run comes to the end of the call, and K holds there -/
def Go (p : Program) (e : Env) (below : List Frame) (K : State → Outcome → Prop) (S : State) : Prop := ∃ s₂ o, Steps p.tables e below S s₂ ∧ s₂.status = .running ∧ Ended s₂ below o ∧ K s₂ o
def Kq (s : State) (Q : Option Value → Heap → List Loc → Prop) (k n : Nat) (t : State) (o : Outcome) : Prop := ∃ v L, o = .returned v ∧ Q v t.heap L ∧ FrameEnd s o t L k n
theorem go {K : State → Outcome → Prop} {S S' : State} (h : ∀ t, Steps p.tables e below S' t → Steps p.tables e below S t) (g : Go p e below K S') : Go p e below K S := by
  obtain ⟨t, o, h1, h2⟩ := g
  exact ⟨t, o, h _ h1, h2⟩
theorem goOut (X : Stand p l e R s m args below meth c T locs cells slots) {Q : Option Value → Heap → List Loc → Prop} {k n : Nat} {S : State} {v : Option Value} (hv : meth.sig.returnType = none → v = none) (hlocks : meth.locks = false)
    (hs : ∀ fs, (∀ (f : JFrame) (acts : List Action), f.method = m → f.locked = none → f.entered = [] → (doReturn e (T.setTop f) acts v).1 = T.setFrames fs) → Steps p.tables e below S (T.setFrames fs))
    (hk : cells ≤ k) (hn : slots ≤ n) (hq : Q v T.heap locs) : Go p e below (Kq s Q k n) S := by
  obtain ⟨fs, hr, hrun, hended, hW, hsame⟩ := X.leave (v := v) hv hlocks
  exact ⟨_, _, hs fs hr, hrun, hended, _, _, rfl, hq, ⟨_, rfl⟩, hW, hsame.mono hk hn⟩
end Own
end Jvm.RoadKit
namespace Jvm.Pilot.@@N@@
open Jvm Jvm.ClassFile Sem Op Lib Jvm.Free Jvm.Stand Jvm.LawKit Jvm.RoadKit Bundle Jvm.Pilot.@@N@@.Jvm.D
def own_max (a b : Int32) : Int32 := if a < b then b else a
def own_sp (n q : Int32) : Int32 := if n < (if q = 0 then 350 else 513) then 0 else 1
theorem own_mono (n d q : Int32) (h : ¬ own_sp n q = 0) : ¬ own_sp (own_max n d) q = 0 := by
  unfold own_sp own_max at *
  generalize (if q = 0 then (350 : Int32) else 513) = t at *
  by_cases c : n < t
  · simp [c] at h
  · have c' : ¬ (if n < d then d else n) < t := by
      split
      · rename_i q
        rw [Int32.lt_iff_toInt_lt] at *; omega
      · exact c
    simp [c']
theorem d1_0 : decode jdk_29_method_65_code 0 = .ok (.iload_n 0, 1) := by decide +kernel
theorem d1_1 : decode jdk_29_method_65_code 1 = .ok (.iload_n 1, 1) := by decide +kernel
theorem d1_2 : decode jdk_29_method_65_code 2 = .ok (.if_icmp .lt 7, 3) := by decide +kernel
theorem d1_9 : decode jdk_29_method_65_code 9 = .ok (.iload_n 1, 1) := by decide +kernel
theorem d1_10 : decode jdk_29_method_65_code 10 = .ok (.ireturn, 1) := by decide +kernel
theorem d1_5 : decode jdk_29_method_65_code 5 = .ok (.iload_n 0, 1) := by decide +kernel
theorem d1_6 : decode jdk_29_method_65_code 6 = .ok (.goto 4, 3) := by decide +kernel
theorem ef_rm1 (m : MethodId) (x0 : Int32) (x1 : Int32) : entryFrame m #[(.int x0), (.int x1)] 2 = mkF m 0 #[.val (.int x0), .val (.int x1)] [] := by first | (simp [entryFrame, mkF, argsToLocals, Value.category]; done) | rfl
def Q1 (Z : State) (p0 : Int32) (p1 : Int32) (h0 : Heap) (n0 : Nat) (v : Option Value) (h : Heap) (L : List Loc) : Prop := v = some (.int (own_max p0 p1)) ∧ Fr n0 L ∧ h = h0
set_option maxRecDepth 65536 in
set_option maxHeartbeats 40000000 in
theorem rm1 (l : Launch) (Z : State) (a0 : Array Value) (hw : ∀ d ∈ tables_1, d.before a0 Z = true) (ws : List Jvm.Cond) (p0 : Int32) (p1 : Int32)  (h0 : Heap) (n0 : Nat) (Z0 : n0 ≤ h0.size)  :
    MetFree l (⟨"java/lang/Math", "max", "(II)I"⟩ : MethodName) (head1 (Jvm.Cond.code (⟨"java/lang/Math", "max", "(II)I"⟩ : MethodName) jdk_29_method_65_code 2 (some .int) :: ws) ({ frames := 0, cells := 0, slots := 0, locals := 0 } : Room)) (fun av' U => av' = #[(.int p0), (.int p1)] ∧ Z.Warmed39 U.vm ∧ U.heap = h0) (fun _ _ _ _ _ => True) (fun _ U o U' => ∃ v L, o = .returned v ∧ Q1 Z p0 p1 h0 n0 v U'.heap L ∧ FrameEnd U o U' L ({ frames := 0, cells := 0, slots := 0, locals := 0 } : Room).cells ({ frames := 0, cells := 0, slots := 0, locals := 0 } : Room).slots) := by
  refine MetFree.of_bodySF (Jvm.Free.JP.mathPlain rfl (by decide +kernel)) hisR ?_
  intro p e s m args below meth c s₁ Bd hml0 hP hK
  obtain ⟨rfl, hZ, hh⟩ := hP
  have hx := Bd.exec
  have hby := Bd.bytes
  have hlk := Bd.notSynchronized
  have hml : c.maxLocals = 2 := hml0
  have hown : s.vm.findClass "java/lang/Math" = some m.cls := findClass_of_methodNamed Bd.named
  have hnm := (name_of_methodNamed Bd.named Bd.method).1
  have X0 : Stand p l e ({ frames := 0, cells := 0, slots := 0, locals := 0 } : Room) s m #[(.int p0), (.int p1)] below meth c s₁ [] 0 0 := Stand.of_body Bd
  have e0 : s₁.heap = h0 := by rw [← hh, Bd.state]; rfl
  have N0 := Fr.nil n0
  show Go p e below (Kq s (Q1 Z p0 p1 h0 n0) ({ frames := 0, cells := 0, slots := 0, locals := 0 } : Room).cells ({ frames := 0, cells := 0, slots := 0, locals := 0 } : Room).slots) _
  refine go (fun t k => castTop (ef_rm1 m p0 p1) k) ?_
  show Go p e below _ (s₁.setTop (mkF m 0 #[.val (.int p0), .val (.int p1)] []))
  refine go (fun t k => by refine XS.iloadN X0.here hx rfl (hb hby d1_0) rfl ?_; exact k) ?_
  show Go p e below _ (s₁.setTop (mkF m 1 #[.val (.int p0), .val (.int p1)] [(.int p0)]))
  refine go (fun t k => by refine XS.iloadN X0.here hx rfl (hb hby d1_1) rfl ?_; exact k) ?_
  show Go p e below _ (s₁.setTop (mkF m 2 #[.val (.int p0), .val (.int p1)] [(.int p1), (.int p0)]))
  by_cases c2_1 : p0 < p1
  · skip
    refine go (fun t k => by refine XS.icmpYes X0.here hx rfl (pc0 := 2) (pc' := 9) rfl (hb hby d1_2) rfl (tlt c2_1).1 (by decide) (by decide) ?_; exact k) ?_
    show Go p e below _ (s₁.setTop (mkF m 9 #[.val (.int p0), .val (.int p1)] []))
    refine go (fun t k => by refine XS.iloadN X0.here hx rfl (hb hby d1_9) rfl ?_; exact k) ?_
    show Go p e below _ (s₁.setTop (mkF m 10 #[.val (.int p0), .val (.int p1)] [(.int p1)]))
    refine goOut X0 (fun h => by rw [Bd.returns] at h; cases h) hlk (fun fs hr => retOut X0 hx Bd.returns rfl (Or.inl ⟨rfl, Or.inl rfl, _, rfl⟩) (hb hby d1_10) hr) (by decide) (by decide) ?_
    rw [e0]
    exact ⟨by simp [own_max, c2_1, nar], N0, rfl⟩
  · skip
    refine go (fun t k => by refine XS.icmpNo X0.here hx rfl (hb hby d1_2) rfl (flt c2_1).1 ?_; exact k) ?_
    show Go p e below _ (s₁.setTop (mkF m 5 #[.val (.int p0), .val (.int p1)] []))
    refine go (fun t k => by refine XS.iloadN X0.here hx rfl (hb hby d1_5) rfl ?_; exact k) ?_
    show Go p e below _ (s₁.setTop (mkF m 6 #[.val (.int p0), .val (.int p1)] [(.int p0)]))
    refine go (fun t k => by refine XS.goto X0.here hx rfl (pc0 := 6) (pc' := 10) rfl (hb hby d1_6) (by decide) (by decide) ?_; exact k) ?_
    show Go p e below _ (s₁.setTop (mkF m 10 #[.val (.int p0), .val (.int p1)] [(.int p0)]))
    refine goOut X0 (fun h => by rw [Bd.returns] at h; cases h) hlk (fun fs hr => retOut X0 hx Bd.returns rfl (Or.inl ⟨rfl, Or.inl rfl, _, rfl⟩) (hb hby d1_10) hr) (by decide) (by decide) ?_
    rw [e0]
    exact ⟨by simp [own_max, c2_1, nar], N0, rfl⟩
theorem d2_0 : decode prog_14_method_3_code 0 = .ok (.iload_n 0, 1) := by decide +kernel
theorem d2_1 : decode prog_14_method_3_code 1 = .ok (.iload_n 1, 1) := by decide +kernel
theorem d2_2 : decode prog_14_method_3_code 2 = .ok (.ifCond .eq 9, 3) := by decide +kernel
theorem d2_11 : decode prog_14_method_3_code 11 = .ok (.sipush 350, 3) := by decide +kernel
theorem d2_14 : decode prog_14_method_3_code 14 = .ok (.if_icmp .lt 7, 3) := by decide +kernel
theorem d2_21 : decode prog_14_method_3_code 21 = .ok (.iconst 0, 1) := by decide +kernel
theorem d2_22 : decode prog_14_method_3_code 22 = .ok (.ireturn, 1) := by decide +kernel
theorem d2_17 : decode prog_14_method_3_code 17 = .ok (.iconst 1, 1) := by decide +kernel
theorem d2_18 : decode prog_14_method_3_code 18 = .ok (.goto 4, 3) := by decide +kernel
theorem d2_5 : decode prog_14_method_3_code 5 = .ok (.sipush 513, 3) := by decide +kernel
theorem d2_8 : decode prog_14_method_3_code 8 = .ok (.goto 6, 3) := by decide +kernel
theorem pn_com_example_longhand_longhand_kernels_Karatsuba : plainName "com/example/longhand/longhand/kernels/Karatsuba" = true := by first | (simp [plainName, overriddenIn]; done) | decide +kernel
theorem ef_rm2 (m : MethodId) (x0 : Int32) (x1 : Int32) : entryFrame m #[(.int x0), (.int x1)] 2 = mkF m 0 #[.val (.int x0), .val (.int x1)] [] := by first | (simp [entryFrame, mkF, argsToLocals, Value.category]; done) | rfl
def Q2 (Z : State) (p0 : Int32) (p1 : Int32) (h0 : Heap) (n0 : Nat) (v : Option Value) (h : Heap) (L : List Loc) : Prop := v = some (.int (own_sp p0 p1)) ∧ Fr n0 L ∧ h = h0
set_option maxRecDepth 65536 in
set_option maxHeartbeats 40000000 in
theorem rm2 (l : Launch) (Z : State) (a0 : Array Value) (hw : ∀ d ∈ tables_1, d.before a0 Z = true) (ws : List Jvm.Cond) (p0 : Int32) (p1 : Int32)  (h0 : Heap) (n0 : Nat) (Z0 : n0 ≤ h0.size)  :
    MetFree l (⟨"com/example/longhand/longhand/kernels/Karatsuba", "splits", "(IZ)Z"⟩ : MethodName) (head1 (Jvm.Cond.code (⟨"com/example/longhand/longhand/kernels/Karatsuba", "splits", "(IZ)Z"⟩ : MethodName) prog_14_method_3_code 2 (some .boolean) :: ws) ({ frames := 0, cells := 0, slots := 0, locals := 0 } : Room)) (fun av' U => av' = #[(.int p0), (.int p1)] ∧ Z.Warmed39 U.vm ∧ U.heap = h0) (fun _ _ _ _ _ => True) (fun _ U o U' => ∃ v L, o = .returned v ∧ Q2 Z p0 p1 h0 n0 v U'.heap L ∧ FrameEnd U o U' L ({ frames := 0, cells := 0, slots := 0, locals := 0 } : Room).cells ({ frames := 0, cells := 0, slots := 0, locals := 0 } : Room).slots) := by
  refine MetFree.of_bodySF (plainFor_of_name pn_com_example_longhand_longhand_kernels_Karatsuba) hisR ?_
  intro p e s m args below meth c s₁ Bd hml0 hP hK
  obtain ⟨rfl, hZ, hh⟩ := hP
  have hx := Bd.exec
  have hby := Bd.bytes
  have hlk := Bd.notSynchronized
  have hml : c.maxLocals = 2 := hml0
  have hown : s.vm.findClass "com/example/longhand/longhand/kernels/Karatsuba" = some m.cls := findClass_of_methodNamed Bd.named
  have hnm := (name_of_methodNamed Bd.named Bd.method).1
  have X0 : Stand p l e ({ frames := 0, cells := 0, slots := 0, locals := 0 } : Room) s m #[(.int p0), (.int p1)] below meth c s₁ [] 0 0 := Stand.of_body Bd
  have e0 : s₁.heap = h0 := by rw [← hh, Bd.state]; rfl
  have N0 := Fr.nil n0
  show Go p e below (Kq s (Q2 Z p0 p1 h0 n0) ({ frames := 0, cells := 0, slots := 0, locals := 0 } : Room).cells ({ frames := 0, cells := 0, slots := 0, locals := 0 } : Room).slots) _
  refine go (fun t k => castTop (ef_rm2 m p0 p1) k) ?_
  show Go p e below _ (s₁.setTop (mkF m 0 #[.val (.int p0), .val (.int p1)] []))
  refine go (fun t k => by refine XS.iloadN X0.here hx rfl (hb hby d2_0) rfl ?_; exact k) ?_
  show Go p e below _ (s₁.setTop (mkF m 1 #[.val (.int p0), .val (.int p1)] [(.int p0)]))
  refine go (fun t k => by refine XS.iloadN X0.here hx rfl (hb hby d2_1) rfl ?_; exact k) ?_
  show Go p e below _ (s₁.setTop (mkF m 2 #[.val (.int p0), .val (.int p1)] [(.int p1), (.int p0)]))
  by_cases c2_1 : p1 = (0 : Int32)
  · skip
    refine go (fun t k => by refine XS.ifYes X0.here hx rfl (pc0 := 2) (pc' := 11) rfl (hb hby d2_2) rfl ((if0 _ _).trans (teq c2_1).1) (by decide) (by decide) ?_; exact k) ?_
    show Go p e below _ (s₁.setTop (mkF m 11 #[.val (.int p0), .val (.int p1)] [(.int p0)]))
    refine go (fun t k => by refine XS.sipush X0.here hx rfl (hb hby d2_11) ?_; exact k) ?_
    show Go p e below _ (s₁.setTop (mkF m 14 #[.val (.int p0), .val (.int p1)] [(.int (350 : Int32)), (.int p0)]))
    by_cases c14_2 : p0 < (350 : Int32)
    · skip
      refine go (fun t k => by refine XS.icmpYes X0.here hx rfl (pc0 := 14) (pc' := 21) rfl (hb hby d2_14) rfl (tlt c14_2).1 (by decide) (by decide) ?_; exact k) ?_
      show Go p e below _ (s₁.setTop (mkF m 21 #[.val (.int p0), .val (.int p1)] []))
      refine go (fun t k => by refine XS.iconst X0.here hx rfl (hb hby d2_21) ?_; exact k) ?_
      show Go p e below _ (s₁.setTop (mkF m 22 #[.val (.int p0), .val (.int p1)] [(.int (0 : Int32))]))
      refine goOut X0 (fun h => by rw [Bd.returns] at h; cases h) hlk (fun fs hr => retN X0 hx (t := .boolean) Bd.returns (by simp) (hb hby d2_22) hr) (by decide) (by decide) ?_
      rw [e0]
      exact ⟨by simp [own_sp, c2_1, c14_2, nar], N0, rfl⟩
    · skip
      refine go (fun t k => by refine XS.icmpNo X0.here hx rfl (hb hby d2_14) rfl (flt c14_2).1 ?_; exact k) ?_
      show Go p e below _ (s₁.setTop (mkF m 17 #[.val (.int p0), .val (.int p1)] []))
      refine go (fun t k => by refine XS.iconst X0.here hx rfl (hb hby d2_17) ?_; exact k) ?_
      show Go p e below _ (s₁.setTop (mkF m 18 #[.val (.int p0), .val (.int p1)] [(.int (1 : Int32))]))
      refine go (fun t k => by refine XS.goto X0.here hx rfl (pc0 := 18) (pc' := 22) rfl (hb hby d2_18) (by decide) (by decide) ?_; exact k) ?_
      show Go p e below _ (s₁.setTop (mkF m 22 #[.val (.int p0), .val (.int p1)] [(.int (1 : Int32))]))
      refine goOut X0 (fun h => by rw [Bd.returns] at h; cases h) hlk (fun fs hr => retN X0 hx (t := .boolean) Bd.returns (by simp) (hb hby d2_22) hr) (by decide) (by decide) ?_
      rw [e0]
      exact ⟨by simp [own_sp, c2_1, c14_2, nar], N0, rfl⟩
  · skip
    refine go (fun t k => by refine XS.ifNo X0.here hx rfl (hb hby d2_2) rfl ((if0 _ _).trans (feq c2_1).1) ?_; exact k) ?_
    show Go p e below _ (s₁.setTop (mkF m 5 #[.val (.int p0), .val (.int p1)] [(.int p0)]))
    refine go (fun t k => by refine XS.sipush X0.here hx rfl (hb hby d2_5) ?_; exact k) ?_
    show Go p e below _ (s₁.setTop (mkF m 8 #[.val (.int p0), .val (.int p1)] [(.int (513 : Int32)), (.int p0)]))
    refine go (fun t k => by refine XS.goto X0.here hx rfl (pc0 := 8) (pc' := 14) rfl (hb hby d2_8) (by decide) (by decide) ?_; exact k) ?_
    show Go p e below _ (s₁.setTop (mkF m 14 #[.val (.int p0), .val (.int p1)] [(.int (513 : Int32)), (.int p0)]))
    by_cases c14_3 : p0 < (513 : Int32)
    · skip
      refine go (fun t k => by refine XS.icmpYes X0.here hx rfl (pc0 := 14) (pc' := 21) rfl (hb hby d2_14) rfl (tlt c14_3).1 (by decide) (by decide) ?_; exact k) ?_
      show Go p e below _ (s₁.setTop (mkF m 21 #[.val (.int p0), .val (.int p1)] []))
      refine go (fun t k => by refine XS.iconst X0.here hx rfl (hb hby d2_21) ?_; exact k) ?_
      show Go p e below _ (s₁.setTop (mkF m 22 #[.val (.int p0), .val (.int p1)] [(.int (0 : Int32))]))
      refine goOut X0 (fun h => by rw [Bd.returns] at h; cases h) hlk (fun fs hr => retN X0 hx (t := .boolean) Bd.returns (by simp) (hb hby d2_22) hr) (by decide) (by decide) ?_
      rw [e0]
      exact ⟨by simp [own_sp, c2_1, c14_3, nar], N0, rfl⟩
    · skip
      refine go (fun t k => by refine XS.icmpNo X0.here hx rfl (hb hby d2_14) rfl (flt c14_3).1 ?_; exact k) ?_
      show Go p e below _ (s₁.setTop (mkF m 17 #[.val (.int p0), .val (.int p1)] []))
      refine go (fun t k => by refine XS.iconst X0.here hx rfl (hb hby d2_17) ?_; exact k) ?_
      show Go p e below _ (s₁.setTop (mkF m 18 #[.val (.int p0), .val (.int p1)] [(.int (1 : Int32))]))
      refine go (fun t k => by refine XS.goto X0.here hx rfl (pc0 := 18) (pc' := 22) rfl (hb hby d2_18) (by decide) (by decide) ?_; exact k) ?_
      show Go p e below _ (s₁.setTop (mkF m 22 #[.val (.int p0), .val (.int p1)] [(.int (1 : Int32))]))
      refine goOut X0 (fun h => by rw [Bd.returns] at h; cases h) hlk (fun fs hr => retN X0 hx (t := .boolean) Bd.returns (by simp) (hb hby d2_22) hr) (by decide) (by decide) ?_
      rw [e0]
      exact ⟨by simp [own_sp, c2_1, c14_3, nar], N0, rfl⟩
theorem pd_0 : parseMethodDescriptor "(II)I" = some ⟨[.int, .int], some .int⟩ := by decide +kernel
theorem pd_1 : parseMethodDescriptor "(IZ)Z" = some ⟨[.int, .boolean], some .boolean⟩ := by decide +kernel
theorem pn_com_example_longhand_longhand_kernels_KaratsubaSplitsPinLaw : plainName "com/example/longhand/longhand/kernels/KaratsubaSplitsPinLaw" = true := by first | (simp [plainName, overriddenIn]; done) | decide +kernel
theorem ef_rm0 (m : MethodId) (x0 : Int32) (x1 : Int32) (x2 : Int32) : entryFrame m #[(.int x0), (.int x1), (.int x2)] maxLocals = mkF m 0 #[.val (.int x0), .val (.int x1), .val (.int x2), .unset, .unset, .unset, .unset, .unset] [] := by first | (simp [entryFrame, mkF, argsToLocals, Value.category, maxLocals]; done) | rfl
def Q0 (Z : State) (p0 : Int32) (p1 : Int32) (p2 : Int32) (h0 : Heap) (n0 : Nat) (v : Option Value) (h : Heap) (L : List Loc) : Prop := v = some (.int 1) ∧ Fr n0 L
set_option maxRecDepth 65536 in
set_option maxHeartbeats 40000000 in
theorem rm0 (l : Launch) (Z : State) (a0 : Array Value) (hw : ∀ d ∈ tables_1, d.before a0 Z = true) (ws : List Jvm.Cond) (p0 : Int32) (p1 : Int32) (p2 : Int32)  (h0 : Heap) (n0 : Nat) (Z0 : n0 ≤ h0.size)  :
    MetFree l x (head1 (Jvm.Cond.code x code maxLocals ret :: ws) room_1) (fun av' U => av' = #[(.int p0), (.int p1), (.int p2)] ∧ Z.Warmed39 U.vm ∧ U.heap = h0) (fun _ _ _ _ _ => True) (fun _ U o U' => ∃ v L, o = .returned v ∧ Q0 Z p0 p1 p2 h0 n0 v U'.heap L ∧ FrameEnd U o U' L room_1.cells room_1.slots) := by
  refine MetFree.of_bodySF (plainFor_of_name pn_com_example_longhand_longhand_kernels_KaratsubaSplitsPinLaw) hisR ?_
  intro p e s m args below meth c s₁ Bd hml0 hP hK
  obtain ⟨rfl, hZ, hh⟩ := hP
  have hx := Bd.exec
  have hby := Bd.bytes
  have hlk := Bd.notSynchronized
  have hml : c.maxLocals = 8 := hml0
  have hown : s.vm.findClass "com/example/longhand/longhand/kernels/KaratsubaSplitsPinLaw" = some m.cls := findClass_of_methodNamed Bd.named
  have hnm := (name_of_methodNamed Bd.named Bd.method).1
  have X0 : Stand p l e room_1 s m #[(.int p0), (.int p1), (.int p2)] below meth c s₁ [] 0 0 := Stand.of_body Bd
  have e0 : s₁.heap = h0 := by rw [← hh, Bd.state]; rfl
  have N0 := Fr.nil n0
  show Go p e below (Kq s (Q0 Z p0 p1 p2 h0 n0) room_1.cells room_1.slots) _
  refine go (fun t k => castTop (ef_rm0 m p0 p1 p2) k) ?_
  show Go p e below _ (s₁.setTop (mkF m 0 #[.val (.int p0), .val (.int p1), .val (.int p2), .unset, .unset, .unset, .unset, .unset] []))
  refine go (fun t k => by refine XS.iloadN X0.here hx rfl (hb hby at_0) rfl ?_; exact k) ?_
  show Go p e below _ (s₁.setTop (mkF m 1 #[.val (.int p0), .val (.int p1), .val (.int p2), .unset, .unset, .unset, .unset, .unset] [(.int p2)]))
  refine go (fun t k => by refine XS.iconst X0.here hx rfl (hb hby at_1) ?_; exact k) ?_
  show Go p e below _ (s₁.setTop (mkF m 2 #[.val (.int p0), .val (.int p1), .val (.int p2), .unset, .unset, .unset, .unset, .unset] [(.int (1 : Int32)), (.int p2)]))
  refine go (fun t k => by refine XS.iand X0.here hx rfl (hb hby at_2) rfl ?_; exact k) ?_
  show Go p e below _ (s₁.setTop (mkF m 3 #[.val (.int p0), .val (.int p1), .val (.int p2), .unset, .unset, .unset, .unset, .unset] [(.int (p2 &&& (1 : Int32)))]))
  by_cases c3_1 : (p2 &&& (1 : Int32)) = (0 : Int32)
  · skip
    refine go (fun t k => by refine XS.ifYes X0.here hx rfl (pc0 := 3) (pc' := 10) rfl (hb hby at_3) rfl ((if0 _ _).trans (teq c3_1).1) (by decide) (by decide) ?_; exact k) ?_
    show Go p e below _ (s₁.setTop (mkF m 10 #[.val (.int p0), .val (.int p1), .val (.int p2), .unset, .unset, .unset, .unset, .unset] []))
    refine go (fun t k => by refine XS.iconst X0.here hx rfl (hb hby at_10) ?_; exact k) ?_
    show Go p e below _ (s₁.setTop (mkF m 11 #[.val (.int p0), .val (.int p1), .val (.int p2), .unset, .unset, .unset, .unset, .unset] [(.int (0 : Int32))]))
    refine go (fun t k => by refine XS.istoreN X0.here hx rfl (hb hby at_11) rfl (l' := #[.val (.int p0), .val (.int p1), .val (.int p2), .val (.int (0 : Int32)), .unset, .unset, .unset, .unset]) rfl ?_; exact k) ?_
    show Go p e below _ (s₁.setTop (mkF m 12 #[.val (.int p0), .val (.int p1), .val (.int p2), .val (.int (0 : Int32)), .unset, .unset, .unset, .unset] []))
    refine go (fun t k => by refine XS.iloadN X0.here hx rfl (hb hby at_12) rfl ?_; exact k) ?_
    show Go p e below _ (s₁.setTop (mkF m 13 #[.val (.int p0), .val (.int p1), .val (.int p2), .val (.int (0 : Int32)), .unset, .unset, .unset, .unset] [(.int (0 : Int32))]))
    have c13_2 : (0 : Int32) = (0 : Int32) := by decide
    refine go (fun t k => by refine XS.ifYes X0.here hx rfl (pc0 := 13) (pc' := 22) rfl (hb hby at_13) rfl ((if0 _ _).trans (teq c13_2).1) (by decide) (by decide) ?_; exact k) ?_
    show Go p e below _ (s₁.setTop (mkF m 22 #[.val (.int p0), .val (.int p1), .val (.int p2), .val (.int (0 : Int32)), .unset, .unset, .unset, .unset] []))
    refine go (fun t k => by refine XS.sipush X0.here hx rfl (hb hby at_22) ?_; exact k) ?_
    show Go p e below _ (s₁.setTop (mkF m 25 #[.val (.int p0), .val (.int p1), .val (.int p2), .val (.int (0 : Int32)), .unset, .unset, .unset, .unset] [(.int (350 : Int32))]))
    refine go (fun t k => by refine XS.istore X0.here hx rfl (hb hby at_25) rfl (l' := #[.val (.int p0), .val (.int p1), .val (.int p2), .val (.int (0 : Int32)), .val (.int (350 : Int32)), .unset, .unset, .unset]) rfl ?_; exact k) ?_
    show Go p e below _ (s₁.setTop (mkF m 27 #[.val (.int p0), .val (.int p1), .val (.int p2), .val (.int (0 : Int32)), .val (.int (350 : Int32)), .unset, .unset, .unset] []))
    refine go (fun t k => by refine XS.iloadN X0.here hx rfl (hb hby at_27) rfl ?_; exact k) ?_
    show Go p e below _ (s₁.setTop (mkF m 28 #[.val (.int p0), .val (.int p1), .val (.int p2), .val (.int (0 : Int32)), .val (.int (350 : Int32)), .unset, .unset, .unset] [(.int p0)]))
    refine go (fun t k => by refine XS.iloadN X0.here hx rfl (hb hby at_28) rfl ?_; exact k) ?_
    show Go p e below _ (s₁.setTop (mkF m 29 #[.val (.int p0), .val (.int p1), .val (.int p2), .val (.int (0 : Int32)), .val (.int (350 : Int32)), .unset, .unset, .unset] [(.int p1), (.int p0)]))
    obtain ⟨_, _, ⟨T3, L3, k3, n3⟩, -, X3, ⟨Lc3, hQ3, l3, y3, z3⟩, st3⟩ := Jvm.LawKit.callS X0 hx (y := (⟨"java/lang/Math", "max", "(II)I"⟩ : MethodName)) hown (mvT hZ (hw _ (List.mem_of_getElem? (i := 0) rfl))) (mvT hZ (hw _ (List.mem_of_getElem? (i := 1) rfl))) (mvT hZ (hw _ (List.mem_of_getElem? (i := 2) rfl))) (mvT hZ (hw _ (List.mem_of_getElem? (i := 3) rfl))) (by decide) (backOf (W := 0) (rm1 l Z a0 hw [] p0 p1 h0 n0 Z0) hZ (hw _ (List.mem_of_getElem? (i := 3) rfl)) (hw _ (List.mem_of_getElem? (i := 2) rfl)) (by decide) (by decide)) (g := (mkF m 29 #[.val (.int p0), .val (.int p1), .val (.int p2), .val (.int (0 : Int32)), .val (.int (350 : Int32)), .unset, .unset, .unset] [(.int p1), (.int p0)])) rfl (by rw [hml]; rfl) (argsL := [(.int p0), (.int p1)]) (rest := []) (lenOf pd_0 rfl) rfl (by show 2 * 0 + _ ≤ _; exact Nat.le_of_eq rfl) (hb hby at_29) (fun _ _ => ⟨rfl, e0, (by decide : 0 + 0 ≤ _), (by decide : 0 + 0 ≤ _)⟩)
    dsimp only [Pt.U, Pt.locs, Pt.cells, Pt.slots] at X3 l3 y3 z3 st3 hQ3
    subst l3 y3 z3
    obtain ⟨rfl, N3q, e3⟩ := hQ3
    have N3 := Fr.app N0 N3q
    refine go st3 ?_
    show Go p e below _ (T3.setTop (mkF m 32 #[.val (.int p0), .val (.int p1), .val (.int p2), .val (.int (0 : Int32)), .val (.int (350 : Int32)), .unset, .unset, .unset] [(.int (own_max p0 p1))]))
    refine go (fun t k => by refine XS.istore X3.here hx rfl (hb hby at_32) rfl (l' := #[.val (.int p0), .val (.int p1), .val (.int p2), .val (.int (0 : Int32)), .val (.int (350 : Int32)), .val (.int (own_max p0 p1)), .unset, .unset]) rfl ?_; exact k) ?_
    show Go p e below _ (T3.setTop (mkF m 34 #[.val (.int p0), .val (.int p1), .val (.int p2), .val (.int (0 : Int32)), .val (.int (350 : Int32)), .val (.int (own_max p0 p1)), .unset, .unset] []))
    refine go (fun t k => by refine XS.iloadN X3.here hx rfl (hb hby at_34) rfl ?_; exact k) ?_
    show Go p e below _ (T3.setTop (mkF m 35 #[.val (.int p0), .val (.int p1), .val (.int p2), .val (.int (0 : Int32)), .val (.int (350 : Int32)), .val (.int (own_max p0 p1)), .unset, .unset] [(.int p0)]))
    refine go (fun t k => by refine XS.iloadN X3.here hx rfl (hb hby at_35) rfl ?_; exact k) ?_
    show Go p e below _ (T3.setTop (mkF m 36 #[.val (.int p0), .val (.int p1), .val (.int p2), .val (.int (0 : Int32)), .val (.int (350 : Int32)), .val (.int (own_max p0 p1)), .unset, .unset] [(.int (0 : Int32)), (.int p0)]))
    obtain ⟨_, _, ⟨T4, L4, k4, n4⟩, -, X4, ⟨Lc4, hQ4, l4, y4, z4⟩, st4⟩ := Jvm.LawKit.callS X3 hx (y := (⟨"com/example/longhand/longhand/kernels/Karatsuba", "splits", "(IZ)Z"⟩ : MethodName)) hown (mvT hZ (hw _ (List.mem_of_getElem? (i := 4) rfl))) (mvT hZ (hw _ (List.mem_of_getElem? (i := 5) rfl))) (mvT hZ (hw _ (List.mem_of_getElem? (i := 6) rfl))) (mvT hZ (hw _ (List.mem_of_getElem? (i := 7) rfl))) (by decide) (backOf (W := 0) (rm2 l Z a0 hw [] p0 (0 : Int32) h0 n0 Z0) hZ (hw _ (List.mem_of_getElem? (i := 7) rfl)) (hw _ (List.mem_of_getElem? (i := 6) rfl)) (by decide) (by decide)) (g := (mkF m 36 #[.val (.int p0), .val (.int p1), .val (.int p2), .val (.int (0 : Int32)), .val (.int (350 : Int32)), .val (.int (own_max p0 p1)), .unset, .unset] [(.int (0 : Int32)), (.int p0)])) rfl (by rw [hml]; rfl) (argsL := [(.int p0), (.int (0 : Int32))]) (rest := []) (lenOf pd_1 rfl) rfl (by show 2 * 0 + _ ≤ _; exact Nat.le_of_eq rfl) (hb hby at_36) (fun _ _ => ⟨rfl, e3, (by decide : 0 + 0 ≤ _), (by decide : 0 + 0 ≤ _)⟩)
    dsimp only [Pt.U, Pt.locs, Pt.cells, Pt.slots] at X4 l4 y4 z4 st4 hQ4
    subst l4 y4 z4
    obtain ⟨rfl, N4q, e4⟩ := hQ4
    have N4 := Fr.app N3 N4q
    refine go st4 ?_
    show Go p e below _ (T4.setTop (mkF m 39 #[.val (.int p0), .val (.int p1), .val (.int p2), .val (.int (0 : Int32)), .val (.int (350 : Int32)), .val (.int (own_max p0 p1)), .unset, .unset] [(.int (own_sp p0 (0 : Int32)))]))
    by_cases c39_5 : (own_sp p0 (0 : Int32)) = (0 : Int32)
    · skip
      refine go (fun t k => by refine XS.ifYes X4.here hx rfl (pc0 := 39) (pc' := 51) rfl (hb hby at_39) rfl ((if0 _ _).trans (teq c39_5).1) (by decide) (by decide) ?_; exact k) ?_
      show Go p e below _ (T4.setTop (mkF m 51 #[.val (.int p0), .val (.int p1), .val (.int p2), .val (.int (0 : Int32)), .val (.int (350 : Int32)), .val (.int (own_max p0 p1)), .unset, .unset] []))
      refine go (fun t k => by refine XS.iconst X4.here hx rfl (hb hby at_51) ?_; exact k) ?_
      show Go p e below _ (T4.setTop (mkF m 52 #[.val (.int p0), .val (.int p1), .val (.int p2), .val (.int (0 : Int32)), .val (.int (350 : Int32)), .val (.int (own_max p0 p1)), .unset, .unset] [(.int (1 : Int32))]))
      refine go (fun t k => by refine XS.goto X4.here hx rfl (pc0 := 52) (pc' := 56) rfl (hb hby at_52) (by decide) (by decide) ?_; exact k) ?_
      show Go p e below _ (T4.setTop (mkF m 56 #[.val (.int p0), .val (.int p1), .val (.int p2), .val (.int (0 : Int32)), .val (.int (350 : Int32)), .val (.int (own_max p0 p1)), .unset, .unset] [(.int (1 : Int32))]))
      refine go (fun t k => by refine XS.istore X4.here hx rfl (hb hby at_56) rfl (l' := #[.val (.int p0), .val (.int p1), .val (.int p2), .val (.int (0 : Int32)), .val (.int (350 : Int32)), .val (.int (own_max p0 p1)), .val (.int (1 : Int32)), .unset]) rfl ?_; exact k) ?_
      show Go p e below _ (T4.setTop (mkF m 58 #[.val (.int p0), .val (.int p1), .val (.int p2), .val (.int (0 : Int32)), .val (.int (350 : Int32)), .val (.int (own_max p0 p1)), .val (.int (1 : Int32)), .unset] []))
      refine go (fun t k => by refine XS.iload X4.here hx rfl (hb hby at_58) rfl ?_; exact k) ?_
      show Go p e below _ (T4.setTop (mkF m 60 #[.val (.int p0), .val (.int p1), .val (.int p2), .val (.int (0 : Int32)), .val (.int (350 : Int32)), .val (.int (own_max p0 p1)), .val (.int (1 : Int32)), .unset] [(.int (350 : Int32))]))
      refine go (fun t k => by refine XS.iconst X4.here hx rfl (hb hby at_60) ?_; exact k) ?_
      show Go p e below _ (T4.setTop (mkF m 61 #[.val (.int p0), .val (.int p1), .val (.int p2), .val (.int (0 : Int32)), .val (.int (350 : Int32)), .val (.int (own_max p0 p1)), .val (.int (1 : Int32)), .unset] [(.int (1 : Int32)), (.int (350 : Int32))]))
      refine go (fun t k => by refine XS.isub X4.here hx rfl (hb hby at_61) rfl ?_; exact k) ?_
      show Go p e below _ (T4.setTop (mkF m 62 #[.val (.int p0), .val (.int p1), .val (.int p2), .val (.int (0 : Int32)), .val (.int (350 : Int32)), .val (.int (own_max p0 p1)), .val (.int (1 : Int32)), .unset] [(.int ((350 : Int32) - (1 : Int32)))]))
      refine go (fun t k => by refine XS.iloadN X4.here hx rfl (hb hby at_62) rfl ?_; exact k) ?_
      show Go p e below _ (T4.setTop (mkF m 63 #[.val (.int p0), .val (.int p1), .val (.int p2), .val (.int (0 : Int32)), .val (.int (350 : Int32)), .val (.int (own_max p0 p1)), .val (.int (1 : Int32)), .unset] [(.int (0 : Int32)), (.int ((350 : Int32) - (1 : Int32)))]))
      obtain ⟨_, _, ⟨T6, L6, k6, n6⟩, -, X6, ⟨Lc6, hQ6, l6, y6, z6⟩, st6⟩ := Jvm.LawKit.callS X4 hx (y := (⟨"com/example/longhand/longhand/kernels/Karatsuba", "splits", "(IZ)Z"⟩ : MethodName)) hown (mvT hZ (hw _ (List.mem_of_getElem? (i := 4) rfl))) (mvT hZ (hw _ (List.mem_of_getElem? (i := 5) rfl))) (mvT hZ (hw _ (List.mem_of_getElem? (i := 6) rfl))) (mvT hZ (hw _ (List.mem_of_getElem? (i := 7) rfl))) (by decide) (backOf (W := 0) (rm2 l Z a0 hw [] ((350 : Int32) - (1 : Int32)) (0 : Int32) h0 n0 Z0) hZ (hw _ (List.mem_of_getElem? (i := 7) rfl)) (hw _ (List.mem_of_getElem? (i := 6) rfl)) (by decide) (by decide)) (g := (mkF m 63 #[.val (.int p0), .val (.int p1), .val (.int p2), .val (.int (0 : Int32)), .val (.int (350 : Int32)), .val (.int (own_max p0 p1)), .val (.int (1 : Int32)), .unset] [(.int (0 : Int32)), (.int ((350 : Int32) - (1 : Int32)))])) rfl (by rw [hml]; rfl) (argsL := [(.int ((350 : Int32) - (1 : Int32))), (.int (0 : Int32))]) (rest := []) (lenOf pd_1 rfl) rfl (by show 2 * 0 + _ ≤ _; exact Nat.le_of_eq rfl) (hb hby at_63) (fun _ _ => ⟨rfl, e4, (by decide : 0 + 0 ≤ _), (by decide : 0 + 0 ≤ _)⟩)
      dsimp only [Pt.U, Pt.locs, Pt.cells, Pt.slots] at X6 l6 y6 z6 st6 hQ6
      subst l6 y6 z6
      obtain ⟨rfl, N6q, e6⟩ := hQ6
      have N6 := Fr.app N4 N6q
      refine go st6 ?_
      show Go p e below _ (T6.setTop (mkF m 66 #[.val (.int p0), .val (.int p1), .val (.int p2), .val (.int (0 : Int32)), .val (.int (350 : Int32)), .val (.int (own_max p0 p1)), .val (.int (1 : Int32)), .unset] [(.int (own_sp ((350 : Int32) - (1 : Int32)) (0 : Int32)))]))
      have c66_7 : ¬ (¬ (own_sp ((350 : Int32) - (1 : Int32)) (0 : Int32)) = (0 : Int32)) := not_not_intro (by decide)
      refine go (fun t k => by refine XS.ifNo X6.here hx rfl (hb hby at_66) rfl ((if0 _ _).trans (teq (Decidable.not_not.mp c66_7)).2) ?_; exact k) ?_
      show Go p e below _ (T6.setTop (mkF m 69 #[.val (.int p0), .val (.int p1), .val (.int p2), .val (.int (0 : Int32)), .val (.int (350 : Int32)), .val (.int (own_max p0 p1)), .val (.int (1 : Int32)), .unset] []))
      refine go (fun t k => by refine XS.iload X6.here hx rfl (hb hby at_69) rfl ?_; exact k) ?_
      show Go p e below _ (T6.setTop (mkF m 71 #[.val (.int p0), .val (.int p1), .val (.int p2), .val (.int (0 : Int32)), .val (.int (350 : Int32)), .val (.int (own_max p0 p1)), .val (.int (1 : Int32)), .unset] [(.int (350 : Int32))]))
      refine go (fun t k => by refine XS.iloadN X6.here hx rfl (hb hby at_71) rfl ?_; exact k) ?_
      show Go p e below _ (T6.setTop (mkF m 72 #[.val (.int p0), .val (.int p1), .val (.int p2), .val (.int (0 : Int32)), .val (.int (350 : Int32)), .val (.int (own_max p0 p1)), .val (.int (1 : Int32)), .unset] [(.int (0 : Int32)), (.int (350 : Int32))]))
      obtain ⟨_, _, ⟨T8, L8, k8, n8⟩, -, X8, ⟨Lc8, hQ8, l8, y8, z8⟩, st8⟩ := Jvm.LawKit.callS X6 hx (y := (⟨"com/example/longhand/longhand/kernels/Karatsuba", "splits", "(IZ)Z"⟩ : MethodName)) hown (mvT hZ (hw _ (List.mem_of_getElem? (i := 4) rfl))) (mvT hZ (hw _ (List.mem_of_getElem? (i := 5) rfl))) (mvT hZ (hw _ (List.mem_of_getElem? (i := 6) rfl))) (mvT hZ (hw _ (List.mem_of_getElem? (i := 7) rfl))) (by decide) (backOf (W := 0) (rm2 l Z a0 hw [] (350 : Int32) (0 : Int32) h0 n0 Z0) hZ (hw _ (List.mem_of_getElem? (i := 7) rfl)) (hw _ (List.mem_of_getElem? (i := 6) rfl)) (by decide) (by decide)) (g := (mkF m 72 #[.val (.int p0), .val (.int p1), .val (.int p2), .val (.int (0 : Int32)), .val (.int (350 : Int32)), .val (.int (own_max p0 p1)), .val (.int (1 : Int32)), .unset] [(.int (0 : Int32)), (.int (350 : Int32))])) rfl (by rw [hml]; rfl) (argsL := [(.int (350 : Int32)), (.int (0 : Int32))]) (rest := []) (lenOf pd_1 rfl) rfl (by show 2 * 0 + _ ≤ _; exact Nat.le_of_eq rfl) (hb hby at_72) (fun _ _ => ⟨rfl, e6, (by decide : 0 + 0 ≤ _), (by decide : 0 + 0 ≤ _)⟩)
      dsimp only [Pt.U, Pt.locs, Pt.cells, Pt.slots] at X8 l8 y8 z8 st8 hQ8
      subst l8 y8 z8
      obtain ⟨rfl, N8q, e8⟩ := hQ8
      have N8 := Fr.app N6 N8q
      refine go st8 ?_
      show Go p e below _ (T8.setTop (mkF m 75 #[.val (.int p0), .val (.int p1), .val (.int p2), .val (.int (0 : Int32)), .val (.int (350 : Int32)), .val (.int (own_max p0 p1)), .val (.int (1 : Int32)), .unset] [(.int (own_sp (350 : Int32) (0 : Int32)))]))
      have c75_9 : ¬ ((own_sp (350 : Int32) (0 : Int32)) = (0 : Int32)) := by decide
      refine go (fun t k => by refine XS.ifNo X8.here hx rfl (hb hby at_75) rfl ((if0 _ _).trans (feq c75_9).1) ?_; exact k) ?_
      show Go p e below _ (T8.setTop (mkF m 78 #[.val (.int p0), .val (.int p1), .val (.int p2), .val (.int (0 : Int32)), .val (.int (350 : Int32)), .val (.int (own_max p0 p1)), .val (.int (1 : Int32)), .unset] []))
      refine go (fun t k => by refine XS.iconst X8.here hx rfl (hb hby at_78) ?_; exact k) ?_
      show Go p e below _ (T8.setTop (mkF m 79 #[.val (.int p0), .val (.int p1), .val (.int p2), .val (.int (0 : Int32)), .val (.int (350 : Int32)), .val (.int (own_max p0 p1)), .val (.int (1 : Int32)), .unset] [(.int (1 : Int32))]))
      refine go (fun t k => by refine XS.goto X8.here hx rfl (pc0 := 79) (pc' := 83) rfl (hb hby at_79) (by decide) (by decide) ?_; exact k) ?_
      show Go p e below _ (T8.setTop (mkF m 83 #[.val (.int p0), .val (.int p1), .val (.int p2), .val (.int (0 : Int32)), .val (.int (350 : Int32)), .val (.int (own_max p0 p1)), .val (.int (1 : Int32)), .unset] [(.int (1 : Int32))]))
      refine go (fun t k => by refine XS.istore X8.here hx rfl (hb hby at_83) rfl (l' := #[.val (.int p0), .val (.int p1), .val (.int p2), .val (.int (0 : Int32)), .val (.int (350 : Int32)), .val (.int (own_max p0 p1)), .val (.int (1 : Int32)), .val (.int (1 : Int32))]) rfl ?_; exact k) ?_
      show Go p e below _ (T8.setTop (mkF m 85 #[.val (.int p0), .val (.int p1), .val (.int p2), .val (.int (0 : Int32)), .val (.int (350 : Int32)), .val (.int (own_max p0 p1)), .val (.int (1 : Int32)), .val (.int (1 : Int32))] []))
      refine go (fun t k => by refine XS.iload X8.here hx rfl (hb hby at_85) rfl ?_; exact k) ?_
      show Go p e below _ (T8.setTop (mkF m 87 #[.val (.int p0), .val (.int p1), .val (.int p2), .val (.int (0 : Int32)), .val (.int (350 : Int32)), .val (.int (own_max p0 p1)), .val (.int (1 : Int32)), .val (.int (1 : Int32))] [(.int (1 : Int32))]))
      have c87_10 : ¬ ((1 : Int32) = (0 : Int32)) := by decide
      refine go (fun t k => by refine XS.ifNo X8.here hx rfl (hb hby at_87) rfl ((if0 _ _).trans (feq c87_10).1) ?_; exact k) ?_
      show Go p e below _ (T8.setTop (mkF m 90 #[.val (.int p0), .val (.int p1), .val (.int p2), .val (.int (0 : Int32)), .val (.int (350 : Int32)), .val (.int (own_max p0 p1)), .val (.int (1 : Int32)), .val (.int (1 : Int32))] []))
      refine go (fun t k => by refine XS.iload X8.here hx rfl (hb hby at_90) rfl ?_; exact k) ?_
      show Go p e below _ (T8.setTop (mkF m 92 #[.val (.int p0), .val (.int p1), .val (.int p2), .val (.int (0 : Int32)), .val (.int (350 : Int32)), .val (.int (own_max p0 p1)), .val (.int (1 : Int32)), .val (.int (1 : Int32))] [(.int (1 : Int32))]))
      have c92_11 : ¬ ((1 : Int32) = (0 : Int32)) := by decide
      refine go (fun t k => by refine XS.ifNo X8.here hx rfl (hb hby at_92) rfl ((if0 _ _).trans (feq c92_11).1) ?_; exact k) ?_
      show Go p e below _ (T8.setTop (mkF m 95 #[.val (.int p0), .val (.int p1), .val (.int p2), .val (.int (0 : Int32)), .val (.int (350 : Int32)), .val (.int (own_max p0 p1)), .val (.int (1 : Int32)), .val (.int (1 : Int32))] []))
      refine go (fun t k => by refine XS.iconst X8.here hx rfl (hb hby at_95) ?_; exact k) ?_
      show Go p e below _ (T8.setTop (mkF m 96 #[.val (.int p0), .val (.int p1), .val (.int p2), .val (.int (0 : Int32)), .val (.int (350 : Int32)), .val (.int (own_max p0 p1)), .val (.int (1 : Int32)), .val (.int (1 : Int32))] [(.int (1 : Int32))]))
      refine go (fun t k => by refine XS.goto X8.here hx rfl (pc0 := 96) (pc' := 100) rfl (hb hby at_96) (by decide) (by decide) ?_; exact k) ?_
      show Go p e below _ (T8.setTop (mkF m 100 #[.val (.int p0), .val (.int p1), .val (.int p2), .val (.int (0 : Int32)), .val (.int (350 : Int32)), .val (.int (own_max p0 p1)), .val (.int (1 : Int32)), .val (.int (1 : Int32))] [(.int (1 : Int32))]))
      refine goOut X8 (fun h => by rw [Bd.returns] at h; cases h) hlk (fun fs hr => retN X8 hx (t := .boolean) Bd.returns (by simp) (hb hby at_100) hr) (by decide) (by decide) ?_
      rw [e8]
      exact ⟨rfl, N8⟩
    · skip
      refine go (fun t k => by refine XS.ifNo X4.here hx rfl (hb hby at_39) rfl ((if0 _ _).trans (feq c39_5).1) ?_; exact k) ?_
      show Go p e below _ (T4.setTop (mkF m 42 #[.val (.int p0), .val (.int p1), .val (.int p2), .val (.int (0 : Int32)), .val (.int (350 : Int32)), .val (.int (own_max p0 p1)), .unset, .unset] []))
      refine go (fun t k => by refine XS.iload X4.here hx rfl (hb hby at_42) rfl ?_; exact k) ?_
      show Go p e below _ (T4.setTop (mkF m 44 #[.val (.int p0), .val (.int p1), .val (.int p2), .val (.int (0 : Int32)), .val (.int (350 : Int32)), .val (.int (own_max p0 p1)), .unset, .unset] [(.int (own_max p0 p1))]))
      refine go (fun t k => by refine XS.iloadN X4.here hx rfl (hb hby at_44) rfl ?_; exact k) ?_
      show Go p e below _ (T4.setTop (mkF m 45 #[.val (.int p0), .val (.int p1), .val (.int p2), .val (.int (0 : Int32)), .val (.int (350 : Int32)), .val (.int (own_max p0 p1)), .unset, .unset] [(.int (0 : Int32)), (.int (own_max p0 p1))]))
      obtain ⟨_, _, ⟨T12, L12, k12, n12⟩, -, X12, ⟨Lc12, hQ12, l12, y12, z12⟩, st12⟩ := Jvm.LawKit.callS X4 hx (y := (⟨"com/example/longhand/longhand/kernels/Karatsuba", "splits", "(IZ)Z"⟩ : MethodName)) hown (mvT hZ (hw _ (List.mem_of_getElem? (i := 4) rfl))) (mvT hZ (hw _ (List.mem_of_getElem? (i := 5) rfl))) (mvT hZ (hw _ (List.mem_of_getElem? (i := 6) rfl))) (mvT hZ (hw _ (List.mem_of_getElem? (i := 7) rfl))) (by decide) (backOf (W := 0) (rm2 l Z a0 hw [] (own_max p0 p1) (0 : Int32) h0 n0 Z0) hZ (hw _ (List.mem_of_getElem? (i := 7) rfl)) (hw _ (List.mem_of_getElem? (i := 6) rfl)) (by decide) (by decide)) (g := (mkF m 45 #[.val (.int p0), .val (.int p1), .val (.int p2), .val (.int (0 : Int32)), .val (.int (350 : Int32)), .val (.int (own_max p0 p1)), .unset, .unset] [(.int (0 : Int32)), (.int (own_max p0 p1))])) rfl (by rw [hml]; rfl) (argsL := [(.int (own_max p0 p1)), (.int (0 : Int32))]) (rest := []) (lenOf pd_1 rfl) rfl (by show 2 * 0 + _ ≤ _; exact Nat.le_of_eq rfl) (hb hby at_45) (fun _ _ => ⟨rfl, e4, (by decide : 0 + 0 ≤ _), (by decide : 0 + 0 ≤ _)⟩)
      dsimp only [Pt.U, Pt.locs, Pt.cells, Pt.slots] at X12 l12 y12 z12 st12 hQ12
      subst l12 y12 z12
      obtain ⟨rfl, N12q, e12⟩ := hQ12
      have N12 := Fr.app N4 N12q
      refine go st12 ?_
      show Go p e below _ (T12.setTop (mkF m 48 #[.val (.int p0), .val (.int p1), .val (.int p2), .val (.int (0 : Int32)), .val (.int (350 : Int32)), .val (.int (own_max p0 p1)), .unset, .unset] [(.int (own_sp (own_max p0 p1) (0 : Int32)))]))
      have c48_13 : ¬ ((own_sp (own_max p0 p1) (0 : Int32)) = (0 : Int32)) := own_mono _ _ _ c39_5
      refine go (fun t k => by refine XS.ifNo X12.here hx rfl (hb hby at_48) rfl ((if0 _ _).trans (feq c48_13).1) ?_; exact k) ?_
      show Go p e below _ (T12.setTop (mkF m 51 #[.val (.int p0), .val (.int p1), .val (.int p2), .val (.int (0 : Int32)), .val (.int (350 : Int32)), .val (.int (own_max p0 p1)), .unset, .unset] []))
      refine go (fun t k => by refine XS.iconst X12.here hx rfl (hb hby at_51) ?_; exact k) ?_
      show Go p e below _ (T12.setTop (mkF m 52 #[.val (.int p0), .val (.int p1), .val (.int p2), .val (.int (0 : Int32)), .val (.int (350 : Int32)), .val (.int (own_max p0 p1)), .unset, .unset] [(.int (1 : Int32))]))
      refine go (fun t k => by refine XS.goto X12.here hx rfl (pc0 := 52) (pc' := 56) rfl (hb hby at_52) (by decide) (by decide) ?_; exact k) ?_
      show Go p e below _ (T12.setTop (mkF m 56 #[.val (.int p0), .val (.int p1), .val (.int p2), .val (.int (0 : Int32)), .val (.int (350 : Int32)), .val (.int (own_max p0 p1)), .unset, .unset] [(.int (1 : Int32))]))
      refine go (fun t k => by refine XS.istore X12.here hx rfl (hb hby at_56) rfl (l' := #[.val (.int p0), .val (.int p1), .val (.int p2), .val (.int (0 : Int32)), .val (.int (350 : Int32)), .val (.int (own_max p0 p1)), .val (.int (1 : Int32)), .unset]) rfl ?_; exact k) ?_
      show Go p e below _ (T12.setTop (mkF m 58 #[.val (.int p0), .val (.int p1), .val (.int p2), .val (.int (0 : Int32)), .val (.int (350 : Int32)), .val (.int (own_max p0 p1)), .val (.int (1 : Int32)), .unset] []))
      refine go (fun t k => by refine XS.iload X12.here hx rfl (hb hby at_58) rfl ?_; exact k) ?_
      show Go p e below _ (T12.setTop (mkF m 60 #[.val (.int p0), .val (.int p1), .val (.int p2), .val (.int (0 : Int32)), .val (.int (350 : Int32)), .val (.int (own_max p0 p1)), .val (.int (1 : Int32)), .unset] [(.int (350 : Int32))]))
      refine go (fun t k => by refine XS.iconst X12.here hx rfl (hb hby at_60) ?_; exact k) ?_
      show Go p e below _ (T12.setTop (mkF m 61 #[.val (.int p0), .val (.int p1), .val (.int p2), .val (.int (0 : Int32)), .val (.int (350 : Int32)), .val (.int (own_max p0 p1)), .val (.int (1 : Int32)), .unset] [(.int (1 : Int32)), (.int (350 : Int32))]))
      refine go (fun t k => by refine XS.isub X12.here hx rfl (hb hby at_61) rfl ?_; exact k) ?_
      show Go p e below _ (T12.setTop (mkF m 62 #[.val (.int p0), .val (.int p1), .val (.int p2), .val (.int (0 : Int32)), .val (.int (350 : Int32)), .val (.int (own_max p0 p1)), .val (.int (1 : Int32)), .unset] [(.int ((350 : Int32) - (1 : Int32)))]))
      refine go (fun t k => by refine XS.iloadN X12.here hx rfl (hb hby at_62) rfl ?_; exact k) ?_
      show Go p e below _ (T12.setTop (mkF m 63 #[.val (.int p0), .val (.int p1), .val (.int p2), .val (.int (0 : Int32)), .val (.int (350 : Int32)), .val (.int (own_max p0 p1)), .val (.int (1 : Int32)), .unset] [(.int (0 : Int32)), (.int ((350 : Int32) - (1 : Int32)))]))
      obtain ⟨_, _, ⟨T14, L14, k14, n14⟩, -, X14, ⟨Lc14, hQ14, l14, y14, z14⟩, st14⟩ := Jvm.LawKit.callS X12 hx (y := (⟨"com/example/longhand/longhand/kernels/Karatsuba", "splits", "(IZ)Z"⟩ : MethodName)) hown (mvT hZ (hw _ (List.mem_of_getElem? (i := 4) rfl))) (mvT hZ (hw _ (List.mem_of_getElem? (i := 5) rfl))) (mvT hZ (hw _ (List.mem_of_getElem? (i := 6) rfl))) (mvT hZ (hw _ (List.mem_of_getElem? (i := 7) rfl))) (by decide) (backOf (W := 0) (rm2 l Z a0 hw [] ((350 : Int32) - (1 : Int32)) (0 : Int32) h0 n0 Z0) hZ (hw _ (List.mem_of_getElem? (i := 7) rfl)) (hw _ (List.mem_of_getElem? (i := 6) rfl)) (by decide) (by decide)) (g := (mkF m 63 #[.val (.int p0), .val (.int p1), .val (.int p2), .val (.int (0 : Int32)), .val (.int (350 : Int32)), .val (.int (own_max p0 p1)), .val (.int (1 : Int32)), .unset] [(.int (0 : Int32)), (.int ((350 : Int32) - (1 : Int32)))])) rfl (by rw [hml]; rfl) (argsL := [(.int ((350 : Int32) - (1 : Int32))), (.int (0 : Int32))]) (rest := []) (lenOf pd_1 rfl) rfl (by show 2 * 0 + _ ≤ _; exact Nat.le_of_eq rfl) (hb hby at_63) (fun _ _ => ⟨rfl, e12, (by decide : 0 + 0 ≤ _), (by decide : 0 + 0 ≤ _)⟩)
      dsimp only [Pt.U, Pt.locs, Pt.cells, Pt.slots] at X14 l14 y14 z14 st14 hQ14
      subst l14 y14 z14
      obtain ⟨rfl, N14q, e14⟩ := hQ14
      have N14 := Fr.app N12 N14q
      refine go st14 ?_
      show Go p e below _ (T14.setTop (mkF m 66 #[.val (.int p0), .val (.int p1), .val (.int p2), .val (.int (0 : Int32)), .val (.int (350 : Int32)), .val (.int (own_max p0 p1)), .val (.int (1 : Int32)), .unset] [(.int (own_sp ((350 : Int32) - (1 : Int32)) (0 : Int32)))]))
      have c66_15 : ¬ (¬ (own_sp ((350 : Int32) - (1 : Int32)) (0 : Int32)) = (0 : Int32)) := not_not_intro (by decide)
      refine go (fun t k => by refine XS.ifNo X14.here hx rfl (hb hby at_66) rfl ((if0 _ _).trans (teq (Decidable.not_not.mp c66_15)).2) ?_; exact k) ?_
      show Go p e below _ (T14.setTop (mkF m 69 #[.val (.int p0), .val (.int p1), .val (.int p2), .val (.int (0 : Int32)), .val (.int (350 : Int32)), .val (.int (own_max p0 p1)), .val (.int (1 : Int32)), .unset] []))
      refine go (fun t k => by refine XS.iload X14.here hx rfl (hb hby at_69) rfl ?_; exact k) ?_
      show Go p e below _ (T14.setTop (mkF m 71 #[.val (.int p0), .val (.int p1), .val (.int p2), .val (.int (0 : Int32)), .val (.int (350 : Int32)), .val (.int (own_max p0 p1)), .val (.int (1 : Int32)), .unset] [(.int (350 : Int32))]))
      refine go (fun t k => by refine XS.iloadN X14.here hx rfl (hb hby at_71) rfl ?_; exact k) ?_
      show Go p e below _ (T14.setTop (mkF m 72 #[.val (.int p0), .val (.int p1), .val (.int p2), .val (.int (0 : Int32)), .val (.int (350 : Int32)), .val (.int (own_max p0 p1)), .val (.int (1 : Int32)), .unset] [(.int (0 : Int32)), (.int (350 : Int32))]))
      obtain ⟨_, _, ⟨T16, L16, k16, n16⟩, -, X16, ⟨Lc16, hQ16, l16, y16, z16⟩, st16⟩ := Jvm.LawKit.callS X14 hx (y := (⟨"com/example/longhand/longhand/kernels/Karatsuba", "splits", "(IZ)Z"⟩ : MethodName)) hown (mvT hZ (hw _ (List.mem_of_getElem? (i := 4) rfl))) (mvT hZ (hw _ (List.mem_of_getElem? (i := 5) rfl))) (mvT hZ (hw _ (List.mem_of_getElem? (i := 6) rfl))) (mvT hZ (hw _ (List.mem_of_getElem? (i := 7) rfl))) (by decide) (backOf (W := 0) (rm2 l Z a0 hw [] (350 : Int32) (0 : Int32) h0 n0 Z0) hZ (hw _ (List.mem_of_getElem? (i := 7) rfl)) (hw _ (List.mem_of_getElem? (i := 6) rfl)) (by decide) (by decide)) (g := (mkF m 72 #[.val (.int p0), .val (.int p1), .val (.int p2), .val (.int (0 : Int32)), .val (.int (350 : Int32)), .val (.int (own_max p0 p1)), .val (.int (1 : Int32)), .unset] [(.int (0 : Int32)), (.int (350 : Int32))])) rfl (by rw [hml]; rfl) (argsL := [(.int (350 : Int32)), (.int (0 : Int32))]) (rest := []) (lenOf pd_1 rfl) rfl (by show 2 * 0 + _ ≤ _; exact Nat.le_of_eq rfl) (hb hby at_72) (fun _ _ => ⟨rfl, e14, (by decide : 0 + 0 ≤ _), (by decide : 0 + 0 ≤ _)⟩)
      dsimp only [Pt.U, Pt.locs, Pt.cells, Pt.slots] at X16 l16 y16 z16 st16 hQ16
      subst l16 y16 z16
      obtain ⟨rfl, N16q, e16⟩ := hQ16
      have N16 := Fr.app N14 N16q
      refine go st16 ?_
      show Go p e below _ (T16.setTop (mkF m 75 #[.val (.int p0), .val (.int p1), .val (.int p2), .val (.int (0 : Int32)), .val (.int (350 : Int32)), .val (.int (own_max p0 p1)), .val (.int (1 : Int32)), .unset] [(.int (own_sp (350 : Int32) (0 : Int32)))]))
      have c75_17 : ¬ ((own_sp (350 : Int32) (0 : Int32)) = (0 : Int32)) := by decide
      refine go (fun t k => by refine XS.ifNo X16.here hx rfl (hb hby at_75) rfl ((if0 _ _).trans (feq c75_17).1) ?_; exact k) ?_
      show Go p e below _ (T16.setTop (mkF m 78 #[.val (.int p0), .val (.int p1), .val (.int p2), .val (.int (0 : Int32)), .val (.int (350 : Int32)), .val (.int (own_max p0 p1)), .val (.int (1 : Int32)), .unset] []))
      refine go (fun t k => by refine XS.iconst X16.here hx rfl (hb hby at_78) ?_; exact k) ?_
      show Go p e below _ (T16.setTop (mkF m 79 #[.val (.int p0), .val (.int p1), .val (.int p2), .val (.int (0 : Int32)), .val (.int (350 : Int32)), .val (.int (own_max p0 p1)), .val (.int (1 : Int32)), .unset] [(.int (1 : Int32))]))
      refine go (fun t k => by refine XS.goto X16.here hx rfl (pc0 := 79) (pc' := 83) rfl (hb hby at_79) (by decide) (by decide) ?_; exact k) ?_
      show Go p e below _ (T16.setTop (mkF m 83 #[.val (.int p0), .val (.int p1), .val (.int p2), .val (.int (0 : Int32)), .val (.int (350 : Int32)), .val (.int (own_max p0 p1)), .val (.int (1 : Int32)), .unset] [(.int (1 : Int32))]))
      refine go (fun t k => by refine XS.istore X16.here hx rfl (hb hby at_83) rfl (l' := #[.val (.int p0), .val (.int p1), .val (.int p2), .val (.int (0 : Int32)), .val (.int (350 : Int32)), .val (.int (own_max p0 p1)), .val (.int (1 : Int32)), .val (.int (1 : Int32))]) rfl ?_; exact k) ?_
      show Go p e below _ (T16.setTop (mkF m 85 #[.val (.int p0), .val (.int p1), .val (.int p2), .val (.int (0 : Int32)), .val (.int (350 : Int32)), .val (.int (own_max p0 p1)), .val (.int (1 : Int32)), .val (.int (1 : Int32))] []))
      refine go (fun t k => by refine XS.iload X16.here hx rfl (hb hby at_85) rfl ?_; exact k) ?_
      show Go p e below _ (T16.setTop (mkF m 87 #[.val (.int p0), .val (.int p1), .val (.int p2), .val (.int (0 : Int32)), .val (.int (350 : Int32)), .val (.int (own_max p0 p1)), .val (.int (1 : Int32)), .val (.int (1 : Int32))] [(.int (1 : Int32))]))
      have c87_18 : ¬ ((1 : Int32) = (0 : Int32)) := by decide
      refine go (fun t k => by refine XS.ifNo X16.here hx rfl (hb hby at_87) rfl ((if0 _ _).trans (feq c87_18).1) ?_; exact k) ?_
      show Go p e below _ (T16.setTop (mkF m 90 #[.val (.int p0), .val (.int p1), .val (.int p2), .val (.int (0 : Int32)), .val (.int (350 : Int32)), .val (.int (own_max p0 p1)), .val (.int (1 : Int32)), .val (.int (1 : Int32))] []))
      refine go (fun t k => by refine XS.iload X16.here hx rfl (hb hby at_90) rfl ?_; exact k) ?_
      show Go p e below _ (T16.setTop (mkF m 92 #[.val (.int p0), .val (.int p1), .val (.int p2), .val (.int (0 : Int32)), .val (.int (350 : Int32)), .val (.int (own_max p0 p1)), .val (.int (1 : Int32)), .val (.int (1 : Int32))] [(.int (1 : Int32))]))
      have c92_19 : ¬ ((1 : Int32) = (0 : Int32)) := by decide
      refine go (fun t k => by refine XS.ifNo X16.here hx rfl (hb hby at_92) rfl ((if0 _ _).trans (feq c92_19).1) ?_; exact k) ?_
      show Go p e below _ (T16.setTop (mkF m 95 #[.val (.int p0), .val (.int p1), .val (.int p2), .val (.int (0 : Int32)), .val (.int (350 : Int32)), .val (.int (own_max p0 p1)), .val (.int (1 : Int32)), .val (.int (1 : Int32))] []))
      refine go (fun t k => by refine XS.iconst X16.here hx rfl (hb hby at_95) ?_; exact k) ?_
      show Go p e below _ (T16.setTop (mkF m 96 #[.val (.int p0), .val (.int p1), .val (.int p2), .val (.int (0 : Int32)), .val (.int (350 : Int32)), .val (.int (own_max p0 p1)), .val (.int (1 : Int32)), .val (.int (1 : Int32))] [(.int (1 : Int32))]))
      refine go (fun t k => by refine XS.goto X16.here hx rfl (pc0 := 96) (pc' := 100) rfl (hb hby at_96) (by decide) (by decide) ?_; exact k) ?_
      show Go p e below _ (T16.setTop (mkF m 100 #[.val (.int p0), .val (.int p1), .val (.int p2), .val (.int (0 : Int32)), .val (.int (350 : Int32)), .val (.int (own_max p0 p1)), .val (.int (1 : Int32)), .val (.int (1 : Int32))] [(.int (1 : Int32))]))
      refine goOut X16 (fun h => by rw [Bd.returns] at h; cases h) hlk (fun fs hr => retN X16 hx (t := .boolean) Bd.returns (by simp) (hb hby at_100) hr) (by decide) (by decide) ?_
      rw [e16]
      exact ⟨rfl, N16⟩
  · skip
    refine go (fun t k => by refine XS.ifNo X0.here hx rfl (hb hby at_3) rfl ((if0 _ _).trans (feq c3_1).1) ?_; exact k) ?_
    show Go p e below _ (s₁.setTop (mkF m 6 #[.val (.int p0), .val (.int p1), .val (.int p2), .unset, .unset, .unset, .unset, .unset] []))
    refine go (fun t k => by refine XS.iconst X0.here hx rfl (hb hby at_6) ?_; exact k) ?_
    show Go p e below _ (s₁.setTop (mkF m 7 #[.val (.int p0), .val (.int p1), .val (.int p2), .unset, .unset, .unset, .unset, .unset] [(.int (1 : Int32))]))
    refine go (fun t k => by refine XS.goto X0.here hx rfl (pc0 := 7) (pc' := 11) rfl (hb hby at_7) (by decide) (by decide) ?_; exact k) ?_
    show Go p e below _ (s₁.setTop (mkF m 11 #[.val (.int p0), .val (.int p1), .val (.int p2), .unset, .unset, .unset, .unset, .unset] [(.int (1 : Int32))]))
    refine go (fun t k => by refine XS.istoreN X0.here hx rfl (hb hby at_11) rfl (l' := #[.val (.int p0), .val (.int p1), .val (.int p2), .val (.int (1 : Int32)), .unset, .unset, .unset, .unset]) rfl ?_; exact k) ?_
    show Go p e below _ (s₁.setTop (mkF m 12 #[.val (.int p0), .val (.int p1), .val (.int p2), .val (.int (1 : Int32)), .unset, .unset, .unset, .unset] []))
    refine go (fun t k => by refine XS.iloadN X0.here hx rfl (hb hby at_12) rfl ?_; exact k) ?_
    show Go p e below _ (s₁.setTop (mkF m 13 #[.val (.int p0), .val (.int p1), .val (.int p2), .val (.int (1 : Int32)), .unset, .unset, .unset, .unset] [(.int (1 : Int32))]))
    have c13_20 : ¬ ((1 : Int32) = (0 : Int32)) := by decide
    refine go (fun t k => by refine XS.ifNo X0.here hx rfl (hb hby at_13) rfl ((if0 _ _).trans (feq c13_20).1) ?_; exact k) ?_
    show Go p e below _ (s₁.setTop (mkF m 16 #[.val (.int p0), .val (.int p1), .val (.int p2), .val (.int (1 : Int32)), .unset, .unset, .unset, .unset] []))
    refine go (fun t k => by refine XS.sipush X0.here hx rfl (hb hby at_16) ?_; exact k) ?_
    show Go p e below _ (s₁.setTop (mkF m 19 #[.val (.int p0), .val (.int p1), .val (.int p2), .val (.int (1 : Int32)), .unset, .unset, .unset, .unset] [(.int (513 : Int32))]))
    refine go (fun t k => by refine XS.goto X0.here hx rfl (pc0 := 19) (pc' := 25) rfl (hb hby at_19) (by decide) (by decide) ?_; exact k) ?_
    show Go p e below _ (s₁.setTop (mkF m 25 #[.val (.int p0), .val (.int p1), .val (.int p2), .val (.int (1 : Int32)), .unset, .unset, .unset, .unset] [(.int (513 : Int32))]))
    refine go (fun t k => by refine XS.istore X0.here hx rfl (hb hby at_25) rfl (l' := #[.val (.int p0), .val (.int p1), .val (.int p2), .val (.int (1 : Int32)), .val (.int (513 : Int32)), .unset, .unset, .unset]) rfl ?_; exact k) ?_
    show Go p e below _ (s₁.setTop (mkF m 27 #[.val (.int p0), .val (.int p1), .val (.int p2), .val (.int (1 : Int32)), .val (.int (513 : Int32)), .unset, .unset, .unset] []))
    refine go (fun t k => by refine XS.iloadN X0.here hx rfl (hb hby at_27) rfl ?_; exact k) ?_
    show Go p e below _ (s₁.setTop (mkF m 28 #[.val (.int p0), .val (.int p1), .val (.int p2), .val (.int (1 : Int32)), .val (.int (513 : Int32)), .unset, .unset, .unset] [(.int p0)]))
    refine go (fun t k => by refine XS.iloadN X0.here hx rfl (hb hby at_28) rfl ?_; exact k) ?_
    show Go p e below _ (s₁.setTop (mkF m 29 #[.val (.int p0), .val (.int p1), .val (.int p2), .val (.int (1 : Int32)), .val (.int (513 : Int32)), .unset, .unset, .unset] [(.int p1), (.int p0)]))
    obtain ⟨_, _, ⟨T21, L21, k21, n21⟩, -, X21, ⟨Lc21, hQ21, l21, y21, z21⟩, st21⟩ := Jvm.LawKit.callS X0 hx (y := (⟨"java/lang/Math", "max", "(II)I"⟩ : MethodName)) hown (mvT hZ (hw _ (List.mem_of_getElem? (i := 0) rfl))) (mvT hZ (hw _ (List.mem_of_getElem? (i := 1) rfl))) (mvT hZ (hw _ (List.mem_of_getElem? (i := 2) rfl))) (mvT hZ (hw _ (List.mem_of_getElem? (i := 3) rfl))) (by decide) (backOf (W := 0) (rm1 l Z a0 hw [] p0 p1 h0 n0 Z0) hZ (hw _ (List.mem_of_getElem? (i := 3) rfl)) (hw _ (List.mem_of_getElem? (i := 2) rfl)) (by decide) (by decide)) (g := (mkF m 29 #[.val (.int p0), .val (.int p1), .val (.int p2), .val (.int (1 : Int32)), .val (.int (513 : Int32)), .unset, .unset, .unset] [(.int p1), (.int p0)])) rfl (by rw [hml]; rfl) (argsL := [(.int p0), (.int p1)]) (rest := []) (lenOf pd_0 rfl) rfl (by show 2 * 0 + _ ≤ _; exact Nat.le_of_eq rfl) (hb hby at_29) (fun _ _ => ⟨rfl, e0, (by decide : 0 + 0 ≤ _), (by decide : 0 + 0 ≤ _)⟩)
    dsimp only [Pt.U, Pt.locs, Pt.cells, Pt.slots] at X21 l21 y21 z21 st21 hQ21
    subst l21 y21 z21
    obtain ⟨rfl, N21q, e21⟩ := hQ21
    have N21 := Fr.app N0 N21q
    refine go st21 ?_
    show Go p e below _ (T21.setTop (mkF m 32 #[.val (.int p0), .val (.int p1), .val (.int p2), .val (.int (1 : Int32)), .val (.int (513 : Int32)), .unset, .unset, .unset] [(.int (own_max p0 p1))]))
    refine go (fun t k => by refine XS.istore X21.here hx rfl (hb hby at_32) rfl (l' := #[.val (.int p0), .val (.int p1), .val (.int p2), .val (.int (1 : Int32)), .val (.int (513 : Int32)), .val (.int (own_max p0 p1)), .unset, .unset]) rfl ?_; exact k) ?_
    show Go p e below _ (T21.setTop (mkF m 34 #[.val (.int p0), .val (.int p1), .val (.int p2), .val (.int (1 : Int32)), .val (.int (513 : Int32)), .val (.int (own_max p0 p1)), .unset, .unset] []))
    refine go (fun t k => by refine XS.iloadN X21.here hx rfl (hb hby at_34) rfl ?_; exact k) ?_
    show Go p e below _ (T21.setTop (mkF m 35 #[.val (.int p0), .val (.int p1), .val (.int p2), .val (.int (1 : Int32)), .val (.int (513 : Int32)), .val (.int (own_max p0 p1)), .unset, .unset] [(.int p0)]))
    refine go (fun t k => by refine XS.iloadN X21.here hx rfl (hb hby at_35) rfl ?_; exact k) ?_
    show Go p e below _ (T21.setTop (mkF m 36 #[.val (.int p0), .val (.int p1), .val (.int p2), .val (.int (1 : Int32)), .val (.int (513 : Int32)), .val (.int (own_max p0 p1)), .unset, .unset] [(.int (1 : Int32)), (.int p0)]))
    obtain ⟨_, _, ⟨T22, L22, k22, n22⟩, -, X22, ⟨Lc22, hQ22, l22, y22, z22⟩, st22⟩ := Jvm.LawKit.callS X21 hx (y := (⟨"com/example/longhand/longhand/kernels/Karatsuba", "splits", "(IZ)Z"⟩ : MethodName)) hown (mvT hZ (hw _ (List.mem_of_getElem? (i := 4) rfl))) (mvT hZ (hw _ (List.mem_of_getElem? (i := 5) rfl))) (mvT hZ (hw _ (List.mem_of_getElem? (i := 6) rfl))) (mvT hZ (hw _ (List.mem_of_getElem? (i := 7) rfl))) (by decide) (backOf (W := 0) (rm2 l Z a0 hw [] p0 (1 : Int32) h0 n0 Z0) hZ (hw _ (List.mem_of_getElem? (i := 7) rfl)) (hw _ (List.mem_of_getElem? (i := 6) rfl)) (by decide) (by decide)) (g := (mkF m 36 #[.val (.int p0), .val (.int p1), .val (.int p2), .val (.int (1 : Int32)), .val (.int (513 : Int32)), .val (.int (own_max p0 p1)), .unset, .unset] [(.int (1 : Int32)), (.int p0)])) rfl (by rw [hml]; rfl) (argsL := [(.int p0), (.int (1 : Int32))]) (rest := []) (lenOf pd_1 rfl) rfl (by show 2 * 0 + _ ≤ _; exact Nat.le_of_eq rfl) (hb hby at_36) (fun _ _ => ⟨rfl, e21, (by decide : 0 + 0 ≤ _), (by decide : 0 + 0 ≤ _)⟩)
    dsimp only [Pt.U, Pt.locs, Pt.cells, Pt.slots] at X22 l22 y22 z22 st22 hQ22
    subst l22 y22 z22
    obtain ⟨rfl, N22q, e22⟩ := hQ22
    have N22 := Fr.app N21 N22q
    refine go st22 ?_
    show Go p e below _ (T22.setTop (mkF m 39 #[.val (.int p0), .val (.int p1), .val (.int p2), .val (.int (1 : Int32)), .val (.int (513 : Int32)), .val (.int (own_max p0 p1)), .unset, .unset] [(.int (own_sp p0 (1 : Int32)))]))
    by_cases c39_23 : (own_sp p0 (1 : Int32)) = (0 : Int32)
    · skip
      refine go (fun t k => by refine XS.ifYes X22.here hx rfl (pc0 := 39) (pc' := 51) rfl (hb hby at_39) rfl ((if0 _ _).trans (teq c39_23).1) (by decide) (by decide) ?_; exact k) ?_
      show Go p e below _ (T22.setTop (mkF m 51 #[.val (.int p0), .val (.int p1), .val (.int p2), .val (.int (1 : Int32)), .val (.int (513 : Int32)), .val (.int (own_max p0 p1)), .unset, .unset] []))
      refine go (fun t k => by refine XS.iconst X22.here hx rfl (hb hby at_51) ?_; exact k) ?_
      show Go p e below _ (T22.setTop (mkF m 52 #[.val (.int p0), .val (.int p1), .val (.int p2), .val (.int (1 : Int32)), .val (.int (513 : Int32)), .val (.int (own_max p0 p1)), .unset, .unset] [(.int (1 : Int32))]))
      refine go (fun t k => by refine XS.goto X22.here hx rfl (pc0 := 52) (pc' := 56) rfl (hb hby at_52) (by decide) (by decide) ?_; exact k) ?_
      show Go p e below _ (T22.setTop (mkF m 56 #[.val (.int p0), .val (.int p1), .val (.int p2), .val (.int (1 : Int32)), .val (.int (513 : Int32)), .val (.int (own_max p0 p1)), .unset, .unset] [(.int (1 : Int32))]))
      refine go (fun t k => by refine XS.istore X22.here hx rfl (hb hby at_56) rfl (l' := #[.val (.int p0), .val (.int p1), .val (.int p2), .val (.int (1 : Int32)), .val (.int (513 : Int32)), .val (.int (own_max p0 p1)), .val (.int (1 : Int32)), .unset]) rfl ?_; exact k) ?_
      show Go p e below _ (T22.setTop (mkF m 58 #[.val (.int p0), .val (.int p1), .val (.int p2), .val (.int (1 : Int32)), .val (.int (513 : Int32)), .val (.int (own_max p0 p1)), .val (.int (1 : Int32)), .unset] []))
      refine go (fun t k => by refine XS.iload X22.here hx rfl (hb hby at_58) rfl ?_; exact k) ?_
      show Go p e below _ (T22.setTop (mkF m 60 #[.val (.int p0), .val (.int p1), .val (.int p2), .val (.int (1 : Int32)), .val (.int (513 : Int32)), .val (.int (own_max p0 p1)), .val (.int (1 : Int32)), .unset] [(.int (513 : Int32))]))
      refine go (fun t k => by refine XS.iconst X22.here hx rfl (hb hby at_60) ?_; exact k) ?_
      show Go p e below _ (T22.setTop (mkF m 61 #[.val (.int p0), .val (.int p1), .val (.int p2), .val (.int (1 : Int32)), .val (.int (513 : Int32)), .val (.int (own_max p0 p1)), .val (.int (1 : Int32)), .unset] [(.int (1 : Int32)), (.int (513 : Int32))]))
      refine go (fun t k => by refine XS.isub X22.here hx rfl (hb hby at_61) rfl ?_; exact k) ?_
      show Go p e below _ (T22.setTop (mkF m 62 #[.val (.int p0), .val (.int p1), .val (.int p2), .val (.int (1 : Int32)), .val (.int (513 : Int32)), .val (.int (own_max p0 p1)), .val (.int (1 : Int32)), .unset] [(.int ((513 : Int32) - (1 : Int32)))]))
      refine go (fun t k => by refine XS.iloadN X22.here hx rfl (hb hby at_62) rfl ?_; exact k) ?_
      show Go p e below _ (T22.setTop (mkF m 63 #[.val (.int p0), .val (.int p1), .val (.int p2), .val (.int (1 : Int32)), .val (.int (513 : Int32)), .val (.int (own_max p0 p1)), .val (.int (1 : Int32)), .unset] [(.int (1 : Int32)), (.int ((513 : Int32) - (1 : Int32)))]))
      obtain ⟨_, _, ⟨T24, L24, k24, n24⟩, -, X24, ⟨Lc24, hQ24, l24, y24, z24⟩, st24⟩ := Jvm.LawKit.callS X22 hx (y := (⟨"com/example/longhand/longhand/kernels/Karatsuba", "splits", "(IZ)Z"⟩ : MethodName)) hown (mvT hZ (hw _ (List.mem_of_getElem? (i := 4) rfl))) (mvT hZ (hw _ (List.mem_of_getElem? (i := 5) rfl))) (mvT hZ (hw _ (List.mem_of_getElem? (i := 6) rfl))) (mvT hZ (hw _ (List.mem_of_getElem? (i := 7) rfl))) (by decide) (backOf (W := 0) (rm2 l Z a0 hw [] ((513 : Int32) - (1 : Int32)) (1 : Int32) h0 n0 Z0) hZ (hw _ (List.mem_of_getElem? (i := 7) rfl)) (hw _ (List.mem_of_getElem? (i := 6) rfl)) (by decide) (by decide)) (g := (mkF m 63 #[.val (.int p0), .val (.int p1), .val (.int p2), .val (.int (1 : Int32)), .val (.int (513 : Int32)), .val (.int (own_max p0 p1)), .val (.int (1 : Int32)), .unset] [(.int (1 : Int32)), (.int ((513 : Int32) - (1 : Int32)))])) rfl (by rw [hml]; rfl) (argsL := [(.int ((513 : Int32) - (1 : Int32))), (.int (1 : Int32))]) (rest := []) (lenOf pd_1 rfl) rfl (by show 2 * 0 + _ ≤ _; exact Nat.le_of_eq rfl) (hb hby at_63) (fun _ _ => ⟨rfl, e22, (by decide : 0 + 0 ≤ _), (by decide : 0 + 0 ≤ _)⟩)
      dsimp only [Pt.U, Pt.locs, Pt.cells, Pt.slots] at X24 l24 y24 z24 st24 hQ24
      subst l24 y24 z24
      obtain ⟨rfl, N24q, e24⟩ := hQ24
      have N24 := Fr.app N22 N24q
      refine go st24 ?_
      show Go p e below _ (T24.setTop (mkF m 66 #[.val (.int p0), .val (.int p1), .val (.int p2), .val (.int (1 : Int32)), .val (.int (513 : Int32)), .val (.int (own_max p0 p1)), .val (.int (1 : Int32)), .unset] [(.int (own_sp ((513 : Int32) - (1 : Int32)) (1 : Int32)))]))
      have c66_25 : ¬ (¬ (own_sp ((513 : Int32) - (1 : Int32)) (1 : Int32)) = (0 : Int32)) := not_not_intro (by decide)
      refine go (fun t k => by refine XS.ifNo X24.here hx rfl (hb hby at_66) rfl ((if0 _ _).trans (teq (Decidable.not_not.mp c66_25)).2) ?_; exact k) ?_
      show Go p e below _ (T24.setTop (mkF m 69 #[.val (.int p0), .val (.int p1), .val (.int p2), .val (.int (1 : Int32)), .val (.int (513 : Int32)), .val (.int (own_max p0 p1)), .val (.int (1 : Int32)), .unset] []))
      refine go (fun t k => by refine XS.iload X24.here hx rfl (hb hby at_69) rfl ?_; exact k) ?_
      show Go p e below _ (T24.setTop (mkF m 71 #[.val (.int p0), .val (.int p1), .val (.int p2), .val (.int (1 : Int32)), .val (.int (513 : Int32)), .val (.int (own_max p0 p1)), .val (.int (1 : Int32)), .unset] [(.int (513 : Int32))]))
      refine go (fun t k => by refine XS.iloadN X24.here hx rfl (hb hby at_71) rfl ?_; exact k) ?_
      show Go p e below _ (T24.setTop (mkF m 72 #[.val (.int p0), .val (.int p1), .val (.int p2), .val (.int (1 : Int32)), .val (.int (513 : Int32)), .val (.int (own_max p0 p1)), .val (.int (1 : Int32)), .unset] [(.int (1 : Int32)), (.int (513 : Int32))]))
      obtain ⟨_, _, ⟨T26, L26, k26, n26⟩, -, X26, ⟨Lc26, hQ26, l26, y26, z26⟩, st26⟩ := Jvm.LawKit.callS X24 hx (y := (⟨"com/example/longhand/longhand/kernels/Karatsuba", "splits", "(IZ)Z"⟩ : MethodName)) hown (mvT hZ (hw _ (List.mem_of_getElem? (i := 4) rfl))) (mvT hZ (hw _ (List.mem_of_getElem? (i := 5) rfl))) (mvT hZ (hw _ (List.mem_of_getElem? (i := 6) rfl))) (mvT hZ (hw _ (List.mem_of_getElem? (i := 7) rfl))) (by decide) (backOf (W := 0) (rm2 l Z a0 hw [] (513 : Int32) (1 : Int32) h0 n0 Z0) hZ (hw _ (List.mem_of_getElem? (i := 7) rfl)) (hw _ (List.mem_of_getElem? (i := 6) rfl)) (by decide) (by decide)) (g := (mkF m 72 #[.val (.int p0), .val (.int p1), .val (.int p2), .val (.int (1 : Int32)), .val (.int (513 : Int32)), .val (.int (own_max p0 p1)), .val (.int (1 : Int32)), .unset] [(.int (1 : Int32)), (.int (513 : Int32))])) rfl (by rw [hml]; rfl) (argsL := [(.int (513 : Int32)), (.int (1 : Int32))]) (rest := []) (lenOf pd_1 rfl) rfl (by show 2 * 0 + _ ≤ _; exact Nat.le_of_eq rfl) (hb hby at_72) (fun _ _ => ⟨rfl, e24, (by decide : 0 + 0 ≤ _), (by decide : 0 + 0 ≤ _)⟩)
      dsimp only [Pt.U, Pt.locs, Pt.cells, Pt.slots] at X26 l26 y26 z26 st26 hQ26
      subst l26 y26 z26
      obtain ⟨rfl, N26q, e26⟩ := hQ26
      have N26 := Fr.app N24 N26q
      refine go st26 ?_
      show Go p e below _ (T26.setTop (mkF m 75 #[.val (.int p0), .val (.int p1), .val (.int p2), .val (.int (1 : Int32)), .val (.int (513 : Int32)), .val (.int (own_max p0 p1)), .val (.int (1 : Int32)), .unset] [(.int (own_sp (513 : Int32) (1 : Int32)))]))
      have c75_27 : ¬ ((own_sp (513 : Int32) (1 : Int32)) = (0 : Int32)) := by decide
      refine go (fun t k => by refine XS.ifNo X26.here hx rfl (hb hby at_75) rfl ((if0 _ _).trans (feq c75_27).1) ?_; exact k) ?_
      show Go p e below _ (T26.setTop (mkF m 78 #[.val (.int p0), .val (.int p1), .val (.int p2), .val (.int (1 : Int32)), .val (.int (513 : Int32)), .val (.int (own_max p0 p1)), .val (.int (1 : Int32)), .unset] []))
      refine go (fun t k => by refine XS.iconst X26.here hx rfl (hb hby at_78) ?_; exact k) ?_
      show Go p e below _ (T26.setTop (mkF m 79 #[.val (.int p0), .val (.int p1), .val (.int p2), .val (.int (1 : Int32)), .val (.int (513 : Int32)), .val (.int (own_max p0 p1)), .val (.int (1 : Int32)), .unset] [(.int (1 : Int32))]))
      refine go (fun t k => by refine XS.goto X26.here hx rfl (pc0 := 79) (pc' := 83) rfl (hb hby at_79) (by decide) (by decide) ?_; exact k) ?_
      show Go p e below _ (T26.setTop (mkF m 83 #[.val (.int p0), .val (.int p1), .val (.int p2), .val (.int (1 : Int32)), .val (.int (513 : Int32)), .val (.int (own_max p0 p1)), .val (.int (1 : Int32)), .unset] [(.int (1 : Int32))]))
      refine go (fun t k => by refine XS.istore X26.here hx rfl (hb hby at_83) rfl (l' := #[.val (.int p0), .val (.int p1), .val (.int p2), .val (.int (1 : Int32)), .val (.int (513 : Int32)), .val (.int (own_max p0 p1)), .val (.int (1 : Int32)), .val (.int (1 : Int32))]) rfl ?_; exact k) ?_
      show Go p e below _ (T26.setTop (mkF m 85 #[.val (.int p0), .val (.int p1), .val (.int p2), .val (.int (1 : Int32)), .val (.int (513 : Int32)), .val (.int (own_max p0 p1)), .val (.int (1 : Int32)), .val (.int (1 : Int32))] []))
      refine go (fun t k => by refine XS.iload X26.here hx rfl (hb hby at_85) rfl ?_; exact k) ?_
      show Go p e below _ (T26.setTop (mkF m 87 #[.val (.int p0), .val (.int p1), .val (.int p2), .val (.int (1 : Int32)), .val (.int (513 : Int32)), .val (.int (own_max p0 p1)), .val (.int (1 : Int32)), .val (.int (1 : Int32))] [(.int (1 : Int32))]))
      have c87_28 : ¬ ((1 : Int32) = (0 : Int32)) := by decide
      refine go (fun t k => by refine XS.ifNo X26.here hx rfl (hb hby at_87) rfl ((if0 _ _).trans (feq c87_28).1) ?_; exact k) ?_
      show Go p e below _ (T26.setTop (mkF m 90 #[.val (.int p0), .val (.int p1), .val (.int p2), .val (.int (1 : Int32)), .val (.int (513 : Int32)), .val (.int (own_max p0 p1)), .val (.int (1 : Int32)), .val (.int (1 : Int32))] []))
      refine go (fun t k => by refine XS.iload X26.here hx rfl (hb hby at_90) rfl ?_; exact k) ?_
      show Go p e below _ (T26.setTop (mkF m 92 #[.val (.int p0), .val (.int p1), .val (.int p2), .val (.int (1 : Int32)), .val (.int (513 : Int32)), .val (.int (own_max p0 p1)), .val (.int (1 : Int32)), .val (.int (1 : Int32))] [(.int (1 : Int32))]))
      have c92_29 : ¬ ((1 : Int32) = (0 : Int32)) := by decide
      refine go (fun t k => by refine XS.ifNo X26.here hx rfl (hb hby at_92) rfl ((if0 _ _).trans (feq c92_29).1) ?_; exact k) ?_
      show Go p e below _ (T26.setTop (mkF m 95 #[.val (.int p0), .val (.int p1), .val (.int p2), .val (.int (1 : Int32)), .val (.int (513 : Int32)), .val (.int (own_max p0 p1)), .val (.int (1 : Int32)), .val (.int (1 : Int32))] []))
      refine go (fun t k => by refine XS.iconst X26.here hx rfl (hb hby at_95) ?_; exact k) ?_
      show Go p e below _ (T26.setTop (mkF m 96 #[.val (.int p0), .val (.int p1), .val (.int p2), .val (.int (1 : Int32)), .val (.int (513 : Int32)), .val (.int (own_max p0 p1)), .val (.int (1 : Int32)), .val (.int (1 : Int32))] [(.int (1 : Int32))]))
      refine go (fun t k => by refine XS.goto X26.here hx rfl (pc0 := 96) (pc' := 100) rfl (hb hby at_96) (by decide) (by decide) ?_; exact k) ?_
      show Go p e below _ (T26.setTop (mkF m 100 #[.val (.int p0), .val (.int p1), .val (.int p2), .val (.int (1 : Int32)), .val (.int (513 : Int32)), .val (.int (own_max p0 p1)), .val (.int (1 : Int32)), .val (.int (1 : Int32))] [(.int (1 : Int32))]))
      refine goOut X26 (fun h => by rw [Bd.returns] at h; cases h) hlk (fun fs hr => retN X26 hx (t := .boolean) Bd.returns (by simp) (hb hby at_100) hr) (by decide) (by decide) ?_
      rw [e26]
      exact ⟨rfl, N26⟩
    · skip
      refine go (fun t k => by refine XS.ifNo X22.here hx rfl (hb hby at_39) rfl ((if0 _ _).trans (feq c39_23).1) ?_; exact k) ?_
      show Go p e below _ (T22.setTop (mkF m 42 #[.val (.int p0), .val (.int p1), .val (.int p2), .val (.int (1 : Int32)), .val (.int (513 : Int32)), .val (.int (own_max p0 p1)), .unset, .unset] []))
      refine go (fun t k => by refine XS.iload X22.here hx rfl (hb hby at_42) rfl ?_; exact k) ?_
      show Go p e below _ (T22.setTop (mkF m 44 #[.val (.int p0), .val (.int p1), .val (.int p2), .val (.int (1 : Int32)), .val (.int (513 : Int32)), .val (.int (own_max p0 p1)), .unset, .unset] [(.int (own_max p0 p1))]))
      refine go (fun t k => by refine XS.iloadN X22.here hx rfl (hb hby at_44) rfl ?_; exact k) ?_
      show Go p e below _ (T22.setTop (mkF m 45 #[.val (.int p0), .val (.int p1), .val (.int p2), .val (.int (1 : Int32)), .val (.int (513 : Int32)), .val (.int (own_max p0 p1)), .unset, .unset] [(.int (1 : Int32)), (.int (own_max p0 p1))]))
      obtain ⟨_, _, ⟨T30, L30, k30, n30⟩, -, X30, ⟨Lc30, hQ30, l30, y30, z30⟩, st30⟩ := Jvm.LawKit.callS X22 hx (y := (⟨"com/example/longhand/longhand/kernels/Karatsuba", "splits", "(IZ)Z"⟩ : MethodName)) hown (mvT hZ (hw _ (List.mem_of_getElem? (i := 4) rfl))) (mvT hZ (hw _ (List.mem_of_getElem? (i := 5) rfl))) (mvT hZ (hw _ (List.mem_of_getElem? (i := 6) rfl))) (mvT hZ (hw _ (List.mem_of_getElem? (i := 7) rfl))) (by decide) (backOf (W := 0) (rm2 l Z a0 hw [] (own_max p0 p1) (1 : Int32) h0 n0 Z0) hZ (hw _ (List.mem_of_getElem? (i := 7) rfl)) (hw _ (List.mem_of_getElem? (i := 6) rfl)) (by decide) (by decide)) (g := (mkF m 45 #[.val (.int p0), .val (.int p1), .val (.int p2), .val (.int (1 : Int32)), .val (.int (513 : Int32)), .val (.int (own_max p0 p1)), .unset, .unset] [(.int (1 : Int32)), (.int (own_max p0 p1))])) rfl (by rw [hml]; rfl) (argsL := [(.int (own_max p0 p1)), (.int (1 : Int32))]) (rest := []) (lenOf pd_1 rfl) rfl (by show 2 * 0 + _ ≤ _; exact Nat.le_of_eq rfl) (hb hby at_45) (fun _ _ => ⟨rfl, e22, (by decide : 0 + 0 ≤ _), (by decide : 0 + 0 ≤ _)⟩)
      dsimp only [Pt.U, Pt.locs, Pt.cells, Pt.slots] at X30 l30 y30 z30 st30 hQ30
      subst l30 y30 z30
      obtain ⟨rfl, N30q, e30⟩ := hQ30
      have N30 := Fr.app N22 N30q
      refine go st30 ?_
      show Go p e below _ (T30.setTop (mkF m 48 #[.val (.int p0), .val (.int p1), .val (.int p2), .val (.int (1 : Int32)), .val (.int (513 : Int32)), .val (.int (own_max p0 p1)), .unset, .unset] [(.int (own_sp (own_max p0 p1) (1 : Int32)))]))
      have c48_31 : ¬ ((own_sp (own_max p0 p1) (1 : Int32)) = (0 : Int32)) := own_mono _ _ _ c39_23
      refine go (fun t k => by refine XS.ifNo X30.here hx rfl (hb hby at_48) rfl ((if0 _ _).trans (feq c48_31).1) ?_; exact k) ?_
      show Go p e below _ (T30.setTop (mkF m 51 #[.val (.int p0), .val (.int p1), .val (.int p2), .val (.int (1 : Int32)), .val (.int (513 : Int32)), .val (.int (own_max p0 p1)), .unset, .unset] []))
      refine go (fun t k => by refine XS.iconst X30.here hx rfl (hb hby at_51) ?_; exact k) ?_
      show Go p e below _ (T30.setTop (mkF m 52 #[.val (.int p0), .val (.int p1), .val (.int p2), .val (.int (1 : Int32)), .val (.int (513 : Int32)), .val (.int (own_max p0 p1)), .unset, .unset] [(.int (1 : Int32))]))
      refine go (fun t k => by refine XS.goto X30.here hx rfl (pc0 := 52) (pc' := 56) rfl (hb hby at_52) (by decide) (by decide) ?_; exact k) ?_
      show Go p e below _ (T30.setTop (mkF m 56 #[.val (.int p0), .val (.int p1), .val (.int p2), .val (.int (1 : Int32)), .val (.int (513 : Int32)), .val (.int (own_max p0 p1)), .unset, .unset] [(.int (1 : Int32))]))
      refine go (fun t k => by refine XS.istore X30.here hx rfl (hb hby at_56) rfl (l' := #[.val (.int p0), .val (.int p1), .val (.int p2), .val (.int (1 : Int32)), .val (.int (513 : Int32)), .val (.int (own_max p0 p1)), .val (.int (1 : Int32)), .unset]) rfl ?_; exact k) ?_
      show Go p e below _ (T30.setTop (mkF m 58 #[.val (.int p0), .val (.int p1), .val (.int p2), .val (.int (1 : Int32)), .val (.int (513 : Int32)), .val (.int (own_max p0 p1)), .val (.int (1 : Int32)), .unset] []))
      refine go (fun t k => by refine XS.iload X30.here hx rfl (hb hby at_58) rfl ?_; exact k) ?_
      show Go p e below _ (T30.setTop (mkF m 60 #[.val (.int p0), .val (.int p1), .val (.int p2), .val (.int (1 : Int32)), .val (.int (513 : Int32)), .val (.int (own_max p0 p1)), .val (.int (1 : Int32)), .unset] [(.int (513 : Int32))]))
      refine go (fun t k => by refine XS.iconst X30.here hx rfl (hb hby at_60) ?_; exact k) ?_
      show Go p e below _ (T30.setTop (mkF m 61 #[.val (.int p0), .val (.int p1), .val (.int p2), .val (.int (1 : Int32)), .val (.int (513 : Int32)), .val (.int (own_max p0 p1)), .val (.int (1 : Int32)), .unset] [(.int (1 : Int32)), (.int (513 : Int32))]))
      refine go (fun t k => by refine XS.isub X30.here hx rfl (hb hby at_61) rfl ?_; exact k) ?_
      show Go p e below _ (T30.setTop (mkF m 62 #[.val (.int p0), .val (.int p1), .val (.int p2), .val (.int (1 : Int32)), .val (.int (513 : Int32)), .val (.int (own_max p0 p1)), .val (.int (1 : Int32)), .unset] [(.int ((513 : Int32) - (1 : Int32)))]))
      refine go (fun t k => by refine XS.iloadN X30.here hx rfl (hb hby at_62) rfl ?_; exact k) ?_
      show Go p e below _ (T30.setTop (mkF m 63 #[.val (.int p0), .val (.int p1), .val (.int p2), .val (.int (1 : Int32)), .val (.int (513 : Int32)), .val (.int (own_max p0 p1)), .val (.int (1 : Int32)), .unset] [(.int (1 : Int32)), (.int ((513 : Int32) - (1 : Int32)))]))
      obtain ⟨_, _, ⟨T32, L32, k32, n32⟩, -, X32, ⟨Lc32, hQ32, l32, y32, z32⟩, st32⟩ := Jvm.LawKit.callS X30 hx (y := (⟨"com/example/longhand/longhand/kernels/Karatsuba", "splits", "(IZ)Z"⟩ : MethodName)) hown (mvT hZ (hw _ (List.mem_of_getElem? (i := 4) rfl))) (mvT hZ (hw _ (List.mem_of_getElem? (i := 5) rfl))) (mvT hZ (hw _ (List.mem_of_getElem? (i := 6) rfl))) (mvT hZ (hw _ (List.mem_of_getElem? (i := 7) rfl))) (by decide) (backOf (W := 0) (rm2 l Z a0 hw [] ((513 : Int32) - (1 : Int32)) (1 : Int32) h0 n0 Z0) hZ (hw _ (List.mem_of_getElem? (i := 7) rfl)) (hw _ (List.mem_of_getElem? (i := 6) rfl)) (by decide) (by decide)) (g := (mkF m 63 #[.val (.int p0), .val (.int p1), .val (.int p2), .val (.int (1 : Int32)), .val (.int (513 : Int32)), .val (.int (own_max p0 p1)), .val (.int (1 : Int32)), .unset] [(.int (1 : Int32)), (.int ((513 : Int32) - (1 : Int32)))])) rfl (by rw [hml]; rfl) (argsL := [(.int ((513 : Int32) - (1 : Int32))), (.int (1 : Int32))]) (rest := []) (lenOf pd_1 rfl) rfl (by show 2 * 0 + _ ≤ _; exact Nat.le_of_eq rfl) (hb hby at_63) (fun _ _ => ⟨rfl, e30, (by decide : 0 + 0 ≤ _), (by decide : 0 + 0 ≤ _)⟩)
      dsimp only [Pt.U, Pt.locs, Pt.cells, Pt.slots] at X32 l32 y32 z32 st32 hQ32
      subst l32 y32 z32
      obtain ⟨rfl, N32q, e32⟩ := hQ32
      have N32 := Fr.app N30 N32q
      refine go st32 ?_
      show Go p e below _ (T32.setTop (mkF m 66 #[.val (.int p0), .val (.int p1), .val (.int p2), .val (.int (1 : Int32)), .val (.int (513 : Int32)), .val (.int (own_max p0 p1)), .val (.int (1 : Int32)), .unset] [(.int (own_sp ((513 : Int32) - (1 : Int32)) (1 : Int32)))]))
      have c66_33 : ¬ (¬ (own_sp ((513 : Int32) - (1 : Int32)) (1 : Int32)) = (0 : Int32)) := not_not_intro (by decide)
      refine go (fun t k => by refine XS.ifNo X32.here hx rfl (hb hby at_66) rfl ((if0 _ _).trans (teq (Decidable.not_not.mp c66_33)).2) ?_; exact k) ?_
      show Go p e below _ (T32.setTop (mkF m 69 #[.val (.int p0), .val (.int p1), .val (.int p2), .val (.int (1 : Int32)), .val (.int (513 : Int32)), .val (.int (own_max p0 p1)), .val (.int (1 : Int32)), .unset] []))
      refine go (fun t k => by refine XS.iload X32.here hx rfl (hb hby at_69) rfl ?_; exact k) ?_
      show Go p e below _ (T32.setTop (mkF m 71 #[.val (.int p0), .val (.int p1), .val (.int p2), .val (.int (1 : Int32)), .val (.int (513 : Int32)), .val (.int (own_max p0 p1)), .val (.int (1 : Int32)), .unset] [(.int (513 : Int32))]))
      refine go (fun t k => by refine XS.iloadN X32.here hx rfl (hb hby at_71) rfl ?_; exact k) ?_
      show Go p e below _ (T32.setTop (mkF m 72 #[.val (.int p0), .val (.int p1), .val (.int p2), .val (.int (1 : Int32)), .val (.int (513 : Int32)), .val (.int (own_max p0 p1)), .val (.int (1 : Int32)), .unset] [(.int (1 : Int32)), (.int (513 : Int32))]))
      obtain ⟨_, _, ⟨T34, L34, k34, n34⟩, -, X34, ⟨Lc34, hQ34, l34, y34, z34⟩, st34⟩ := Jvm.LawKit.callS X32 hx (y := (⟨"com/example/longhand/longhand/kernels/Karatsuba", "splits", "(IZ)Z"⟩ : MethodName)) hown (mvT hZ (hw _ (List.mem_of_getElem? (i := 4) rfl))) (mvT hZ (hw _ (List.mem_of_getElem? (i := 5) rfl))) (mvT hZ (hw _ (List.mem_of_getElem? (i := 6) rfl))) (mvT hZ (hw _ (List.mem_of_getElem? (i := 7) rfl))) (by decide) (backOf (W := 0) (rm2 l Z a0 hw [] (513 : Int32) (1 : Int32) h0 n0 Z0) hZ (hw _ (List.mem_of_getElem? (i := 7) rfl)) (hw _ (List.mem_of_getElem? (i := 6) rfl)) (by decide) (by decide)) (g := (mkF m 72 #[.val (.int p0), .val (.int p1), .val (.int p2), .val (.int (1 : Int32)), .val (.int (513 : Int32)), .val (.int (own_max p0 p1)), .val (.int (1 : Int32)), .unset] [(.int (1 : Int32)), (.int (513 : Int32))])) rfl (by rw [hml]; rfl) (argsL := [(.int (513 : Int32)), (.int (1 : Int32))]) (rest := []) (lenOf pd_1 rfl) rfl (by show 2 * 0 + _ ≤ _; exact Nat.le_of_eq rfl) (hb hby at_72) (fun _ _ => ⟨rfl, e32, (by decide : 0 + 0 ≤ _), (by decide : 0 + 0 ≤ _)⟩)
      dsimp only [Pt.U, Pt.locs, Pt.cells, Pt.slots] at X34 l34 y34 z34 st34 hQ34
      subst l34 y34 z34
      obtain ⟨rfl, N34q, e34⟩ := hQ34
      have N34 := Fr.app N32 N34q
      refine go st34 ?_
      show Go p e below _ (T34.setTop (mkF m 75 #[.val (.int p0), .val (.int p1), .val (.int p2), .val (.int (1 : Int32)), .val (.int (513 : Int32)), .val (.int (own_max p0 p1)), .val (.int (1 : Int32)), .unset] [(.int (own_sp (513 : Int32) (1 : Int32)))]))
      have c75_35 : ¬ ((own_sp (513 : Int32) (1 : Int32)) = (0 : Int32)) := by decide
      refine go (fun t k => by refine XS.ifNo X34.here hx rfl (hb hby at_75) rfl ((if0 _ _).trans (feq c75_35).1) ?_; exact k) ?_
      show Go p e below _ (T34.setTop (mkF m 78 #[.val (.int p0), .val (.int p1), .val (.int p2), .val (.int (1 : Int32)), .val (.int (513 : Int32)), .val (.int (own_max p0 p1)), .val (.int (1 : Int32)), .unset] []))
      refine go (fun t k => by refine XS.iconst X34.here hx rfl (hb hby at_78) ?_; exact k) ?_
      show Go p e below _ (T34.setTop (mkF m 79 #[.val (.int p0), .val (.int p1), .val (.int p2), .val (.int (1 : Int32)), .val (.int (513 : Int32)), .val (.int (own_max p0 p1)), .val (.int (1 : Int32)), .unset] [(.int (1 : Int32))]))
      refine go (fun t k => by refine XS.goto X34.here hx rfl (pc0 := 79) (pc' := 83) rfl (hb hby at_79) (by decide) (by decide) ?_; exact k) ?_
      show Go p e below _ (T34.setTop (mkF m 83 #[.val (.int p0), .val (.int p1), .val (.int p2), .val (.int (1 : Int32)), .val (.int (513 : Int32)), .val (.int (own_max p0 p1)), .val (.int (1 : Int32)), .unset] [(.int (1 : Int32))]))
      refine go (fun t k => by refine XS.istore X34.here hx rfl (hb hby at_83) rfl (l' := #[.val (.int p0), .val (.int p1), .val (.int p2), .val (.int (1 : Int32)), .val (.int (513 : Int32)), .val (.int (own_max p0 p1)), .val (.int (1 : Int32)), .val (.int (1 : Int32))]) rfl ?_; exact k) ?_
      show Go p e below _ (T34.setTop (mkF m 85 #[.val (.int p0), .val (.int p1), .val (.int p2), .val (.int (1 : Int32)), .val (.int (513 : Int32)), .val (.int (own_max p0 p1)), .val (.int (1 : Int32)), .val (.int (1 : Int32))] []))
      refine go (fun t k => by refine XS.iload X34.here hx rfl (hb hby at_85) rfl ?_; exact k) ?_
      show Go p e below _ (T34.setTop (mkF m 87 #[.val (.int p0), .val (.int p1), .val (.int p2), .val (.int (1 : Int32)), .val (.int (513 : Int32)), .val (.int (own_max p0 p1)), .val (.int (1 : Int32)), .val (.int (1 : Int32))] [(.int (1 : Int32))]))
      have c87_36 : ¬ ((1 : Int32) = (0 : Int32)) := by decide
      refine go (fun t k => by refine XS.ifNo X34.here hx rfl (hb hby at_87) rfl ((if0 _ _).trans (feq c87_36).1) ?_; exact k) ?_
      show Go p e below _ (T34.setTop (mkF m 90 #[.val (.int p0), .val (.int p1), .val (.int p2), .val (.int (1 : Int32)), .val (.int (513 : Int32)), .val (.int (own_max p0 p1)), .val (.int (1 : Int32)), .val (.int (1 : Int32))] []))
      refine go (fun t k => by refine XS.iload X34.here hx rfl (hb hby at_90) rfl ?_; exact k) ?_
      show Go p e below _ (T34.setTop (mkF m 92 #[.val (.int p0), .val (.int p1), .val (.int p2), .val (.int (1 : Int32)), .val (.int (513 : Int32)), .val (.int (own_max p0 p1)), .val (.int (1 : Int32)), .val (.int (1 : Int32))] [(.int (1 : Int32))]))
      have c92_37 : ¬ ((1 : Int32) = (0 : Int32)) := by decide
      refine go (fun t k => by refine XS.ifNo X34.here hx rfl (hb hby at_92) rfl ((if0 _ _).trans (feq c92_37).1) ?_; exact k) ?_
      show Go p e below _ (T34.setTop (mkF m 95 #[.val (.int p0), .val (.int p1), .val (.int p2), .val (.int (1 : Int32)), .val (.int (513 : Int32)), .val (.int (own_max p0 p1)), .val (.int (1 : Int32)), .val (.int (1 : Int32))] []))
      refine go (fun t k => by refine XS.iconst X34.here hx rfl (hb hby at_95) ?_; exact k) ?_
      show Go p e below _ (T34.setTop (mkF m 96 #[.val (.int p0), .val (.int p1), .val (.int p2), .val (.int (1 : Int32)), .val (.int (513 : Int32)), .val (.int (own_max p0 p1)), .val (.int (1 : Int32)), .val (.int (1 : Int32))] [(.int (1 : Int32))]))
      refine go (fun t k => by refine XS.goto X34.here hx rfl (pc0 := 96) (pc' := 100) rfl (hb hby at_96) (by decide) (by decide) ?_; exact k) ?_
      show Go p e below _ (T34.setTop (mkF m 100 #[.val (.int p0), .val (.int p1), .val (.int p2), .val (.int (1 : Int32)), .val (.int (513 : Int32)), .val (.int (own_max p0 p1)), .val (.int (1 : Int32)), .val (.int (1 : Int32))] [(.int (1 : Int32))]))
      refine goOut X34 (fun h => by rw [Bd.returns] at h; cases h) hlk (fun fs hr => retN X34 hx (t := .boolean) Bd.returns (by simp) (hb hby at_100) hr) (by decide) (by decide) ?_
      rw [e34]
      exact ⟨rfl, N34⟩
set_option maxRecDepth 65536 in
set_option maxHeartbeats 40000000 in
theorem comes_1 {Post : Tables → Env → Array Value → State → Outcome → State → Prop} (hpost : ∀ tb e args s v u, (limb_1_1.after args s (.returned v) u = true ∧ limb_1_2.after args s (.returned v) u = true ∧ True) → FrameEnd s (.returned v) u (Jvm.fieldLocs frame_1_writes args s ++ Jvm.arrayLocs frame_1_arrays args s ++ Jvm.staticLocs frame_1_statics s) 0 0 → Post tb e args s (.returned v) u) :
    ArmFor flags0 classFile x code maxLocals ret World_1 tables_1 room_1 Calls_1 rest_1 Pre_1 Post := by
  intro l hfl _ _ p e ha hc hk s m args below hf hA hF happ hP
  obtain ⟨hcalls, hrest, hpre⟩ := hP
  obtain ⟨-, -, -, hnamed, -, -, -, hat⟩ := (Spec.applies_iff hf).mp happ
  obtain ⟨hg, hn⟩ := and_e (Cond.before_iff.mp (show (Jvm.Cond.and given_1 narrow_1).before args s = true from hpre))
  obtain ⟨g1, g2⟩ := and_e hg
  obtain ⟨g3, g4⟩ := and_e g2
  obtain ⟨g5, g6⟩ := and_e g4
  obtain ⟨w0, w1, w2, rfl⟩ : ∃ w0 w1 w2 : Value, args = #[w0, w1, w2] := by
    have hs : args.size = 3 := by simpa [Cond.value, given_1] using g1
    obtain ⟨L⟩ := args
    match L, hs with
    | [w0, w1, w2], _ => exact ⟨w0, w1, w2, rfl⟩
  have hw := fun d (hd : d ∈ tables_1) => atoms_spec (ws := Jvm.Cond.code x code maxLocals ret :: tables_1) hat d (List.mem_cons_of_mem _ hd)
  have hfit : Fit s := fun {y c} hc i hi => by
    obtain ⟨ha, rfl⟩ := Array.getElem?_eq_some_iff.mp hc
    have q := List.all_eq_true.mp ((Array.all_eq_true_iff_forall_mem.mp hF) _ (Array.getElem_mem ha)) i (List.mem_range.mpr hi)
    simpa [Array.getElem?_eq_getElem hi] using q
  obtain ⟨i0, ei0⟩ := is_v g3
  obtain rfl : w0 = (.int i0) := Option.some.inj ei0
  obtain ⟨i1, ei1⟩ := is_v g5
  obtain rfl : w1 = (.int i1) := Option.some.inj ei1
  obtain ⟨i2, ei2⟩ := is_v g6
  obtain rfl : w2 = (.int i2) := Option.some.inj ei2
  obtain ⟨n, o, h1, h2, h3, _, L, rfl, ⟨rfl, N⟩, hq⟩ := rm0 l s _ hw tables_1 i0 i1 i2  s.heap s.heap.size (Nat.le_refl _)  p e ha hc hk s m _ below hf ((Spec.applies_iff_loose hf).mp happ).1 ⟨rfl, State.Warmed39.refl s, rfl⟩ trivial
  refine ⟨n, _, h1, h2, h3, hpost _ _ _ _ _ _ ⟨Cond.after_iff.mpr rfl, Cond.after_iff.mpr (eq_i res_at (Term.int_eval (1)) rfl), trivial⟩ ⟨hq.1, hq.2.1, (hq.2.2.sift fun y hy => Or.inr (N y hy)).mono (by decide) (by decide)⟩⟩
theorem main_1_1 : Claimed_1_1 := comes_1 fun _ _ _ _ _ _ h hF => ⟨h.1, hF⟩
theorem main_1_2 : Claimed_1_2 := comes_1 fun _ _ _ _ _ _ h hF => ⟨h.2.1, hF⟩
end Jvm.Pilot.@@N@@
namespace Jvm.Pilot.@@N@@
open Jvm Jvm.ClassFile Sem Op Lib Jvm.Free Jvm.Stand Jvm.Pilot.@@N@@.Jvm.D
/-! MADE BY PROGRAM (witnessworld.py) out of the Statement's table words and the real class files: 10 classes; the members and pool entries that the words name. The judged class is class 1, her method 1. -/
namespace start1
open Jvm.ClassFile
def u (s : String) : CpInfo := .utf8 (stringToUtf16 s)
/-- a pool by its gaps: so many unusable entries, then the entry; so many at the end -/
def gap : Nat → List CpInfo → List CpInfo
  | 0, r => r
  | n + 1, r => .unusable :: gap n r
def poolList (es : List (Nat × CpInfo)) (last : Nat) : List CpInfo := es.foldr (fun e r => gap e.1 (e.2 :: r)) (gap last [])
def pool (es : List (Nat × CpInfo)) (last : Nat) : Array CpInfo := ⟨poolList es last⟩
def fileOf (pool : Array CpInfo) (this : Nat) (attrs : Array Attribute := #[]) (ms : Array MethodInfo := #[]) (fl : Nat := 33) (sup : Nat := 0) (ifs : Array Nat := #[]) (fds : Array FieldInfo := #[]) : ClassFile where
  minorVersion := 0
  majorVersion := 65
  constantPool := pool
  accessFlags := fl
  thisClass := this
  superClass := sup
  interfaces := ifs
  fields := fds
  methods := ms
  attributes := attrs
def plain (name : String) (sup : Option ClassId) : Class where
  name := name
  kind := .ordinary
  loader := none
  accessFlags := 33
  super := sup
  interfaces := #[]
  cf := none
  fields := #[]
  methods := #[]
  instanceTypes := #[]
  staticTypes := #[]
  resolved := #[]
  callSites := []
  init := .initialized
  statics := none
  mirror := none

def pool0 : Array CpInfo := pool [(5, u "<init>"), (0, u "()V"), (1, .class_ 10), (1, u "java/lang/Object")] 113

def k0m0 : Method := { name := "<init>", desc := "()V", sig := { parameters := [], returnType := none }, accessFlags := 1, code := none }
/-- java/lang/Object -/
def k0 : Class := { plain "java/lang/Object" none with
  accessFlags := 33
  interfaces := #[]
  cf := some (fileOf pool0 8 #[] #[{ accessFlags := 1, nameIndex := 5, descriptorIndex := 6, attributes := #[] }] 33 0 #[] #[])
  fields := #[]
  methods := #[k0m0]
  instanceTypes := #[]
  staticTypes := #[]
  resolved := Array.replicate 124 none
  statics := none }

def pool1 : Array CpInfo := pool [(2, .class_ 4), (1, u "java/lang/Object"), (0, u "<init>"), (0, u "()V"), (0, .class_ 8), (0, u "com/example/longhand/longhand/kernels/Karatsuba"), (0, .methodref 10 11), (0, .class_ 12), (0, .nameAndType 13 14), (0, u "java/lang/Math"), (0, u "max"), (0, u "(II)I"), (0, .methodref 7 16), (0, .nameAndType 17 18), (0, u "splits"), (0, u "(IZ)Z"), (0, .class_ 20), (0, u "com/example/longhand/longhand/kernels/KaratsubaSplitsPinLaw"), (2, u "law"), (0, u "(III)Z")] 3

def k1m0 : Method := { name := "<init>", desc := "()V", sig := { parameters := [], returnType := none }, accessFlags := 2, code := none }
def k1c1 : Code := { maxStack := 2, maxLocals := 8, code := code, exceptionTable := #[], attributes := #[] }
def k1m1 : Method := { name := "law", desc := "(III)Z", sig := { parameters := [.int, .int, .int], returnType := some .boolean }, accessFlags := 9, code := some k1c1 }
/-- com/example/longhand/longhand/kernels/KaratsubaSplitsPinLaw -/
def k1 : Class := { plain "com/example/longhand/longhand/kernels/KaratsubaSplitsPinLaw" (some 0) with
  accessFlags := 49
  interfaces := #[]
  cf := some (fileOf pool1 19 #[] #[{ accessFlags := 2, nameIndex := 5, descriptorIndex := 6, attributes := #[] }, { accessFlags := 9, nameIndex := 23, descriptorIndex := 24, attributes := #[] }] 49 2 #[] #[])
  fields := #[]
  methods := #[k1m0, k1m1]
  instanceTypes := #[]
  staticTypes := #[]
  resolved := Array.replicate 28 none
  statics := none }

def pool2 : Array CpInfo := pool [(1, .class_ 2), (0, u "java/lang/Math"), (1, .class_ 6), (1, u "java/lang/Object"), (0, u "<init>"), (0, u "()V"), (89, .class_ 100), (1, u "java/lang/Math$RandomNumberGeneratorHolder"), (71, u "negativeZeroFloatBits"), (0, u "J"), (2, u "negativeZeroDoubleBits"), (21, u "max"), (46, u "$assertionsDisabled"), (0, u "Z"), (88, u "(II)I"), (2, u "twoToTheDoubleScaleDown"), (0, u "D"), (4, u "twoToTheDoubleScaleUp"), (9, u "E"), (3, u "PI"), (2, u "TAU"), (2, u "DEGREES_TO_RADIANS"), (0, u "RADIANS_TO_DEGREES")] 94

def k2m0 : Method := { name := "<init>", desc := "()V", sig := { parameters := [], returnType := none }, accessFlags := 2, code := none }
def k2c1 : Code := { maxStack := 2, maxLocals := 2, code := jdk_29_method_65_code, exceptionTable := #[], attributes := #[] }
def k2m1 : Method := { name := "max", desc := "(II)I", sig := { parameters := [.int, .int], returnType := some .int }, accessFlags := 9, code := some k2c1 }
/-- java/lang/Math -/
def k2 : Class := { plain "java/lang/Math" (some 0) with
  accessFlags := 49
  interfaces := #[]
  cf := some (fileOf pool2 1 #[.nestMembers #[98]] #[{ accessFlags := 2, nameIndex := 7, descriptorIndex := 8, attributes := #[] }, { accessFlags := 9, nameIndex := 198, descriptorIndex := 335, attributes := #[] }] 49 4 #[] #[{ accessFlags := 25, nameIndex := 354, descriptorIndex := 339, attributes := #[] }, { accessFlags := 25, nameIndex := 358, descriptorIndex := 339, attributes := #[] }, { accessFlags := 25, nameIndex := 361, descriptorIndex := 339, attributes := #[] }, { accessFlags := 26, nameIndex := 364, descriptorIndex := 339, attributes := #[] }, { accessFlags := 26, nameIndex := 365, descriptorIndex := 339, attributes := #[] }, { accessFlags := 26, nameIndex := 172, descriptorIndex := 173, attributes := #[] }, { accessFlags := 26, nameIndex := 176, descriptorIndex := 173, attributes := #[] }, { accessFlags := 8, nameIndex := 344, descriptorIndex := 339, attributes := #[] }, { accessFlags := 8, nameIndex := 338, descriptorIndex := 339, attributes := #[] }, { accessFlags := 4120, nameIndex := 245, descriptorIndex := 246, attributes := #[] }])
  fields := #[{ name := "E", type := .double, accessFlags := 25, slot := 0, constantValue := 0 }, { name := "PI", type := .double, accessFlags := 25, slot := 1, constantValue := 0 }, { name := "TAU", type := .double, accessFlags := 25, slot := 2, constantValue := 0 }, { name := "DEGREES_TO_RADIANS", type := .double, accessFlags := 26, slot := 3, constantValue := 0 }, { name := "RADIANS_TO_DEGREES", type := .double, accessFlags := 26, slot := 4, constantValue := 0 }, { name := "negativeZeroFloatBits", type := .long, accessFlags := 26, slot := 5, constantValue := 0 }, { name := "negativeZeroDoubleBits", type := .long, accessFlags := 26, slot := 6, constantValue := 0 }, { name := "twoToTheDoubleScaleUp", type := .double, accessFlags := 8, slot := 7, constantValue := 0 }, { name := "twoToTheDoubleScaleDown", type := .double, accessFlags := 8, slot := 8, constantValue := 0 }, { name := "$assertionsDisabled", type := .boolean, accessFlags := 4120, slot := 9, constantValue := 0 }]
  methods := #[k2m0, k2m1]
  instanceTypes := #[]
  staticTypes := #[.double, .double, .double, .double, .double, .long, .long, .double, .double, .boolean]
  resolved := Array.replicate 460 none
  statics := none }

def pool3 : Array CpInfo := pool [(2, .class_ 4), (1, u "java/lang/Object"), (0, u "<init>"), (0, u "()V"), (9, .class_ 17), (0, u "com/example/longhand/longhand/kernels/Karatsuba"), (8, u "splits"), (0, u "(IZ)Z"), (56, u "THRESHOLD"), (0, u "I"), (2, u "SQUARE_THRESHOLD")] 30

def k3m0 : Method := { name := "<init>", desc := "()V", sig := { parameters := [], returnType := none }, accessFlags := 2, code := none }
def k3c1 : Code := { maxStack := 2, maxLocals := 2, code := prog_14_method_3_code, exceptionTable := #[], attributes := #[] }
def k3m1 : Method := { name := "splits", desc := "(IZ)Z", sig := { parameters := [.int, .boolean], returnType := some .boolean }, accessFlags := 8, code := some k3c1 }
/-- com/example/longhand/longhand/kernels/Karatsuba -/
def k3 : Class := { plain "com/example/longhand/longhand/kernels/Karatsuba" (some 0) with
  accessFlags := 49
  interfaces := #[]
  cf := some (fileOf pool3 16 #[] #[{ accessFlags := 2, nameIndex := 5, descriptorIndex := 6, attributes := #[] }, { accessFlags := 8, nameIndex := 26, descriptorIndex := 27, attributes := #[] }] 49 2 #[] #[{ accessFlags := 24, nameIndex := 84, descriptorIndex := 85, attributes := #[] }, { accessFlags := 24, nameIndex := 88, descriptorIndex := 85, attributes := #[] }])
  fields := #[{ name := "THRESHOLD", type := .int, accessFlags := 24, slot := 0, constantValue := 0 }, { name := "SQUARE_THRESHOLD", type := .int, accessFlags := 24, slot := 1, constantValue := 0 }]
  methods := #[k3m0, k3m1]
  instanceTypes := #[]
  staticTypes := #[.int, .int]
  resolved := Array.replicate 119 none
  statics := none }

def pool4 : Array CpInfo := pool [(1, u "java/lang/Cloneable"), (0, .class_ 1), (0, u "java/lang/Object"), (0, .class_ 3)] 3

/-- java/lang/Cloneable -/
def k4 : Class := { plain "java/lang/Cloneable" (some 0) with
  accessFlags := 1537
  interfaces := #[]
  cf := some (fileOf pool4 2 #[] #[] 1537 4 #[] #[])
  fields := #[]
  methods := #[]
  instanceTypes := #[]
  staticTypes := #[]
  resolved := Array.replicate 8 none
  statics := none }

def pool5 : Array CpInfo := pool [(1, u "java/io/Serializable"), (0, .class_ 1), (0, u "java/lang/Object"), (0, .class_ 3)] 3

/-- java/io/Serializable -/
def k5 : Class := { plain "java/io/Serializable" (some 0) with
  accessFlags := 1537
  interfaces := #[]
  cf := some (fileOf pool5 2 #[] #[] 1537 4 #[] #[])
  fields := #[]
  methods := #[]
  instanceTypes := #[]
  staticTypes := #[]
  resolved := Array.replicate 8 none
  statics := none }

/-- the primitive byte -/
def k6 : Class := { plain "byte" none with kind := .primitive 'B', accessFlags := 0x411 }
/-- [B -/
def k7 : Class := { plain "[B" (some 0) with kind := .array 6 .byte, interfaces := #[4, 5], accessFlags := 1041 }

/-- the primitive int -/
def k8 : Class := { plain "int" none with kind := .primitive 'I', accessFlags := 0x411 }
/-- [I -/
def k9 : Class := { plain "[I" (some 0) with kind := .array 8 .int, interfaces := #[4, 5], accessFlags := 1041 }

def heap : Heap := #[]
def classes : Array Class := #[k0, k1, k2, k3, k4, k5, k6, k7, k8, k9]
def interned : List (Array UInt16 × Addr) := []
def slotsUsed : Nat := 0
def theMethod : MethodId := ⟨1, 1⟩
def args0 : Array Value := #[.int 5, .int 7, .int 3]
def aboutOver (below : List Frame) : State where
  vm := { classes := classes, interned := interned.toArray }
  heap := heap
  slotsUsed := slotsUsed
  threads := #[{ frames := .invoking theMethod args0 :: below }]
def below0 : List Frame := [.native { method := ⟨0, 0⟩, args := #[] }]
def about1 : State := aboutOver below0
def p0 : Program := .bare "" "" ""
def e0 : Env := launch0.env 0 0 0
theorem w_frames : about1.frames = Frame.invoking theMethod args0 :: below0 := rfl
set_option maxRecDepth 65536 in
theorem w_args : argsFit about1.vm theMethod args0 = true := by decide +kernel
set_option maxRecDepth 65536 in
theorem w_heap : heapFits about1 = true := by decide +kernel
set_option maxRecDepth 65536 in
theorem w_runnable : about1.curStatus? = some .runnable := by decide +kernel
set_option maxRecDepth 65536 in
theorem w_alone : about1.alone = true := by decide +kernel
set_option maxRecDepth 65536 in
theorem w_named : about1.methodNamed? x = some theMethod := by decide +kernel
set_option maxRecDepth 65536 in
theorem w_hears : about1.hears theMethod below0 = true := by decide +kernel
set_option maxRecDepth 65536 in
theorem w_ripe : about1.ripe theMethod args0 below0 = true := by decide +kernel
theorem w_running : about1.status = .running := rfl
set_option maxRecDepth 65536 in
theorem w_room : about1.hasRoom e0.platform room_1 = true :=
  launch0.hasRoom_least _ room_1 (by decide +kernel) (by decide +kernel) (by decide +kernel) (by decide +kernel) (by decide +kernel) (by decide +kernel)
theorem allAtoms_all (ts : List Jvm.Cond) (a : Array Jvm.Value) (st : Jvm.State) : (allAtoms ts).before a st = ts.all (fun c => c.before a st) := by
  induction ts with
  | nil => rfl
  | cons c t ih =>
    show (Jvm.Cond.and c (allAtoms t)).before a st = _
    rw [Jvm.Cond.before_and, ih, List.all_cons]
def words1 : List Jvm.Cond := Jvm.Cond.code x code maxLocals ret :: tables_1
/-- a 'code' word, met by the world's own term for the bytes: nothing is compared byte by byte -/
theorem code_word {y : MethodName} {bytes : ByteArray} {mx : Nat} {rt : Option FieldType} {a : Array Value} {s : State} {m : MethodId} {meth : Method} {c : Code} (h1 : s.methodNamed? y = some m) (h2 : s.vm.method? m = some meth) (h3 : meth.code = some c) (h4 : c.code = bytes)
    (h5 : (c.maxLocals == mx && c.exceptionTable.isEmpty && decide (c.maxStack ≤ mostOperands) && decide (meth.sig.returnType = rt) && !meth.locks && decide (parseMethodDescriptor y.desc = some meth.sig)) = true) : (Jvm.Cond.code y bytes mx rt).before a s = true := by
  simp only [Bool.and_eq_true, beq_iff_eq, Bool.not_eq_true', decide_eq_true_eq] at h5
  obtain ⟨⟨⟨⟨⟨g1, g2⟩, g3⟩, g4⟩, g5⟩, g6⟩ := h5
  simp [Cond.before, Cond.holds, Cond.value, h1, h2, h3, h4, g1, g2, g3, g4, g5, g6]
def isCode : Jvm.Cond → Bool
  | .code _ _ _ _ => true
  | _ => false
theorem all_split {L : List Jvm.Cond} {P : Jvm.Cond → Bool} (h1 : L.all (fun c => isCode c || P c) = true) (h2 : ∀ c ∈ L.filter isCode, P c = true) : L.all P = true := by
  refine List.all_eq_true.mpr fun c hc => ?_
  have h := List.all_eq_true.mp h1 c hc
  rcases Bool.eq_false_or_eq_true (isCode c) with hi | hi
  · exact h2 c (List.mem_filter.mpr ⟨hc, hi⟩)
  · simpa [hi] using h
set_option maxRecDepth 65536 in
theorem w_c0 : (Jvm.Cond.code x code maxLocals ret).before args0 about1 = true := code_word (m := ⟨1, 1⟩) (meth := k1m1) (c := k1c1) (by decide +kernel) rfl rfl rfl (by decide +kernel)
set_option maxRecDepth 65536 in
theorem w_c1 : (Jvm.Cond.code ({ cls := "java/lang/Math", name := "max", desc := "(II)I" } : Jvm.MethodName) jdk_29_method_65_code (2 : Nat) (Option.some Jvm.ClassFile.FieldType.int)).before args0 about1 = true := code_word (m := ⟨2, 1⟩) (meth := k2m1) (c := k2c1) (by decide +kernel) rfl rfl rfl (by decide +kernel)
set_option maxRecDepth 65536 in
theorem w_c2 : (Jvm.Cond.code ({ cls := "com/example/longhand/longhand/kernels/Karatsuba", name := "splits", desc := "(IZ)Z" } : Jvm.MethodName) prog_14_method_3_code (2 : Nat) (Option.some Jvm.ClassFile.FieldType.boolean)).before args0 about1 = true := code_word (m := ⟨3, 1⟩) (meth := k3m1) (c := k3c1) (by decide +kernel) rfl rfl rfl (by decide +kernel)
def codes1 : List Jvm.Cond := [Jvm.Cond.code x code maxLocals ret, Jvm.Cond.code ({ cls := "java/lang/Math", name := "max", desc := "(II)I" } : Jvm.MethodName) jdk_29_method_65_code (2 : Nat) (Option.some Jvm.ClassFile.FieldType.int), Jvm.Cond.code ({ cls := "com/example/longhand/longhand/kernels/Karatsuba", name := "splits", desc := "(IZ)Z" } : Jvm.MethodName) prog_14_method_3_code (2 : Nat) (Option.some Jvm.ClassFile.FieldType.boolean)]
set_option maxRecDepth 65536 in
theorem codes_eq : words1.filter isCode = codes1 := rfl
theorem w_codes : ∀ c ∈ words1.filter isCode, c.before args0 about1 = true := by
  rw [codes_eq]
  intro c hc
  simp only [codes1, List.mem_cons, List.not_mem_nil, or_false] at hc
  rcases hc with rfl | rfl | rfl
  · exact w_c0
  · exact w_c1
  · exact w_c2
set_option maxRecDepth 65536 in
theorem w_t1 : words1.all (fun c => isCode c || c.before args0 about1) = true := by decide +kernel
theorem w_tables : (allAtoms (Jvm.Cond.code x code maxLocals ret :: tables_1)).before args0 about1 = true := by
  rw [allAtoms_all]
  show words1.all (fun c => c.before args0 about1) = true
  refine all_split ?_ w_codes
  rw [w_t1]
set_option maxRecDepth 65536 in
theorem w_case : (Jvm.Cond.and given_1 narrow_1).before args0 about1 = true := by decide +kernel
theorem w_applies : (headSpec (Jvm.Cond.code x code maxLocals ret :: tables_1) room_1).applies x e0.platform about1 = true :=
  (Spec.applies_iff w_frames).mpr ⟨w_running, w_runnable, w_alone, w_named, w_hears, w_ripe, w_room, w_tables⟩
theorem atStart : AtStart classFile x code maxLocals ret World_1 tables_1 room_1 Calls_1 rest_1 Pre_1 launch0 p0 e0 about1 theMethod args0 below0 :=
  ⟨lists_1, trivial, launch0.admits_env _ _ _, launch0.least_env, fairChoices_fair.cas, fairChoices_fair.clock, w_frames, w_args, w_heap, w_applies, trivial, trivial, w_case⟩
end start1
theorem witness_1 : WitnessClaimed_1 := ⟨start1.p0, start1.e0, start1.about1, start1.theMethod, start1.args0, start1.below0, start1.atStart⟩
end Jvm.Pilot.@@N@@
