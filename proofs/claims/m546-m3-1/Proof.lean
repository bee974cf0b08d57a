import JvmDerived
import JvmDerived.Pilot.@@N@@Statement
import JvmDerived.Pilot.@@N@@Code
set_option linter.unusedVariables false
set_option linter.unusedSimpArgs false
namespace Jvm.RoadKit
open Sem ClassFile Op Lib Jvm.Stand Jvm.Free Jvm.LawKit
section Own
variable {p : Program} {l : Launch} {e : Env} {R : Room} {s : State} {m : MethodId} {args : Array Value} {below : List Frame} {meth : Method} {c : Code} {T : State} {locs : List Loc} {cells slots : Nat}
/-- from S the run comes to the end of the call, and K holds there -/
def Go (p : Program) (e : Env) (below : List Frame) (K : State → Outcome → Prop) (S : State) : Prop := ∃ s₂ o, Steps p.tables e below S s₂ ∧ s₂.status = .running ∧ Ended s₂ below o ∧ K s₂ o
def Kq (s : State) (Q : Option Value → Heap → List Loc → Prop) (k n : Nat) (t : State) (o : Outcome) : Prop := ∃ v L, o = .returned v ∧ Q v t.heap L ∧ FrameEnd s o t L k n
theorem go {K : State → Outcome → Prop} {S S' : State} (h : ∀ t, Steps p.tables e below S' t → Steps p.tables e below S t) (g : Go p e below K S') : Go p e below K S := by
  obtain ⟨t, o, h1, h2⟩ := g
  exact ⟨t, o, h _ h1, h2⟩
theorem goOut (X : Stand p l e R s m args below meth c T locs cells slots) {Q : Option Value → Heap → List Loc → Prop} {k n : Nat} {S : State} {v : Option Value} (hv : meth.sig.returnType = none → v = none) (hlocks : meth.locks = false)
    (hs : ∀ fs, (∀ (f : JFrame) (acts : List Action), f.method = m → f.locked = none → f.entered = [] → (doReturn e (T.setTop f) acts v).1 = T.setFrames fs) → Steps p.tables e below S (T.setFrames fs))
    (hk : cells ≤ k) (hn : slots ≤ n) (hq : Q v T.heap locs) : Go p e below (Kq s Q k n) S := by
  obtain ⟨fs, hr, hrun, hended, hW, hsame⟩ := X.leave (v := v) hv hlocks
  exact ⟨_, _, hs fs hr, hrun, hended, _, _, rfl, hq, ⟨_, rfl⟩, hW, hsame.mono hk hn⟩
end Own
end Jvm.RoadKit
namespace Jvm.Pilot.@@N@@
open Jvm Jvm.ClassFile Sem Op Lib Jvm.Free Jvm.Stand Jvm.LawKit Jvm.RoadKit Bundle Jvm.Pilot.@@N@@.Jvm.D
def own_lc (a b : Int64) : Int32 := if a < b then -1 else if a = b then 0 else 1
def own_cu (a b : Int64) : Int32 := own_lc (a + (-9223372036854775808 : Int64)) (b + (-9223372036854775808 : Int64))
def own_or (a b : Int64) : Int32 := if a = 0 ∨ b = 0 then 0 else own_cu a b
def own_ul (a b : Int64) : Int32 := if ¬ ((a.toUInt64 >>> ((1 : Int32) &&& 0x3f).toInt64.toUInt64).toInt64) = ((b.toUInt64 >>> ((1 : Int32) &&& 0x3f).toInt64.toUInt64).toInt64) then (if ((a.toUInt64 >>> ((1 : Int32) &&& 0x3f).toInt64.toUInt64).toInt64) < ((b.toUInt64 >>> ((1 : Int32) &&& 0x3f).toInt64.toUInt64).toInt64) then 1 else 0) else (if (a &&& (1 : Int64)) < (b &&& (1 : Int64)) then 1 else 0)
theorem own_or_same (a b : Int64) (h : a = b) : own_or a b = 0 := by
  subst h; unfold own_or own_cu own_lc; split
  · rfl
  · simp
theorem own_or_zero (a b : Int64) (h : a = 0 ∨ b = 0) : own_or a b = 0 := by unfold own_or; rw [if_pos h]
theorem own_ul_iff (a b : Int64) : (own_ul a b = 0 ↔ ¬ a.toInt % 18446744073709551616 < b.toInt % 18446744073709551616) := by
  have h1 := c_lushr a 1 1 (by decide) (by decide)
  have h2 := c_lushr b 1 1 (by decide) (by decide)
  have h3 := c_maskL a 1 1 (by decide) (by decide)
  have h4 := c_maskL b 1 1 (by decide) (by decide)
  unfold own_ul
  simp only [← Int64.toInt_inj, Int64.lt_iff_toInt_lt, h1, h2, h3, h4]
  repeat' split
  all_goals (constructor <;> intro q <;> first | (exfalso; revert q; decide) | omega | rfl)
theorem own_or_iff (a b : Int64) (ha : ¬ a = 0) (hb : ¬ b = 0) (hab : ¬ a = b) : (own_or a b < 0 ↔ a.toInt % 18446744073709551616 < b.toInt % 18446744073709551616) ∧ (0 < own_or a b ↔ ¬ a.toInt % 18446744073709551616 < b.toInt % 18446744073709551616) := by
  have r1 := rng64 a; have r2 := rng64 b
  have h1 := c_ladd a (-9223372036854775808 : Int64); have h2 := c_ladd b (-9223372036854775808 : Int64)
  have r3 := rng64 (a + (-9223372036854775808 : Int64)); have r4 := rng64 (b + (-9223372036854775808 : Int64))
  have e : (-9223372036854775808 : Int64).toInt = -9223372036854775808 := by decide
  rw [e] at h1 h2
  rw [← Int64.toInt_inj] at hab
  unfold own_or own_cu own_lc
  rw [if_neg (by simp [ha, hb])]
  simp only [← Int64.toInt_inj, Int64.lt_iff_toInt_lt]
  repeat' split
  all_goals (constructor <;> constructor <;> intro q <;> first | (exfalso; revert q; decide) | (exfalso; omega) | decide | omega)
theorem d3_0 : decode jdk_35_method_42_code 0 = .ok (.lload_n 0, 1) := by decide +kernel
theorem d3_1 : decode jdk_35_method_42_code 1 = .ok (.lload_n 2, 1) := by decide +kernel
theorem d3_2 : decode jdk_35_method_42_code 2 = .ok (.lcmp, 1) := by decide +kernel
theorem d3_3 : decode jdk_35_method_42_code 3 = .ok (.ifCond .ge 7, 3) := by decide +kernel
theorem d3_10 : decode jdk_35_method_42_code 10 = .ok (.lload_n 0, 1) := by decide +kernel
theorem d3_11 : decode jdk_35_method_42_code 11 = .ok (.lload_n 2, 1) := by decide +kernel
theorem d3_12 : decode jdk_35_method_42_code 12 = .ok (.lcmp, 1) := by decide +kernel
theorem d3_13 : decode jdk_35_method_42_code 13 = .ok (.ifCond .ne 7, 3) := by decide +kernel
theorem d3_20 : decode jdk_35_method_42_code 20 = .ok (.iconst 1, 1) := by decide +kernel
theorem d3_21 : decode jdk_35_method_42_code 21 = .ok (.ireturn, 1) := by decide +kernel
theorem d3_16 : decode jdk_35_method_42_code 16 = .ok (.iconst 0, 1) := by decide +kernel
theorem d3_17 : decode jdk_35_method_42_code 17 = .ok (.goto 4, 3) := by decide +kernel
theorem d3_6 : decode jdk_35_method_42_code 6 = .ok (.iconst (-1), 1) := by decide +kernel
theorem d3_7 : decode jdk_35_method_42_code 7 = .ok (.goto 14, 3) := by decide +kernel
theorem pn_java_lang_Long : plainName "java/lang/Long" = true := by first | (simp [plainName, overriddenIn]; done) | decide +kernel
theorem ef_rm3 (m : MethodId) (x0 : Int64) (x1 : Int64) : entryFrame m #[(.long x0), (.long x1)] 4 = mkF m 0 #[.val (.long x0), .second, .val (.long x1), .second] [] := by first | (simp [entryFrame, mkF, argsToLocals, Value.category]; done) | rfl
def Q3 (Z : State) (q0 : Int64) (q1 : Int64) (h0 : Heap) (n0 : Nat) (v : Option Value) (h : Heap) (L : List Loc) : Prop := v = some (.int (own_lc q0 q1)) ∧ Fr n0 L ∧ h = h0
set_option maxRecDepth 65536 in
set_option maxHeartbeats 40000000 in
theorem rm3 (l : Launch) (Z : State) (a0 : Array Value) (hw : ∀ d ∈ tables_1, d.before a0 Z = true) (ws : List Jvm.Cond) (q0 : Int64) (q1 : Int64)  (h0 : Heap) (n0 : Nat) (Z0 : n0 ≤ h0.size)  :
    MetFree l (⟨"java/lang/Long", "compare", "(JJ)I"⟩ : MethodName) (head1 (Jvm.Cond.code (⟨"java/lang/Long", "compare", "(JJ)I"⟩ : MethodName) jdk_35_method_42_code 4 (some .int) :: ws) ({ frames := 0, cells := 0, slots := 0, locals := 0 } : Room)) (fun av' U => av' = #[(.long q0), (.long q1)] ∧ Z.Warmed39 U.vm ∧ U.heap = h0) (fun _ _ _ _ _ => True) (fun _ U o U' => ∃ v L, o = .returned v ∧ Q3 Z q0 q1 h0 n0 v U'.heap L ∧ FrameEnd U o U' L ({ frames := 0, cells := 0, slots := 0, locals := 0 } : Room).cells ({ frames := 0, cells := 0, slots := 0, locals := 0 } : Room).slots) := by
  refine MetFree.of_bodySF (plainFor_of_name pn_java_lang_Long) hisR ?_
  intro p e s m args below meth c s₁ Bd hml0 hP hK
  obtain ⟨rfl, hZ, hh⟩ := hP
  have hx := Bd.exec
  have hby := Bd.bytes
  have hlk := Bd.notSynchronized
  have hml : c.maxLocals = 4 := hml0
  have hown : s.vm.findClass "java/lang/Long" = some m.cls := findClass_of_methodNamed Bd.named
  have hnm := (name_of_methodNamed Bd.named Bd.method).1
  have X0 : Stand p l e ({ frames := 0, cells := 0, slots := 0, locals := 0 } : Room) s m #[(.long q0), (.long q1)] below meth c s₁ [] 0 0 := Stand.of_body Bd
  have e0 : s₁.heap = h0 := by rw [← hh, Bd.state]; rfl
  have N0 := Fr.nil n0
  show Go p e below (Kq s (Q3 Z q0 q1 h0 n0) ({ frames := 0, cells := 0, slots := 0, locals := 0 } : Room).cells ({ frames := 0, cells := 0, slots := 0, locals := 0 } : Room).slots) _
  refine go (fun t k => castTop (ef_rm3 m q0 q1) k) ?_
  show Go p e below _ (s₁.setTop (mkF m 0 #[.val (.long q0), .second, .val (.long q1), .second] []))
  refine go (fun t k => by refine XS.lloadN X0.here hx rfl (hb hby d3_0) rfl ?_; exact k) ?_
  show Go p e below _ (s₁.setTop (mkF m 1 #[.val (.long q0), .second, .val (.long q1), .second] [(.long q0)]))
  refine go (fun t k => by refine XS.lloadN X0.here hx rfl (hb hby d3_1) rfl ?_; exact k) ?_
  show Go p e below _ (s₁.setTop (mkF m 2 #[.val (.long q0), .second, .val (.long q1), .second] [(.long q1), (.long q0)]))
  refine go (fun t k => by refine XS.lcmp X0.here hx rfl (hb hby d3_2) rfl ?_; exact k) ?_
  show Go p e below _ (s₁.setTop (mkF m 3 #[.val (.long q0), .second, .val (.long q1), .second] [(.int (lcmpW q0 q1))]))
  by_cases c3_1 : ¬ q0 < q1
  · skip
    refine go (fun t k => by refine XS.ifYes X0.here hx rfl (pc0 := 3) (pc' := 10) rfl (hb hby d3_3) rfl ((if0 _ _).trans (flt (fun q => c3_1 ((lw_lt _ _).mp q))).2.1) (by decide) (by decide) ?_; exact k) ?_
    show Go p e below _ (s₁.setTop (mkF m 10 #[.val (.long q0), .second, .val (.long q1), .second] []))
    refine go (fun t k => by refine XS.lloadN X0.here hx rfl (hb hby d3_10) rfl ?_; exact k) ?_
    show Go p e below _ (s₁.setTop (mkF m 11 #[.val (.long q0), .second, .val (.long q1), .second] [(.long q0)]))
    refine go (fun t k => by refine XS.lloadN X0.here hx rfl (hb hby d3_11) rfl ?_; exact k) ?_
    show Go p e below _ (s₁.setTop (mkF m 12 #[.val (.long q0), .second, .val (.long q1), .second] [(.long q1), (.long q0)]))
    refine go (fun t k => by refine XS.lcmp X0.here hx rfl (hb hby d3_12) rfl ?_; exact k) ?_
    show Go p e below _ (s₁.setTop (mkF m 13 #[.val (.long q0), .second, .val (.long q1), .second] [(.int (lcmpW q0 q1))]))
    by_cases c13_2 : ¬ q0 = q1
    · skip
      refine go (fun t k => by refine XS.ifYes X0.here hx rfl (pc0 := 13) (pc' := 20) rfl (hb hby d3_13) rfl ((if0 _ _).trans (feq (fun q => c13_2 ((lw_eq _ _).mp q))).2) (by decide) (by decide) ?_; exact k) ?_
      show Go p e below _ (s₁.setTop (mkF m 20 #[.val (.long q0), .second, .val (.long q1), .second] []))
      refine go (fun t k => by refine XS.iconst X0.here hx rfl (hb hby d3_20) ?_; exact k) ?_
      show Go p e below _ (s₁.setTop (mkF m 21 #[.val (.long q0), .second, .val (.long q1), .second] [(.int (1 : Int32))]))
      refine goOut X0 (fun h => by rw [Bd.returns] at h; cases h) hlk (fun fs hr => retOut X0 hx Bd.returns rfl (Or.inl ⟨rfl, Or.inl rfl, _, rfl⟩) (hb hby d3_21) hr) (by decide) (by decide) ?_
      rw [e0]
      exact ⟨by simp [own_lc, c3_1, c13_2, nar], N0, rfl⟩
    · skip
      refine go (fun t k => by refine XS.ifNo X0.here hx rfl (hb hby d3_13) rfl ((if0 _ _).trans (teq ((lw_eq _ _).mpr (Decidable.not_not.mp c13_2))).2) ?_; exact k) ?_
      show Go p e below _ (s₁.setTop (mkF m 16 #[.val (.long q0), .second, .val (.long q1), .second] []))
      refine go (fun t k => by refine XS.iconst X0.here hx rfl (hb hby d3_16) ?_; exact k) ?_
      show Go p e below _ (s₁.setTop (mkF m 17 #[.val (.long q0), .second, .val (.long q1), .second] [(.int (0 : Int32))]))
      refine go (fun t k => by refine XS.goto X0.here hx rfl (pc0 := 17) (pc' := 21) rfl (hb hby d3_17) (by decide) (by decide) ?_; exact k) ?_
      show Go p e below _ (s₁.setTop (mkF m 21 #[.val (.long q0), .second, .val (.long q1), .second] [(.int (0 : Int32))]))
      refine goOut X0 (fun h => by rw [Bd.returns] at h; cases h) hlk (fun fs hr => retOut X0 hx Bd.returns rfl (Or.inl ⟨rfl, Or.inl rfl, _, rfl⟩) (hb hby d3_21) hr) (by decide) (by decide) ?_
      rw [e0]
      exact ⟨by simp [own_lc, c3_1, c13_2, nar], N0, rfl⟩
  · skip
    refine go (fun t k => by refine XS.ifNo X0.here hx rfl (hb hby d3_3) rfl ((if0 _ _).trans (tlt ((lw_lt _ _).mpr (Decidable.not_not.mp c3_1))).2.1) ?_; exact k) ?_
    show Go p e below _ (s₁.setTop (mkF m 6 #[.val (.long q0), .second, .val (.long q1), .second] []))
    refine go (fun t k => by refine XS.iconst X0.here hx rfl (hb hby d3_6) ?_; exact k) ?_
    show Go p e below _ (s₁.setTop (mkF m 7 #[.val (.long q0), .second, .val (.long q1), .second] [(.int (-1 : Int32))]))
    refine go (fun t k => by refine XS.goto X0.here hx rfl (pc0 := 7) (pc' := 21) rfl (hb hby d3_7) (by decide) (by decide) ?_; exact k) ?_
    show Go p e below _ (s₁.setTop (mkF m 21 #[.val (.long q0), .second, .val (.long q1), .second] [(.int (-1 : Int32))]))
    refine goOut X0 (fun h => by rw [Bd.returns] at h; cases h) hlk (fun fs hr => retOut X0 hx Bd.returns rfl (Or.inl ⟨rfl, Or.inl rfl, _, rfl⟩) (hb hby d3_21) hr) (by decide) (by decide) ?_
    rw [e0]
    exact ⟨by simp [own_lc, c3_1, nar], N0, rfl⟩
theorem d2_0 : decode jdk_35_method_43_code 0 = .ok (.lload_n 0, 1) := by decide +kernel
theorem d2_1 : decode jdk_35_method_43_code 1 = .ok (.ldc2_w 168, 3) := by decide +kernel
theorem d2_4 : decode jdk_35_method_43_code 4 = .ok (.ladd, 1) := by decide +kernel
theorem d2_5 : decode jdk_35_method_43_code 5 = .ok (.lload_n 2, 1) := by decide +kernel
theorem d2_6 : decode jdk_35_method_43_code 6 = .ok (.ldc2_w 168, 3) := by decide +kernel
theorem d2_9 : decode jdk_35_method_43_code 9 = .ok (.ladd, 1) := by decide +kernel
theorem d2_10 : decode jdk_35_method_43_code 10 = .ok (.invokestatic 302, 3) := by decide +kernel
theorem pd_0 : parseMethodDescriptor "(JJ)I" = some ⟨[.long, .long], some .int⟩ := by decide +kernel
theorem d2_13 : decode jdk_35_method_43_code 13 = .ok (.ireturn, 1) := by decide +kernel
theorem ef_rm2 (m : MethodId) (x0 : Int64) (x1 : Int64) : entryFrame m #[(.long x0), (.long x1)] 4 = mkF m 0 #[.val (.long x0), .second, .val (.long x1), .second] [] := by first | (simp [entryFrame, mkF, argsToLocals, Value.category]; done) | rfl
def Q2 (Z : State) (q0 : Int64) (q1 : Int64) (h0 : Heap) (n0 : Nat) (v : Option Value) (h : Heap) (L : List Loc) : Prop := v = some (.int (own_cu q0 q1)) ∧ Fr n0 L ∧ h = h0
set_option maxRecDepth 65536 in
set_option maxHeartbeats 40000000 in
theorem rm2 (l : Launch) (Z : State) (a0 : Array Value) (hw : ∀ d ∈ tables_1, d.before a0 Z = true) (ws : List Jvm.Cond) (q0 : Int64) (q1 : Int64)  (h0 : Heap) (n0 : Nat) (Z0 : n0 ≤ h0.size)  :
    MetFree l (⟨"java/lang/Long", "compareUnsigned", "(JJ)I"⟩ : MethodName) (head1 (Jvm.Cond.code (⟨"java/lang/Long", "compareUnsigned", "(JJ)I"⟩ : MethodName) jdk_35_method_43_code 4 (some .int) :: ws) ({ frames := 1, cells := 0, slots := 0, locals := 15 } : Room)) (fun av' U => av' = #[(.long q0), (.long q1)] ∧ Z.Warmed39 U.vm ∧ U.heap = h0) (fun _ _ _ _ _ => True) (fun _ U o U' => ∃ v L, o = .returned v ∧ Q2 Z q0 q1 h0 n0 v U'.heap L ∧ FrameEnd U o U' L ({ frames := 1, cells := 0, slots := 0, locals := 15 } : Room).cells ({ frames := 1, cells := 0, slots := 0, locals := 15 } : Room).slots) := by
  refine MetFree.of_bodySF (plainFor_of_name pn_java_lang_Long) hisR ?_
  intro p e s m args below meth c s₁ Bd hml0 hP hK
  obtain ⟨rfl, hZ, hh⟩ := hP
  have hx := Bd.exec
  have hby := Bd.bytes
  have hlk := Bd.notSynchronized
  have hml : c.maxLocals = 4 := hml0
  have hown : s.vm.findClass "java/lang/Long" = some m.cls := findClass_of_methodNamed Bd.named
  have hnm := (name_of_methodNamed Bd.named Bd.method).1
  have X0 : Stand p l e ({ frames := 1, cells := 0, slots := 0, locals := 15 } : Room) s m #[(.long q0), (.long q1)] below meth c s₁ [] 0 0 := Stand.of_body Bd
  have e0 : s₁.heap = h0 := by rw [← hh, Bd.state]; rfl
  have N0 := Fr.nil n0
  show Go p e below (Kq s (Q2 Z q0 q1 h0 n0) ({ frames := 1, cells := 0, slots := 0, locals := 15 } : Room).cells ({ frames := 1, cells := 0, slots := 0, locals := 15 } : Room).slots) _
  refine go (fun t k => castTop (ef_rm2 m q0 q1) k) ?_
  show Go p e below _ (s₁.setTop (mkF m 0 #[.val (.long q0), .second, .val (.long q1), .second] []))
  refine go (fun t k => by refine XS.lloadN X0.here hx rfl (hb hby d2_0) rfl ?_; exact k) ?_
  show Go p e below _ (s₁.setTop (mkF m 1 #[.val (.long q0), .second, .val (.long q1), .second] [(.long q0)]))
  refine go (fun t k => by refine X0.ldc2J hx hown (mvT hZ (hw _ (List.mem_of_getElem? (i := 8) rfl))) rfl (hb hby d2_1) ?_; exact k) ?_
  show Go p e below _ (s₁.setTop (mkF m 4 #[.val (.long q0), .second, .val (.long q1), .second] [(.long (-9223372036854775808 : Int64)), (.long q0)]))
  refine go (fun t k => by refine XS.ladd X0.here hx rfl (hb hby d2_4) rfl ?_; exact k) ?_
  show Go p e below _ (s₁.setTop (mkF m 5 #[.val (.long q0), .second, .val (.long q1), .second] [(.long (q0 + (-9223372036854775808 : Int64)))]))
  refine go (fun t k => by refine XS.lloadN X0.here hx rfl (hb hby d2_5) rfl ?_; exact k) ?_
  show Go p e below _ (s₁.setTop (mkF m 6 #[.val (.long q0), .second, .val (.long q1), .second] [(.long q1), (.long (q0 + (-9223372036854775808 : Int64)))]))
  refine go (fun t k => by refine X0.ldc2J hx hown (mvT hZ (hw _ (List.mem_of_getElem? (i := 8) rfl))) rfl (hb hby d2_6) ?_; exact k) ?_
  show Go p e below _ (s₁.setTop (mkF m 9 #[.val (.long q0), .second, .val (.long q1), .second] [(.long (-9223372036854775808 : Int64)), (.long q1), (.long (q0 + (-9223372036854775808 : Int64)))]))
  refine go (fun t k => by refine XS.ladd X0.here hx rfl (hb hby d2_9) rfl ?_; exact k) ?_
  show Go p e below _ (s₁.setTop (mkF m 10 #[.val (.long q0), .second, .val (.long q1), .second] [(.long (q1 + (-9223372036854775808 : Int64))), (.long (q0 + (-9223372036854775808 : Int64)))]))
  obtain ⟨_, _, ⟨T1, L1, k1, n1⟩, -, X1, ⟨Lc1, hQ1, l1, y1, z1⟩, st1⟩ := Jvm.LawKit.callS X0 hx (y := (⟨"java/lang/Long", "compare", "(JJ)I"⟩ : MethodName)) hown (mvT hZ (hw _ (List.mem_of_getElem? (i := 9) rfl))) (mvT hZ (hw _ (List.mem_of_getElem? (i := 10) rfl))) (mvT hZ (hw _ (List.mem_of_getElem? (i := 6) rfl))) (mvT hZ (hw _ (List.mem_of_getElem? (i := 11) rfl))) (by decide) (backOf (W := 0) (rm3 l Z a0 hw [] (q0 + (-9223372036854775808 : Int64)) (q1 + (-9223372036854775808 : Int64)) h0 n0 Z0) hZ (hw _ (List.mem_of_getElem? (i := 11) rfl)) (hw _ (List.mem_of_getElem? (i := 6) rfl)) (by decide) (by decide)) (g := (mkF m 10 #[.val (.long q0), .second, .val (.long q1), .second] [(.long (q1 + (-9223372036854775808 : Int64))), (.long (q0 + (-9223372036854775808 : Int64)))])) rfl (by rw [hml]; rfl) (argsL := [(.long (q0 + (-9223372036854775808 : Int64))), (.long (q1 + (-9223372036854775808 : Int64)))]) (rest := []) (lenOf pd_0 rfl) rfl (by show 2 * 0 + _ ≤ _; exact Nat.le_of_eq rfl) (hb hby d2_10) (fun _ _ => ⟨rfl, e0, (by decide : 0 + 0 ≤ _), (by decide : 0 + 0 ≤ _)⟩)
  dsimp only [Pt.U, Pt.locs, Pt.cells, Pt.slots] at X1 l1 y1 z1 st1 hQ1
  subst l1 y1 z1
  obtain ⟨rfl, N1q, e1⟩ := hQ1
  have N1 := Fr.app N0 N1q
  refine go st1 ?_
  show Go p e below _ (T1.setTop (mkF m 13 #[.val (.long q0), .second, .val (.long q1), .second] [(.int (own_lc (q0 + (-9223372036854775808 : Int64)) (q1 + (-9223372036854775808 : Int64))))]))
  refine goOut X1 (fun h => by rw [Bd.returns] at h; cases h) hlk (fun fs hr => retOut X1 hx Bd.returns rfl (Or.inl ⟨rfl, Or.inl rfl, _, rfl⟩) (hb hby d2_13) hr) (by decide) (by decide) ?_
  rw [e1]
  exact ⟨rfl, N1, rfl⟩
theorem d1_0 : decode prog_30_method_3_code 0 = .ok (.iconst 0, 1) := by decide +kernel
theorem d1_1 : decode prog_30_method_3_code 1 = .ok (.istore 4, 2) := by decide +kernel
theorem d1_3 : decode prog_30_method_3_code 3 = .ok (.lload_n 0, 1) := by decide +kernel
theorem d1_4 : decode prog_30_method_3_code 4 = .ok (.lconst 0, 1) := by decide +kernel
theorem d1_5 : decode prog_30_method_3_code 5 = .ok (.lcmp, 1) := by decide +kernel
theorem d1_6 : decode prog_30_method_3_code 6 = .ok (.ifCond .eq 16, 3) := by decide +kernel
theorem d1_22 : decode prog_30_method_3_code 22 = .ok (.iload 4, 2) := by decide +kernel
theorem d1_24 : decode prog_30_method_3_code 24 = .ok (.ireturn, 1) := by decide +kernel
theorem d1_9 : decode prog_30_method_3_code 9 = .ok (.lload_n 2, 1) := by decide +kernel
theorem d1_10 : decode prog_30_method_3_code 10 = .ok (.lconst 0, 1) := by decide +kernel
theorem d1_11 : decode prog_30_method_3_code 11 = .ok (.lcmp, 1) := by decide +kernel
theorem d1_12 : decode prog_30_method_3_code 12 = .ok (.ifCond .eq 10, 3) := by decide +kernel
theorem d1_15 : decode prog_30_method_3_code 15 = .ok (.lload_n 0, 1) := by decide +kernel
theorem d1_16 : decode prog_30_method_3_code 16 = .ok (.lload_n 2, 1) := by decide +kernel
theorem d1_17 : decode prog_30_method_3_code 17 = .ok (.invokestatic 23, 3) := by decide +kernel
theorem d1_20 : decode prog_30_method_3_code 20 = .ok (.istore 4, 2) := by decide +kernel
theorem pn_com_example_stripewell_stripewell_ordered_KeyPrefix : plainName "com/example/stripewell/stripewell/ordered/KeyPrefix" = true := by first | (simp [plainName, overriddenIn]; done) | decide +kernel
theorem ef_rm1 (m : MethodId) (x0 : Int64) (x1 : Int64) : entryFrame m #[(.long x0), (.long x1)] 5 = mkF m 0 #[.val (.long x0), .second, .val (.long x1), .second, .unset] [] := by first | (simp [entryFrame, mkF, argsToLocals, Value.category]; done) | rfl
def Q1 (Z : State) (q0 : Int64) (q1 : Int64) (h0 : Heap) (n0 : Nat) (v : Option Value) (h : Heap) (L : List Loc) : Prop := v = some (.int (own_or q0 q1)) ∧ Fr n0 L ∧ h = h0
set_option maxRecDepth 65536 in
set_option maxHeartbeats 40000000 in
theorem rm1 (l : Launch) (Z : State) (a0 : Array Value) (hw : ∀ d ∈ tables_1, d.before a0 Z = true) (ws : List Jvm.Cond) (q0 : Int64) (q1 : Int64)  (h0 : Heap) (n0 : Nat) (Z0 : n0 ≤ h0.size)  :
    MetFree l (⟨"com/example/stripewell/stripewell/ordered/KeyPrefix", "order", "(JJ)I"⟩ : MethodName) (head1 (Jvm.Cond.code (⟨"com/example/stripewell/stripewell/ordered/KeyPrefix", "order", "(JJ)I"⟩ : MethodName) prog_30_method_3_code 5 (some .int) :: ws) ({ frames := 2, cells := 0, slots := 0, locals := 30 } : Room)) (fun av' U => av' = #[(.long q0), (.long q1)] ∧ Z.Warmed39 U.vm ∧ U.heap = h0) (fun _ _ _ _ _ => True) (fun _ U o U' => ∃ v L, o = .returned v ∧ Q1 Z q0 q1 h0 n0 v U'.heap L ∧ FrameEnd U o U' L ({ frames := 2, cells := 0, slots := 0, locals := 30 } : Room).cells ({ frames := 2, cells := 0, slots := 0, locals := 30 } : Room).slots) := by
  refine MetFree.of_bodySF (plainFor_of_name pn_com_example_stripewell_stripewell_ordered_KeyPrefix) hisR ?_
  intro p e s m args below meth c s₁ Bd hml0 hP hK
  obtain ⟨rfl, hZ, hh⟩ := hP
  have hx := Bd.exec
  have hby := Bd.bytes
  have hlk := Bd.notSynchronized
  have hml : c.maxLocals = 5 := hml0
  have hown : s.vm.findClass "com/example/stripewell/stripewell/ordered/KeyPrefix" = some m.cls := findClass_of_methodNamed Bd.named
  have hnm := (name_of_methodNamed Bd.named Bd.method).1
  have X0 : Stand p l e ({ frames := 2, cells := 0, slots := 0, locals := 30 } : Room) s m #[(.long q0), (.long q1)] below meth c s₁ [] 0 0 := Stand.of_body Bd
  have e0 : s₁.heap = h0 := by rw [← hh, Bd.state]; rfl
  have N0 := Fr.nil n0
  show Go p e below (Kq s (Q1 Z q0 q1 h0 n0) ({ frames := 2, cells := 0, slots := 0, locals := 30 } : Room).cells ({ frames := 2, cells := 0, slots := 0, locals := 30 } : Room).slots) _
  refine go (fun t k => castTop (ef_rm1 m q0 q1) k) ?_
  show Go p e below _ (s₁.setTop (mkF m 0 #[.val (.long q0), .second, .val (.long q1), .second, .unset] []))
  refine go (fun t k => by refine XS.iconst X0.here hx rfl (hb hby d1_0) ?_; exact k) ?_
  show Go p e below _ (s₁.setTop (mkF m 1 #[.val (.long q0), .second, .val (.long q1), .second, .unset] [(.int (0 : Int32))]))
  refine go (fun t k => by refine XS.istore X0.here hx rfl (hb hby d1_1) rfl (l' := #[.val (.long q0), .second, .val (.long q1), .second, .val (.int (0 : Int32))]) rfl ?_; exact k) ?_
  show Go p e below _ (s₁.setTop (mkF m 3 #[.val (.long q0), .second, .val (.long q1), .second, .val (.int (0 : Int32))] []))
  refine go (fun t k => by refine XS.lloadN X0.here hx rfl (hb hby d1_3) rfl ?_; exact k) ?_
  show Go p e below _ (s₁.setTop (mkF m 4 #[.val (.long q0), .second, .val (.long q1), .second, .val (.int (0 : Int32))] [(.long q0)]))
  refine go (fun t k => by refine XS.lconst X0.here hx rfl (hb hby d1_4) ?_; exact k) ?_
  show Go p e below _ (s₁.setTop (mkF m 5 #[.val (.long q0), .second, .val (.long q1), .second, .val (.int (0 : Int32))] [(.long (0 : Int64)), (.long q0)]))
  refine go (fun t k => by refine XS.lcmp X0.here hx rfl (hb hby d1_5) rfl ?_; exact k) ?_
  show Go p e below _ (s₁.setTop (mkF m 6 #[.val (.long q0), .second, .val (.long q1), .second, .val (.int (0 : Int32))] [(.int (lcmpW q0 (0 : Int64)))]))
  by_cases c6_1 : q0 = (0 : Int64)
  · skip
    refine go (fun t k => by refine XS.ifYes X0.here hx rfl (pc0 := 6) (pc' := 22) rfl (hb hby d1_6) rfl ((if0 _ _).trans (teq ((lw_eq _ _).mpr c6_1)).1) (by decide) (by decide) ?_; exact k) ?_
    show Go p e below _ (s₁.setTop (mkF m 22 #[.val (.long q0), .second, .val (.long q1), .second, .val (.int (0 : Int32))] []))
    refine go (fun t k => by refine XS.iload X0.here hx rfl (hb hby d1_22) rfl ?_; exact k) ?_
    show Go p e below _ (s₁.setTop (mkF m 24 #[.val (.long q0), .second, .val (.long q1), .second, .val (.int (0 : Int32))] [(.int (0 : Int32))]))
    refine goOut X0 (fun h => by rw [Bd.returns] at h; cases h) hlk (fun fs hr => retOut X0 hx Bd.returns rfl (Or.inl ⟨rfl, Or.inl rfl, _, rfl⟩) (hb hby d1_24) hr) (by decide) (by decide) ?_
    rw [e0]
    exact ⟨by simp [own_or, c6_1, nar], N0, rfl⟩
  · skip
    refine go (fun t k => by refine XS.ifNo X0.here hx rfl (hb hby d1_6) rfl ((if0 _ _).trans (feq (fun q => c6_1 ((lw_eq _ _).mp q))).1) ?_; exact k) ?_
    show Go p e below _ (s₁.setTop (mkF m 9 #[.val (.long q0), .second, .val (.long q1), .second, .val (.int (0 : Int32))] []))
    refine go (fun t k => by refine XS.lloadN X0.here hx rfl (hb hby d1_9) rfl ?_; exact k) ?_
    show Go p e below _ (s₁.setTop (mkF m 10 #[.val (.long q0), .second, .val (.long q1), .second, .val (.int (0 : Int32))] [(.long q1)]))
    refine go (fun t k => by refine XS.lconst X0.here hx rfl (hb hby d1_10) ?_; exact k) ?_
    show Go p e below _ (s₁.setTop (mkF m 11 #[.val (.long q0), .second, .val (.long q1), .second, .val (.int (0 : Int32))] [(.long (0 : Int64)), (.long q1)]))
    refine go (fun t k => by refine XS.lcmp X0.here hx rfl (hb hby d1_11) rfl ?_; exact k) ?_
    show Go p e below _ (s₁.setTop (mkF m 12 #[.val (.long q0), .second, .val (.long q1), .second, .val (.int (0 : Int32))] [(.int (lcmpW q1 (0 : Int64)))]))
    by_cases c12_2 : q1 = (0 : Int64)
    · skip
      refine go (fun t k => by refine XS.ifYes X0.here hx rfl (pc0 := 12) (pc' := 22) rfl (hb hby d1_12) rfl ((if0 _ _).trans (teq ((lw_eq _ _).mpr c12_2)).1) (by decide) (by decide) ?_; exact k) ?_
      show Go p e below _ (s₁.setTop (mkF m 22 #[.val (.long q0), .second, .val (.long q1), .second, .val (.int (0 : Int32))] []))
      refine go (fun t k => by refine XS.iload X0.here hx rfl (hb hby d1_22) rfl ?_; exact k) ?_
      show Go p e below _ (s₁.setTop (mkF m 24 #[.val (.long q0), .second, .val (.long q1), .second, .val (.int (0 : Int32))] [(.int (0 : Int32))]))
      refine goOut X0 (fun h => by rw [Bd.returns] at h; cases h) hlk (fun fs hr => retOut X0 hx Bd.returns rfl (Or.inl ⟨rfl, Or.inl rfl, _, rfl⟩) (hb hby d1_24) hr) (by decide) (by decide) ?_
      rw [e0]
      exact ⟨by simp [own_or, c6_1, c12_2, nar], N0, rfl⟩
    · skip
      refine go (fun t k => by refine XS.ifNo X0.here hx rfl (hb hby d1_12) rfl ((if0 _ _).trans (feq (fun q => c12_2 ((lw_eq _ _).mp q))).1) ?_; exact k) ?_
      show Go p e below _ (s₁.setTop (mkF m 15 #[.val (.long q0), .second, .val (.long q1), .second, .val (.int (0 : Int32))] []))
      refine go (fun t k => by refine XS.lloadN X0.here hx rfl (hb hby d1_15) rfl ?_; exact k) ?_
      show Go p e below _ (s₁.setTop (mkF m 16 #[.val (.long q0), .second, .val (.long q1), .second, .val (.int (0 : Int32))] [(.long q0)]))
      refine go (fun t k => by refine XS.lloadN X0.here hx rfl (hb hby d1_16) rfl ?_; exact k) ?_
      show Go p e below _ (s₁.setTop (mkF m 17 #[.val (.long q0), .second, .val (.long q1), .second, .val (.int (0 : Int32))] [(.long q1), (.long q0)]))
      obtain ⟨_, _, ⟨T3, L3, k3, n3⟩, -, X3, ⟨Lc3, hQ3, l3, y3, z3⟩, st3⟩ := Jvm.LawKit.callS X0 hx (y := (⟨"java/lang/Long", "compareUnsigned", "(JJ)I"⟩ : MethodName)) hown (mvT hZ (hw _ (List.mem_of_getElem? (i := 4) rfl))) (mvT hZ (hw _ (List.mem_of_getElem? (i := 5) rfl))) (mvT hZ (hw _ (List.mem_of_getElem? (i := 6) rfl))) (mvT hZ (hw _ (List.mem_of_getElem? (i := 7) rfl))) (by decide) (backOf (W := 0) (rm2 l Z a0 hw [] q0 q1 h0 n0 Z0) hZ (hw _ (List.mem_of_getElem? (i := 7) rfl)) (hw _ (List.mem_of_getElem? (i := 6) rfl)) (by decide) (by decide)) (g := (mkF m 17 #[.val (.long q0), .second, .val (.long q1), .second, .val (.int (0 : Int32))] [(.long q1), (.long q0)])) rfl (by rw [hml]; rfl) (argsL := [(.long q0), (.long q1)]) (rest := []) (lenOf pd_0 rfl) rfl (by show 2 * 0 + _ ≤ _; exact Nat.le_of_eq rfl) (hb hby d1_17) (fun _ _ => ⟨rfl, e0, (by decide : 0 + 0 ≤ _), (by decide : 0 + 0 ≤ _)⟩)
      dsimp only [Pt.U, Pt.locs, Pt.cells, Pt.slots] at X3 l3 y3 z3 st3 hQ3
      subst l3 y3 z3
      obtain ⟨rfl, N3q, e3⟩ := hQ3
      have N3 := Fr.app N0 N3q
      refine go st3 ?_
      show Go p e below _ (T3.setTop (mkF m 20 #[.val (.long q0), .second, .val (.long q1), .second, .val (.int (0 : Int32))] [(.int (own_cu q0 q1))]))
      refine go (fun t k => by refine XS.istore X3.here hx rfl (hb hby d1_20) rfl (l' := #[.val (.long q0), .second, .val (.long q1), .second, .val (.int (own_cu q0 q1))]) rfl ?_; exact k) ?_
      show Go p e below _ (T3.setTop (mkF m 22 #[.val (.long q0), .second, .val (.long q1), .second, .val (.int (own_cu q0 q1))] []))
      refine go (fun t k => by refine XS.iload X3.here hx rfl (hb hby d1_22) rfl ?_; exact k) ?_
      show Go p e below _ (T3.setTop (mkF m 24 #[.val (.long q0), .second, .val (.long q1), .second, .val (.int (own_cu q0 q1))] [(.int (own_cu q0 q1))]))
      refine goOut X3 (fun h => by rw [Bd.returns] at h; cases h) hlk (fun fs hr => retOut X3 hx Bd.returns rfl (Or.inl ⟨rfl, Or.inl rfl, _, rfl⟩) (hb hby d1_24) hr) (by decide) (by decide) ?_
      rw [e3]
      exact ⟨by simp [own_or, c6_1, c12_2, nar], N3, rfl⟩
theorem d4_0 : decode method_2_code 0 = .ok (.lload_n 0, 1) := by decide +kernel
theorem d4_1 : decode method_2_code 1 = .ok (.iconst 1, 1) := by decide +kernel
theorem d4_2 : decode method_2_code 2 = .ok (.lushr, 1) := by decide +kernel
theorem d4_3 : decode method_2_code 3 = .ok (.lstore 4, 2) := by decide +kernel
theorem d4_5 : decode method_2_code 5 = .ok (.lload_n 2, 1) := by decide +kernel
theorem d4_6 : decode method_2_code 6 = .ok (.iconst 1, 1) := by decide +kernel
theorem d4_7 : decode method_2_code 7 = .ok (.lushr, 1) := by decide +kernel
theorem d4_8 : decode method_2_code 8 = .ok (.lstore 6, 2) := by decide +kernel
theorem d4_10 : decode method_2_code 10 = .ok (.lload 4, 2) := by decide +kernel
theorem d4_12 : decode method_2_code 12 = .ok (.lload 6, 2) := by decide +kernel
theorem d4_14 : decode method_2_code 14 = .ok (.lcmp, 1) := by decide +kernel
theorem d4_15 : decode method_2_code 15 = .ok (.ifCond .eq 17, 3) := by decide +kernel
theorem d4_32 : decode method_2_code 32 = .ok (.lload_n 0, 1) := by decide +kernel
theorem d4_33 : decode method_2_code 33 = .ok (.lconst 1, 1) := by decide +kernel
theorem d4_34 : decode method_2_code 34 = .ok (.land, 1) := by decide +kernel
theorem d4_35 : decode method_2_code 35 = .ok (.lload_n 2, 1) := by decide +kernel
theorem d4_36 : decode method_2_code 36 = .ok (.lconst 1, 1) := by decide +kernel
theorem d4_37 : decode method_2_code 37 = .ok (.land, 1) := by decide +kernel
theorem d4_38 : decode method_2_code 38 = .ok (.lcmp, 1) := by decide +kernel
theorem d4_39 : decode method_2_code 39 = .ok (.ifCond .ge 7, 3) := by decide +kernel
theorem d4_46 : decode method_2_code 46 = .ok (.iconst 0, 1) := by decide +kernel
theorem d4_47 : decode method_2_code 47 = .ok (.ireturn, 1) := by decide +kernel
theorem d4_42 : decode method_2_code 42 = .ok (.iconst 1, 1) := by decide +kernel
theorem d4_43 : decode method_2_code 43 = .ok (.goto 4, 3) := by decide +kernel
theorem d4_18 : decode method_2_code 18 = .ok (.lload 4, 2) := by decide +kernel
theorem d4_20 : decode method_2_code 20 = .ok (.lload 6, 2) := by decide +kernel
theorem d4_22 : decode method_2_code 22 = .ok (.lcmp, 1) := by decide +kernel
theorem d4_23 : decode method_2_code 23 = .ok (.ifCond .ge 7, 3) := by decide +kernel
theorem d4_30 : decode method_2_code 30 = .ok (.iconst 0, 1) := by decide +kernel
theorem d4_31 : decode method_2_code 31 = .ok (.ireturn, 1) := by decide +kernel
theorem d4_26 : decode method_2_code 26 = .ok (.iconst 1, 1) := by decide +kernel
theorem d4_27 : decode method_2_code 27 = .ok (.goto 4, 3) := by decide +kernel
theorem pn_com_example_stripewell_stripewell_ordered_KeyPrefixOrderPinLaw : plainName "com/example/stripewell/stripewell/ordered/KeyPrefixOrderPinLaw" = true := by first | (simp [plainName, overriddenIn]; done) | decide +kernel
theorem ef_rm4 (m : MethodId) (x0 : Int64) (x1 : Int64) : entryFrame m #[(.long x0), (.long x1)] 8 = mkF m 0 #[.val (.long x0), .second, .val (.long x1), .second, .unset, .unset, .unset, .unset] [] := by first | (simp [entryFrame, mkF, argsToLocals, Value.category]; done) | rfl
def Q4 (Z : State) (q0 : Int64) (q1 : Int64) (h0 : Heap) (n0 : Nat) (v : Option Value) (h : Heap) (L : List Loc) : Prop := v = some (.int (own_ul q0 q1)) ∧ Fr n0 L ∧ h = h0
set_option maxRecDepth 65536 in
set_option maxHeartbeats 40000000 in
theorem rm4 (l : Launch) (Z : State) (a0 : Array Value) (hw : ∀ d ∈ tables_1, d.before a0 Z = true) (ws : List Jvm.Cond) (q0 : Int64) (q1 : Int64)  (h0 : Heap) (n0 : Nat) (Z0 : n0 ≤ h0.size)  :
    MetFree l (⟨"com/example/stripewell/stripewell/ordered/KeyPrefixOrderPinLaw", "unsignedLess", "(JJ)Z"⟩ : MethodName) (head1 (Jvm.Cond.code (⟨"com/example/stripewell/stripewell/ordered/KeyPrefixOrderPinLaw", "unsignedLess", "(JJ)Z"⟩ : MethodName) method_2_code 8 (some .boolean) :: ws) ({ frames := 0, cells := 0, slots := 0, locals := 0 } : Room)) (fun av' U => av' = #[(.long q0), (.long q1)] ∧ Z.Warmed39 U.vm ∧ U.heap = h0) (fun _ _ _ _ _ => True) (fun _ U o U' => ∃ v L, o = .returned v ∧ Q4 Z q0 q1 h0 n0 v U'.heap L ∧ FrameEnd U o U' L ({ frames := 0, cells := 0, slots := 0, locals := 0 } : Room).cells ({ frames := 0, cells := 0, slots := 0, locals := 0 } : Room).slots) := by
  refine MetFree.of_bodySF (plainFor_of_name pn_com_example_stripewell_stripewell_ordered_KeyPrefixOrderPinLaw) hisR ?_
  intro p e s m args below meth c s₁ Bd hml0 hP hK
  obtain ⟨rfl, hZ, hh⟩ := hP
  have hx := Bd.exec
  have hby := Bd.bytes
  have hlk := Bd.notSynchronized
  have hml : c.maxLocals = 8 := hml0
  have hown : s.vm.findClass "com/example/stripewell/stripewell/ordered/KeyPrefixOrderPinLaw" = some m.cls := findClass_of_methodNamed Bd.named
  have hnm := (name_of_methodNamed Bd.named Bd.method).1
  have X0 : Stand p l e ({ frames := 0, cells := 0, slots := 0, locals := 0 } : Room) s m #[(.long q0), (.long q1)] below meth c s₁ [] 0 0 := Stand.of_body Bd
  have e0 : s₁.heap = h0 := by rw [← hh, Bd.state]; rfl
  have N0 := Fr.nil n0
  show Go p e below (Kq s (Q4 Z q0 q1 h0 n0) ({ frames := 0, cells := 0, slots := 0, locals := 0 } : Room).cells ({ frames := 0, cells := 0, slots := 0, locals := 0 } : Room).slots) _
  refine go (fun t k => castTop (ef_rm4 m q0 q1) k) ?_
  show Go p e below _ (s₁.setTop (mkF m 0 #[.val (.long q0), .second, .val (.long q1), .second, .unset, .unset, .unset, .unset] []))
  refine go (fun t k => by refine XS.lloadN X0.here hx rfl (hb hby d4_0) rfl ?_; exact k) ?_
  show Go p e below _ (s₁.setTop (mkF m 1 #[.val (.long q0), .second, .val (.long q1), .second, .unset, .unset, .unset, .unset] [(.long q0)]))
  refine go (fun t k => by refine XS.iconst X0.here hx rfl (hb hby d4_1) ?_; exact k) ?_
  show Go p e below _ (s₁.setTop (mkF m 2 #[.val (.long q0), .second, .val (.long q1), .second, .unset, .unset, .unset, .unset] [(.int (1 : Int32)), (.long q0)]))
  refine go (fun t k => by refine XS.lushr X0.here hx rfl (hb hby d4_2) rfl ?_; exact k) ?_
  show Go p e below _ (s₁.setTop (mkF m 3 #[.val (.long q0), .second, .val (.long q1), .second, .unset, .unset, .unset, .unset] [(.long ((q0.toUInt64 >>> ((1 : Int32) &&& 0x3f).toInt64.toUInt64).toInt64))]))
  refine go (fun t k => by refine XS.lstore X0.here hx rfl (hb hby d4_3) rfl (l' := #[.val (.long q0), .second, .val (.long q1), .second, .val (.long ((q0.toUInt64 >>> ((1 : Int32) &&& 0x3f).toInt64.toUInt64).toInt64)), .second, .unset, .unset]) rfl ?_; exact k) ?_
  show Go p e below _ (s₁.setTop (mkF m 5 #[.val (.long q0), .second, .val (.long q1), .second, .val (.long ((q0.toUInt64 >>> ((1 : Int32) &&& 0x3f).toInt64.toUInt64).toInt64)), .second, .unset, .unset] []))
  generalize hhx_ : ((q0.toUInt64 >>> ((1 : Int32) &&& 0x3f).toInt64.toUInt64).toInt64) = hx_
  show Go p e below _ (s₁.setTop (mkF m 5 #[.val (.long q0), .second, .val (.long q1), .second, .val (.long hx_), .second, .unset, .unset] []))
  refine go (fun t k => by refine XS.lloadN X0.here hx rfl (hb hby d4_5) rfl ?_; exact k) ?_
  show Go p e below _ (s₁.setTop (mkF m 6 #[.val (.long q0), .second, .val (.long q1), .second, .val (.long hx_), .second, .unset, .unset] [(.long q1)]))
  refine go (fun t k => by refine XS.iconst X0.here hx rfl (hb hby d4_6) ?_; exact k) ?_
  show Go p e below _ (s₁.setTop (mkF m 7 #[.val (.long q0), .second, .val (.long q1), .second, .val (.long hx_), .second, .unset, .unset] [(.int (1 : Int32)), (.long q1)]))
  refine go (fun t k => by refine XS.lushr X0.here hx rfl (hb hby d4_7) rfl ?_; exact k) ?_
  show Go p e below _ (s₁.setTop (mkF m 8 #[.val (.long q0), .second, .val (.long q1), .second, .val (.long hx_), .second, .unset, .unset] [(.long ((q1.toUInt64 >>> ((1 : Int32) &&& 0x3f).toInt64.toUInt64).toInt64))]))
  refine go (fun t k => by refine XS.lstore X0.here hx rfl (hb hby d4_8) rfl (l' := #[.val (.long q0), .second, .val (.long q1), .second, .val (.long hx_), .second, .val (.long ((q1.toUInt64 >>> ((1 : Int32) &&& 0x3f).toInt64.toUInt64).toInt64)), .second]) rfl ?_; exact k) ?_
  show Go p e below _ (s₁.setTop (mkF m 10 #[.val (.long q0), .second, .val (.long q1), .second, .val (.long hx_), .second, .val (.long ((q1.toUInt64 >>> ((1 : Int32) &&& 0x3f).toInt64.toUInt64).toInt64)), .second] []))
  generalize hhy_ : ((q1.toUInt64 >>> ((1 : Int32) &&& 0x3f).toInt64.toUInt64).toInt64) = hy_
  show Go p e below _ (s₁.setTop (mkF m 10 #[.val (.long q0), .second, .val (.long q1), .second, .val (.long hx_), .second, .val (.long hy_), .second] []))
  refine go (fun t k => by refine XS.lload X0.here hx rfl (hb hby d4_10) rfl ?_; exact k) ?_
  show Go p e below _ (s₁.setTop (mkF m 12 #[.val (.long q0), .second, .val (.long q1), .second, .val (.long hx_), .second, .val (.long hy_), .second] [(.long hx_)]))
  refine go (fun t k => by refine XS.lload X0.here hx rfl (hb hby d4_12) rfl ?_; exact k) ?_
  show Go p e below _ (s₁.setTop (mkF m 14 #[.val (.long q0), .second, .val (.long q1), .second, .val (.long hx_), .second, .val (.long hy_), .second] [(.long hy_), (.long hx_)]))
  refine go (fun t k => by refine XS.lcmp X0.here hx rfl (hb hby d4_14) rfl ?_; exact k) ?_
  show Go p e below _ (s₁.setTop (mkF m 15 #[.val (.long q0), .second, .val (.long q1), .second, .val (.long hx_), .second, .val (.long hy_), .second] [(.int (lcmpW hx_ hy_))]))
  by_cases c15_1 : hx_ = hy_
  · skip
    refine go (fun t k => by refine XS.ifYes X0.here hx rfl (pc0 := 15) (pc' := 32) rfl (hb hby d4_15) rfl ((if0 _ _).trans (teq ((lw_eq _ _).mpr c15_1)).1) (by decide) (by decide) ?_; exact k) ?_
    show Go p e below _ (s₁.setTop (mkF m 32 #[.val (.long q0), .second, .val (.long q1), .second, .val (.long hx_), .second, .val (.long hy_), .second] []))
    refine go (fun t k => by refine XS.lloadN X0.here hx rfl (hb hby d4_32) rfl ?_; exact k) ?_
    show Go p e below _ (s₁.setTop (mkF m 33 #[.val (.long q0), .second, .val (.long q1), .second, .val (.long hx_), .second, .val (.long hy_), .second] [(.long q0)]))
    refine go (fun t k => by refine XS.lconst X0.here hx rfl (hb hby d4_33) ?_; exact k) ?_
    show Go p e below _ (s₁.setTop (mkF m 34 #[.val (.long q0), .second, .val (.long q1), .second, .val (.long hx_), .second, .val (.long hy_), .second] [(.long (1 : Int64)), (.long q0)]))
    refine go (fun t k => by refine XS.land X0.here hx rfl (hb hby d4_34) rfl ?_; exact k) ?_
    show Go p e below _ (s₁.setTop (mkF m 35 #[.val (.long q0), .second, .val (.long q1), .second, .val (.long hx_), .second, .val (.long hy_), .second] [(.long (q0 &&& (1 : Int64)))]))
    refine go (fun t k => by refine XS.lloadN X0.here hx rfl (hb hby d4_35) rfl ?_; exact k) ?_
    show Go p e below _ (s₁.setTop (mkF m 36 #[.val (.long q0), .second, .val (.long q1), .second, .val (.long hx_), .second, .val (.long hy_), .second] [(.long q1), (.long (q0 &&& (1 : Int64)))]))
    refine go (fun t k => by refine XS.lconst X0.here hx rfl (hb hby d4_36) ?_; exact k) ?_
    show Go p e below _ (s₁.setTop (mkF m 37 #[.val (.long q0), .second, .val (.long q1), .second, .val (.long hx_), .second, .val (.long hy_), .second] [(.long (1 : Int64)), (.long q1), (.long (q0 &&& (1 : Int64)))]))
    refine go (fun t k => by refine XS.land X0.here hx rfl (hb hby d4_37) rfl ?_; exact k) ?_
    show Go p e below _ (s₁.setTop (mkF m 38 #[.val (.long q0), .second, .val (.long q1), .second, .val (.long hx_), .second, .val (.long hy_), .second] [(.long (q1 &&& (1 : Int64))), (.long (q0 &&& (1 : Int64)))]))
    refine go (fun t k => by refine XS.lcmp X0.here hx rfl (hb hby d4_38) rfl ?_; exact k) ?_
    show Go p e below _ (s₁.setTop (mkF m 39 #[.val (.long q0), .second, .val (.long q1), .second, .val (.long hx_), .second, .val (.long hy_), .second] [(.int (lcmpW (q0 &&& (1 : Int64)) (q1 &&& (1 : Int64))))]))
    by_cases c39_2 : ¬ (q0 &&& (1 : Int64)) < (q1 &&& (1 : Int64))
    · skip
      refine go (fun t k => by refine XS.ifYes X0.here hx rfl (pc0 := 39) (pc' := 46) rfl (hb hby d4_39) rfl ((if0 _ _).trans (flt (fun q => c39_2 ((lw_lt _ _).mp q))).2.1) (by decide) (by decide) ?_; exact k) ?_
      show Go p e below _ (s₁.setTop (mkF m 46 #[.val (.long q0), .second, .val (.long q1), .second, .val (.long hx_), .second, .val (.long hy_), .second] []))
      refine go (fun t k => by refine XS.iconst X0.here hx rfl (hb hby d4_46) ?_; exact k) ?_
      show Go p e below _ (s₁.setTop (mkF m 47 #[.val (.long q0), .second, .val (.long q1), .second, .val (.long hx_), .second, .val (.long hy_), .second] [(.int (0 : Int32))]))
      refine goOut X0 (fun h => by rw [Bd.returns] at h; cases h) hlk (fun fs hr => retN X0 hx (t := .boolean) Bd.returns (by simp) (hb hby d4_47) hr) (by decide) (by decide) ?_
      rw [e0]
      exact ⟨by unfold own_ul; rw [hhx_, hhy_]; simp [c15_1, c39_2, nar], N0, rfl⟩
    · skip
      refine go (fun t k => by refine XS.ifNo X0.here hx rfl (hb hby d4_39) rfl ((if0 _ _).trans (tlt ((lw_lt _ _).mpr (Decidable.not_not.mp c39_2))).2.1) ?_; exact k) ?_
      show Go p e below _ (s₁.setTop (mkF m 42 #[.val (.long q0), .second, .val (.long q1), .second, .val (.long hx_), .second, .val (.long hy_), .second] []))
      refine go (fun t k => by refine XS.iconst X0.here hx rfl (hb hby d4_42) ?_; exact k) ?_
      show Go p e below _ (s₁.setTop (mkF m 43 #[.val (.long q0), .second, .val (.long q1), .second, .val (.long hx_), .second, .val (.long hy_), .second] [(.int (1 : Int32))]))
      refine go (fun t k => by refine XS.goto X0.here hx rfl (pc0 := 43) (pc' := 47) rfl (hb hby d4_43) (by decide) (by decide) ?_; exact k) ?_
      show Go p e below _ (s₁.setTop (mkF m 47 #[.val (.long q0), .second, .val (.long q1), .second, .val (.long hx_), .second, .val (.long hy_), .second] [(.int (1 : Int32))]))
      refine goOut X0 (fun h => by rw [Bd.returns] at h; cases h) hlk (fun fs hr => retN X0 hx (t := .boolean) Bd.returns (by simp) (hb hby d4_47) hr) (by decide) (by decide) ?_
      rw [e0]
      exact ⟨by unfold own_ul; rw [hhx_, hhy_]; simp [c15_1, c39_2, nar], N0, rfl⟩
  · skip
    refine go (fun t k => by refine XS.ifNo X0.here hx rfl (hb hby d4_15) rfl ((if0 _ _).trans (feq (fun q => c15_1 ((lw_eq _ _).mp q))).1) ?_; exact k) ?_
    show Go p e below _ (s₁.setTop (mkF m 18 #[.val (.long q0), .second, .val (.long q1), .second, .val (.long hx_), .second, .val (.long hy_), .second] []))
    refine go (fun t k => by refine XS.lload X0.here hx rfl (hb hby d4_18) rfl ?_; exact k) ?_
    show Go p e below _ (s₁.setTop (mkF m 20 #[.val (.long q0), .second, .val (.long q1), .second, .val (.long hx_), .second, .val (.long hy_), .second] [(.long hx_)]))
    refine go (fun t k => by refine XS.lload X0.here hx rfl (hb hby d4_20) rfl ?_; exact k) ?_
    show Go p e below _ (s₁.setTop (mkF m 22 #[.val (.long q0), .second, .val (.long q1), .second, .val (.long hx_), .second, .val (.long hy_), .second] [(.long hy_), (.long hx_)]))
    refine go (fun t k => by refine XS.lcmp X0.here hx rfl (hb hby d4_22) rfl ?_; exact k) ?_
    show Go p e below _ (s₁.setTop (mkF m 23 #[.val (.long q0), .second, .val (.long q1), .second, .val (.long hx_), .second, .val (.long hy_), .second] [(.int (lcmpW hx_ hy_))]))
    by_cases c23_3 : ¬ hx_ < hy_
    · skip
      refine go (fun t k => by refine XS.ifYes X0.here hx rfl (pc0 := 23) (pc' := 30) rfl (hb hby d4_23) rfl ((if0 _ _).trans (flt (fun q => c23_3 ((lw_lt _ _).mp q))).2.1) (by decide) (by decide) ?_; exact k) ?_
      show Go p e below _ (s₁.setTop (mkF m 30 #[.val (.long q0), .second, .val (.long q1), .second, .val (.long hx_), .second, .val (.long hy_), .second] []))
      refine go (fun t k => by refine XS.iconst X0.here hx rfl (hb hby d4_30) ?_; exact k) ?_
      show Go p e below _ (s₁.setTop (mkF m 31 #[.val (.long q0), .second, .val (.long q1), .second, .val (.long hx_), .second, .val (.long hy_), .second] [(.int (0 : Int32))]))
      refine goOut X0 (fun h => by rw [Bd.returns] at h; cases h) hlk (fun fs hr => retN X0 hx (t := .boolean) Bd.returns (by simp) (hb hby d4_31) hr) (by decide) (by decide) ?_
      rw [e0]
      exact ⟨by unfold own_ul; rw [hhx_, hhy_]; simp [c15_1, c23_3, nar], N0, rfl⟩
    · skip
      refine go (fun t k => by refine XS.ifNo X0.here hx rfl (hb hby d4_23) rfl ((if0 _ _).trans (tlt ((lw_lt _ _).mpr (Decidable.not_not.mp c23_3))).2.1) ?_; exact k) ?_
      show Go p e below _ (s₁.setTop (mkF m 26 #[.val (.long q0), .second, .val (.long q1), .second, .val (.long hx_), .second, .val (.long hy_), .second] []))
      refine go (fun t k => by refine XS.iconst X0.here hx rfl (hb hby d4_26) ?_; exact k) ?_
      show Go p e below _ (s₁.setTop (mkF m 27 #[.val (.long q0), .second, .val (.long q1), .second, .val (.long hx_), .second, .val (.long hy_), .second] [(.int (1 : Int32))]))
      refine go (fun t k => by refine XS.goto X0.here hx rfl (pc0 := 27) (pc' := 31) rfl (hb hby d4_27) (by decide) (by decide) ?_; exact k) ?_
      show Go p e below _ (s₁.setTop (mkF m 31 #[.val (.long q0), .second, .val (.long q1), .second, .val (.long hx_), .second, .val (.long hy_), .second] [(.int (1 : Int32))]))
      refine goOut X0 (fun h => by rw [Bd.returns] at h; cases h) hlk (fun fs hr => retN X0 hx (t := .boolean) Bd.returns (by simp) (hb hby d4_31) hr) (by decide) (by decide) ?_
      rw [e0]
      exact ⟨by unfold own_ul; rw [hhx_, hhy_]; simp [c15_1, c23_3, nar], N0, rfl⟩
theorem pd_1 : parseMethodDescriptor "(JJ)Z" = some ⟨[.long, .long], some .boolean⟩ := by decide +kernel
theorem ef_rm0 (m : MethodId) (x0 : Int64) (x1 : Int64) (x2 : Int32) : entryFrame m #[(.long x0), (.long x1), (.int x2)] maxLocals = mkF m 0 #[.val (.long x0), .second, .val (.long x1), .second, .val (.int x2), .unset, .unset, .unset, .unset, .unset, .unset] [] := by first | (simp [entryFrame, mkF, argsToLocals, Value.category, maxLocals]; done) | rfl
def Q0 (Z : State) (pp : Int64) (qq : Int64) (md : Int32) (h0 : Heap) (n0 : Nat) (v : Option Value) (h : Heap) (L : List Loc) : Prop := v = some (.int 1) ∧ Fr n0 L
set_option maxRecDepth 65536 in
set_option maxHeartbeats 40000000 in
theorem rm0 (l : Launch) (Z : State) (a0 : Array Value) (hw : ∀ d ∈ tables_1, d.before a0 Z = true) (ws : List Jvm.Cond) (pp : Int64) (qq : Int64) (md : Int32)  (h0 : Heap) (n0 : Nat) (Z0 : n0 ≤ h0.size)  :
    MetFree l x (head1 (Jvm.Cond.code x code maxLocals ret :: ws) room_1) (fun av' U => av' = #[(.long pp), (.long qq), (.int md)] ∧ Z.Warmed39 U.vm ∧ U.heap = h0) (fun _ _ _ _ _ => True) (fun _ U o U' => ∃ v L, o = .returned v ∧ Q0 Z pp qq md h0 n0 v U'.heap L ∧ FrameEnd U o U' L room_1.cells room_1.slots) := by
  refine MetFree.of_bodySF (plainFor_of_name pn_com_example_stripewell_stripewell_ordered_KeyPrefixOrderPinLaw) hisR ?_
  intro p e s m args below meth c s₁ Bd hml0 hP hK
  obtain ⟨rfl, hZ, hh⟩ := hP
  have hx := Bd.exec
  have hby := Bd.bytes
  have hlk := Bd.notSynchronized
  have hml : c.maxLocals = 11 := hml0
  have hown : s.vm.findClass "com/example/stripewell/stripewell/ordered/KeyPrefixOrderPinLaw" = some m.cls := findClass_of_methodNamed Bd.named
  have hnm := (name_of_methodNamed Bd.named Bd.method).1
  have X0 : Stand p l e room_1 s m #[(.long pp), (.long qq), (.int md)] below meth c s₁ [] 0 0 := Stand.of_body Bd
  have e0 : s₁.heap = h0 := by rw [← hh, Bd.state]; rfl
  have N0 := Fr.nil n0
  show Go p e below (Kq s (Q0 Z pp qq md h0 n0) room_1.cells room_1.slots) _
  refine go (fun t k => castTop (ef_rm0 m pp qq md) k) ?_
  show Go p e below _ (s₁.setTop (mkF m 0 #[.val (.long pp), .second, .val (.long qq), .second, .val (.int md), .unset, .unset, .unset, .unset, .unset, .unset] []))
  refine go (fun t k => by refine XS.lloadN X0.here hx rfl (hb hby at_0) rfl ?_; exact k) ?_
  show Go p e below _ (s₁.setTop (mkF m 1 #[.val (.long pp), .second, .val (.long qq), .second, .val (.int md), .unset, .unset, .unset, .unset, .unset, .unset] [(.long pp)]))
  refine go (fun t k => by refine XS.lstore X0.here hx rfl (hb hby at_1) rfl (l' := #[.val (.long pp), .second, .val (.long qq), .second, .val (.int md), .val (.long pp), .second, .unset, .unset, .unset, .unset]) rfl ?_; exact k) ?_
  show Go p e below _ (s₁.setTop (mkF m 3 #[.val (.long pp), .second, .val (.long qq), .second, .val (.int md), .val (.long pp), .second, .unset, .unset, .unset, .unset] []))
  refine go (fun t k => by refine XS.lloadN X0.here hx rfl (hb hby at_3) rfl ?_; exact k) ?_
  show Go p e below _ (s₁.setTop (mkF m 4 #[.val (.long pp), .second, .val (.long qq), .second, .val (.int md), .val (.long pp), .second, .unset, .unset, .unset, .unset] [(.long qq)]))
  refine go (fun t k => by refine XS.lstore X0.here hx rfl (hb hby at_4) rfl (l' := #[.val (.long pp), .second, .val (.long qq), .second, .val (.int md), .val (.long pp), .second, .val (.long qq), .second, .unset, .unset]) rfl ?_; exact k) ?_
  show Go p e below _ (s₁.setTop (mkF m 6 #[.val (.long pp), .second, .val (.long qq), .second, .val (.int md), .val (.long pp), .second, .val (.long qq), .second, .unset, .unset] []))
  refine go (fun t k => by refine XS.iload X0.here hx rfl (hb hby at_6) rfl ?_; exact k) ?_
  show Go p e below _ (s₁.setTop (mkF m 8 #[.val (.long pp), .second, .val (.long qq), .second, .val (.int md), .val (.long pp), .second, .val (.long qq), .second, .unset, .unset] [(.int md)]))
  refine go (fun t k => by refine XS.iconst X0.here hx rfl (hb hby at_8) ?_; exact k) ?_
  show Go p e below _ (s₁.setTop (mkF m 9 #[.val (.long pp), .second, .val (.long qq), .second, .val (.int md), .val (.long pp), .second, .val (.long qq), .second, .unset, .unset] [(.int (3 : Int32)), (.int md)]))
  refine go (fun t k => by refine XS.iand X0.here hx rfl (hb hby at_9) rfl ?_; exact k) ?_
  show Go p e below _ (s₁.setTop (mkF m 10 #[.val (.long pp), .second, .val (.long qq), .second, .val (.int md), .val (.long pp), .second, .val (.long qq), .second, .unset, .unset] [(.int (md &&& (3 : Int32)))]))
  refine go (fun t k => by refine XS.istore X0.here hx rfl (hb hby at_10) rfl (l' := #[.val (.long pp), .second, .val (.long qq), .second, .val (.int md), .val (.long pp), .second, .val (.long qq), .second, .val (.int (md &&& (3 : Int32))), .unset]) rfl ?_; exact k) ?_
  show Go p e below _ (s₁.setTop (mkF m 12 #[.val (.long pp), .second, .val (.long qq), .second, .val (.int md), .val (.long pp), .second, .val (.long qq), .second, .val (.int (md &&& (3 : Int32))), .unset] []))
  refine go (fun t k => by refine XS.iload X0.here hx rfl (hb hby at_12) rfl ?_; exact k) ?_
  show Go p e below _ (s₁.setTop (mkF m 14 #[.val (.long pp), .second, .val (.long qq), .second, .val (.int md), .val (.long pp), .second, .val (.long qq), .second, .val (.int (md &&& (3 : Int32))), .unset] [(.int (md &&& (3 : Int32)))]))
  refine go (fun t k => by refine XS.iconst X0.here hx rfl (hb hby at_14) ?_; exact k) ?_
  show Go p e below _ (s₁.setTop (mkF m 15 #[.val (.long pp), .second, .val (.long qq), .second, .val (.int md), .val (.long pp), .second, .val (.long qq), .second, .val (.int (md &&& (3 : Int32))), .unset] [(.int (1 : Int32)), (.int (md &&& (3 : Int32)))]))
  by_cases c15_1 : ¬ (md &&& (3 : Int32)) = (1 : Int32)
  · skip
    refine go (fun t k => by refine XS.icmpYes X0.here hx rfl (pc0 := 15) (pc' := 25) rfl (hb hby at_15) rfl (feq c15_1).2 (by decide) (by decide) ?_; exact k) ?_
    show Go p e below _ (s₁.setTop (mkF m 25 #[.val (.long pp), .second, .val (.long qq), .second, .val (.int md), .val (.long pp), .second, .val (.long qq), .second, .val (.int (md &&& (3 : Int32))), .unset] []))
    refine go (fun t k => by refine XS.iload X0.here hx rfl (hb hby at_25) rfl ?_; exact k) ?_
    show Go p e below _ (s₁.setTop (mkF m 27 #[.val (.long pp), .second, .val (.long qq), .second, .val (.int md), .val (.long pp), .second, .val (.long qq), .second, .val (.int (md &&& (3 : Int32))), .unset] [(.int (md &&& (3 : Int32)))]))
    refine go (fun t k => by refine XS.iconst X0.here hx rfl (hb hby at_27) ?_; exact k) ?_
    show Go p e below _ (s₁.setTop (mkF m 28 #[.val (.long pp), .second, .val (.long qq), .second, .val (.int md), .val (.long pp), .second, .val (.long qq), .second, .val (.int (md &&& (3 : Int32))), .unset] [(.int (2 : Int32)), (.int (md &&& (3 : Int32)))]))
    by_cases c28_2 : ¬ (md &&& (3 : Int32)) = (2 : Int32)
    · skip
      refine go (fun t k => by refine XS.icmpYes X0.here hx rfl (pc0 := 28) (pc' := 37) rfl (hb hby at_28) rfl (feq c28_2).2 (by decide) (by decide) ?_; exact k) ?_
      show Go p e below _ (s₁.setTop (mkF m 37 #[.val (.long pp), .second, .val (.long qq), .second, .val (.int md), .val (.long pp), .second, .val (.long qq), .second, .val (.int (md &&& (3 : Int32))), .unset] []))
      refine go (fun t k => by refine XS.iload X0.here hx rfl (hb hby at_37) rfl ?_; exact k) ?_
      show Go p e below _ (s₁.setTop (mkF m 39 #[.val (.long pp), .second, .val (.long qq), .second, .val (.int md), .val (.long pp), .second, .val (.long qq), .second, .val (.int (md &&& (3 : Int32))), .unset] [(.int (md &&& (3 : Int32)))]))
      refine go (fun t k => by refine XS.iconst X0.here hx rfl (hb hby at_39) ?_; exact k) ?_
      show Go p e below _ (s₁.setTop (mkF m 40 #[.val (.long pp), .second, .val (.long qq), .second, .val (.int md), .val (.long pp), .second, .val (.long qq), .second, .val (.int (md &&& (3 : Int32))), .unset] [(.int (3 : Int32)), (.int (md &&& (3 : Int32)))]))
      by_cases c40_3 : ¬ (md &&& (3 : Int32)) = (3 : Int32)
      · skip
        refine go (fun t k => by refine XS.icmpYes X0.here hx rfl (pc0 := 40) (pc' := 46) rfl (hb hby at_40) rfl (feq c40_3).2 (by decide) (by decide) ?_; exact k) ?_
        show Go p e below _ (s₁.setTop (mkF m 46 #[.val (.long pp), .second, .val (.long qq), .second, .val (.int md), .val (.long pp), .second, .val (.long qq), .second, .val (.int (md &&& (3 : Int32))), .unset] []))
        refine go (fun t k => by refine XS.lload X0.here hx rfl (hb hby at_46) rfl ?_; exact k) ?_
        show Go p e below _ (s₁.setTop (mkF m 48 #[.val (.long pp), .second, .val (.long qq), .second, .val (.int md), .val (.long pp), .second, .val (.long qq), .second, .val (.int (md &&& (3 : Int32))), .unset] [(.long pp)]))
        refine go (fun t k => by refine XS.lload X0.here hx rfl (hb hby at_48) rfl ?_; exact k) ?_
        show Go p e below _ (s₁.setTop (mkF m 50 #[.val (.long pp), .second, .val (.long qq), .second, .val (.int md), .val (.long pp), .second, .val (.long qq), .second, .val (.int (md &&& (3 : Int32))), .unset] [(.long qq), (.long pp)]))
        obtain ⟨_, _, ⟨T4, L4, k4, n4⟩, -, X4, ⟨Lc4, hQ4, l4, y4, z4⟩, st4⟩ := Jvm.LawKit.callS X0 hx (y := (⟨"com/example/stripewell/stripewell/ordered/KeyPrefix", "order", "(JJ)I"⟩ : MethodName)) hown (mvT hZ (hw _ (List.mem_of_getElem? (i := 0) rfl))) (mvT hZ (hw _ (List.mem_of_getElem? (i := 1) rfl))) (mvT hZ (hw _ (List.mem_of_getElem? (i := 2) rfl))) (mvT hZ (hw _ (List.mem_of_getElem? (i := 3) rfl))) (by decide) (backOf (W := 0) (rm1 l Z a0 hw [] pp qq h0 n0 Z0) hZ (hw _ (List.mem_of_getElem? (i := 3) rfl)) (hw _ (List.mem_of_getElem? (i := 2) rfl)) (by decide) (by decide)) (g := (mkF m 50 #[.val (.long pp), .second, .val (.long qq), .second, .val (.int md), .val (.long pp), .second, .val (.long qq), .second, .val (.int (md &&& (3 : Int32))), .unset] [(.long qq), (.long pp)])) rfl (by rw [hml]; rfl) (argsL := [(.long pp), (.long qq)]) (rest := []) (lenOf pd_0 rfl) rfl (by show 2 * 0 + _ ≤ _; exact Nat.le_of_eq rfl) (hb hby at_50) (fun _ _ => ⟨rfl, e0, (by decide : 0 + 0 ≤ _), (by decide : 0 + 0 ≤ _)⟩)
        dsimp only [Pt.U, Pt.locs, Pt.cells, Pt.slots] at X4 l4 y4 z4 st4 hQ4
        subst l4 y4 z4
        obtain ⟨rfl, N4q, e4⟩ := hQ4
        have N4 := Fr.app N0 N4q
        refine go st4 ?_
        show Go p e below _ (T4.setTop (mkF m 53 #[.val (.long pp), .second, .val (.long qq), .second, .val (.int md), .val (.long pp), .second, .val (.long qq), .second, .val (.int (md &&& (3 : Int32))), .unset] [(.int (own_or pp qq))]))
        refine go (fun t k => by refine XS.istore X4.here hx rfl (hb hby at_53) rfl (l' := #[.val (.long pp), .second, .val (.long qq), .second, .val (.int md), .val (.long pp), .second, .val (.long qq), .second, .val (.int (md &&& (3 : Int32))), .val (.int (own_or pp qq))]) rfl ?_; exact k) ?_
        show Go p e below _ (T4.setTop (mkF m 55 #[.val (.long pp), .second, .val (.long qq), .second, .val (.int md), .val (.long pp), .second, .val (.long qq), .second, .val (.int (md &&& (3 : Int32))), .val (.int (own_or pp qq))] []))
        refine go (fun t k => by refine XS.lload X4.here hx rfl (hb hby at_55) rfl ?_; exact k) ?_
        show Go p e below _ (T4.setTop (mkF m 57 #[.val (.long pp), .second, .val (.long qq), .second, .val (.int md), .val (.long pp), .second, .val (.long qq), .second, .val (.int (md &&& (3 : Int32))), .val (.int (own_or pp qq))] [(.long pp)]))
        refine go (fun t k => by refine XS.lconst X4.here hx rfl (hb hby at_57) ?_; exact k) ?_
        show Go p e below _ (T4.setTop (mkF m 58 #[.val (.long pp), .second, .val (.long qq), .second, .val (.int md), .val (.long pp), .second, .val (.long qq), .second, .val (.int (md &&& (3 : Int32))), .val (.int (own_or pp qq))] [(.long (0 : Int64)), (.long pp)]))
        refine go (fun t k => by refine XS.lcmp X4.here hx rfl (hb hby at_58) rfl ?_; exact k) ?_
        show Go p e below _ (T4.setTop (mkF m 59 #[.val (.long pp), .second, .val (.long qq), .second, .val (.int md), .val (.long pp), .second, .val (.long qq), .second, .val (.int (md &&& (3 : Int32))), .val (.int (own_or pp qq))] [(.int (lcmpW pp (0 : Int64)))]))
        by_cases c59_5 : pp = (0 : Int64)
        · skip
          refine go (fun t k => by refine XS.ifYes X4.here hx rfl (pc0 := 59) (pc' := 69) rfl (hb hby at_59) rfl ((if0 _ _).trans (teq ((lw_eq _ _).mpr c59_5)).1) (by decide) (by decide) ?_; exact k) ?_
          show Go p e below _ (T4.setTop (mkF m 69 #[.val (.long pp), .second, .val (.long qq), .second, .val (.int md), .val (.long pp), .second, .val (.long qq), .second, .val (.int (md &&& (3 : Int32))), .val (.int (own_or pp qq))] []))
          refine go (fun t k => by refine XS.iload X4.here hx rfl (hb hby at_69) rfl ?_; exact k) ?_
          show Go p e below _ (T4.setTop (mkF m 71 #[.val (.long pp), .second, .val (.long qq), .second, .val (.int md), .val (.long pp), .second, .val (.long qq), .second, .val (.int (md &&& (3 : Int32))), .val (.int (own_or pp qq))] [(.int (own_or pp qq))]))
          have c71_6 : ¬ (¬ (own_or pp qq) = (0 : Int32)) := not_not_intro (own_or_zero _ _ (Or.inl c59_5))
          refine go (fun t k => by refine XS.ifNo X4.here hx rfl (hb hby at_71) rfl ((if0 _ _).trans (teq (Decidable.not_not.mp c71_6)).2) ?_; exact k) ?_
          show Go p e below _ (T4.setTop (mkF m 74 #[.val (.long pp), .second, .val (.long qq), .second, .val (.int md), .val (.long pp), .second, .val (.long qq), .second, .val (.int (md &&& (3 : Int32))), .val (.int (own_or pp qq))] []))
          refine go (fun t k => by refine XS.iconst X4.here hx rfl (hb hby at_74) ?_; exact k) ?_
          show Go p e below _ (T4.setTop (mkF m 75 #[.val (.long pp), .second, .val (.long qq), .second, .val (.int md), .val (.long pp), .second, .val (.long qq), .second, .val (.int (md &&& (3 : Int32))), .val (.int (own_or pp qq))] [(.int (1 : Int32))]))
          refine go (fun t k => by refine XS.goto X4.here hx rfl (pc0 := 75) (pc' := 79) rfl (hb hby at_75) (by decide) (by decide) ?_; exact k) ?_
          show Go p e below _ (T4.setTop (mkF m 79 #[.val (.long pp), .second, .val (.long qq), .second, .val (.int md), .val (.long pp), .second, .val (.long qq), .second, .val (.int (md &&& (3 : Int32))), .val (.int (own_or pp qq))] [(.int (1 : Int32))]))
          refine goOut X4 (fun h => by rw [Bd.returns] at h; cases h) hlk (fun fs hr => retN X4 hx (t := .boolean) Bd.returns (by simp) (hb hby at_79) hr) (by decide) (by decide) ?_
          rw [e4]
          exact ⟨rfl, N4⟩
        · skip
          refine go (fun t k => by refine XS.ifNo X4.here hx rfl (hb hby at_59) rfl ((if0 _ _).trans (feq (fun q => c59_5 ((lw_eq _ _).mp q))).1) ?_; exact k) ?_
          show Go p e below _ (T4.setTop (mkF m 62 #[.val (.long pp), .second, .val (.long qq), .second, .val (.int md), .val (.long pp), .second, .val (.long qq), .second, .val (.int (md &&& (3 : Int32))), .val (.int (own_or pp qq))] []))
          refine go (fun t k => by refine XS.lload X4.here hx rfl (hb hby at_62) rfl ?_; exact k) ?_
          show Go p e below _ (T4.setTop (mkF m 64 #[.val (.long pp), .second, .val (.long qq), .second, .val (.int md), .val (.long pp), .second, .val (.long qq), .second, .val (.int (md &&& (3 : Int32))), .val (.int (own_or pp qq))] [(.long qq)]))
          refine go (fun t k => by refine XS.lconst X4.here hx rfl (hb hby at_64) ?_; exact k) ?_
          show Go p e below _ (T4.setTop (mkF m 65 #[.val (.long pp), .second, .val (.long qq), .second, .val (.int md), .val (.long pp), .second, .val (.long qq), .second, .val (.int (md &&& (3 : Int32))), .val (.int (own_or pp qq))] [(.long (0 : Int64)), (.long qq)]))
          refine go (fun t k => by refine XS.lcmp X4.here hx rfl (hb hby at_65) rfl ?_; exact k) ?_
          show Go p e below _ (T4.setTop (mkF m 66 #[.val (.long pp), .second, .val (.long qq), .second, .val (.int md), .val (.long pp), .second, .val (.long qq), .second, .val (.int (md &&& (3 : Int32))), .val (.int (own_or pp qq))] [(.int (lcmpW qq (0 : Int64)))]))
          by_cases c66_7 : ¬ qq = (0 : Int64)
          · skip
            refine go (fun t k => by refine XS.ifYes X4.here hx rfl (pc0 := 66) (pc' := 80) rfl (hb hby at_66) rfl ((if0 _ _).trans (feq (fun q => c66_7 ((lw_eq _ _).mp q))).2) (by decide) (by decide) ?_; exact k) ?_
            show Go p e below _ (T4.setTop (mkF m 80 #[.val (.long pp), .second, .val (.long qq), .second, .val (.int md), .val (.long pp), .second, .val (.long qq), .second, .val (.int (md &&& (3 : Int32))), .val (.int (own_or pp qq))] []))
            refine go (fun t k => by refine XS.lload X4.here hx rfl (hb hby at_80) rfl ?_; exact k) ?_
            show Go p e below _ (T4.setTop (mkF m 82 #[.val (.long pp), .second, .val (.long qq), .second, .val (.int md), .val (.long pp), .second, .val (.long qq), .second, .val (.int (md &&& (3 : Int32))), .val (.int (own_or pp qq))] [(.long pp)]))
            refine go (fun t k => by refine XS.lload X4.here hx rfl (hb hby at_82) rfl ?_; exact k) ?_
            show Go p e below _ (T4.setTop (mkF m 84 #[.val (.long pp), .second, .val (.long qq), .second, .val (.int md), .val (.long pp), .second, .val (.long qq), .second, .val (.int (md &&& (3 : Int32))), .val (.int (own_or pp qq))] [(.long qq), (.long pp)]))
            refine go (fun t k => by refine XS.lcmp X4.here hx rfl (hb hby at_84) rfl ?_; exact k) ?_
            show Go p e below _ (T4.setTop (mkF m 85 #[.val (.long pp), .second, .val (.long qq), .second, .val (.int md), .val (.long pp), .second, .val (.long qq), .second, .val (.int (md &&& (3 : Int32))), .val (.int (own_or pp qq))] [(.int (lcmpW pp qq))]))
            by_cases c85_8 : ¬ pp = qq
            · skip
              refine go (fun t k => by refine XS.ifYes X4.here hx rfl (pc0 := 85) (pc' := 99) rfl (hb hby at_85) rfl ((if0 _ _).trans (feq (fun q => c85_8 ((lw_eq _ _).mp q))).2) (by decide) (by decide) ?_; exact k) ?_
              show Go p e below _ (T4.setTop (mkF m 99 #[.val (.long pp), .second, .val (.long qq), .second, .val (.int md), .val (.long pp), .second, .val (.long qq), .second, .val (.int (md &&& (3 : Int32))), .val (.int (own_or pp qq))] []))
              refine go (fun t k => by refine XS.lload X4.here hx rfl (hb hby at_99) rfl ?_; exact k) ?_
              show Go p e below _ (T4.setTop (mkF m 101 #[.val (.long pp), .second, .val (.long qq), .second, .val (.int md), .val (.long pp), .second, .val (.long qq), .second, .val (.int (md &&& (3 : Int32))), .val (.int (own_or pp qq))] [(.long pp)]))
              refine go (fun t k => by refine XS.lload X4.here hx rfl (hb hby at_101) rfl ?_; exact k) ?_
              show Go p e below _ (T4.setTop (mkF m 103 #[.val (.long pp), .second, .val (.long qq), .second, .val (.int md), .val (.long pp), .second, .val (.long qq), .second, .val (.int (md &&& (3 : Int32))), .val (.int (own_or pp qq))] [(.long qq), (.long pp)]))
              obtain ⟨_, _, ⟨T9, L9, k9, n9⟩, -, X9, ⟨Lc9, hQ9, l9, y9, z9⟩, st9⟩ := Jvm.LawKit.callS X4 hx (y := (⟨"com/example/stripewell/stripewell/ordered/KeyPrefixOrderPinLaw", "unsignedLess", "(JJ)Z"⟩ : MethodName)) hown (mvT hZ (hw _ (List.mem_of_getElem? (i := 12) rfl))) (mvT hZ (hw _ (List.mem_of_getElem? (i := 13) rfl))) (mvT hZ (hw _ (List.mem_of_getElem? (i := 14) rfl))) (mvT hZ (hw _ (List.mem_of_getElem? (i := 15) rfl))) (by decide) (backOf (W := 0) (rm4 l Z a0 hw [] pp qq h0 n0 Z0) hZ (hw _ (List.mem_of_getElem? (i := 15) rfl)) (hw _ (List.mem_of_getElem? (i := 14) rfl)) (by decide) (by decide)) (g := (mkF m 103 #[.val (.long pp), .second, .val (.long qq), .second, .val (.int md), .val (.long pp), .second, .val (.long qq), .second, .val (.int (md &&& (3 : Int32))), .val (.int (own_or pp qq))] [(.long qq), (.long pp)])) rfl (by rw [hml]; rfl) (argsL := [(.long pp), (.long qq)]) (rest := []) (lenOf pd_1 rfl) rfl (by show 2 * 0 + _ ≤ _; exact Nat.le_of_eq rfl) (hb hby at_103) (fun _ _ => ⟨rfl, e4, (by decide : 0 + 0 ≤ _), (by decide : 0 + 0 ≤ _)⟩)
              dsimp only [Pt.U, Pt.locs, Pt.cells, Pt.slots] at X9 l9 y9 z9 st9 hQ9
              subst l9 y9 z9
              obtain ⟨rfl, N9q, e9⟩ := hQ9
              have N9 := Fr.app N4 N9q
              refine go st9 ?_
              show Go p e below _ (T9.setTop (mkF m 106 #[.val (.long pp), .second, .val (.long qq), .second, .val (.int md), .val (.long pp), .second, .val (.long qq), .second, .val (.int (md &&& (3 : Int32))), .val (.int (own_or pp qq))] [(.int (own_ul pp qq))]))
              by_cases c106_10 : (own_ul pp qq) = (0 : Int32)
              · skip
                refine go (fun t k => by refine XS.ifYes X9.here hx rfl (pc0 := 106) (pc' := 120) rfl (hb hby at_106) rfl ((if0 _ _).trans (teq c106_10).1) (by decide) (by decide) ?_; exact k) ?_
                show Go p e below _ (T9.setTop (mkF m 120 #[.val (.long pp), .second, .val (.long qq), .second, .val (.int md), .val (.long pp), .second, .val (.long qq), .second, .val (.int (md &&& (3 : Int32))), .val (.int (own_or pp qq))] []))
                refine go (fun t k => by refine XS.iload X9.here hx rfl (hb hby at_120) rfl ?_; exact k) ?_
                show Go p e below _ (T9.setTop (mkF m 122 #[.val (.long pp), .second, .val (.long qq), .second, .val (.int md), .val (.long pp), .second, .val (.long qq), .second, .val (.int (md &&& (3 : Int32))), .val (.int (own_or pp qq))] [(.int (own_or pp qq))]))
                have c122_11 : ¬ (¬ (0 : Int32) < (own_or pp qq)) := not_not_intro ((own_or_iff _ _ c59_5 c66_7 c85_8).2.mpr ((own_ul_iff _ _).mp c106_10))
                refine go (fun t k => by refine XS.ifNo X9.here hx rfl (hb hby at_122) rfl ((if0 _ _).trans (tlt (Decidable.not_not.mp c122_11)).2.2.2) ?_; exact k) ?_
                show Go p e below _ (T9.setTop (mkF m 125 #[.val (.long pp), .second, .val (.long qq), .second, .val (.int md), .val (.long pp), .second, .val (.long qq), .second, .val (.int (md &&& (3 : Int32))), .val (.int (own_or pp qq))] []))
                refine go (fun t k => by refine XS.iconst X9.here hx rfl (hb hby at_125) ?_; exact k) ?_
                show Go p e below _ (T9.setTop (mkF m 126 #[.val (.long pp), .second, .val (.long qq), .second, .val (.int md), .val (.long pp), .second, .val (.long qq), .second, .val (.int (md &&& (3 : Int32))), .val (.int (own_or pp qq))] [(.int (1 : Int32))]))
                refine go (fun t k => by refine XS.goto X9.here hx rfl (pc0 := 126) (pc' := 130) rfl (hb hby at_126) (by decide) (by decide) ?_; exact k) ?_
                show Go p e below _ (T9.setTop (mkF m 130 #[.val (.long pp), .second, .val (.long qq), .second, .val (.int md), .val (.long pp), .second, .val (.long qq), .second, .val (.int (md &&& (3 : Int32))), .val (.int (own_or pp qq))] [(.int (1 : Int32))]))
                refine goOut X9 (fun h => by rw [Bd.returns] at h; cases h) hlk (fun fs hr => retN X9 hx (t := .boolean) Bd.returns (by simp) (hb hby at_130) hr) (by decide) (by decide) ?_
                rw [e9]
                exact ⟨rfl, N9⟩
              · skip
                refine go (fun t k => by refine XS.ifNo X9.here hx rfl (hb hby at_106) rfl ((if0 _ _).trans (feq c106_10).1) ?_; exact k) ?_
                show Go p e below _ (T9.setTop (mkF m 109 #[.val (.long pp), .second, .val (.long qq), .second, .val (.int md), .val (.long pp), .second, .val (.long qq), .second, .val (.int (md &&& (3 : Int32))), .val (.int (own_or pp qq))] []))
                refine go (fun t k => by refine XS.iload X9.here hx rfl (hb hby at_109) rfl ?_; exact k) ?_
                show Go p e below _ (T9.setTop (mkF m 111 #[.val (.long pp), .second, .val (.long qq), .second, .val (.int md), .val (.long pp), .second, .val (.long qq), .second, .val (.int (md &&& (3 : Int32))), .val (.int (own_or pp qq))] [(.int (own_or pp qq))]))
                have c111_12 : ¬ (¬ (own_or pp qq) < (0 : Int32)) := not_not_intro ((own_or_iff _ _ c59_5 c66_7 c85_8).1.mpr (Decidable.not_not.mp (fun q => c106_10 ((own_ul_iff _ _).mpr q))))
                refine go (fun t k => by refine XS.ifNo X9.here hx rfl (hb hby at_111) rfl ((if0 _ _).trans (tlt (Decidable.not_not.mp c111_12)).2.1) ?_; exact k) ?_
                show Go p e below _ (T9.setTop (mkF m 114 #[.val (.long pp), .second, .val (.long qq), .second, .val (.int md), .val (.long pp), .second, .val (.long qq), .second, .val (.int (md &&& (3 : Int32))), .val (.int (own_or pp qq))] []))
                refine go (fun t k => by refine XS.iconst X9.here hx rfl (hb hby at_114) ?_; exact k) ?_
                show Go p e below _ (T9.setTop (mkF m 115 #[.val (.long pp), .second, .val (.long qq), .second, .val (.int md), .val (.long pp), .second, .val (.long qq), .second, .val (.int (md &&& (3 : Int32))), .val (.int (own_or pp qq))] [(.int (1 : Int32))]))
                refine go (fun t k => by refine XS.goto X9.here hx rfl (pc0 := 115) (pc' := 119) rfl (hb hby at_115) (by decide) (by decide) ?_; exact k) ?_
                show Go p e below _ (T9.setTop (mkF m 119 #[.val (.long pp), .second, .val (.long qq), .second, .val (.int md), .val (.long pp), .second, .val (.long qq), .second, .val (.int (md &&& (3 : Int32))), .val (.int (own_or pp qq))] [(.int (1 : Int32))]))
                refine goOut X9 (fun h => by rw [Bd.returns] at h; cases h) hlk (fun fs hr => retN X9 hx (t := .boolean) Bd.returns (by simp) (hb hby at_119) hr) (by decide) (by decide) ?_
                rw [e9]
                exact ⟨rfl, N9⟩
            · skip
              refine go (fun t k => by refine XS.ifNo X4.here hx rfl (hb hby at_85) rfl ((if0 _ _).trans (teq ((lw_eq _ _).mpr (Decidable.not_not.mp c85_8))).2) ?_; exact k) ?_
              show Go p e below _ (T4.setTop (mkF m 88 #[.val (.long pp), .second, .val (.long qq), .second, .val (.int md), .val (.long pp), .second, .val (.long qq), .second, .val (.int (md &&& (3 : Int32))), .val (.int (own_or pp qq))] []))
              refine go (fun t k => by refine XS.iload X4.here hx rfl (hb hby at_88) rfl ?_; exact k) ?_
              show Go p e below _ (T4.setTop (mkF m 90 #[.val (.long pp), .second, .val (.long qq), .second, .val (.int md), .val (.long pp), .second, .val (.long qq), .second, .val (.int (md &&& (3 : Int32))), .val (.int (own_or pp qq))] [(.int (own_or pp qq))]))
              have c90_13 : ¬ (¬ (own_or pp qq) = (0 : Int32)) := not_not_intro (own_or_same _ _ (Decidable.not_not.mp c85_8))
              refine go (fun t k => by refine XS.ifNo X4.here hx rfl (hb hby at_90) rfl ((if0 _ _).trans (teq (Decidable.not_not.mp c90_13)).2) ?_; exact k) ?_
              show Go p e below _ (T4.setTop (mkF m 93 #[.val (.long pp), .second, .val (.long qq), .second, .val (.int md), .val (.long pp), .second, .val (.long qq), .second, .val (.int (md &&& (3 : Int32))), .val (.int (own_or pp qq))] []))
              refine go (fun t k => by refine XS.iconst X4.here hx rfl (hb hby at_93) ?_; exact k) ?_
              show Go p e below _ (T4.setTop (mkF m 94 #[.val (.long pp), .second, .val (.long qq), .second, .val (.int md), .val (.long pp), .second, .val (.long qq), .second, .val (.int (md &&& (3 : Int32))), .val (.int (own_or pp qq))] [(.int (1 : Int32))]))
              refine go (fun t k => by refine XS.goto X4.here hx rfl (pc0 := 94) (pc' := 98) rfl (hb hby at_94) (by decide) (by decide) ?_; exact k) ?_
              show Go p e below _ (T4.setTop (mkF m 98 #[.val (.long pp), .second, .val (.long qq), .second, .val (.int md), .val (.long pp), .second, .val (.long qq), .second, .val (.int (md &&& (3 : Int32))), .val (.int (own_or pp qq))] [(.int (1 : Int32))]))
              refine goOut X4 (fun h => by rw [Bd.returns] at h; cases h) hlk (fun fs hr => retN X4 hx (t := .boolean) Bd.returns (by simp) (hb hby at_98) hr) (by decide) (by decide) ?_
              rw [e4]
              exact ⟨rfl, N4⟩
          · skip
            refine go (fun t k => by refine XS.ifNo X4.here hx rfl (hb hby at_66) rfl ((if0 _ _).trans (teq ((lw_eq _ _).mpr (Decidable.not_not.mp c66_7))).2) ?_; exact k) ?_
            show Go p e below _ (T4.setTop (mkF m 69 #[.val (.long pp), .second, .val (.long qq), .second, .val (.int md), .val (.long pp), .second, .val (.long qq), .second, .val (.int (md &&& (3 : Int32))), .val (.int (own_or pp qq))] []))
            refine go (fun t k => by refine XS.iload X4.here hx rfl (hb hby at_69) rfl ?_; exact k) ?_
            show Go p e below _ (T4.setTop (mkF m 71 #[.val (.long pp), .second, .val (.long qq), .second, .val (.int md), .val (.long pp), .second, .val (.long qq), .second, .val (.int (md &&& (3 : Int32))), .val (.int (own_or pp qq))] [(.int (own_or pp qq))]))
            have c71_14 : ¬ (¬ (own_or pp qq) = (0 : Int32)) := not_not_intro (own_or_zero _ _ (Or.inr (Decidable.not_not.mp c66_7)))
            refine go (fun t k => by refine XS.ifNo X4.here hx rfl (hb hby at_71) rfl ((if0 _ _).trans (teq (Decidable.not_not.mp c71_14)).2) ?_; exact k) ?_
            show Go p e below _ (T4.setTop (mkF m 74 #[.val (.long pp), .second, .val (.long qq), .second, .val (.int md), .val (.long pp), .second, .val (.long qq), .second, .val (.int (md &&& (3 : Int32))), .val (.int (own_or pp qq))] []))
            refine go (fun t k => by refine XS.iconst X4.here hx rfl (hb hby at_74) ?_; exact k) ?_
            show Go p e below _ (T4.setTop (mkF m 75 #[.val (.long pp), .second, .val (.long qq), .second, .val (.int md), .val (.long pp), .second, .val (.long qq), .second, .val (.int (md &&& (3 : Int32))), .val (.int (own_or pp qq))] [(.int (1 : Int32))]))
            refine go (fun t k => by refine XS.goto X4.here hx rfl (pc0 := 75) (pc' := 79) rfl (hb hby at_75) (by decide) (by decide) ?_; exact k) ?_
            show Go p e below _ (T4.setTop (mkF m 79 #[.val (.long pp), .second, .val (.long qq), .second, .val (.int md), .val (.long pp), .second, .val (.long qq), .second, .val (.int (md &&& (3 : Int32))), .val (.int (own_or pp qq))] [(.int (1 : Int32))]))
            refine goOut X4 (fun h => by rw [Bd.returns] at h; cases h) hlk (fun fs hr => retN X4 hx (t := .boolean) Bd.returns (by simp) (hb hby at_79) hr) (by decide) (by decide) ?_
            rw [e4]
            exact ⟨rfl, N4⟩
      · skip
        refine go (fun t k => by refine XS.icmpNo X0.here hx rfl (hb hby at_40) rfl (teq (Decidable.not_not.mp c40_3)).2 ?_; exact k) ?_
        show Go p e below _ (s₁.setTop (mkF m 43 #[.val (.long pp), .second, .val (.long qq), .second, .val (.int md), .val (.long pp), .second, .val (.long qq), .second, .val (.int (md &&& (3 : Int32))), .unset] []))
        refine go (fun t k => by refine XS.lconst X0.here hx rfl (hb hby at_43) ?_; exact k) ?_
        show Go p e below _ (s₁.setTop (mkF m 44 #[.val (.long pp), .second, .val (.long qq), .second, .val (.int md), .val (.long pp), .second, .val (.long qq), .second, .val (.int (md &&& (3 : Int32))), .unset] [(.long (0 : Int64))]))
        refine go (fun t k => by refine XS.lstore X0.here hx rfl (hb hby at_44) rfl (l' := #[.val (.long pp), .second, .val (.long qq), .second, .val (.int md), .val (.long pp), .second, .val (.long (0 : Int64)), .second, .val (.int (md &&& (3 : Int32))), .unset]) rfl ?_; exact k) ?_
        show Go p e below _ (s₁.setTop (mkF m 46 #[.val (.long pp), .second, .val (.long qq), .second, .val (.int md), .val (.long pp), .second, .val (.long (0 : Int64)), .second, .val (.int (md &&& (3 : Int32))), .unset] []))
        refine go (fun t k => by refine XS.lload X0.here hx rfl (hb hby at_46) rfl ?_; exact k) ?_
        show Go p e below _ (s₁.setTop (mkF m 48 #[.val (.long pp), .second, .val (.long qq), .second, .val (.int md), .val (.long pp), .second, .val (.long (0 : Int64)), .second, .val (.int (md &&& (3 : Int32))), .unset] [(.long pp)]))
        refine go (fun t k => by refine XS.lload X0.here hx rfl (hb hby at_48) rfl ?_; exact k) ?_
        show Go p e below _ (s₁.setTop (mkF m 50 #[.val (.long pp), .second, .val (.long qq), .second, .val (.int md), .val (.long pp), .second, .val (.long (0 : Int64)), .second, .val (.int (md &&& (3 : Int32))), .unset] [(.long (0 : Int64)), (.long pp)]))
        obtain ⟨_, _, ⟨T15, L15, k15, n15⟩, -, X15, ⟨Lc15, hQ15, l15, y15, z15⟩, st15⟩ := Jvm.LawKit.callS X0 hx (y := (⟨"com/example/stripewell/stripewell/ordered/KeyPrefix", "order", "(JJ)I"⟩ : MethodName)) hown (mvT hZ (hw _ (List.mem_of_getElem? (i := 0) rfl))) (mvT hZ (hw _ (List.mem_of_getElem? (i := 1) rfl))) (mvT hZ (hw _ (List.mem_of_getElem? (i := 2) rfl))) (mvT hZ (hw _ (List.mem_of_getElem? (i := 3) rfl))) (by decide) (backOf (W := 0) (rm1 l Z a0 hw [] pp (0 : Int64) h0 n0 Z0) hZ (hw _ (List.mem_of_getElem? (i := 3) rfl)) (hw _ (List.mem_of_getElem? (i := 2) rfl)) (by decide) (by decide)) (g := (mkF m 50 #[.val (.long pp), .second, .val (.long qq), .second, .val (.int md), .val (.long pp), .second, .val (.long (0 : Int64)), .second, .val (.int (md &&& (3 : Int32))), .unset] [(.long (0 : Int64)), (.long pp)])) rfl (by rw [hml]; rfl) (argsL := [(.long pp), (.long (0 : Int64))]) (rest := []) (lenOf pd_0 rfl) rfl (by show 2 * 0 + _ ≤ _; exact Nat.le_of_eq rfl) (hb hby at_50) (fun _ _ => ⟨rfl, e0, (by decide : 0 + 0 ≤ _), (by decide : 0 + 0 ≤ _)⟩)
        dsimp only [Pt.U, Pt.locs, Pt.cells, Pt.slots] at X15 l15 y15 z15 st15 hQ15
        subst l15 y15 z15
        obtain ⟨rfl, N15q, e15⟩ := hQ15
        have N15 := Fr.app N0 N15q
        refine go st15 ?_
        show Go p e below _ (T15.setTop (mkF m 53 #[.val (.long pp), .second, .val (.long qq), .second, .val (.int md), .val (.long pp), .second, .val (.long (0 : Int64)), .second, .val (.int (md &&& (3 : Int32))), .unset] [(.int (own_or pp (0 : Int64)))]))
        refine go (fun t k => by refine XS.istore X15.here hx rfl (hb hby at_53) rfl (l' := #[.val (.long pp), .second, .val (.long qq), .second, .val (.int md), .val (.long pp), .second, .val (.long (0 : Int64)), .second, .val (.int (md &&& (3 : Int32))), .val (.int (own_or pp (0 : Int64)))]) rfl ?_; exact k) ?_
        show Go p e below _ (T15.setTop (mkF m 55 #[.val (.long pp), .second, .val (.long qq), .second, .val (.int md), .val (.long pp), .second, .val (.long (0 : Int64)), .second, .val (.int (md &&& (3 : Int32))), .val (.int (own_or pp (0 : Int64)))] []))
        refine go (fun t k => by refine XS.lload X15.here hx rfl (hb hby at_55) rfl ?_; exact k) ?_
        show Go p e below _ (T15.setTop (mkF m 57 #[.val (.long pp), .second, .val (.long qq), .second, .val (.int md), .val (.long pp), .second, .val (.long (0 : Int64)), .second, .val (.int (md &&& (3 : Int32))), .val (.int (own_or pp (0 : Int64)))] [(.long pp)]))
        refine go (fun t k => by refine XS.lconst X15.here hx rfl (hb hby at_57) ?_; exact k) ?_
        show Go p e below _ (T15.setTop (mkF m 58 #[.val (.long pp), .second, .val (.long qq), .second, .val (.int md), .val (.long pp), .second, .val (.long (0 : Int64)), .second, .val (.int (md &&& (3 : Int32))), .val (.int (own_or pp (0 : Int64)))] [(.long (0 : Int64)), (.long pp)]))
        refine go (fun t k => by refine XS.lcmp X15.here hx rfl (hb hby at_58) rfl ?_; exact k) ?_
        show Go p e below _ (T15.setTop (mkF m 59 #[.val (.long pp), .second, .val (.long qq), .second, .val (.int md), .val (.long pp), .second, .val (.long (0 : Int64)), .second, .val (.int (md &&& (3 : Int32))), .val (.int (own_or pp (0 : Int64)))] [(.int (lcmpW pp (0 : Int64)))]))
        by_cases c59_16 : pp = (0 : Int64)
        · skip
          refine go (fun t k => by refine XS.ifYes X15.here hx rfl (pc0 := 59) (pc' := 69) rfl (hb hby at_59) rfl ((if0 _ _).trans (teq ((lw_eq _ _).mpr c59_16)).1) (by decide) (by decide) ?_; exact k) ?_
          show Go p e below _ (T15.setTop (mkF m 69 #[.val (.long pp), .second, .val (.long qq), .second, .val (.int md), .val (.long pp), .second, .val (.long (0 : Int64)), .second, .val (.int (md &&& (3 : Int32))), .val (.int (own_or pp (0 : Int64)))] []))
          refine go (fun t k => by refine XS.iload X15.here hx rfl (hb hby at_69) rfl ?_; exact k) ?_
          show Go p e below _ (T15.setTop (mkF m 71 #[.val (.long pp), .second, .val (.long qq), .second, .val (.int md), .val (.long pp), .second, .val (.long (0 : Int64)), .second, .val (.int (md &&& (3 : Int32))), .val (.int (own_or pp (0 : Int64)))] [(.int (own_or pp (0 : Int64)))]))
          have c71_17 : ¬ (¬ (own_or pp (0 : Int64)) = (0 : Int32)) := not_not_intro (own_or_zero _ _ (Or.inl c59_16))
          refine go (fun t k => by refine XS.ifNo X15.here hx rfl (hb hby at_71) rfl ((if0 _ _).trans (teq (Decidable.not_not.mp c71_17)).2) ?_; exact k) ?_
          show Go p e below _ (T15.setTop (mkF m 74 #[.val (.long pp), .second, .val (.long qq), .second, .val (.int md), .val (.long pp), .second, .val (.long (0 : Int64)), .second, .val (.int (md &&& (3 : Int32))), .val (.int (own_or pp (0 : Int64)))] []))
          refine go (fun t k => by refine XS.iconst X15.here hx rfl (hb hby at_74) ?_; exact k) ?_
          show Go p e below _ (T15.setTop (mkF m 75 #[.val (.long pp), .second, .val (.long qq), .second, .val (.int md), .val (.long pp), .second, .val (.long (0 : Int64)), .second, .val (.int (md &&& (3 : Int32))), .val (.int (own_or pp (0 : Int64)))] [(.int (1 : Int32))]))
          refine go (fun t k => by refine XS.goto X15.here hx rfl (pc0 := 75) (pc' := 79) rfl (hb hby at_75) (by decide) (by decide) ?_; exact k) ?_
          show Go p e below _ (T15.setTop (mkF m 79 #[.val (.long pp), .second, .val (.long qq), .second, .val (.int md), .val (.long pp), .second, .val (.long (0 : Int64)), .second, .val (.int (md &&& (3 : Int32))), .val (.int (own_or pp (0 : Int64)))] [(.int (1 : Int32))]))
          refine goOut X15 (fun h => by rw [Bd.returns] at h; cases h) hlk (fun fs hr => retN X15 hx (t := .boolean) Bd.returns (by simp) (hb hby at_79) hr) (by decide) (by decide) ?_
          rw [e15]
          exact ⟨rfl, N15⟩
        · skip
          refine go (fun t k => by refine XS.ifNo X15.here hx rfl (hb hby at_59) rfl ((if0 _ _).trans (feq (fun q => c59_16 ((lw_eq _ _).mp q))).1) ?_; exact k) ?_
          show Go p e below _ (T15.setTop (mkF m 62 #[.val (.long pp), .second, .val (.long qq), .second, .val (.int md), .val (.long pp), .second, .val (.long (0 : Int64)), .second, .val (.int (md &&& (3 : Int32))), .val (.int (own_or pp (0 : Int64)))] []))
          refine go (fun t k => by refine XS.lload X15.here hx rfl (hb hby at_62) rfl ?_; exact k) ?_
          show Go p e below _ (T15.setTop (mkF m 64 #[.val (.long pp), .second, .val (.long qq), .second, .val (.int md), .val (.long pp), .second, .val (.long (0 : Int64)), .second, .val (.int (md &&& (3 : Int32))), .val (.int (own_or pp (0 : Int64)))] [(.long (0 : Int64))]))
          refine go (fun t k => by refine XS.lconst X15.here hx rfl (hb hby at_64) ?_; exact k) ?_
          show Go p e below _ (T15.setTop (mkF m 65 #[.val (.long pp), .second, .val (.long qq), .second, .val (.int md), .val (.long pp), .second, .val (.long (0 : Int64)), .second, .val (.int (md &&& (3 : Int32))), .val (.int (own_or pp (0 : Int64)))] [(.long (0 : Int64)), (.long (0 : Int64))]))
          refine go (fun t k => by refine XS.lcmp X15.here hx rfl (hb hby at_65) rfl ?_; exact k) ?_
          show Go p e below _ (T15.setTop (mkF m 66 #[.val (.long pp), .second, .val (.long qq), .second, .val (.int md), .val (.long pp), .second, .val (.long (0 : Int64)), .second, .val (.int (md &&& (3 : Int32))), .val (.int (own_or pp (0 : Int64)))] [(.int (lcmpW (0 : Int64) (0 : Int64)))]))
          by_cases c66_18 : ¬ (0 : Int64) = (0 : Int64)
          · skip
            refine go (fun t k => by refine XS.ifYes X15.here hx rfl (pc0 := 66) (pc' := 80) rfl (hb hby at_66) rfl ((if0 _ _).trans (feq (fun q => c66_18 ((lw_eq _ _).mp q))).2) (by decide) (by decide) ?_; exact k) ?_
            show Go p e below _ (T15.setTop (mkF m 80 #[.val (.long pp), .second, .val (.long qq), .second, .val (.int md), .val (.long pp), .second, .val (.long (0 : Int64)), .second, .val (.int (md &&& (3 : Int32))), .val (.int (own_or pp (0 : Int64)))] []))
            refine go (fun t k => by refine XS.lload X15.here hx rfl (hb hby at_80) rfl ?_; exact k) ?_
            show Go p e below _ (T15.setTop (mkF m 82 #[.val (.long pp), .second, .val (.long qq), .second, .val (.int md), .val (.long pp), .second, .val (.long (0 : Int64)), .second, .val (.int (md &&& (3 : Int32))), .val (.int (own_or pp (0 : Int64)))] [(.long pp)]))
            refine go (fun t k => by refine XS.lload X15.here hx rfl (hb hby at_82) rfl ?_; exact k) ?_
            show Go p e below _ (T15.setTop (mkF m 84 #[.val (.long pp), .second, .val (.long qq), .second, .val (.int md), .val (.long pp), .second, .val (.long (0 : Int64)), .second, .val (.int (md &&& (3 : Int32))), .val (.int (own_or pp (0 : Int64)))] [(.long (0 : Int64)), (.long pp)]))
            refine go (fun t k => by refine XS.lcmp X15.here hx rfl (hb hby at_84) rfl ?_; exact k) ?_
            show Go p e below _ (T15.setTop (mkF m 85 #[.val (.long pp), .second, .val (.long qq), .second, .val (.int md), .val (.long pp), .second, .val (.long (0 : Int64)), .second, .val (.int (md &&& (3 : Int32))), .val (.int (own_or pp (0 : Int64)))] [(.int (lcmpW pp (0 : Int64)))]))
            by_cases c85_19 : ¬ pp = (0 : Int64)
            · skip
              refine go (fun t k => by refine XS.ifYes X15.here hx rfl (pc0 := 85) (pc' := 99) rfl (hb hby at_85) rfl ((if0 _ _).trans (feq (fun q => c85_19 ((lw_eq _ _).mp q))).2) (by decide) (by decide) ?_; exact k) ?_
              show Go p e below _ (T15.setTop (mkF m 99 #[.val (.long pp), .second, .val (.long qq), .second, .val (.int md), .val (.long pp), .second, .val (.long (0 : Int64)), .second, .val (.int (md &&& (3 : Int32))), .val (.int (own_or pp (0 : Int64)))] []))
              refine go (fun t k => by refine XS.lload X15.here hx rfl (hb hby at_99) rfl ?_; exact k) ?_
              show Go p e below _ (T15.setTop (mkF m 101 #[.val (.long pp), .second, .val (.long qq), .second, .val (.int md), .val (.long pp), .second, .val (.long (0 : Int64)), .second, .val (.int (md &&& (3 : Int32))), .val (.int (own_or pp (0 : Int64)))] [(.long pp)]))
              refine go (fun t k => by refine XS.lload X15.here hx rfl (hb hby at_101) rfl ?_; exact k) ?_
              show Go p e below _ (T15.setTop (mkF m 103 #[.val (.long pp), .second, .val (.long qq), .second, .val (.int md), .val (.long pp), .second, .val (.long (0 : Int64)), .second, .val (.int (md &&& (3 : Int32))), .val (.int (own_or pp (0 : Int64)))] [(.long (0 : Int64)), (.long pp)]))
              obtain ⟨_, _, ⟨T20, L20, k20, n20⟩, -, X20, ⟨Lc20, hQ20, l20, y20, z20⟩, st20⟩ := Jvm.LawKit.callS X15 hx (y := (⟨"com/example/stripewell/stripewell/ordered/KeyPrefixOrderPinLaw", "unsignedLess", "(JJ)Z"⟩ : MethodName)) hown (mvT hZ (hw _ (List.mem_of_getElem? (i := 12) rfl))) (mvT hZ (hw _ (List.mem_of_getElem? (i := 13) rfl))) (mvT hZ (hw _ (List.mem_of_getElem? (i := 14) rfl))) (mvT hZ (hw _ (List.mem_of_getElem? (i := 15) rfl))) (by decide) (backOf (W := 0) (rm4 l Z a0 hw [] pp (0 : Int64) h0 n0 Z0) hZ (hw _ (List.mem_of_getElem? (i := 15) rfl)) (hw _ (List.mem_of_getElem? (i := 14) rfl)) (by decide) (by decide)) (g := (mkF m 103 #[.val (.long pp), .second, .val (.long qq), .second, .val (.int md), .val (.long pp), .second, .val (.long (0 : Int64)), .second, .val (.int (md &&& (3 : Int32))), .val (.int (own_or pp (0 : Int64)))] [(.long (0 : Int64)), (.long pp)])) rfl (by rw [hml]; rfl) (argsL := [(.long pp), (.long (0 : Int64))]) (rest := []) (lenOf pd_1 rfl) rfl (by show 2 * 0 + _ ≤ _; exact Nat.le_of_eq rfl) (hb hby at_103) (fun _ _ => ⟨rfl, e15, (by decide : 0 + 0 ≤ _), (by decide : 0 + 0 ≤ _)⟩)
              dsimp only [Pt.U, Pt.locs, Pt.cells, Pt.slots] at X20 l20 y20 z20 st20 hQ20
              subst l20 y20 z20
              obtain ⟨rfl, N20q, e20⟩ := hQ20
              have N20 := Fr.app N15 N20q
              refine go st20 ?_
              show Go p e below _ (T20.setTop (mkF m 106 #[.val (.long pp), .second, .val (.long qq), .second, .val (.int md), .val (.long pp), .second, .val (.long (0 : Int64)), .second, .val (.int (md &&& (3 : Int32))), .val (.int (own_or pp (0 : Int64)))] [(.int (own_ul pp (0 : Int64)))]))
              by_cases c106_21 : (own_ul pp (0 : Int64)) = (0 : Int32)
              · skip
                refine go (fun t k => by refine XS.ifYes X20.here hx rfl (pc0 := 106) (pc' := 120) rfl (hb hby at_106) rfl ((if0 _ _).trans (teq c106_21).1) (by decide) (by decide) ?_; exact k) ?_
                show Go p e below _ (T20.setTop (mkF m 120 #[.val (.long pp), .second, .val (.long qq), .second, .val (.int md), .val (.long pp), .second, .val (.long (0 : Int64)), .second, .val (.int (md &&& (3 : Int32))), .val (.int (own_or pp (0 : Int64)))] []))
                refine go (fun t k => by refine XS.iload X20.here hx rfl (hb hby at_120) rfl ?_; exact k) ?_
                show Go p e below _ (T20.setTop (mkF m 122 #[.val (.long pp), .second, .val (.long qq), .second, .val (.int md), .val (.long pp), .second, .val (.long (0 : Int64)), .second, .val (.int (md &&& (3 : Int32))), .val (.int (own_or pp (0 : Int64)))] [(.int (own_or pp (0 : Int64)))]))
                have c122_22 : ¬ (¬ (0 : Int32) < (own_or pp (0 : Int64))) := not_not_intro ((own_or_iff _ _ c59_16 c66_18 c85_19).2.mpr ((own_ul_iff _ _).mp c106_21))
                refine go (fun t k => by refine XS.ifNo X20.here hx rfl (hb hby at_122) rfl ((if0 _ _).trans (tlt (Decidable.not_not.mp c122_22)).2.2.2) ?_; exact k) ?_
                show Go p e below _ (T20.setTop (mkF m 125 #[.val (.long pp), .second, .val (.long qq), .second, .val (.int md), .val (.long pp), .second, .val (.long (0 : Int64)), .second, .val (.int (md &&& (3 : Int32))), .val (.int (own_or pp (0 : Int64)))] []))
                refine go (fun t k => by refine XS.iconst X20.here hx rfl (hb hby at_125) ?_; exact k) ?_
                show Go p e below _ (T20.setTop (mkF m 126 #[.val (.long pp), .second, .val (.long qq), .second, .val (.int md), .val (.long pp), .second, .val (.long (0 : Int64)), .second, .val (.int (md &&& (3 : Int32))), .val (.int (own_or pp (0 : Int64)))] [(.int (1 : Int32))]))
                refine go (fun t k => by refine XS.goto X20.here hx rfl (pc0 := 126) (pc' := 130) rfl (hb hby at_126) (by decide) (by decide) ?_; exact k) ?_
                show Go p e below _ (T20.setTop (mkF m 130 #[.val (.long pp), .second, .val (.long qq), .second, .val (.int md), .val (.long pp), .second, .val (.long (0 : Int64)), .second, .val (.int (md &&& (3 : Int32))), .val (.int (own_or pp (0 : Int64)))] [(.int (1 : Int32))]))
                refine goOut X20 (fun h => by rw [Bd.returns] at h; cases h) hlk (fun fs hr => retN X20 hx (t := .boolean) Bd.returns (by simp) (hb hby at_130) hr) (by decide) (by decide) ?_
                rw [e20]
                exact ⟨rfl, N20⟩
              · skip
                refine go (fun t k => by refine XS.ifNo X20.here hx rfl (hb hby at_106) rfl ((if0 _ _).trans (feq c106_21).1) ?_; exact k) ?_
                show Go p e below _ (T20.setTop (mkF m 109 #[.val (.long pp), .second, .val (.long qq), .second, .val (.int md), .val (.long pp), .second, .val (.long (0 : Int64)), .second, .val (.int (md &&& (3 : Int32))), .val (.int (own_or pp (0 : Int64)))] []))
                refine go (fun t k => by refine XS.iload X20.here hx rfl (hb hby at_109) rfl ?_; exact k) ?_
                show Go p e below _ (T20.setTop (mkF m 111 #[.val (.long pp), .second, .val (.long qq), .second, .val (.int md), .val (.long pp), .second, .val (.long (0 : Int64)), .second, .val (.int (md &&& (3 : Int32))), .val (.int (own_or pp (0 : Int64)))] [(.int (own_or pp (0 : Int64)))]))
                have c111_23 : ¬ (¬ (own_or pp (0 : Int64)) < (0 : Int32)) := not_not_intro ((own_or_iff _ _ c59_16 c66_18 c85_19).1.mpr (Decidable.not_not.mp (fun q => c106_21 ((own_ul_iff _ _).mpr q))))
                refine go (fun t k => by refine XS.ifNo X20.here hx rfl (hb hby at_111) rfl ((if0 _ _).trans (tlt (Decidable.not_not.mp c111_23)).2.1) ?_; exact k) ?_
                show Go p e below _ (T20.setTop (mkF m 114 #[.val (.long pp), .second, .val (.long qq), .second, .val (.int md), .val (.long pp), .second, .val (.long (0 : Int64)), .second, .val (.int (md &&& (3 : Int32))), .val (.int (own_or pp (0 : Int64)))] []))
                refine go (fun t k => by refine XS.iconst X20.here hx rfl (hb hby at_114) ?_; exact k) ?_
                show Go p e below _ (T20.setTop (mkF m 115 #[.val (.long pp), .second, .val (.long qq), .second, .val (.int md), .val (.long pp), .second, .val (.long (0 : Int64)), .second, .val (.int (md &&& (3 : Int32))), .val (.int (own_or pp (0 : Int64)))] [(.int (1 : Int32))]))
                refine go (fun t k => by refine XS.goto X20.here hx rfl (pc0 := 115) (pc' := 119) rfl (hb hby at_115) (by decide) (by decide) ?_; exact k) ?_
                show Go p e below _ (T20.setTop (mkF m 119 #[.val (.long pp), .second, .val (.long qq), .second, .val (.int md), .val (.long pp), .second, .val (.long (0 : Int64)), .second, .val (.int (md &&& (3 : Int32))), .val (.int (own_or pp (0 : Int64)))] [(.int (1 : Int32))]))
                refine goOut X20 (fun h => by rw [Bd.returns] at h; cases h) hlk (fun fs hr => retN X20 hx (t := .boolean) Bd.returns (by simp) (hb hby at_119) hr) (by decide) (by decide) ?_
                rw [e20]
                exact ⟨rfl, N20⟩
            · skip
              refine go (fun t k => by refine XS.ifNo X15.here hx rfl (hb hby at_85) rfl ((if0 _ _).trans (teq ((lw_eq _ _).mpr (Decidable.not_not.mp c85_19))).2) ?_; exact k) ?_
              show Go p e below _ (T15.setTop (mkF m 88 #[.val (.long pp), .second, .val (.long qq), .second, .val (.int md), .val (.long pp), .second, .val (.long (0 : Int64)), .second, .val (.int (md &&& (3 : Int32))), .val (.int (own_or pp (0 : Int64)))] []))
              refine go (fun t k => by refine XS.iload X15.here hx rfl (hb hby at_88) rfl ?_; exact k) ?_
              show Go p e below _ (T15.setTop (mkF m 90 #[.val (.long pp), .second, .val (.long qq), .second, .val (.int md), .val (.long pp), .second, .val (.long (0 : Int64)), .second, .val (.int (md &&& (3 : Int32))), .val (.int (own_or pp (0 : Int64)))] [(.int (own_or pp (0 : Int64)))]))
              have c90_24 : ¬ (¬ (own_or pp (0 : Int64)) = (0 : Int32)) := not_not_intro (own_or_same _ _ (Decidable.not_not.mp c85_19))
              refine go (fun t k => by refine XS.ifNo X15.here hx rfl (hb hby at_90) rfl ((if0 _ _).trans (teq (Decidable.not_not.mp c90_24)).2) ?_; exact k) ?_
              show Go p e below _ (T15.setTop (mkF m 93 #[.val (.long pp), .second, .val (.long qq), .second, .val (.int md), .val (.long pp), .second, .val (.long (0 : Int64)), .second, .val (.int (md &&& (3 : Int32))), .val (.int (own_or pp (0 : Int64)))] []))
              refine go (fun t k => by refine XS.iconst X15.here hx rfl (hb hby at_93) ?_; exact k) ?_
              show Go p e below _ (T15.setTop (mkF m 94 #[.val (.long pp), .second, .val (.long qq), .second, .val (.int md), .val (.long pp), .second, .val (.long (0 : Int64)), .second, .val (.int (md &&& (3 : Int32))), .val (.int (own_or pp (0 : Int64)))] [(.int (1 : Int32))]))
              refine go (fun t k => by refine XS.goto X15.here hx rfl (pc0 := 94) (pc' := 98) rfl (hb hby at_94) (by decide) (by decide) ?_; exact k) ?_
              show Go p e below _ (T15.setTop (mkF m 98 #[.val (.long pp), .second, .val (.long qq), .second, .val (.int md), .val (.long pp), .second, .val (.long (0 : Int64)), .second, .val (.int (md &&& (3 : Int32))), .val (.int (own_or pp (0 : Int64)))] [(.int (1 : Int32))]))
              refine goOut X15 (fun h => by rw [Bd.returns] at h; cases h) hlk (fun fs hr => retN X15 hx (t := .boolean) Bd.returns (by simp) (hb hby at_98) hr) (by decide) (by decide) ?_
              rw [e15]
              exact ⟨rfl, N15⟩
          · skip
            refine go (fun t k => by refine XS.ifNo X15.here hx rfl (hb hby at_66) rfl ((if0 _ _).trans (teq ((lw_eq _ _).mpr (Decidable.not_not.mp c66_18))).2) ?_; exact k) ?_
            show Go p e below _ (T15.setTop (mkF m 69 #[.val (.long pp), .second, .val (.long qq), .second, .val (.int md), .val (.long pp), .second, .val (.long (0 : Int64)), .second, .val (.int (md &&& (3 : Int32))), .val (.int (own_or pp (0 : Int64)))] []))
            refine go (fun t k => by refine XS.iload X15.here hx rfl (hb hby at_69) rfl ?_; exact k) ?_
            show Go p e below _ (T15.setTop (mkF m 71 #[.val (.long pp), .second, .val (.long qq), .second, .val (.int md), .val (.long pp), .second, .val (.long (0 : Int64)), .second, .val (.int (md &&& (3 : Int32))), .val (.int (own_or pp (0 : Int64)))] [(.int (own_or pp (0 : Int64)))]))
            have c71_25 : ¬ (¬ (own_or pp (0 : Int64)) = (0 : Int32)) := not_not_intro (own_or_zero _ _ (Or.inr (Decidable.not_not.mp c66_18)))
            refine go (fun t k => by refine XS.ifNo X15.here hx rfl (hb hby at_71) rfl ((if0 _ _).trans (teq (Decidable.not_not.mp c71_25)).2) ?_; exact k) ?_
            show Go p e below _ (T15.setTop (mkF m 74 #[.val (.long pp), .second, .val (.long qq), .second, .val (.int md), .val (.long pp), .second, .val (.long (0 : Int64)), .second, .val (.int (md &&& (3 : Int32))), .val (.int (own_or pp (0 : Int64)))] []))
            refine go (fun t k => by refine XS.iconst X15.here hx rfl (hb hby at_74) ?_; exact k) ?_
            show Go p e below _ (T15.setTop (mkF m 75 #[.val (.long pp), .second, .val (.long qq), .second, .val (.int md), .val (.long pp), .second, .val (.long (0 : Int64)), .second, .val (.int (md &&& (3 : Int32))), .val (.int (own_or pp (0 : Int64)))] [(.int (1 : Int32))]))
            refine go (fun t k => by refine XS.goto X15.here hx rfl (pc0 := 75) (pc' := 79) rfl (hb hby at_75) (by decide) (by decide) ?_; exact k) ?_
            show Go p e below _ (T15.setTop (mkF m 79 #[.val (.long pp), .second, .val (.long qq), .second, .val (.int md), .val (.long pp), .second, .val (.long (0 : Int64)), .second, .val (.int (md &&& (3 : Int32))), .val (.int (own_or pp (0 : Int64)))] [(.int (1 : Int32))]))
            refine goOut X15 (fun h => by rw [Bd.returns] at h; cases h) hlk (fun fs hr => retN X15 hx (t := .boolean) Bd.returns (by simp) (hb hby at_79) hr) (by decide) (by decide) ?_
            rw [e15]
            exact ⟨rfl, N15⟩
    · skip
      refine go (fun t k => by refine XS.icmpNo X0.here hx rfl (hb hby at_28) rfl (teq (Decidable.not_not.mp c28_2)).2 ?_; exact k) ?_
      show Go p e below _ (s₁.setTop (mkF m 31 #[.val (.long pp), .second, .val (.long qq), .second, .val (.int md), .val (.long pp), .second, .val (.long qq), .second, .val (.int (md &&& (3 : Int32))), .unset] []))
      refine go (fun t k => by refine XS.lconst X0.here hx rfl (hb hby at_31) ?_; exact k) ?_
      show Go p e below _ (s₁.setTop (mkF m 32 #[.val (.long pp), .second, .val (.long qq), .second, .val (.int md), .val (.long pp), .second, .val (.long qq), .second, .val (.int (md &&& (3 : Int32))), .unset] [(.long (0 : Int64))]))
      refine go (fun t k => by refine XS.lstore X0.here hx rfl (hb hby at_32) rfl (l' := #[.val (.long pp), .second, .val (.long qq), .second, .val (.int md), .val (.long (0 : Int64)), .second, .val (.long qq), .second, .val (.int (md &&& (3 : Int32))), .unset]) rfl ?_; exact k) ?_
      show Go p e below _ (s₁.setTop (mkF m 34 #[.val (.long pp), .second, .val (.long qq), .second, .val (.int md), .val (.long (0 : Int64)), .second, .val (.long qq), .second, .val (.int (md &&& (3 : Int32))), .unset] []))
      refine go (fun t k => by refine XS.goto X0.here hx rfl (pc0 := 34) (pc' := 46) rfl (hb hby at_34) (by decide) (by decide) ?_; exact k) ?_
      show Go p e below _ (s₁.setTop (mkF m 46 #[.val (.long pp), .second, .val (.long qq), .second, .val (.int md), .val (.long (0 : Int64)), .second, .val (.long qq), .second, .val (.int (md &&& (3 : Int32))), .unset] []))
      refine go (fun t k => by refine XS.lload X0.here hx rfl (hb hby at_46) rfl ?_; exact k) ?_
      show Go p e below _ (s₁.setTop (mkF m 48 #[.val (.long pp), .second, .val (.long qq), .second, .val (.int md), .val (.long (0 : Int64)), .second, .val (.long qq), .second, .val (.int (md &&& (3 : Int32))), .unset] [(.long (0 : Int64))]))
      refine go (fun t k => by refine XS.lload X0.here hx rfl (hb hby at_48) rfl ?_; exact k) ?_
      show Go p e below _ (s₁.setTop (mkF m 50 #[.val (.long pp), .second, .val (.long qq), .second, .val (.int md), .val (.long (0 : Int64)), .second, .val (.long qq), .second, .val (.int (md &&& (3 : Int32))), .unset] [(.long qq), (.long (0 : Int64))]))
      obtain ⟨_, _, ⟨T26, L26, k26, n26⟩, -, X26, ⟨Lc26, hQ26, l26, y26, z26⟩, st26⟩ := Jvm.LawKit.callS X0 hx (y := (⟨"com/example/stripewell/stripewell/ordered/KeyPrefix", "order", "(JJ)I"⟩ : MethodName)) hown (mvT hZ (hw _ (List.mem_of_getElem? (i := 0) rfl))) (mvT hZ (hw _ (List.mem_of_getElem? (i := 1) rfl))) (mvT hZ (hw _ (List.mem_of_getElem? (i := 2) rfl))) (mvT hZ (hw _ (List.mem_of_getElem? (i := 3) rfl))) (by decide) (backOf (W := 0) (rm1 l Z a0 hw [] (0 : Int64) qq h0 n0 Z0) hZ (hw _ (List.mem_of_getElem? (i := 3) rfl)) (hw _ (List.mem_of_getElem? (i := 2) rfl)) (by decide) (by decide)) (g := (mkF m 50 #[.val (.long pp), .second, .val (.long qq), .second, .val (.int md), .val (.long (0 : Int64)), .second, .val (.long qq), .second, .val (.int (md &&& (3 : Int32))), .unset] [(.long qq), (.long (0 : Int64))])) rfl (by rw [hml]; rfl) (argsL := [(.long (0 : Int64)), (.long qq)]) (rest := []) (lenOf pd_0 rfl) rfl (by show 2 * 0 + _ ≤ _; exact Nat.le_of_eq rfl) (hb hby at_50) (fun _ _ => ⟨rfl, e0, (by decide : 0 + 0 ≤ _), (by decide : 0 + 0 ≤ _)⟩)
      dsimp only [Pt.U, Pt.locs, Pt.cells, Pt.slots] at X26 l26 y26 z26 st26 hQ26
      subst l26 y26 z26
      obtain ⟨rfl, N26q, e26⟩ := hQ26
      have N26 := Fr.app N0 N26q
      refine go st26 ?_
      show Go p e below _ (T26.setTop (mkF m 53 #[.val (.long pp), .second, .val (.long qq), .second, .val (.int md), .val (.long (0 : Int64)), .second, .val (.long qq), .second, .val (.int (md &&& (3 : Int32))), .unset] [(.int (own_or (0 : Int64) qq))]))
      refine go (fun t k => by refine XS.istore X26.here hx rfl (hb hby at_53) rfl (l' := #[.val (.long pp), .second, .val (.long qq), .second, .val (.int md), .val (.long (0 : Int64)), .second, .val (.long qq), .second, .val (.int (md &&& (3 : Int32))), .val (.int (own_or (0 : Int64) qq))]) rfl ?_; exact k) ?_
      show Go p e below _ (T26.setTop (mkF m 55 #[.val (.long pp), .second, .val (.long qq), .second, .val (.int md), .val (.long (0 : Int64)), .second, .val (.long qq), .second, .val (.int (md &&& (3 : Int32))), .val (.int (own_or (0 : Int64) qq))] []))
      refine go (fun t k => by refine XS.lload X26.here hx rfl (hb hby at_55) rfl ?_; exact k) ?_
      show Go p e below _ (T26.setTop (mkF m 57 #[.val (.long pp), .second, .val (.long qq), .second, .val (.int md), .val (.long (0 : Int64)), .second, .val (.long qq), .second, .val (.int (md &&& (3 : Int32))), .val (.int (own_or (0 : Int64) qq))] [(.long (0 : Int64))]))
      refine go (fun t k => by refine XS.lconst X26.here hx rfl (hb hby at_57) ?_; exact k) ?_
      show Go p e below _ (T26.setTop (mkF m 58 #[.val (.long pp), .second, .val (.long qq), .second, .val (.int md), .val (.long (0 : Int64)), .second, .val (.long qq), .second, .val (.int (md &&& (3 : Int32))), .val (.int (own_or (0 : Int64) qq))] [(.long (0 : Int64)), (.long (0 : Int64))]))
      refine go (fun t k => by refine XS.lcmp X26.here hx rfl (hb hby at_58) rfl ?_; exact k) ?_
      show Go p e below _ (T26.setTop (mkF m 59 #[.val (.long pp), .second, .val (.long qq), .second, .val (.int md), .val (.long (0 : Int64)), .second, .val (.long qq), .second, .val (.int (md &&& (3 : Int32))), .val (.int (own_or (0 : Int64) qq))] [(.int (lcmpW (0 : Int64) (0 : Int64)))]))
      by_cases c59_27 : (0 : Int64) = (0 : Int64)
      · skip
        refine go (fun t k => by refine XS.ifYes X26.here hx rfl (pc0 := 59) (pc' := 69) rfl (hb hby at_59) rfl ((if0 _ _).trans (teq ((lw_eq _ _).mpr c59_27)).1) (by decide) (by decide) ?_; exact k) ?_
        show Go p e below _ (T26.setTop (mkF m 69 #[.val (.long pp), .second, .val (.long qq), .second, .val (.int md), .val (.long (0 : Int64)), .second, .val (.long qq), .second, .val (.int (md &&& (3 : Int32))), .val (.int (own_or (0 : Int64) qq))] []))
        refine go (fun t k => by refine XS.iload X26.here hx rfl (hb hby at_69) rfl ?_; exact k) ?_
        show Go p e below _ (T26.setTop (mkF m 71 #[.val (.long pp), .second, .val (.long qq), .second, .val (.int md), .val (.long (0 : Int64)), .second, .val (.long qq), .second, .val (.int (md &&& (3 : Int32))), .val (.int (own_or (0 : Int64) qq))] [(.int (own_or (0 : Int64) qq))]))
        have c71_28 : ¬ (¬ (own_or (0 : Int64) qq) = (0 : Int32)) := not_not_intro (own_or_zero _ _ (Or.inl c59_27))
        refine go (fun t k => by refine XS.ifNo X26.here hx rfl (hb hby at_71) rfl ((if0 _ _).trans (teq (Decidable.not_not.mp c71_28)).2) ?_; exact k) ?_
        show Go p e below _ (T26.setTop (mkF m 74 #[.val (.long pp), .second, .val (.long qq), .second, .val (.int md), .val (.long (0 : Int64)), .second, .val (.long qq), .second, .val (.int (md &&& (3 : Int32))), .val (.int (own_or (0 : Int64) qq))] []))
        refine go (fun t k => by refine XS.iconst X26.here hx rfl (hb hby at_74) ?_; exact k) ?_
        show Go p e below _ (T26.setTop (mkF m 75 #[.val (.long pp), .second, .val (.long qq), .second, .val (.int md), .val (.long (0 : Int64)), .second, .val (.long qq), .second, .val (.int (md &&& (3 : Int32))), .val (.int (own_or (0 : Int64) qq))] [(.int (1 : Int32))]))
        refine go (fun t k => by refine XS.goto X26.here hx rfl (pc0 := 75) (pc' := 79) rfl (hb hby at_75) (by decide) (by decide) ?_; exact k) ?_
        show Go p e below _ (T26.setTop (mkF m 79 #[.val (.long pp), .second, .val (.long qq), .second, .val (.int md), .val (.long (0 : Int64)), .second, .val (.long qq), .second, .val (.int (md &&& (3 : Int32))), .val (.int (own_or (0 : Int64) qq))] [(.int (1 : Int32))]))
        refine goOut X26 (fun h => by rw [Bd.returns] at h; cases h) hlk (fun fs hr => retN X26 hx (t := .boolean) Bd.returns (by simp) (hb hby at_79) hr) (by decide) (by decide) ?_
        rw [e26]
        exact ⟨rfl, N26⟩
      · skip
        refine go (fun t k => by refine XS.ifNo X26.here hx rfl (hb hby at_59) rfl ((if0 _ _).trans (feq (fun q => c59_27 ((lw_eq _ _).mp q))).1) ?_; exact k) ?_
        show Go p e below _ (T26.setTop (mkF m 62 #[.val (.long pp), .second, .val (.long qq), .second, .val (.int md), .val (.long (0 : Int64)), .second, .val (.long qq), .second, .val (.int (md &&& (3 : Int32))), .val (.int (own_or (0 : Int64) qq))] []))
        refine go (fun t k => by refine XS.lload X26.here hx rfl (hb hby at_62) rfl ?_; exact k) ?_
        show Go p e below _ (T26.setTop (mkF m 64 #[.val (.long pp), .second, .val (.long qq), .second, .val (.int md), .val (.long (0 : Int64)), .second, .val (.long qq), .second, .val (.int (md &&& (3 : Int32))), .val (.int (own_or (0 : Int64) qq))] [(.long qq)]))
        refine go (fun t k => by refine XS.lconst X26.here hx rfl (hb hby at_64) ?_; exact k) ?_
        show Go p e below _ (T26.setTop (mkF m 65 #[.val (.long pp), .second, .val (.long qq), .second, .val (.int md), .val (.long (0 : Int64)), .second, .val (.long qq), .second, .val (.int (md &&& (3 : Int32))), .val (.int (own_or (0 : Int64) qq))] [(.long (0 : Int64)), (.long qq)]))
        refine go (fun t k => by refine XS.lcmp X26.here hx rfl (hb hby at_65) rfl ?_; exact k) ?_
        show Go p e below _ (T26.setTop (mkF m 66 #[.val (.long pp), .second, .val (.long qq), .second, .val (.int md), .val (.long (0 : Int64)), .second, .val (.long qq), .second, .val (.int (md &&& (3 : Int32))), .val (.int (own_or (0 : Int64) qq))] [(.int (lcmpW qq (0 : Int64)))]))
        by_cases c66_29 : ¬ qq = (0 : Int64)
        · skip
          refine go (fun t k => by refine XS.ifYes X26.here hx rfl (pc0 := 66) (pc' := 80) rfl (hb hby at_66) rfl ((if0 _ _).trans (feq (fun q => c66_29 ((lw_eq _ _).mp q))).2) (by decide) (by decide) ?_; exact k) ?_
          show Go p e below _ (T26.setTop (mkF m 80 #[.val (.long pp), .second, .val (.long qq), .second, .val (.int md), .val (.long (0 : Int64)), .second, .val (.long qq), .second, .val (.int (md &&& (3 : Int32))), .val (.int (own_or (0 : Int64) qq))] []))
          refine go (fun t k => by refine XS.lload X26.here hx rfl (hb hby at_80) rfl ?_; exact k) ?_
          show Go p e below _ (T26.setTop (mkF m 82 #[.val (.long pp), .second, .val (.long qq), .second, .val (.int md), .val (.long (0 : Int64)), .second, .val (.long qq), .second, .val (.int (md &&& (3 : Int32))), .val (.int (own_or (0 : Int64) qq))] [(.long (0 : Int64))]))
          refine go (fun t k => by refine XS.lload X26.here hx rfl (hb hby at_82) rfl ?_; exact k) ?_
          show Go p e below _ (T26.setTop (mkF m 84 #[.val (.long pp), .second, .val (.long qq), .second, .val (.int md), .val (.long (0 : Int64)), .second, .val (.long qq), .second, .val (.int (md &&& (3 : Int32))), .val (.int (own_or (0 : Int64) qq))] [(.long qq), (.long (0 : Int64))]))
          refine go (fun t k => by refine XS.lcmp X26.here hx rfl (hb hby at_84) rfl ?_; exact k) ?_
          show Go p e below _ (T26.setTop (mkF m 85 #[.val (.long pp), .second, .val (.long qq), .second, .val (.int md), .val (.long (0 : Int64)), .second, .val (.long qq), .second, .val (.int (md &&& (3 : Int32))), .val (.int (own_or (0 : Int64) qq))] [(.int (lcmpW (0 : Int64) qq))]))
          by_cases c85_30 : ¬ (0 : Int64) = qq
          · skip
            refine go (fun t k => by refine XS.ifYes X26.here hx rfl (pc0 := 85) (pc' := 99) rfl (hb hby at_85) rfl ((if0 _ _).trans (feq (fun q => c85_30 ((lw_eq _ _).mp q))).2) (by decide) (by decide) ?_; exact k) ?_
            show Go p e below _ (T26.setTop (mkF m 99 #[.val (.long pp), .second, .val (.long qq), .second, .val (.int md), .val (.long (0 : Int64)), .second, .val (.long qq), .second, .val (.int (md &&& (3 : Int32))), .val (.int (own_or (0 : Int64) qq))] []))
            refine go (fun t k => by refine XS.lload X26.here hx rfl (hb hby at_99) rfl ?_; exact k) ?_
            show Go p e below _ (T26.setTop (mkF m 101 #[.val (.long pp), .second, .val (.long qq), .second, .val (.int md), .val (.long (0 : Int64)), .second, .val (.long qq), .second, .val (.int (md &&& (3 : Int32))), .val (.int (own_or (0 : Int64) qq))] [(.long (0 : Int64))]))
            refine go (fun t k => by refine XS.lload X26.here hx rfl (hb hby at_101) rfl ?_; exact k) ?_
            show Go p e below _ (T26.setTop (mkF m 103 #[.val (.long pp), .second, .val (.long qq), .second, .val (.int md), .val (.long (0 : Int64)), .second, .val (.long qq), .second, .val (.int (md &&& (3 : Int32))), .val (.int (own_or (0 : Int64) qq))] [(.long qq), (.long (0 : Int64))]))
            obtain ⟨_, _, ⟨T31, L31, k31, n31⟩, -, X31, ⟨Lc31, hQ31, l31, y31, z31⟩, st31⟩ := Jvm.LawKit.callS X26 hx (y := (⟨"com/example/stripewell/stripewell/ordered/KeyPrefixOrderPinLaw", "unsignedLess", "(JJ)Z"⟩ : MethodName)) hown (mvT hZ (hw _ (List.mem_of_getElem? (i := 12) rfl))) (mvT hZ (hw _ (List.mem_of_getElem? (i := 13) rfl))) (mvT hZ (hw _ (List.mem_of_getElem? (i := 14) rfl))) (mvT hZ (hw _ (List.mem_of_getElem? (i := 15) rfl))) (by decide) (backOf (W := 0) (rm4 l Z a0 hw [] (0 : Int64) qq h0 n0 Z0) hZ (hw _ (List.mem_of_getElem? (i := 15) rfl)) (hw _ (List.mem_of_getElem? (i := 14) rfl)) (by decide) (by decide)) (g := (mkF m 103 #[.val (.long pp), .second, .val (.long qq), .second, .val (.int md), .val (.long (0 : Int64)), .second, .val (.long qq), .second, .val (.int (md &&& (3 : Int32))), .val (.int (own_or (0 : Int64) qq))] [(.long qq), (.long (0 : Int64))])) rfl (by rw [hml]; rfl) (argsL := [(.long (0 : Int64)), (.long qq)]) (rest := []) (lenOf pd_1 rfl) rfl (by show 2 * 0 + _ ≤ _; exact Nat.le_of_eq rfl) (hb hby at_103) (fun _ _ => ⟨rfl, e26, (by decide : 0 + 0 ≤ _), (by decide : 0 + 0 ≤ _)⟩)
            dsimp only [Pt.U, Pt.locs, Pt.cells, Pt.slots] at X31 l31 y31 z31 st31 hQ31
            subst l31 y31 z31
            obtain ⟨rfl, N31q, e31⟩ := hQ31
            have N31 := Fr.app N26 N31q
            refine go st31 ?_
            show Go p e below _ (T31.setTop (mkF m 106 #[.val (.long pp), .second, .val (.long qq), .second, .val (.int md), .val (.long (0 : Int64)), .second, .val (.long qq), .second, .val (.int (md &&& (3 : Int32))), .val (.int (own_or (0 : Int64) qq))] [(.int (own_ul (0 : Int64) qq))]))
            by_cases c106_32 : (own_ul (0 : Int64) qq) = (0 : Int32)
            · skip
              refine go (fun t k => by refine XS.ifYes X31.here hx rfl (pc0 := 106) (pc' := 120) rfl (hb hby at_106) rfl ((if0 _ _).trans (teq c106_32).1) (by decide) (by decide) ?_; exact k) ?_
              show Go p e below _ (T31.setTop (mkF m 120 #[.val (.long pp), .second, .val (.long qq), .second, .val (.int md), .val (.long (0 : Int64)), .second, .val (.long qq), .second, .val (.int (md &&& (3 : Int32))), .val (.int (own_or (0 : Int64) qq))] []))
              refine go (fun t k => by refine XS.iload X31.here hx rfl (hb hby at_120) rfl ?_; exact k) ?_
              show Go p e below _ (T31.setTop (mkF m 122 #[.val (.long pp), .second, .val (.long qq), .second, .val (.int md), .val (.long (0 : Int64)), .second, .val (.long qq), .second, .val (.int (md &&& (3 : Int32))), .val (.int (own_or (0 : Int64) qq))] [(.int (own_or (0 : Int64) qq))]))
              have c122_33 : ¬ (¬ (0 : Int32) < (own_or (0 : Int64) qq)) := not_not_intro ((own_or_iff _ _ c59_27 c66_29 c85_30).2.mpr ((own_ul_iff _ _).mp c106_32))
              refine go (fun t k => by refine XS.ifNo X31.here hx rfl (hb hby at_122) rfl ((if0 _ _).trans (tlt (Decidable.not_not.mp c122_33)).2.2.2) ?_; exact k) ?_
              show Go p e below _ (T31.setTop (mkF m 125 #[.val (.long pp), .second, .val (.long qq), .second, .val (.int md), .val (.long (0 : Int64)), .second, .val (.long qq), .second, .val (.int (md &&& (3 : Int32))), .val (.int (own_or (0 : Int64) qq))] []))
              refine go (fun t k => by refine XS.iconst X31.here hx rfl (hb hby at_125) ?_; exact k) ?_
              show Go p e below _ (T31.setTop (mkF m 126 #[.val (.long pp), .second, .val (.long qq), .second, .val (.int md), .val (.long (0 : Int64)), .second, .val (.long qq), .second, .val (.int (md &&& (3 : Int32))), .val (.int (own_or (0 : Int64) qq))] [(.int (1 : Int32))]))
              refine go (fun t k => by refine XS.goto X31.here hx rfl (pc0 := 126) (pc' := 130) rfl (hb hby at_126) (by decide) (by decide) ?_; exact k) ?_
              show Go p e below _ (T31.setTop (mkF m 130 #[.val (.long pp), .second, .val (.long qq), .second, .val (.int md), .val (.long (0 : Int64)), .second, .val (.long qq), .second, .val (.int (md &&& (3 : Int32))), .val (.int (own_or (0 : Int64) qq))] [(.int (1 : Int32))]))
              refine goOut X31 (fun h => by rw [Bd.returns] at h; cases h) hlk (fun fs hr => retN X31 hx (t := .boolean) Bd.returns (by simp) (hb hby at_130) hr) (by decide) (by decide) ?_
              rw [e31]
              exact ⟨rfl, N31⟩
            · skip
              refine go (fun t k => by refine XS.ifNo X31.here hx rfl (hb hby at_106) rfl ((if0 _ _).trans (feq c106_32).1) ?_; exact k) ?_
              show Go p e below _ (T31.setTop (mkF m 109 #[.val (.long pp), .second, .val (.long qq), .second, .val (.int md), .val (.long (0 : Int64)), .second, .val (.long qq), .second, .val (.int (md &&& (3 : Int32))), .val (.int (own_or (0 : Int64) qq))] []))
              refine go (fun t k => by refine XS.iload X31.here hx rfl (hb hby at_109) rfl ?_; exact k) ?_
              show Go p e below _ (T31.setTop (mkF m 111 #[.val (.long pp), .second, .val (.long qq), .second, .val (.int md), .val (.long (0 : Int64)), .second, .val (.long qq), .second, .val (.int (md &&& (3 : Int32))), .val (.int (own_or (0 : Int64) qq))] [(.int (own_or (0 : Int64) qq))]))
              have c111_34 : ¬ (¬ (own_or (0 : Int64) qq) < (0 : Int32)) := not_not_intro ((own_or_iff _ _ c59_27 c66_29 c85_30).1.mpr (Decidable.not_not.mp (fun q => c106_32 ((own_ul_iff _ _).mpr q))))
              refine go (fun t k => by refine XS.ifNo X31.here hx rfl (hb hby at_111) rfl ((if0 _ _).trans (tlt (Decidable.not_not.mp c111_34)).2.1) ?_; exact k) ?_
              show Go p e below _ (T31.setTop (mkF m 114 #[.val (.long pp), .second, .val (.long qq), .second, .val (.int md), .val (.long (0 : Int64)), .second, .val (.long qq), .second, .val (.int (md &&& (3 : Int32))), .val (.int (own_or (0 : Int64) qq))] []))
              refine go (fun t k => by refine XS.iconst X31.here hx rfl (hb hby at_114) ?_; exact k) ?_
              show Go p e below _ (T31.setTop (mkF m 115 #[.val (.long pp), .second, .val (.long qq), .second, .val (.int md), .val (.long (0 : Int64)), .second, .val (.long qq), .second, .val (.int (md &&& (3 : Int32))), .val (.int (own_or (0 : Int64) qq))] [(.int (1 : Int32))]))
              refine go (fun t k => by refine XS.goto X31.here hx rfl (pc0 := 115) (pc' := 119) rfl (hb hby at_115) (by decide) (by decide) ?_; exact k) ?_
              show Go p e below _ (T31.setTop (mkF m 119 #[.val (.long pp), .second, .val (.long qq), .second, .val (.int md), .val (.long (0 : Int64)), .second, .val (.long qq), .second, .val (.int (md &&& (3 : Int32))), .val (.int (own_or (0 : Int64) qq))] [(.int (1 : Int32))]))
              refine goOut X31 (fun h => by rw [Bd.returns] at h; cases h) hlk (fun fs hr => retN X31 hx (t := .boolean) Bd.returns (by simp) (hb hby at_119) hr) (by decide) (by decide) ?_
              rw [e31]
              exact ⟨rfl, N31⟩
          · skip
            refine go (fun t k => by refine XS.ifNo X26.here hx rfl (hb hby at_85) rfl ((if0 _ _).trans (teq ((lw_eq _ _).mpr (Decidable.not_not.mp c85_30))).2) ?_; exact k) ?_
            show Go p e below _ (T26.setTop (mkF m 88 #[.val (.long pp), .second, .val (.long qq), .second, .val (.int md), .val (.long (0 : Int64)), .second, .val (.long qq), .second, .val (.int (md &&& (3 : Int32))), .val (.int (own_or (0 : Int64) qq))] []))
            refine go (fun t k => by refine XS.iload X26.here hx rfl (hb hby at_88) rfl ?_; exact k) ?_
            show Go p e below _ (T26.setTop (mkF m 90 #[.val (.long pp), .second, .val (.long qq), .second, .val (.int md), .val (.long (0 : Int64)), .second, .val (.long qq), .second, .val (.int (md &&& (3 : Int32))), .val (.int (own_or (0 : Int64) qq))] [(.int (own_or (0 : Int64) qq))]))
            have c90_35 : ¬ (¬ (own_or (0 : Int64) qq) = (0 : Int32)) := not_not_intro (own_or_same _ _ (Decidable.not_not.mp c85_30))
            refine go (fun t k => by refine XS.ifNo X26.here hx rfl (hb hby at_90) rfl ((if0 _ _).trans (teq (Decidable.not_not.mp c90_35)).2) ?_; exact k) ?_
            show Go p e below _ (T26.setTop (mkF m 93 #[.val (.long pp), .second, .val (.long qq), .second, .val (.int md), .val (.long (0 : Int64)), .second, .val (.long qq), .second, .val (.int (md &&& (3 : Int32))), .val (.int (own_or (0 : Int64) qq))] []))
            refine go (fun t k => by refine XS.iconst X26.here hx rfl (hb hby at_93) ?_; exact k) ?_
            show Go p e below _ (T26.setTop (mkF m 94 #[.val (.long pp), .second, .val (.long qq), .second, .val (.int md), .val (.long (0 : Int64)), .second, .val (.long qq), .second, .val (.int (md &&& (3 : Int32))), .val (.int (own_or (0 : Int64) qq))] [(.int (1 : Int32))]))
            refine go (fun t k => by refine XS.goto X26.here hx rfl (pc0 := 94) (pc' := 98) rfl (hb hby at_94) (by decide) (by decide) ?_; exact k) ?_
            show Go p e below _ (T26.setTop (mkF m 98 #[.val (.long pp), .second, .val (.long qq), .second, .val (.int md), .val (.long (0 : Int64)), .second, .val (.long qq), .second, .val (.int (md &&& (3 : Int32))), .val (.int (own_or (0 : Int64) qq))] [(.int (1 : Int32))]))
            refine goOut X26 (fun h => by rw [Bd.returns] at h; cases h) hlk (fun fs hr => retN X26 hx (t := .boolean) Bd.returns (by simp) (hb hby at_98) hr) (by decide) (by decide) ?_
            rw [e26]
            exact ⟨rfl, N26⟩
        · skip
          refine go (fun t k => by refine XS.ifNo X26.here hx rfl (hb hby at_66) rfl ((if0 _ _).trans (teq ((lw_eq _ _).mpr (Decidable.not_not.mp c66_29))).2) ?_; exact k) ?_
          show Go p e below _ (T26.setTop (mkF m 69 #[.val (.long pp), .second, .val (.long qq), .second, .val (.int md), .val (.long (0 : Int64)), .second, .val (.long qq), .second, .val (.int (md &&& (3 : Int32))), .val (.int (own_or (0 : Int64) qq))] []))
          refine go (fun t k => by refine XS.iload X26.here hx rfl (hb hby at_69) rfl ?_; exact k) ?_
          show Go p e below _ (T26.setTop (mkF m 71 #[.val (.long pp), .second, .val (.long qq), .second, .val (.int md), .val (.long (0 : Int64)), .second, .val (.long qq), .second, .val (.int (md &&& (3 : Int32))), .val (.int (own_or (0 : Int64) qq))] [(.int (own_or (0 : Int64) qq))]))
          have c71_36 : ¬ (¬ (own_or (0 : Int64) qq) = (0 : Int32)) := not_not_intro (own_or_zero _ _ (Or.inr (Decidable.not_not.mp c66_29)))
          refine go (fun t k => by refine XS.ifNo X26.here hx rfl (hb hby at_71) rfl ((if0 _ _).trans (teq (Decidable.not_not.mp c71_36)).2) ?_; exact k) ?_
          show Go p e below _ (T26.setTop (mkF m 74 #[.val (.long pp), .second, .val (.long qq), .second, .val (.int md), .val (.long (0 : Int64)), .second, .val (.long qq), .second, .val (.int (md &&& (3 : Int32))), .val (.int (own_or (0 : Int64) qq))] []))
          refine go (fun t k => by refine XS.iconst X26.here hx rfl (hb hby at_74) ?_; exact k) ?_
          show Go p e below _ (T26.setTop (mkF m 75 #[.val (.long pp), .second, .val (.long qq), .second, .val (.int md), .val (.long (0 : Int64)), .second, .val (.long qq), .second, .val (.int (md &&& (3 : Int32))), .val (.int (own_or (0 : Int64) qq))] [(.int (1 : Int32))]))
          refine go (fun t k => by refine XS.goto X26.here hx rfl (pc0 := 75) (pc' := 79) rfl (hb hby at_75) (by decide) (by decide) ?_; exact k) ?_
          show Go p e below _ (T26.setTop (mkF m 79 #[.val (.long pp), .second, .val (.long qq), .second, .val (.int md), .val (.long (0 : Int64)), .second, .val (.long qq), .second, .val (.int (md &&& (3 : Int32))), .val (.int (own_or (0 : Int64) qq))] [(.int (1 : Int32))]))
          refine goOut X26 (fun h => by rw [Bd.returns] at h; cases h) hlk (fun fs hr => retN X26 hx (t := .boolean) Bd.returns (by simp) (hb hby at_79) hr) (by decide) (by decide) ?_
          rw [e26]
          exact ⟨rfl, N26⟩
  · skip
    refine go (fun t k => by refine XS.icmpNo X0.here hx rfl (hb hby at_15) rfl (teq (Decidable.not_not.mp c15_1)).2 ?_; exact k) ?_
    show Go p e below _ (s₁.setTop (mkF m 18 #[.val (.long pp), .second, .val (.long qq), .second, .val (.int md), .val (.long pp), .second, .val (.long qq), .second, .val (.int (md &&& (3 : Int32))), .unset] []))
    refine go (fun t k => by refine XS.lload X0.here hx rfl (hb hby at_18) rfl ?_; exact k) ?_
    show Go p e below _ (s₁.setTop (mkF m 20 #[.val (.long pp), .second, .val (.long qq), .second, .val (.int md), .val (.long pp), .second, .val (.long qq), .second, .val (.int (md &&& (3 : Int32))), .unset] [(.long pp)]))
    refine go (fun t k => by refine XS.lstore X0.here hx rfl (hb hby at_20) rfl (l' := #[.val (.long pp), .second, .val (.long qq), .second, .val (.int md), .val (.long pp), .second, .val (.long pp), .second, .val (.int (md &&& (3 : Int32))), .unset]) rfl ?_; exact k) ?_
    show Go p e below _ (s₁.setTop (mkF m 22 #[.val (.long pp), .second, .val (.long qq), .second, .val (.int md), .val (.long pp), .second, .val (.long pp), .second, .val (.int (md &&& (3 : Int32))), .unset] []))
    refine go (fun t k => by refine XS.goto X0.here hx rfl (pc0 := 22) (pc' := 46) rfl (hb hby at_22) (by decide) (by decide) ?_; exact k) ?_
    show Go p e below _ (s₁.setTop (mkF m 46 #[.val (.long pp), .second, .val (.long qq), .second, .val (.int md), .val (.long pp), .second, .val (.long pp), .second, .val (.int (md &&& (3 : Int32))), .unset] []))
    refine go (fun t k => by refine XS.lload X0.here hx rfl (hb hby at_46) rfl ?_; exact k) ?_
    show Go p e below _ (s₁.setTop (mkF m 48 #[.val (.long pp), .second, .val (.long qq), .second, .val (.int md), .val (.long pp), .second, .val (.long pp), .second, .val (.int (md &&& (3 : Int32))), .unset] [(.long pp)]))
    refine go (fun t k => by refine XS.lload X0.here hx rfl (hb hby at_48) rfl ?_; exact k) ?_
    show Go p e below _ (s₁.setTop (mkF m 50 #[.val (.long pp), .second, .val (.long qq), .second, .val (.int md), .val (.long pp), .second, .val (.long pp), .second, .val (.int (md &&& (3 : Int32))), .unset] [(.long pp), (.long pp)]))
    obtain ⟨_, _, ⟨T37, L37, k37, n37⟩, -, X37, ⟨Lc37, hQ37, l37, y37, z37⟩, st37⟩ := Jvm.LawKit.callS X0 hx (y := (⟨"com/example/stripewell/stripewell/ordered/KeyPrefix", "order", "(JJ)I"⟩ : MethodName)) hown (mvT hZ (hw _ (List.mem_of_getElem? (i := 0) rfl))) (mvT hZ (hw _ (List.mem_of_getElem? (i := 1) rfl))) (mvT hZ (hw _ (List.mem_of_getElem? (i := 2) rfl))) (mvT hZ (hw _ (List.mem_of_getElem? (i := 3) rfl))) (by decide) (backOf (W := 0) (rm1 l Z a0 hw [] pp pp h0 n0 Z0) hZ (hw _ (List.mem_of_getElem? (i := 3) rfl)) (hw _ (List.mem_of_getElem? (i := 2) rfl)) (by decide) (by decide)) (g := (mkF m 50 #[.val (.long pp), .second, .val (.long qq), .second, .val (.int md), .val (.long pp), .second, .val (.long pp), .second, .val (.int (md &&& (3 : Int32))), .unset] [(.long pp), (.long pp)])) rfl (by rw [hml]; rfl) (argsL := [(.long pp), (.long pp)]) (rest := []) (lenOf pd_0 rfl) rfl (by show 2 * 0 + _ ≤ _; exact Nat.le_of_eq rfl) (hb hby at_50) (fun _ _ => ⟨rfl, e0, (by decide : 0 + 0 ≤ _), (by decide : 0 + 0 ≤ _)⟩)
    dsimp only [Pt.U, Pt.locs, Pt.cells, Pt.slots] at X37 l37 y37 z37 st37 hQ37
    subst l37 y37 z37
    obtain ⟨rfl, N37q, e37⟩ := hQ37
    have N37 := Fr.app N0 N37q
    refine go st37 ?_
    show Go p e below _ (T37.setTop (mkF m 53 #[.val (.long pp), .second, .val (.long qq), .second, .val (.int md), .val (.long pp), .second, .val (.long pp), .second, .val (.int (md &&& (3 : Int32))), .unset] [(.int (own_or pp pp))]))
    refine go (fun t k => by refine XS.istore X37.here hx rfl (hb hby at_53) rfl (l' := #[.val (.long pp), .second, .val (.long qq), .second, .val (.int md), .val (.long pp), .second, .val (.long pp), .second, .val (.int (md &&& (3 : Int32))), .val (.int (own_or pp pp))]) rfl ?_; exact k) ?_
    show Go p e below _ (T37.setTop (mkF m 55 #[.val (.long pp), .second, .val (.long qq), .second, .val (.int md), .val (.long pp), .second, .val (.long pp), .second, .val (.int (md &&& (3 : Int32))), .val (.int (own_or pp pp))] []))
    refine go (fun t k => by refine XS.lload X37.here hx rfl (hb hby at_55) rfl ?_; exact k) ?_
    show Go p e below _ (T37.setTop (mkF m 57 #[.val (.long pp), .second, .val (.long qq), .second, .val (.int md), .val (.long pp), .second, .val (.long pp), .second, .val (.int (md &&& (3 : Int32))), .val (.int (own_or pp pp))] [(.long pp)]))
    refine go (fun t k => by refine XS.lconst X37.here hx rfl (hb hby at_57) ?_; exact k) ?_
    show Go p e below _ (T37.setTop (mkF m 58 #[.val (.long pp), .second, .val (.long qq), .second, .val (.int md), .val (.long pp), .second, .val (.long pp), .second, .val (.int (md &&& (3 : Int32))), .val (.int (own_or pp pp))] [(.long (0 : Int64)), (.long pp)]))
    refine go (fun t k => by refine XS.lcmp X37.here hx rfl (hb hby at_58) rfl ?_; exact k) ?_
    show Go p e below _ (T37.setTop (mkF m 59 #[.val (.long pp), .second, .val (.long qq), .second, .val (.int md), .val (.long pp), .second, .val (.long pp), .second, .val (.int (md &&& (3 : Int32))), .val (.int (own_or pp pp))] [(.int (lcmpW pp (0 : Int64)))]))
    by_cases c59_38 : pp = (0 : Int64)
    · skip
      refine go (fun t k => by refine XS.ifYes X37.here hx rfl (pc0 := 59) (pc' := 69) rfl (hb hby at_59) rfl ((if0 _ _).trans (teq ((lw_eq _ _).mpr c59_38)).1) (by decide) (by decide) ?_; exact k) ?_
      show Go p e below _ (T37.setTop (mkF m 69 #[.val (.long pp), .second, .val (.long qq), .second, .val (.int md), .val (.long pp), .second, .val (.long pp), .second, .val (.int (md &&& (3 : Int32))), .val (.int (own_or pp pp))] []))
      refine go (fun t k => by refine XS.iload X37.here hx rfl (hb hby at_69) rfl ?_; exact k) ?_
      show Go p e below _ (T37.setTop (mkF m 71 #[.val (.long pp), .second, .val (.long qq), .second, .val (.int md), .val (.long pp), .second, .val (.long pp), .second, .val (.int (md &&& (3 : Int32))), .val (.int (own_or pp pp))] [(.int (own_or pp pp))]))
      have c71_39 : ¬ (¬ (own_or pp pp) = (0 : Int32)) := not_not_intro (own_or_zero _ _ (Or.inl c59_38))
      refine go (fun t k => by refine XS.ifNo X37.here hx rfl (hb hby at_71) rfl ((if0 _ _).trans (teq (Decidable.not_not.mp c71_39)).2) ?_; exact k) ?_
      show Go p e below _ (T37.setTop (mkF m 74 #[.val (.long pp), .second, .val (.long qq), .second, .val (.int md), .val (.long pp), .second, .val (.long pp), .second, .val (.int (md &&& (3 : Int32))), .val (.int (own_or pp pp))] []))
      refine go (fun t k => by refine XS.iconst X37.here hx rfl (hb hby at_74) ?_; exact k) ?_
      show Go p e below _ (T37.setTop (mkF m 75 #[.val (.long pp), .second, .val (.long qq), .second, .val (.int md), .val (.long pp), .second, .val (.long pp), .second, .val (.int (md &&& (3 : Int32))), .val (.int (own_or pp pp))] [(.int (1 : Int32))]))
      refine go (fun t k => by refine XS.goto X37.here hx rfl (pc0 := 75) (pc' := 79) rfl (hb hby at_75) (by decide) (by decide) ?_; exact k) ?_
      show Go p e below _ (T37.setTop (mkF m 79 #[.val (.long pp), .second, .val (.long qq), .second, .val (.int md), .val (.long pp), .second, .val (.long pp), .second, .val (.int (md &&& (3 : Int32))), .val (.int (own_or pp pp))] [(.int (1 : Int32))]))
      refine goOut X37 (fun h => by rw [Bd.returns] at h; cases h) hlk (fun fs hr => retN X37 hx (t := .boolean) Bd.returns (by simp) (hb hby at_79) hr) (by decide) (by decide) ?_
      rw [e37]
      exact ⟨rfl, N37⟩
    · skip
      refine go (fun t k => by refine XS.ifNo X37.here hx rfl (hb hby at_59) rfl ((if0 _ _).trans (feq (fun q => c59_38 ((lw_eq _ _).mp q))).1) ?_; exact k) ?_
      show Go p e below _ (T37.setTop (mkF m 62 #[.val (.long pp), .second, .val (.long qq), .second, .val (.int md), .val (.long pp), .second, .val (.long pp), .second, .val (.int (md &&& (3 : Int32))), .val (.int (own_or pp pp))] []))
      refine go (fun t k => by refine XS.lload X37.here hx rfl (hb hby at_62) rfl ?_; exact k) ?_
      show Go p e below _ (T37.setTop (mkF m 64 #[.val (.long pp), .second, .val (.long qq), .second, .val (.int md), .val (.long pp), .second, .val (.long pp), .second, .val (.int (md &&& (3 : Int32))), .val (.int (own_or pp pp))] [(.long pp)]))
      refine go (fun t k => by refine XS.lconst X37.here hx rfl (hb hby at_64) ?_; exact k) ?_
      show Go p e below _ (T37.setTop (mkF m 65 #[.val (.long pp), .second, .val (.long qq), .second, .val (.int md), .val (.long pp), .second, .val (.long pp), .second, .val (.int (md &&& (3 : Int32))), .val (.int (own_or pp pp))] [(.long (0 : Int64)), (.long pp)]))
      refine go (fun t k => by refine XS.lcmp X37.here hx rfl (hb hby at_65) rfl ?_; exact k) ?_
      show Go p e below _ (T37.setTop (mkF m 66 #[.val (.long pp), .second, .val (.long qq), .second, .val (.int md), .val (.long pp), .second, .val (.long pp), .second, .val (.int (md &&& (3 : Int32))), .val (.int (own_or pp pp))] [(.int (lcmpW pp (0 : Int64)))]))
      by_cases c66_40 : ¬ pp = (0 : Int64)
      · skip
        refine go (fun t k => by refine XS.ifYes X37.here hx rfl (pc0 := 66) (pc' := 80) rfl (hb hby at_66) rfl ((if0 _ _).trans (feq (fun q => c66_40 ((lw_eq _ _).mp q))).2) (by decide) (by decide) ?_; exact k) ?_
        show Go p e below _ (T37.setTop (mkF m 80 #[.val (.long pp), .second, .val (.long qq), .second, .val (.int md), .val (.long pp), .second, .val (.long pp), .second, .val (.int (md &&& (3 : Int32))), .val (.int (own_or pp pp))] []))
        refine go (fun t k => by refine XS.lload X37.here hx rfl (hb hby at_80) rfl ?_; exact k) ?_
        show Go p e below _ (T37.setTop (mkF m 82 #[.val (.long pp), .second, .val (.long qq), .second, .val (.int md), .val (.long pp), .second, .val (.long pp), .second, .val (.int (md &&& (3 : Int32))), .val (.int (own_or pp pp))] [(.long pp)]))
        refine go (fun t k => by refine XS.lload X37.here hx rfl (hb hby at_82) rfl ?_; exact k) ?_
        show Go p e below _ (T37.setTop (mkF m 84 #[.val (.long pp), .second, .val (.long qq), .second, .val (.int md), .val (.long pp), .second, .val (.long pp), .second, .val (.int (md &&& (3 : Int32))), .val (.int (own_or pp pp))] [(.long pp), (.long pp)]))
        refine go (fun t k => by refine XS.lcmp X37.here hx rfl (hb hby at_84) rfl ?_; exact k) ?_
        show Go p e below _ (T37.setTop (mkF m 85 #[.val (.long pp), .second, .val (.long qq), .second, .val (.int md), .val (.long pp), .second, .val (.long pp), .second, .val (.int (md &&& (3 : Int32))), .val (.int (own_or pp pp))] [(.int (lcmpW pp pp))]))
        by_cases c85_41 : ¬ pp = pp
        · skip
          refine go (fun t k => by refine XS.ifYes X37.here hx rfl (pc0 := 85) (pc' := 99) rfl (hb hby at_85) rfl ((if0 _ _).trans (feq (fun q => c85_41 ((lw_eq _ _).mp q))).2) (by decide) (by decide) ?_; exact k) ?_
          show Go p e below _ (T37.setTop (mkF m 99 #[.val (.long pp), .second, .val (.long qq), .second, .val (.int md), .val (.long pp), .second, .val (.long pp), .second, .val (.int (md &&& (3 : Int32))), .val (.int (own_or pp pp))] []))
          refine go (fun t k => by refine XS.lload X37.here hx rfl (hb hby at_99) rfl ?_; exact k) ?_
          show Go p e below _ (T37.setTop (mkF m 101 #[.val (.long pp), .second, .val (.long qq), .second, .val (.int md), .val (.long pp), .second, .val (.long pp), .second, .val (.int (md &&& (3 : Int32))), .val (.int (own_or pp pp))] [(.long pp)]))
          refine go (fun t k => by refine XS.lload X37.here hx rfl (hb hby at_101) rfl ?_; exact k) ?_
          show Go p e below _ (T37.setTop (mkF m 103 #[.val (.long pp), .second, .val (.long qq), .second, .val (.int md), .val (.long pp), .second, .val (.long pp), .second, .val (.int (md &&& (3 : Int32))), .val (.int (own_or pp pp))] [(.long pp), (.long pp)]))
          obtain ⟨_, _, ⟨T42, L42, k42, n42⟩, -, X42, ⟨Lc42, hQ42, l42, y42, z42⟩, st42⟩ := Jvm.LawKit.callS X37 hx (y := (⟨"com/example/stripewell/stripewell/ordered/KeyPrefixOrderPinLaw", "unsignedLess", "(JJ)Z"⟩ : MethodName)) hown (mvT hZ (hw _ (List.mem_of_getElem? (i := 12) rfl))) (mvT hZ (hw _ (List.mem_of_getElem? (i := 13) rfl))) (mvT hZ (hw _ (List.mem_of_getElem? (i := 14) rfl))) (mvT hZ (hw _ (List.mem_of_getElem? (i := 15) rfl))) (by decide) (backOf (W := 0) (rm4 l Z a0 hw [] pp pp h0 n0 Z0) hZ (hw _ (List.mem_of_getElem? (i := 15) rfl)) (hw _ (List.mem_of_getElem? (i := 14) rfl)) (by decide) (by decide)) (g := (mkF m 103 #[.val (.long pp), .second, .val (.long qq), .second, .val (.int md), .val (.long pp), .second, .val (.long pp), .second, .val (.int (md &&& (3 : Int32))), .val (.int (own_or pp pp))] [(.long pp), (.long pp)])) rfl (by rw [hml]; rfl) (argsL := [(.long pp), (.long pp)]) (rest := []) (lenOf pd_1 rfl) rfl (by show 2 * 0 + _ ≤ _; exact Nat.le_of_eq rfl) (hb hby at_103) (fun _ _ => ⟨rfl, e37, (by decide : 0 + 0 ≤ _), (by decide : 0 + 0 ≤ _)⟩)
          dsimp only [Pt.U, Pt.locs, Pt.cells, Pt.slots] at X42 l42 y42 z42 st42 hQ42
          subst l42 y42 z42
          obtain ⟨rfl, N42q, e42⟩ := hQ42
          have N42 := Fr.app N37 N42q
          refine go st42 ?_
          show Go p e below _ (T42.setTop (mkF m 106 #[.val (.long pp), .second, .val (.long qq), .second, .val (.int md), .val (.long pp), .second, .val (.long pp), .second, .val (.int (md &&& (3 : Int32))), .val (.int (own_or pp pp))] [(.int (own_ul pp pp))]))
          by_cases c106_43 : (own_ul pp pp) = (0 : Int32)
          · skip
            refine go (fun t k => by refine XS.ifYes X42.here hx rfl (pc0 := 106) (pc' := 120) rfl (hb hby at_106) rfl ((if0 _ _).trans (teq c106_43).1) (by decide) (by decide) ?_; exact k) ?_
            show Go p e below _ (T42.setTop (mkF m 120 #[.val (.long pp), .second, .val (.long qq), .second, .val (.int md), .val (.long pp), .second, .val (.long pp), .second, .val (.int (md &&& (3 : Int32))), .val (.int (own_or pp pp))] []))
            refine go (fun t k => by refine XS.iload X42.here hx rfl (hb hby at_120) rfl ?_; exact k) ?_
            show Go p e below _ (T42.setTop (mkF m 122 #[.val (.long pp), .second, .val (.long qq), .second, .val (.int md), .val (.long pp), .second, .val (.long pp), .second, .val (.int (md &&& (3 : Int32))), .val (.int (own_or pp pp))] [(.int (own_or pp pp))]))
            have c122_44 : ¬ (¬ (0 : Int32) < (own_or pp pp)) := not_not_intro ((own_or_iff _ _ c59_38 c66_40 c85_41).2.mpr ((own_ul_iff _ _).mp c106_43))
            refine go (fun t k => by refine XS.ifNo X42.here hx rfl (hb hby at_122) rfl ((if0 _ _).trans (tlt (Decidable.not_not.mp c122_44)).2.2.2) ?_; exact k) ?_
            show Go p e below _ (T42.setTop (mkF m 125 #[.val (.long pp), .second, .val (.long qq), .second, .val (.int md), .val (.long pp), .second, .val (.long pp), .second, .val (.int (md &&& (3 : Int32))), .val (.int (own_or pp pp))] []))
            refine go (fun t k => by refine XS.iconst X42.here hx rfl (hb hby at_125) ?_; exact k) ?_
            show Go p e below _ (T42.setTop (mkF m 126 #[.val (.long pp), .second, .val (.long qq), .second, .val (.int md), .val (.long pp), .second, .val (.long pp), .second, .val (.int (md &&& (3 : Int32))), .val (.int (own_or pp pp))] [(.int (1 : Int32))]))
            refine go (fun t k => by refine XS.goto X42.here hx rfl (pc0 := 126) (pc' := 130) rfl (hb hby at_126) (by decide) (by decide) ?_; exact k) ?_
            show Go p e below _ (T42.setTop (mkF m 130 #[.val (.long pp), .second, .val (.long qq), .second, .val (.int md), .val (.long pp), .second, .val (.long pp), .second, .val (.int (md &&& (3 : Int32))), .val (.int (own_or pp pp))] [(.int (1 : Int32))]))
            refine goOut X42 (fun h => by rw [Bd.returns] at h; cases h) hlk (fun fs hr => retN X42 hx (t := .boolean) Bd.returns (by simp) (hb hby at_130) hr) (by decide) (by decide) ?_
            rw [e42]
            exact ⟨rfl, N42⟩
          · skip
            refine go (fun t k => by refine XS.ifNo X42.here hx rfl (hb hby at_106) rfl ((if0 _ _).trans (feq c106_43).1) ?_; exact k) ?_
            show Go p e below _ (T42.setTop (mkF m 109 #[.val (.long pp), .second, .val (.long qq), .second, .val (.int md), .val (.long pp), .second, .val (.long pp), .second, .val (.int (md &&& (3 : Int32))), .val (.int (own_or pp pp))] []))
            refine go (fun t k => by refine XS.iload X42.here hx rfl (hb hby at_109) rfl ?_; exact k) ?_
            show Go p e below _ (T42.setTop (mkF m 111 #[.val (.long pp), .second, .val (.long qq), .second, .val (.int md), .val (.long pp), .second, .val (.long pp), .second, .val (.int (md &&& (3 : Int32))), .val (.int (own_or pp pp))] [(.int (own_or pp pp))]))
            have c111_45 : ¬ (¬ (own_or pp pp) < (0 : Int32)) := not_not_intro ((own_or_iff _ _ c59_38 c66_40 c85_41).1.mpr (Decidable.not_not.mp (fun q => c106_43 ((own_ul_iff _ _).mpr q))))
            refine go (fun t k => by refine XS.ifNo X42.here hx rfl (hb hby at_111) rfl ((if0 _ _).trans (tlt (Decidable.not_not.mp c111_45)).2.1) ?_; exact k) ?_
            show Go p e below _ (T42.setTop (mkF m 114 #[.val (.long pp), .second, .val (.long qq), .second, .val (.int md), .val (.long pp), .second, .val (.long pp), .second, .val (.int (md &&& (3 : Int32))), .val (.int (own_or pp pp))] []))
            refine go (fun t k => by refine XS.iconst X42.here hx rfl (hb hby at_114) ?_; exact k) ?_
            show Go p e below _ (T42.setTop (mkF m 115 #[.val (.long pp), .second, .val (.long qq), .second, .val (.int md), .val (.long pp), .second, .val (.long pp), .second, .val (.int (md &&& (3 : Int32))), .val (.int (own_or pp pp))] [(.int (1 : Int32))]))
            refine go (fun t k => by refine XS.goto X42.here hx rfl (pc0 := 115) (pc' := 119) rfl (hb hby at_115) (by decide) (by decide) ?_; exact k) ?_
            show Go p e below _ (T42.setTop (mkF m 119 #[.val (.long pp), .second, .val (.long qq), .second, .val (.int md), .val (.long pp), .second, .val (.long pp), .second, .val (.int (md &&& (3 : Int32))), .val (.int (own_or pp pp))] [(.int (1 : Int32))]))
            refine goOut X42 (fun h => by rw [Bd.returns] at h; cases h) hlk (fun fs hr => retN X42 hx (t := .boolean) Bd.returns (by simp) (hb hby at_119) hr) (by decide) (by decide) ?_
            rw [e42]
            exact ⟨rfl, N42⟩
        · skip
          refine go (fun t k => by refine XS.ifNo X37.here hx rfl (hb hby at_85) rfl ((if0 _ _).trans (teq ((lw_eq _ _).mpr (Decidable.not_not.mp c85_41))).2) ?_; exact k) ?_
          show Go p e below _ (T37.setTop (mkF m 88 #[.val (.long pp), .second, .val (.long qq), .second, .val (.int md), .val (.long pp), .second, .val (.long pp), .second, .val (.int (md &&& (3 : Int32))), .val (.int (own_or pp pp))] []))
          refine go (fun t k => by refine XS.iload X37.here hx rfl (hb hby at_88) rfl ?_; exact k) ?_
          show Go p e below _ (T37.setTop (mkF m 90 #[.val (.long pp), .second, .val (.long qq), .second, .val (.int md), .val (.long pp), .second, .val (.long pp), .second, .val (.int (md &&& (3 : Int32))), .val (.int (own_or pp pp))] [(.int (own_or pp pp))]))
          have c90_46 : ¬ (¬ (own_or pp pp) = (0 : Int32)) := not_not_intro (own_or_same _ _ (Decidable.not_not.mp c85_41))
          refine go (fun t k => by refine XS.ifNo X37.here hx rfl (hb hby at_90) rfl ((if0 _ _).trans (teq (Decidable.not_not.mp c90_46)).2) ?_; exact k) ?_
          show Go p e below _ (T37.setTop (mkF m 93 #[.val (.long pp), .second, .val (.long qq), .second, .val (.int md), .val (.long pp), .second, .val (.long pp), .second, .val (.int (md &&& (3 : Int32))), .val (.int (own_or pp pp))] []))
          refine go (fun t k => by refine XS.iconst X37.here hx rfl (hb hby at_93) ?_; exact k) ?_
          show Go p e below _ (T37.setTop (mkF m 94 #[.val (.long pp), .second, .val (.long qq), .second, .val (.int md), .val (.long pp), .second, .val (.long pp), .second, .val (.int (md &&& (3 : Int32))), .val (.int (own_or pp pp))] [(.int (1 : Int32))]))
          refine go (fun t k => by refine XS.goto X37.here hx rfl (pc0 := 94) (pc' := 98) rfl (hb hby at_94) (by decide) (by decide) ?_; exact k) ?_
          show Go p e below _ (T37.setTop (mkF m 98 #[.val (.long pp), .second, .val (.long qq), .second, .val (.int md), .val (.long pp), .second, .val (.long pp), .second, .val (.int (md &&& (3 : Int32))), .val (.int (own_or pp pp))] [(.int (1 : Int32))]))
          refine goOut X37 (fun h => by rw [Bd.returns] at h; cases h) hlk (fun fs hr => retN X37 hx (t := .boolean) Bd.returns (by simp) (hb hby at_98) hr) (by decide) (by decide) ?_
          rw [e37]
          exact ⟨rfl, N37⟩
      · skip
        refine go (fun t k => by refine XS.ifNo X37.here hx rfl (hb hby at_66) rfl ((if0 _ _).trans (teq ((lw_eq _ _).mpr (Decidable.not_not.mp c66_40))).2) ?_; exact k) ?_
        show Go p e below _ (T37.setTop (mkF m 69 #[.val (.long pp), .second, .val (.long qq), .second, .val (.int md), .val (.long pp), .second, .val (.long pp), .second, .val (.int (md &&& (3 : Int32))), .val (.int (own_or pp pp))] []))
        refine go (fun t k => by refine XS.iload X37.here hx rfl (hb hby at_69) rfl ?_; exact k) ?_
        show Go p e below _ (T37.setTop (mkF m 71 #[.val (.long pp), .second, .val (.long qq), .second, .val (.int md), .val (.long pp), .second, .val (.long pp), .second, .val (.int (md &&& (3 : Int32))), .val (.int (own_or pp pp))] [(.int (own_or pp pp))]))
        have c71_47 : ¬ (¬ (own_or pp pp) = (0 : Int32)) := not_not_intro (own_or_zero _ _ (Or.inr (Decidable.not_not.mp c66_40)))
        refine go (fun t k => by refine XS.ifNo X37.here hx rfl (hb hby at_71) rfl ((if0 _ _).trans (teq (Decidable.not_not.mp c71_47)).2) ?_; exact k) ?_
        show Go p e below _ (T37.setTop (mkF m 74 #[.val (.long pp), .second, .val (.long qq), .second, .val (.int md), .val (.long pp), .second, .val (.long pp), .second, .val (.int (md &&& (3 : Int32))), .val (.int (own_or pp pp))] []))
        refine go (fun t k => by refine XS.iconst X37.here hx rfl (hb hby at_74) ?_; exact k) ?_
        show Go p e below _ (T37.setTop (mkF m 75 #[.val (.long pp), .second, .val (.long qq), .second, .val (.int md), .val (.long pp), .second, .val (.long pp), .second, .val (.int (md &&& (3 : Int32))), .val (.int (own_or pp pp))] [(.int (1 : Int32))]))
        refine go (fun t k => by refine XS.goto X37.here hx rfl (pc0 := 75) (pc' := 79) rfl (hb hby at_75) (by decide) (by decide) ?_; exact k) ?_
        show Go p e below _ (T37.setTop (mkF m 79 #[.val (.long pp), .second, .val (.long qq), .second, .val (.int md), .val (.long pp), .second, .val (.long pp), .second, .val (.int (md &&& (3 : Int32))), .val (.int (own_or pp pp))] [(.int (1 : Int32))]))
        refine goOut X37 (fun h => by rw [Bd.returns] at h; cases h) hlk (fun fs hr => retN X37 hx (t := .boolean) Bd.returns (by simp) (hb hby at_79) hr) (by decide) (by decide) ?_
        rw [e37]
        exact ⟨rfl, N37⟩
set_option maxRecDepth 65536 in
set_option maxHeartbeats 40000000 in
theorem comes_1 {Post : Tables → Env → Array Value → State → Outcome → State → Prop} (hpost : ∀ tb e args s v u, (limb_1_1.after args s (.returned v) u = true ∧ limb_1_2.after args s (.returned v) u = true ∧ True) → FrameEnd s (.returned v) u (Jvm.fieldLocs frame_1_writes args s ++ Jvm.arrayLocs frame_1_arrays args s ++ Jvm.staticLocs frame_1_statics s) 0 0 → Post tb e args s (.returned v) u) :
    ArmFor flags0 classFile x code maxLocals ret World_1 tables_1 room_1 Calls_1 rest_1 Pre_1 Post := by
  intro l hfl _ _ p e ha hc hk s m args below hf hA hF happ hP
  obtain ⟨hcalls, hrest, hpre⟩ := hP
  obtain ⟨-, -, -, hnamed, -, -, -, hat⟩ := (Spec.applies_iff hf).mp happ
  obtain ⟨hg, hn⟩ := and_e (Cond.before_iff.mp (show (Jvm.Cond.and given_1 narrow_1).before args s = true from hpre))
  obtain ⟨g1, g2⟩ := and_e hg
  obtain ⟨g3, g4⟩ := and_e g2
  obtain ⟨g5, g6⟩ := and_e g4
  obtain ⟨w0, w1, w2, rfl⟩ : ∃ w0 w1 w2 : Value, args = #[w0, w1, w2] := by
    have hs : args.size = 3 := by simpa [Cond.value, given_1] using g1
    obtain ⟨L⟩ := args
    match L, hs with
    | [w0, w1, w2], _ => exact ⟨w0, w1, w2, rfl⟩
  have hw := fun d (hd : d ∈ tables_1) => atoms_spec (ws := Jvm.Cond.code x code maxLocals ret :: tables_1) hat d (List.mem_cons_of_mem _ hd)
  have hfit : Fit s := fun {y c} hc i hi => by
    obtain ⟨ha, rfl⟩ := Array.getElem?_eq_some_iff.mp hc
    have q := List.all_eq_true.mp ((Array.all_eq_true_iff_forall_mem.mp hF) _ (Array.getElem_mem ha)) i (List.mem_range.mpr hi)
    simpa [Array.getElem?_eq_getElem hi] using q
  obtain ⟨i0, ei0⟩ := isL_v g3
  obtain rfl : w0 = (.long i0) := Option.some.inj ei0
  obtain ⟨i1, ei1⟩ := isL_v g5
  obtain rfl : w1 = (.long i1) := Option.some.inj ei1
  obtain ⟨i2, ei2⟩ := is_v g6
  obtain rfl : w2 = (.int i2) := Option.some.inj ei2
  obtain ⟨n, o, h1, h2, h3, _, L, rfl, ⟨rfl, N⟩, hq⟩ := rm0 l s _ hw tables_1 i0 i1 i2  s.heap s.heap.size (Nat.le_refl _)  p e ha hc hk s m _ below hf ((Spec.applies_iff_loose hf).mp happ).1 ⟨rfl, State.Warmed39.refl s, rfl⟩ trivial
  refine ⟨n, _, h1, h2, h3, hpost _ _ _ _ _ _ ⟨Cond.after_iff.mpr rfl, Cond.after_iff.mpr (eq_i res_at (Term.int_eval (1)) rfl), trivial⟩ ⟨hq.1, hq.2.1, (hq.2.2.sift fun y hy => Or.inr (N y hy)).mono (by decide) (by decide)⟩⟩
theorem main_1_1 : Claimed_1_1 := comes_1 fun _ _ _ _ _ _ h hF => ⟨h.1, hF⟩
theorem main_1_2 : Claimed_1_2 := comes_1 fun _ _ _ _ _ _ h hF => ⟨h.2.1, hF⟩
end Jvm.Pilot.@@N@@
namespace Jvm.Pilot.@@N@@
open Jvm Jvm.ClassFile Sem Op Lib Jvm.Free Jvm.Stand Jvm.Pilot.@@N@@.Jvm.D
/-! MADE BY PROGRAM (witnessworld.py) out of the Statement's table words and the real class files: 14 classes; the members and pool entries that the words name. The judged class is class 1, her method 2. -/
namespace start1
open Jvm.ClassFile
def u (s : String) : CpInfo := .utf8 (stringToUtf16 s)
/-- a pool by its gaps: so many unusable entries, then the entry; so many at the end -/
def gap : Nat → List CpInfo → List CpInfo
  | 0, r => r
  | n + 1, r => .unusable :: gap n r
def poolList (es : List (Nat × CpInfo)) (last : Nat) : List CpInfo := es.foldr (fun e r => gap e.1 (e.2 :: r)) (gap last [])
def pool (es : List (Nat × CpInfo)) (last : Nat) : Array CpInfo := ⟨poolList es last⟩
def fileOf (pool : Array CpInfo) (this : Nat) (attrs : Array Attribute := #[]) (ms : Array MethodInfo := #[]) (fl : Nat := 33) (sup : Nat := 0) (ifs : Array Nat := #[]) (fds : Array FieldInfo := #[]) : ClassFile where
  minorVersion := 0
  majorVersion := 65
  constantPool := pool
  accessFlags := fl
  thisClass := this
  superClass := sup
  interfaces := ifs
  fields := fds
  methods := ms
  attributes := attrs
def plain (name : String) (sup : Option ClassId) : Class where
  name := name
  kind := .ordinary
  loader := none
  accessFlags := 33
  super := sup
  interfaces := #[]
  cf := none
  fields := #[]
  methods := #[]
  instanceTypes := #[]
  staticTypes := #[]
  resolved := #[]
  callSites := []
  init := .initialized
  statics := none
  mirror := none

def pool0 : Array CpInfo := pool [(5, u "<init>"), (0, u "()V"), (1, .class_ 10), (1, u "java/lang/Object")] 113

def k0m0 : Method := { name := "<init>", desc := "()V", sig := { parameters := [], returnType := none }, accessFlags := 1, code := none }
/-- java/lang/Object -/
def k0 : Class := { plain "java/lang/Object" none with
  accessFlags := 33
  interfaces := #[]
  cf := some (fileOf pool0 8 #[] #[{ accessFlags := 1, nameIndex := 5, descriptorIndex := 6, attributes := #[] }] 33 0 #[] #[])
  fields := #[]
  methods := #[k0m0]
  instanceTypes := #[]
  staticTypes := #[]
  resolved := Array.replicate 124 none
  statics := none }

def pool1 : Array CpInfo := pool [(2, .class_ 4), (1, u "java/lang/Object"), (0, u "<init>"), (0, u "()V"), (0, .methodref 8 9), (0, .class_ 10), (0, .nameAndType 11 12), (0, u "com/example/stripewell/stripewell/ordered/KeyPrefix"), (0, u "order"), (0, u "(JJ)I"), (0, .methodref 14 15), (0, .class_ 16), (0, .nameAndType 17 18), (0, u "com/example/stripewell/stripewell/ordered/KeyPrefixOrderPinLaw"), (0, u "unsignedLess"), (0, u "(JJ)Z"), (3, u "law"), (0, u "(JJI)Z")] 2

def k1m0 : Method := { name := "<init>", desc := "()V", sig := { parameters := [], returnType := none }, accessFlags := 2, code := none }
def k1c1 : Code := { maxStack := 6, maxLocals := 8, code := method_2_code, exceptionTable := #[], attributes := #[] }
def k1m1 : Method := { name := "unsignedLess", desc := "(JJ)Z", sig := { parameters := [.long, .long], returnType := some .boolean }, accessFlags := 10, code := some k1c1 }
def k1c2 : Code := { maxStack := 4, maxLocals := 11, code := code, exceptionTable := #[], attributes := #[] }
def k1m2 : Method := { name := "law", desc := "(JJI)Z", sig := { parameters := [.long, .long, .int], returnType := some .boolean }, accessFlags := 9, code := some k1c2 }
/-- com/example/stripewell/stripewell/ordered/KeyPrefixOrderPinLaw -/
def k1 : Class := { plain "com/example/stripewell/stripewell/ordered/KeyPrefixOrderPinLaw" (some 0) with
  accessFlags := 49
  interfaces := #[]
  cf := some (fileOf pool1 14 #[] #[{ accessFlags := 2, nameIndex := 5, descriptorIndex := 6, attributes := #[] }, { accessFlags := 10, nameIndex := 17, descriptorIndex := 18, attributes := #[] }, { accessFlags := 9, nameIndex := 22, descriptorIndex := 23, attributes := #[] }] 49 2 #[] #[])
  fields := #[]
  methods := #[k1m0, k1m1, k1m2]
  instanceTypes := #[]
  staticTypes := #[]
  resolved := Array.replicate 26 none
  statics := none }

def pool2 : Array CpInfo := pool [(1, .class_ 2), (0, u "java/lang/Long"), (3, .class_ 8), (1, u "java/lang/Object"), (0, u "<init>"), (0, u "()V"), (0, .class_ 12), (0, u "com/example/stripewell/stripewell/ordered/KeyPrefix"), (10, .methodref 1 24), (0, .nameAndType 25 26), (0, u "compareUnsigned"), (0, u "(JJ)I"), (0, u "NONE"), (0, u "J"), (3, u "CHARS"), (0, u "I"), (6, u "order")] 2

def k2m0 : Method := { name := "<init>", desc := "()V", sig := { parameters := [], returnType := none }, accessFlags := 2, code := none }
def k2c1 : Code := { maxStack := 4, maxLocals := 5, code := prog_30_method_3_code, exceptionTable := #[], attributes := #[] }
def k2m1 : Method := { name := "order", desc := "(JJ)I", sig := { parameters := [.long, .long], returnType := some .int }, accessFlags := 8, code := some k2c1 }
/-- com/example/stripewell/stripewell/ordered/KeyPrefix -/
def k2 : Class := { plain "com/example/stripewell/stripewell/ordered/KeyPrefix" (some 0) with
  accessFlags := 32
  interfaces := #[]
  cf := some (fileOf pool2 11 #[] #[{ accessFlags := 2, nameIndex := 9, descriptorIndex := 10, attributes := #[] }, { accessFlags := 8, nameIndex := 40, descriptorIndex := 26, attributes := #[] }] 32 6 #[] #[{ accessFlags := 24, nameIndex := 27, descriptorIndex := 28, attributes := #[] }, { accessFlags := 26, nameIndex := 32, descriptorIndex := 33, attributes := #[] }])
  fields := #[{ name := "NONE", type := .long, accessFlags := 24, slot := 0, constantValue := 0 }, { name := "CHARS", type := .int, accessFlags := 26, slot := 1, constantValue := 0 }]
  methods := #[k2m0, k2m1]
  instanceTypes := #[]
  staticTypes := #[.long, .int]
  resolved := Array.replicate 43 none
  statics := none }

def pool3 : Array CpInfo := pool [(1, .class_ 2), (0, u "java/io/Serializable"), (0, .class_ 4), (0, u "java/lang/Object")] 2

/-- java/io/Serializable -/
def k3 : Class := { plain "java/io/Serializable" (some 0) with
  accessFlags := 1537
  interfaces := #[]
  cf := some (fileOf pool3 1 #[] #[] 1537 3 #[] #[])
  fields := #[]
  methods := #[]
  instanceTypes := #[]
  staticTypes := #[]
  resolved := Array.replicate 7 none
  statics := none }

def pool4 : Array CpInfo := pool [(2, .class_ 4), (1, u "java/lang/Object"), (0, u "<init>"), (0, u "()V"), (1, .class_ 10), (1, u "java/lang/Number"), (2, .class_ 14), (0, u "java/io/Serializable"), (0, u "serialVersionUID"), (0, u "J")] 20

def k4m0 : Method := { name := "<init>", desc := "()V", sig := { parameters := [], returnType := none }, accessFlags := 1, code := none }
/-- java/lang/Number -/
def k4 : Class := { plain "java/lang/Number" (some 0) with
  accessFlags := 1057
  interfaces := #[3]
  cf := some (fileOf pool4 8 #[] #[{ accessFlags := 1, nameIndex := 5, descriptorIndex := 6, attributes := #[] }] 1057 2 #[13] #[{ accessFlags := 26, nameIndex := 15, descriptorIndex := 16, attributes := #[] }])
  fields := #[{ name := "serialVersionUID", type := .long, accessFlags := 26, slot := 0, constantValue := 0 }]
  methods := #[k4m0]
  instanceTypes := #[]
  staticTypes := #[.long]
  resolved := Array.replicate 37 none
  statics := none }

def pool5 : Array CpInfo := pool [(1, .class_ 2), (0, u "java/lang/Comparable"), (0, .class_ 4), (0, u "java/lang/Object")] 7

/-- java/lang/Comparable -/
def k5 : Class := { plain "java/lang/Comparable" (some 0) with
  accessFlags := 1537
  interfaces := #[]
  cf := some (fileOf pool5 1 #[] #[] 1537 3 #[] #[])
  fields := #[]
  methods := #[]
  instanceTypes := #[]
  staticTypes := #[]
  resolved := Array.replicate 12 none
  statics := none }

def pool6 : Array CpInfo := pool [(1, .class_ 2), (0, u "java/lang/constant/Constable"), (0, .class_ 4), (0, u "java/lang/Object")] 6

/-- java/lang/constant/Constable -/
def k6 : Class := { plain "java/lang/constant/Constable" (some 0) with
  accessFlags := 1537
  interfaces := #[]
  cf := some (fileOf pool6 1 #[] #[] 1537 3 #[] #[])
  fields := #[]
  methods := #[]
  instanceTypes := #[]
  staticTypes := #[]
  resolved := Array.replicate 11 none
  statics := none }

def pool7 : Array CpInfo := pool [(1, .class_ 2), (0, u "java/lang/constant/ConstantDesc"), (0, .class_ 4), (0, u "java/lang/Object")] 32

/-- java/lang/constant/ConstantDesc -/
def k7 : Class := { plain "java/lang/constant/ConstantDesc" (some 0) with
  accessFlags := 1537
  interfaces := #[]
  cf := some (fileOf pool7 1 #[] #[] 1537 3 #[] #[])
  fields := #[]
  methods := #[]
  instanceTypes := #[]
  staticTypes := #[]
  resolved := Array.replicate 37 none
  statics := none }

def pool8 : Array CpInfo := pool [(1, .class_ 2), (0, u "java/lang/Long"), (165, .long 9223372036854775808), (66, .class_ 237), (1, u "java/lang/Long$LongCache"), (33, .class_ 272), (0, u "java/lang/Number"), (2, u "value"), (0, u "J"), (25, .methodref 1 303), (0, .nameAndType 304 305), (0, u "compare"), (0, u "(JJ)I"), (55, u "TYPE"), (0, u "Ljava/lang/Class;"), (0, .class_ 364), (0, u "java/lang/Comparable"), (0, .class_ 366), (0, u "java/lang/constant/Constable"), (0, .class_ 368), (0, u "java/lang/constant/ConstantDesc"), (0, u "MIN_VALUE"), (1, u "MAX_VALUE"), (4, u "SIZE"), (0, u "I"), (1, u "BYTES"), (1, u "serialVersionUID"), (87, u "compareUnsigned")] 54

def k8c0 : Code := { maxStack := 4, maxLocals := 4, code := jdk_35_method_42_code, exceptionTable := #[], attributes := #[] }
def k8m0 : Method := { name := "compare", desc := "(JJ)I", sig := { parameters := [.long, .long], returnType := some .int }, accessFlags := 9, code := some k8c0 }
def k8c1 : Code := { maxStack := 6, maxLocals := 4, code := jdk_35_method_43_code, exceptionTable := #[], attributes := #[] }
def k8m1 : Method := { name := "compareUnsigned", desc := "(JJ)I", sig := { parameters := [.long, .long], returnType := some .int }, accessFlags := 9, code := some k8c1 }
/-- java/lang/Long -/
def k8 : Class := { plain "java/lang/Long" (some 4) with
  accessFlags := 49
  interfaces := #[5, 6, 7]
  cf := some (fileOf pool8 1 #[.nestMembers #[235]] #[{ accessFlags := 9, nameIndex := 304, descriptorIndex := 305, attributes := #[] }, { accessFlags := 9, nameIndex := 469, descriptorIndex := 305, attributes := #[] }] 49 271 #[363, 365, 367] #[{ accessFlags := 25, nameIndex := 369, descriptorIndex := 276, attributes := #[] }, { accessFlags := 25, nameIndex := 371, descriptorIndex := 276, attributes := #[] }, { accessFlags := 25, nameIndex := 361, descriptorIndex := 362, attributes := #[] }, { accessFlags := 18, nameIndex := 275, descriptorIndex := 276, attributes := #[] }, { accessFlags := 25, nameIndex := 376, descriptorIndex := 377, attributes := #[] }, { accessFlags := 25, nameIndex := 379, descriptorIndex := 377, attributes := #[] }, { accessFlags := 26, nameIndex := 381, descriptorIndex := 276, attributes := #[] }])
  fields := #[{ name := "MIN_VALUE", type := .long, accessFlags := 25, slot := 0, constantValue := 0 }, { name := "MAX_VALUE", type := .long, accessFlags := 25, slot := 1, constantValue := 0 }, { name := "TYPE", type := (.object "java/lang/Class"), accessFlags := 25, slot := 2, constantValue := 0 }, { name := "value", type := .long, accessFlags := 18, slot := 0, constantValue := 0 }, { name := "SIZE", type := .int, accessFlags := 25, slot := 3, constantValue := 0 }, { name := "BYTES", type := .int, accessFlags := 25, slot := 4, constantValue := 0 }, { name := "serialVersionUID", type := .long, accessFlags := 26, slot := 5, constantValue := 0 }]
  methods := #[k8m0, k8m1]
  instanceTypes := #[.long]
  staticTypes := #[.long, .long, (.object "java/lang/Class"), .int, .int, .long]
  resolved := Array.replicate 524 none
  statics := none }

def pool9 : Array CpInfo := pool [(1, u "java/lang/Cloneable"), (0, .class_ 1), (0, u "java/lang/Object"), (0, .class_ 3)] 3

/-- java/lang/Cloneable -/
def k9 : Class := { plain "java/lang/Cloneable" (some 0) with
  accessFlags := 1537
  interfaces := #[]
  cf := some (fileOf pool9 2 #[] #[] 1537 4 #[] #[])
  fields := #[]
  methods := #[]
  instanceTypes := #[]
  staticTypes := #[]
  resolved := Array.replicate 8 none
  statics := none }

/-- the primitive byte -/
def k10 : Class := { plain "byte" none with kind := .primitive 'B', accessFlags := 0x411 }
/-- [B -/
def k11 : Class := { plain "[B" (some 0) with kind := .array 10 .byte, interfaces := #[9, 3], accessFlags := 1041 }

/-- the primitive int -/
def k12 : Class := { plain "int" none with kind := .primitive 'I', accessFlags := 0x411 }
/-- [I -/
def k13 : Class := { plain "[I" (some 0) with kind := .array 12 .int, interfaces := #[9, 3], accessFlags := 1041 }

def heap : Heap := #[]
def classes : Array Class := #[k0, k1, k2, k3, k4, k5, k6, k7, k8, k9, k10, k11, k12, k13]
def interned : List (Array UInt16 × Addr) := []
def slotsUsed : Nat := 0
def theMethod : MethodId := ⟨1, 2⟩
def args0 : Array Value := #[.long 5, .long 7, .int 3]
def aboutOver (below : List Frame) : State where
  vm := { classes := classes, interned := interned.toArray }
  heap := heap
  slotsUsed := slotsUsed
  threads := #[{ frames := .invoking theMethod args0 :: below }]
def below0 : List Frame := [.native { method := ⟨0, 0⟩, args := #[] }]
def about1 : State := aboutOver below0
def p0 : Program := .bare "" "" ""
def e0 : Env := launch0.env 0 0 0
theorem w_frames : about1.frames = Frame.invoking theMethod args0 :: below0 := rfl
set_option maxRecDepth 65536 in
theorem w_args : argsFit about1.vm theMethod args0 = true := by decide +kernel
set_option maxRecDepth 65536 in
theorem w_heap : heapFits about1 = true := by decide +kernel
set_option maxRecDepth 65536 in
theorem w_runnable : about1.curStatus? = some .runnable := by decide +kernel
set_option maxRecDepth 65536 in
theorem w_alone : about1.alone = true := by decide +kernel
set_option maxRecDepth 65536 in
theorem w_named : about1.methodNamed? x = some theMethod := by decide +kernel
set_option maxRecDepth 65536 in
theorem w_hears : about1.hears theMethod below0 = true := by decide +kernel
set_option maxRecDepth 65536 in
theorem w_ripe : about1.ripe theMethod args0 below0 = true := by decide +kernel
theorem w_running : about1.status = .running := rfl
set_option maxRecDepth 65536 in
theorem w_room : about1.hasRoom e0.platform room_1 = true :=
  launch0.hasRoom_least _ room_1 (by decide +kernel) (by decide +kernel) (by decide +kernel) (by decide +kernel) (by decide +kernel) (by decide +kernel)
theorem allAtoms_all (ts : List Jvm.Cond) (a : Array Jvm.Value) (st : Jvm.State) : (allAtoms ts).before a st = ts.all (fun c => c.before a st) := by
  induction ts with
  | nil => rfl
  | cons c t ih =>
    show (Jvm.Cond.and c (allAtoms t)).before a st = _
    rw [Jvm.Cond.before_and, ih, List.all_cons]
def words1 : List Jvm.Cond := Jvm.Cond.code x code maxLocals ret :: tables_1
/-- a 'code' word, met by the world's own term for the bytes: nothing is compared byte by byte -/
theorem code_word {y : MethodName} {bytes : ByteArray} {mx : Nat} {rt : Option FieldType} {a : Array Value} {s : State} {m : MethodId} {meth : Method} {c : Code} (h1 : s.methodNamed? y = some m) (h2 : s.vm.method? m = some meth) (h3 : meth.code = some c) (h4 : c.code = bytes)
    (h5 : (c.maxLocals == mx && c.exceptionTable.isEmpty && decide (c.maxStack ≤ mostOperands) && decide (meth.sig.returnType = rt) && !meth.locks && decide (parseMethodDescriptor y.desc = some meth.sig)) = true) : (Jvm.Cond.code y bytes mx rt).before a s = true := by
  simp only [Bool.and_eq_true, beq_iff_eq, Bool.not_eq_true', decide_eq_true_eq] at h5
  obtain ⟨⟨⟨⟨⟨g1, g2⟩, g3⟩, g4⟩, g5⟩, g6⟩ := h5
  simp [Cond.before, Cond.holds, Cond.value, h1, h2, h3, h4, g1, g2, g3, g4, g5, g6]
def isCode : Jvm.Cond → Bool
  | .code _ _ _ _ => true
  | _ => false
theorem all_split {L : List Jvm.Cond} {P : Jvm.Cond → Bool} (h1 : L.all (fun c => isCode c || P c) = true) (h2 : ∀ c ∈ L.filter isCode, P c = true) : L.all P = true := by
  refine List.all_eq_true.mpr fun c hc => ?_
  have h := List.all_eq_true.mp h1 c hc
  rcases Bool.eq_false_or_eq_true (isCode c) with hi | hi
  · exact h2 c (List.mem_filter.mpr ⟨hc, hi⟩)
  · simpa [hi] using h
set_option maxRecDepth 65536 in
theorem w_c0 : (Jvm.Cond.code x code maxLocals ret).before args0 about1 = true := code_word (m := ⟨1, 2⟩) (meth := k1m2) (c := k1c2) (by decide +kernel) rfl rfl rfl (by decide +kernel)
set_option maxRecDepth 65536 in
theorem w_c1 : (Jvm.Cond.code ({ cls := "com/example/stripewell/stripewell/ordered/KeyPrefix", name := "order", desc := "(JJ)I" } : Jvm.MethodName) prog_30_method_3_code (5 : Nat) (Option.some Jvm.ClassFile.FieldType.int)).before args0 about1 = true := code_word (m := ⟨2, 1⟩) (meth := k2m1) (c := k2c1) (by decide +kernel) rfl rfl rfl (by decide +kernel)
set_option maxRecDepth 65536 in
theorem w_c2 : (Jvm.Cond.code ({ cls := "java/lang/Long", name := "compareUnsigned", desc := "(JJ)I" } : Jvm.MethodName) jdk_35_method_43_code (4 : Nat) (Option.some Jvm.ClassFile.FieldType.int)).before args0 about1 = true := code_word (m := ⟨8, 1⟩) (meth := k8m1) (c := k8c1) (by decide +kernel) rfl rfl rfl (by decide +kernel)
set_option maxRecDepth 65536 in
theorem w_c3 : (Jvm.Cond.code ({ cls := "java/lang/Long", name := "compare", desc := "(JJ)I" } : Jvm.MethodName) jdk_35_method_42_code (4 : Nat) (Option.some Jvm.ClassFile.FieldType.int)).before args0 about1 = true := code_word (m := ⟨8, 0⟩) (meth := k8m0) (c := k8c0) (by decide +kernel) rfl rfl rfl (by decide +kernel)
set_option maxRecDepth 65536 in
theorem w_c4 : (Jvm.Cond.code ({ cls := "com/example/stripewell/stripewell/ordered/KeyPrefixOrderPinLaw", name := "unsignedLess", desc := "(JJ)Z" } : Jvm.MethodName) method_2_code (8 : Nat) (Option.some Jvm.ClassFile.FieldType.boolean)).before args0 about1 = true := code_word (m := ⟨1, 1⟩) (meth := k1m1) (c := k1c1) (by decide +kernel) rfl rfl rfl (by decide +kernel)
def codes1 : List Jvm.Cond := [Jvm.Cond.code x code maxLocals ret, Jvm.Cond.code ({ cls := "com/example/stripewell/stripewell/ordered/KeyPrefix", name := "order", desc := "(JJ)I" } : Jvm.MethodName) prog_30_method_3_code (5 : Nat) (Option.some Jvm.ClassFile.FieldType.int), Jvm.Cond.code ({ cls := "java/lang/Long", name := "compareUnsigned", desc := "(JJ)I" } : Jvm.MethodName) jdk_35_method_43_code (4 : Nat) (Option.some Jvm.ClassFile.FieldType.int), Jvm.Cond.code ({ cls := "java/lang/Long", name := "compare", desc := "(JJ)I" } : Jvm.MethodName) jdk_35_method_42_code (4 : Nat) (Option.some Jvm.ClassFile.FieldType.int), Jvm.Cond.code ({ cls := "com/example/stripewell/stripewell/ordered/KeyPrefixOrderPinLaw", name := "unsignedLess", desc := "(JJ)Z" } : Jvm.MethodName) method_2_code (8 : Nat) (Option.some Jvm.ClassFile.FieldType.boolean)]
set_option maxRecDepth 65536 in
theorem codes_eq : words1.filter isCode = codes1 := rfl
theorem w_codes : ∀ c ∈ words1.filter isCode, c.before args0 about1 = true := by
  rw [codes_eq]
  intro c hc
  simp only [codes1, List.mem_cons, List.not_mem_nil, or_false] at hc
  rcases hc with rfl | rfl | rfl | rfl | rfl
  · exact w_c0
  · exact w_c1
  · exact w_c2
  · exact w_c3
  · exact w_c4
set_option maxRecDepth 65536 in
theorem w_t1 : words1.all (fun c => isCode c || c.before args0 about1) = true := by decide +kernel
theorem w_tables : (allAtoms (Jvm.Cond.code x code maxLocals ret :: tables_1)).before args0 about1 = true := by
  rw [allAtoms_all]
  show words1.all (fun c => c.before args0 about1) = true
  refine all_split ?_ w_codes
  rw [w_t1]
set_option maxRecDepth 65536 in
theorem w_case : (Jvm.Cond.and given_1 narrow_1).before args0 about1 = true := by decide +kernel
theorem w_applies : (headSpec (Jvm.Cond.code x code maxLocals ret :: tables_1) room_1).applies x e0.platform about1 = true :=
  (Spec.applies_iff w_frames).mpr ⟨w_running, w_runnable, w_alone, w_named, w_hears, w_ripe, w_room, w_tables⟩
theorem atStart : AtStart classFile x code maxLocals ret World_1 tables_1 room_1 Calls_1 rest_1 Pre_1 launch0 p0 e0 about1 theMethod args0 below0 :=
  ⟨lists_1, trivial, launch0.admits_env _ _ _, launch0.least_env, fairChoices_fair.cas, fairChoices_fair.clock, w_frames, w_args, w_heap, w_applies, trivial, trivial, w_case⟩
end start1
theorem witness_1 : WitnessClaimed_1 := ⟨start1.p0, start1.e0, start1.about1, start1.theMethod, start1.args0, start1.below0, start1.atStart⟩
end Jvm.Pilot.@@N@@
