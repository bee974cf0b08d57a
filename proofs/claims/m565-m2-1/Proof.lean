import JvmDerived
import JvmDerived.Pilot.@@N@@Statement
import JvmDerived.Pilot.@@N@@Code
set_option linter.unusedVariables false
set_option linter.unusedSimpArgs false
namespace Jvm.RoadKit
open Sem ClassFile Op Lib Jvm.Stand Jvm.Free Jvm.LawKit
section Own
variable {p : Program} {l : Launch} {e : Env} {R : Room} {s : State} {m : MethodId} {args : Array Value} {below : List Frame} {meth : Method} {c : Code} {T : State} {locs : List Loc} {cells slots : Nat}
/-- from S the run comes to the end of the call, and K holds there -/
def Go (p : Program) (e : Env) (below : List Frame) (K : State → Outcome → Prop) (S : State) : Prop := ∃ s₂ o, Steps p.tables e below S s₂ ∧ s₂.status = .running ∧ Ended s₂ below o ∧ K s₂ o
def Kq (s : State) (Q : Option Value → Heap → List Loc → Prop) (k n : Nat) (t : State) (o : Outcome) : Prop := ∃ v L, o = .returned v ∧ Q v t.heap L ∧ FrameEnd s o t L k n
theorem go {K : State → Outcome → Prop} {S S' : State} (h : ∀ t, Steps p.tables e below S' t → Steps p.tables e below S t) (g : Go p e below K S') : Go p e below K S := by
  obtain ⟨t, o, h1, h2⟩ := g
  exact ⟨t, o, h _ h1, h2⟩
theorem goOut (X : Stand p l e R s m args below meth c T locs cells slots) {Q : Option Value → Heap → List Loc → Prop} {k n : Nat} {S : State} {v : Option Value} (hv : meth.sig.returnType = none → v = none) (hlocks : meth.locks = false)
    (hs : ∀ fs, (∀ (f : JFrame) (acts : List Action), f.method = m → f.locked = none → f.entered = [] → (doReturn e (T.setTop f) acts v).1 = T.setFrames fs) → Steps p.tables e below S (T.setFrames fs))
    (hk : cells ≤ k) (hn : slots ≤ n) (hq : Q v T.heap locs) : Go p e below (Kq s Q k n) S := by
  obtain ⟨fs, hr, hrun, hended, hW, hsame⟩ := X.leave (v := v) hv hlocks
  exact ⟨_, _, hs fs hr, hrun, hended, _, _, rfl, hq, ⟨_, rfl⟩, hW, hsame.mono hk hn⟩
end Own
end Jvm.RoadKit
namespace Jvm.Pilot.@@N@@
open Jvm Jvm.ClassFile Sem Op Lib Jvm.Free Jvm.Stand Jvm.LawKit Jvm.RoadKit Bundle Jvm.Pilot.@@N@@.Jvm.D
def own_ch (z : Int32) : Int32 := z.toUInt32.toUInt16.toUInt32.toInt32
def own_lw (p : Int32) : Int32 := if p < 65 ∨ 90 < p then own_ch p else own_ch (own_ch (p + 32))
theorem own_ch_id (x : Int32) (h : 0 ≤ x.toInt ∧ x.toInt < 65536) : own_ch x = x := by
  have q := c_i2c x
  rw [← Int32.toInt_inj]; unfold own_ch; omega
theorem own_rng (p : Int32) : 0 ≤ (p &&& (65535 : Int32)).toInt ∧ (p &&& (65535 : Int32)).toInt < 65536 := by
  have h : (p &&& (65535 : Int32)).toInt = p.toInt % (2 ^ 16 : Nat) := c_mask p 65535 16 (by decide) (by decide)
  omega
theorem own_lw_no (x : Int32) (h : 0 ≤ x.toInt ∧ x.toInt < 65536) (c : x < 65 ∨ 90 < x) : own_lw x = x := by
  unfold own_lw; rw [if_pos c]; exact own_ch_id x h
theorem own_up (x : Int32) (c1 : ¬ x < 65) (c2 : ¬ 90 < x) : (x + 32).toInt = x.toInt + 32 ∧ 65 ≤ x.toInt ∧ x.toInt ≤ 90 := by
  have q := c_iadd x 32; have r := rng32 x; have r2 := rng32 (x + 32)
  simp only [Int32.lt_iff_toInt_lt, Int32.reduceToInt] at *
  omega
theorem own_lw_up (x : Int32) (c1 : ¬ x < 65) (c2 : ¬ 90 < x) : own_lw x = x + 32 := by
  have q := own_up x c1 c2
  unfold own_lw; rw [if_neg (by simp [c1, c2]), own_ch_id (x + 32) (by omega), own_ch_id (x + 32) (by omega)]
theorem own_lw_2 (x : Int32) (c1 : ¬ x < 65) (c2 : ¬ 90 < x) : own_lw (x + 32) = x + 32 := by
  have q := own_up x c1 c2
  refine own_lw_no _ (by omega) (Or.inr ?_)
  simp only [Int32.lt_iff_toInt_lt, Int32.reduceToInt]; omega
theorem own_az (x : Int32) (c1 : ¬ x < 65) (c2 : ¬ 90 < x) : ¬ (x + 32) < 97 ∧ ¬ 122 < (x + 32) := by
  have q := own_up x c1 c2
  simp only [Int32.lt_iff_toInt_lt, Int32.reduceToInt]; omega
theorem own_fin : ∀ i : Fin 26, own_ch (Int32.ofInt (65 + (i.1 : Int)) ||| 32) = Int32.ofInt (65 + (i.1 : Int)) + 32 := by decide +kernel
theorem own_bit (x : Int32) (c1 : ¬ x < 65) (c2 : ¬ 90 < x) : own_ch (x ||| 32) = x + 32 := by
  have q := own_up x c1 c2
  have e : x = Int32.ofInt (65 + ((⟨(x.toInt - 65).toNat, by omega⟩ : Fin 26).1 : Int)) := by
    rw [← Int32.toInt_inj, Int32.toInt_ofInt]
    have : (65 + (((x.toInt - 65).toNat : Nat) : Int)) = x.toInt := by omega
    show x.toInt = Int.bmod (65 + (((x.toInt - 65).toNat : Nat) : Int)) _
    rw [this]
    have r := rng32 x
    exact (Int.bmod_eq_of_le (by simp only [Int32.size]; omega) (by simp only [Int32.size]; omega)).symm
  rw [e]; exact own_fin _
theorem d1_0 : decode prog_74_method_19_code 0 = .ok (.iload_n 0, 1) := by decide +kernel
theorem d1_1 : decode prog_74_method_19_code 1 = .ok (.bipush 65, 2) := by decide +kernel
theorem d1_3 : decode prog_74_method_19_code 3 = .ok (.if_icmp .lt 17, 3) := by decide +kernel
theorem d1_20 : decode prog_74_method_19_code 20 = .ok (.iload_n 0, 1) := by decide +kernel
theorem d1_21 : decode prog_74_method_19_code 21 = .ok (.ireturn, 1) := by decide +kernel
theorem d1_6 : decode prog_74_method_19_code 6 = .ok (.iload_n 0, 1) := by decide +kernel
theorem d1_7 : decode prog_74_method_19_code 7 = .ok (.bipush 90, 2) := by decide +kernel
theorem d1_9 : decode prog_74_method_19_code 9 = .ok (.if_icmp .gt 11, 3) := by decide +kernel
theorem d1_12 : decode prog_74_method_19_code 12 = .ok (.iload_n 0, 1) := by decide +kernel
theorem d1_13 : decode prog_74_method_19_code 13 = .ok (.bipush 32, 2) := by decide +kernel
theorem d1_15 : decode prog_74_method_19_code 15 = .ok (.iadd, 1) := by decide +kernel
theorem d1_16 : decode prog_74_method_19_code 16 = .ok (.i2c, 1) := by decide +kernel
theorem d1_17 : decode prog_74_method_19_code 17 = .ok (.goto 4, 3) := by decide +kernel
theorem pn_com_example_backfill_backfill_postgres_SqlLexer : plainName "com/example/backfill/backfill/postgres/SqlLexer" = true := by first | (simp [plainName, overriddenIn]; done) | decide +kernel
theorem ef_rm1 (m : MethodId) (x0 : Int32) : entryFrame m #[(.int x0)] 1 = mkF m 0 #[.val (.int x0)] [] := by first | (simp [entryFrame, mkF, argsToLocals, Value.category]; done) | rfl
def Q1 (Z : State) (p0 : Int32) (h0 : Heap) (n0 : Nat) (v : Option Value) (h : Heap) (L : List Loc) : Prop := v = some (.int (own_lw p0)) ∧ Fr n0 L ∧ h = h0
set_option maxRecDepth 65536 in
set_option maxHeartbeats 40000000 in
theorem rm1 (l : Launch) (Z : State) (a0 : Array Value) (hw : ∀ d ∈ tables_1, d.before a0 Z = true) (ws : List Jvm.Cond) (p0 : Int32)  (h0 : Heap) (n0 : Nat) (Z0 : n0 ≤ h0.size)  :
    MetFree l (⟨"com/example/backfill/backfill/postgres/SqlLexer", "lowerCase", "(C)C"⟩ : MethodName) (head1 (Jvm.Cond.code (⟨"com/example/backfill/backfill/postgres/SqlLexer", "lowerCase", "(C)C"⟩ : MethodName) prog_74_method_19_code 1 (some .char) :: ws) ({ frames := 0, cells := 0, slots := 0, locals := 0 } : Room)) (fun av' U => av' = #[(.int p0)] ∧ Z.Warmed39 U.vm ∧ U.heap = h0) (fun _ _ _ _ _ => True) (fun _ U o U' => ∃ v L, o = .returned v ∧ Q1 Z p0 h0 n0 v U'.heap L ∧ FrameEnd U o U' L ({ frames := 0, cells := 0, slots := 0, locals := 0 } : Room).cells ({ frames := 0, cells := 0, slots := 0, locals := 0 } : Room).slots) := by
  refine MetFree.of_bodySF (plainFor_of_name pn_com_example_backfill_backfill_postgres_SqlLexer) hisR ?_
  intro p e s m args below meth c s₁ Bd hml0 hP hK
  obtain ⟨rfl, hZ, hh⟩ := hP
  have hx := Bd.exec
  have hby := Bd.bytes
  have hlk := Bd.notSynchronized
  have hml : c.maxLocals = 1 := hml0
  have hown : s.vm.findClass "com/example/backfill/backfill/postgres/SqlLexer" = some m.cls := findClass_of_methodNamed Bd.named
  have hnm := (name_of_methodNamed Bd.named Bd.method).1
  have X0 : Stand p l e ({ frames := 0, cells := 0, slots := 0, locals := 0 } : Room) s m #[(.int p0)] below meth c s₁ [] 0 0 := Stand.of_body Bd
  have e0 : s₁.heap = h0 := by rw [← hh, Bd.state]; rfl
  have N0 := Fr.nil n0
  show Go p e below (Kq s (Q1 Z p0 h0 n0) ({ frames := 0, cells := 0, slots := 0, locals := 0 } : Room).cells ({ frames := 0, cells := 0, slots := 0, locals := 0 } : Room).slots) _
  refine go (fun t k => castTop (ef_rm1 m p0) k) ?_
  show Go p e below _ (s₁.setTop (mkF m 0 #[.val (.int p0)] []))
  refine go (fun t k => by refine XS.iloadN X0.here hx rfl (hb hby d1_0) rfl ?_; exact k) ?_
  show Go p e below _ (s₁.setTop (mkF m 1 #[.val (.int p0)] [(.int p0)]))
  refine go (fun t k => by refine XS.bipush X0.here hx rfl (hb hby d1_1) ?_; exact k) ?_
  show Go p e below _ (s₁.setTop (mkF m 3 #[.val (.int p0)] [(.int (65 : Int32)), (.int p0)]))
  by_cases c3_1 : p0 < (65 : Int32)
  · skip
    refine go (fun t k => by refine XS.icmpYes X0.here hx rfl (pc0 := 3) (pc' := 20) rfl (hb hby d1_3) rfl (tlt c3_1).1 (by decide) (by decide) ?_; exact k) ?_
    show Go p e below _ (s₁.setTop (mkF m 20 #[.val (.int p0)] []))
    refine go (fun t k => by refine XS.iloadN X0.here hx rfl (hb hby d1_20) rfl ?_; exact k) ?_
    show Go p e below _ (s₁.setTop (mkF m 21 #[.val (.int p0)] [(.int p0)]))
    refine goOut X0 (fun h => by rw [Bd.returns] at h; cases h) hlk (fun fs hr => retN X0 hx (t := .char) Bd.returns (by simp) (hb hby d1_21) hr) (by decide) (by decide) ?_
    rw [e0]
    exact ⟨by unfold own_lw; rw [if_pos (by simp [c3_1])]; rfl, N0, rfl⟩
  · skip
    refine go (fun t k => by refine XS.icmpNo X0.here hx rfl (hb hby d1_3) rfl (flt c3_1).1 ?_; exact k) ?_
    show Go p e below _ (s₁.setTop (mkF m 6 #[.val (.int p0)] []))
    refine go (fun t k => by refine XS.iloadN X0.here hx rfl (hb hby d1_6) rfl ?_; exact k) ?_
    show Go p e below _ (s₁.setTop (mkF m 7 #[.val (.int p0)] [(.int p0)]))
    refine go (fun t k => by refine XS.bipush X0.here hx rfl (hb hby d1_7) ?_; exact k) ?_
    show Go p e below _ (s₁.setTop (mkF m 9 #[.val (.int p0)] [(.int (90 : Int32)), (.int p0)]))
    by_cases c9_2 : (90 : Int32) < p0
    · skip
      refine go (fun t k => by refine XS.icmpYes X0.here hx rfl (pc0 := 9) (pc' := 20) rfl (hb hby d1_9) rfl (tlt c9_2).2.2.1 (by decide) (by decide) ?_; exact k) ?_
      show Go p e below _ (s₁.setTop (mkF m 20 #[.val (.int p0)] []))
      refine go (fun t k => by refine XS.iloadN X0.here hx rfl (hb hby d1_20) rfl ?_; exact k) ?_
      show Go p e below _ (s₁.setTop (mkF m 21 #[.val (.int p0)] [(.int p0)]))
      refine goOut X0 (fun h => by rw [Bd.returns] at h; cases h) hlk (fun fs hr => retN X0 hx (t := .char) Bd.returns (by simp) (hb hby d1_21) hr) (by decide) (by decide) ?_
      rw [e0]
      exact ⟨by unfold own_lw; rw [if_pos (by simp [c3_1, c9_2])]; rfl, N0, rfl⟩
    · skip
      refine go (fun t k => by refine XS.icmpNo X0.here hx rfl (hb hby d1_9) rfl (flt c9_2).2.2.1 ?_; exact k) ?_
      show Go p e below _ (s₁.setTop (mkF m 12 #[.val (.int p0)] []))
      refine go (fun t k => by refine XS.iloadN X0.here hx rfl (hb hby d1_12) rfl ?_; exact k) ?_
      show Go p e below _ (s₁.setTop (mkF m 13 #[.val (.int p0)] [(.int p0)]))
      refine go (fun t k => by refine XS.bipush X0.here hx rfl (hb hby d1_13) ?_; exact k) ?_
      show Go p e below _ (s₁.setTop (mkF m 15 #[.val (.int p0)] [(.int (32 : Int32)), (.int p0)]))
      refine go (fun t k => by refine XS.iadd X0.here hx rfl (hb hby d1_15) rfl ?_; exact k) ?_
      show Go p e below _ (s₁.setTop (mkF m 16 #[.val (.int p0)] [(.int (p0 + (32 : Int32)))]))
      refine go (fun t k => by refine XS.i2c X0.here hx rfl (hb hby d1_16) rfl ?_; exact k) ?_
      show Go p e below _ (s₁.setTop (mkF m 17 #[.val (.int p0)] [(.int ((p0 + (32 : Int32)).toUInt32.toUInt16.toUInt32.toInt32))]))
      refine go (fun t k => by refine XS.goto X0.here hx rfl (pc0 := 17) (pc' := 21) rfl (hb hby d1_17) (by decide) (by decide) ?_; exact k) ?_
      show Go p e below _ (s₁.setTop (mkF m 21 #[.val (.int p0)] [(.int ((p0 + (32 : Int32)).toUInt32.toUInt16.toUInt32.toInt32))]))
      refine goOut X0 (fun h => by rw [Bd.returns] at h; cases h) hlk (fun fs hr => retN X0 hx (t := .char) Bd.returns (by simp) (hb hby d1_21) hr) (by decide) (by decide) ?_
      rw [e0]
      exact ⟨by unfold own_lw; rw [if_neg (by simp [c3_1, c9_2])]; rfl, N0, rfl⟩
theorem pd_0 : parseMethodDescriptor "(C)C" = some ⟨[.char], some .char⟩ := by decide +kernel
theorem pn_com_example_backfill_backfill_postgres_SqlLexerLowerCasePinLaw : plainName "com/example/backfill/backfill/postgres/SqlLexerLowerCasePinLaw" = true := by first | (simp [plainName, overriddenIn]; done) | decide +kernel
theorem ef_rm0 (m : MethodId) (x0 : Int32) : entryFrame m #[(.int x0)] maxLocals = mkF m 0 #[.val (.int x0), .unset, .unset, .unset, .unset, .unset, .unset] [] := by first | (simp [entryFrame, mkF, argsToLocals, Value.category, maxLocals]; done) | rfl
def Q0 (Z : State) (p0 : Int32) (h0 : Heap) (n0 : Nat) (v : Option Value) (h : Heap) (L : List Loc) : Prop := v = some (.int 1) ∧ Fr n0 L
set_option maxRecDepth 65536 in
set_option maxHeartbeats 40000000 in
theorem rm0 (l : Launch) (Z : State) (a0 : Array Value) (hw : ∀ d ∈ tables_1, d.before a0 Z = true) (ws : List Jvm.Cond) (p0 : Int32)  (h0 : Heap) (n0 : Nat) (Z0 : n0 ≤ h0.size)  :
    MetFree l x (head1 (Jvm.Cond.code x code maxLocals ret :: ws) room_1) (fun av' U => av' = #[(.int p0)] ∧ Z.Warmed39 U.vm ∧ U.heap = h0) (fun _ _ _ _ _ => True) (fun _ U o U' => ∃ v L, o = .returned v ∧ Q0 Z p0 h0 n0 v U'.heap L ∧ FrameEnd U o U' L room_1.cells room_1.slots) := by
  refine MetFree.of_bodySF (plainFor_of_name pn_com_example_backfill_backfill_postgres_SqlLexerLowerCasePinLaw) hisR ?_
  intro p e s m args below meth c s₁ Bd hml0 hP hK
  obtain ⟨rfl, hZ, hh⟩ := hP
  have hx := Bd.exec
  have hby := Bd.bytes
  have hlk := Bd.notSynchronized
  have hml : c.maxLocals = 7 := hml0
  have hown : s.vm.findClass "com/example/backfill/backfill/postgres/SqlLexerLowerCasePinLaw" = some m.cls := findClass_of_methodNamed Bd.named
  have hnm := (name_of_methodNamed Bd.named Bd.method).1
  have X0 : Stand p l e room_1 s m #[(.int p0)] below meth c s₁ [] 0 0 := Stand.of_body Bd
  have e0 : s₁.heap = h0 := by rw [← hh, Bd.state]; rfl
  have N0 := Fr.nil n0
  show Go p e below (Kq s (Q0 Z p0 h0 n0) room_1.cells room_1.slots) _
  refine go (fun t k => castTop (ef_rm0 m p0) k) ?_
  show Go p e below _ (s₁.setTop (mkF m 0 #[.val (.int p0), .unset, .unset, .unset, .unset, .unset, .unset] []))
  refine go (fun t k => by refine XS.iloadN X0.here hx rfl (hb hby at_0) rfl ?_; exact k) ?_
  show Go p e below _ (s₁.setTop (mkF m 1 #[.val (.int p0), .unset, .unset, .unset, .unset, .unset, .unset] [(.int p0)]))
  refine go (fun t k => by refine X0.ldcI hx hown (mvT hZ (hw _ (List.mem_of_getElem? (i := 0) rfl))) rfl (hb hby at_1) ?_; exact k) ?_
  show Go p e below _ (s₁.setTop (mkF m 3 #[.val (.int p0), .unset, .unset, .unset, .unset, .unset, .unset] [(.int (65535 : Int32)), (.int p0)]))
  refine go (fun t k => by refine XS.iand X0.here hx rfl (hb hby at_3) rfl ?_; exact k) ?_
  show Go p e below _ (s₁.setTop (mkF m 4 #[.val (.int p0), .unset, .unset, .unset, .unset, .unset, .unset] [(.int (p0 &&& (65535 : Int32)))]))
  refine go (fun t k => by refine XS.istoreN X0.here hx rfl (hb hby at_4) rfl (l' := #[.val (.int p0), .val (.int (p0 &&& (65535 : Int32))), .unset, .unset, .unset, .unset, .unset]) rfl ?_; exact k) ?_
  show Go p e below _ (s₁.setTop (mkF m 5 #[.val (.int p0), .val (.int (p0 &&& (65535 : Int32))), .unset, .unset, .unset, .unset, .unset] []))
  have hr := own_rng p0
  generalize hxx : (p0 &&& (65535 : Int32)) = xx at hr
  show Go p e below _ (s₁.setTop (mkF m 5 #[.val (.int p0), .val (.int xx), .unset, .unset, .unset, .unset, .unset] []))
  refine go (fun t k => by refine XS.iloadN X0.here hx rfl (hb hby at_5) rfl ?_; exact k) ?_
  show Go p e below _ (s₁.setTop (mkF m 6 #[.val (.int p0), .val (.int xx), .unset, .unset, .unset, .unset, .unset] [(.int xx)]))
  refine go (fun t k => by refine XS.i2c X0.here hx rfl (hb hby at_6) rfl ?_; exact k) ?_
  show Go p e below _ (s₁.setTop (mkF m 7 #[.val (.int p0), .val (.int xx), .unset, .unset, .unset, .unset, .unset] [(.int (xx.toUInt32.toUInt16.toUInt32.toInt32))]))
  refine go (fun t k => by refine XS.istoreN X0.here hx rfl (hb hby at_7) rfl (l' := #[.val (.int p0), .val (.int xx), .val (.int (xx.toUInt32.toUInt16.toUInt32.toInt32)), .unset, .unset, .unset, .unset]) rfl ?_; exact k) ?_
  show Go p e below _ (s₁.setTop (mkF m 8 #[.val (.int p0), .val (.int xx), .val (.int (xx.toUInt32.toUInt16.toUInt32.toInt32)), .unset, .unset, .unset, .unset] []))
  rw [show xx.toUInt32.toUInt16.toUInt32.toInt32 = xx from own_ch_id xx hr]
  show Go p e below _ (s₁.setTop (mkF m 8 #[.val (.int p0), .val (.int xx), .val (.int xx), .unset, .unset, .unset, .unset] []))
  refine go (fun t k => by refine XS.iloadN X0.here hx rfl (hb hby at_8) rfl ?_; exact k) ?_
  show Go p e below _ (s₁.setTop (mkF m 9 #[.val (.int p0), .val (.int xx), .val (.int xx), .unset, .unset, .unset, .unset] [(.int xx)]))
  obtain ⟨_, _, ⟨T1, L1, k1, n1⟩, -, X1, ⟨Lc1, hQ1, l1, y1, z1⟩, st1⟩ := Jvm.LawKit.callS X0 hx (y := (⟨"com/example/backfill/backfill/postgres/SqlLexer", "lowerCase", "(C)C"⟩ : MethodName)) hown (mvT hZ (hw _ (List.mem_of_getElem? (i := 1) rfl))) (mvT hZ (hw _ (List.mem_of_getElem? (i := 2) rfl))) (mvT hZ (hw _ (List.mem_of_getElem? (i := 3) rfl))) (mvT hZ (hw _ (List.mem_of_getElem? (i := 4) rfl))) (by decide) (backOf (W := 0) (rm1 l Z a0 hw [] xx h0 n0 Z0) hZ (hw _ (List.mem_of_getElem? (i := 4) rfl)) (hw _ (List.mem_of_getElem? (i := 3) rfl)) (by decide) (by decide)) (g := (mkF m 9 #[.val (.int p0), .val (.int xx), .val (.int xx), .unset, .unset, .unset, .unset] [(.int xx)])) rfl (by rw [hml]; rfl) (argsL := [(.int xx)]) (rest := []) (lenOf pd_0 rfl) rfl (by show 2 * 0 + _ ≤ _; exact Nat.le_of_eq rfl) (hb hby at_9) (fun _ _ => ⟨rfl, e0, (by decide : 0 + 0 ≤ _), (by decide : 0 + 0 ≤ _)⟩)
  dsimp only [Pt.U, Pt.locs, Pt.cells, Pt.slots] at X1 l1 y1 z1 st1 hQ1
  subst l1 y1 z1
  obtain ⟨rfl, N1q, e1⟩ := hQ1
  have N1 := Fr.app N0 N1q
  refine go st1 ?_
  show Go p e below _ (T1.setTop (mkF m 12 #[.val (.int p0), .val (.int xx), .val (.int xx), .unset, .unset, .unset, .unset] [(.int (own_lw xx))]))
  refine go (fun t k => by refine XS.istoreN X1.here hx rfl (hb hby at_12) rfl (l' := #[.val (.int p0), .val (.int xx), .val (.int xx), .val (.int (own_lw xx)), .unset, .unset, .unset]) rfl ?_; exact k) ?_
  show Go p e below _ (T1.setTop (mkF m 13 #[.val (.int p0), .val (.int xx), .val (.int xx), .val (.int (own_lw xx)), .unset, .unset, .unset] []))
  refine go (fun t k => by refine XS.iloadN X1.here hx rfl (hb hby at_13) rfl ?_; exact k) ?_
  show Go p e below _ (T1.setTop (mkF m 14 #[.val (.int p0), .val (.int xx), .val (.int xx), .val (.int (own_lw xx)), .unset, .unset, .unset] [(.int xx)]))
  refine go (fun t k => by refine XS.bipush X1.here hx rfl (hb hby at_14) ?_; exact k) ?_
  show Go p e below _ (T1.setTop (mkF m 16 #[.val (.int p0), .val (.int xx), .val (.int xx), .val (.int (own_lw xx)), .unset, .unset, .unset] [(.int (65 : Int32)), (.int xx)]))
  by_cases c16_2 : xx < (65 : Int32)
  · skip
    refine go (fun t k => by refine XS.icmpYes X1.here hx rfl (pc0 := 16) (pc' := 29) rfl (hb hby at_16) rfl (tlt c16_2).1 (by decide) (by decide) ?_; exact k) ?_
    show Go p e below _ (T1.setTop (mkF m 29 #[.val (.int p0), .val (.int xx), .val (.int xx), .val (.int (own_lw xx)), .unset, .unset, .unset] []))
    refine go (fun t k => by refine XS.iconst X1.here hx rfl (hb hby at_29) ?_; exact k) ?_
    show Go p e below _ (T1.setTop (mkF m 30 #[.val (.int p0), .val (.int xx), .val (.int xx), .val (.int (own_lw xx)), .unset, .unset, .unset] [(.int (0 : Int32))]))
    refine go (fun t k => by refine XS.istore X1.here hx rfl (hb hby at_30) rfl (l' := #[.val (.int p0), .val (.int xx), .val (.int xx), .val (.int (own_lw xx)), .val (.int (0 : Int32)), .unset, .unset]) rfl ?_; exact k) ?_
    show Go p e below _ (T1.setTop (mkF m 32 #[.val (.int p0), .val (.int xx), .val (.int xx), .val (.int (own_lw xx)), .val (.int (0 : Int32)), .unset, .unset] []))
    rw [own_lw_no xx hr (Or.inl c16_2)]
    show Go p e below _ (T1.setTop (mkF m 32 #[.val (.int p0), .val (.int xx), .val (.int xx), .val (.int xx), .val (.int (0 : Int32)), .unset, .unset] []))
    refine go (fun t k => by refine XS.iload X1.here hx rfl (hb hby at_32) rfl ?_; exact k) ?_
    show Go p e below _ (T1.setTop (mkF m 34 #[.val (.int p0), .val (.int xx), .val (.int xx), .val (.int xx), .val (.int (0 : Int32)), .unset, .unset] [(.int (0 : Int32))]))
    have c34_3 : (0 : Int32) = (0 : Int32) := by decide
    refine go (fun t k => by refine XS.ifYes X1.here hx rfl (pc0 := 34) (pc' := 68) rfl (hb hby at_34) rfl ((if0 _ _).trans (teq c34_3).1) (by decide) (by decide) ?_; exact k) ?_
    show Go p e below _ (T1.setTop (mkF m 68 #[.val (.int p0), .val (.int xx), .val (.int xx), .val (.int xx), .val (.int (0 : Int32)), .unset, .unset] []))
    refine go (fun t k => by refine XS.iloadN X1.here hx rfl (hb hby at_68) rfl ?_; exact k) ?_
    show Go p e below _ (T1.setTop (mkF m 69 #[.val (.int p0), .val (.int xx), .val (.int xx), .val (.int xx), .val (.int (0 : Int32)), .unset, .unset] [(.int xx)]))
    refine go (fun t k => by refine XS.iloadN X1.here hx rfl (hb hby at_69) rfl ?_; exact k) ?_
    show Go p e below _ (T1.setTop (mkF m 70 #[.val (.int p0), .val (.int xx), .val (.int xx), .val (.int xx), .val (.int (0 : Int32)), .unset, .unset] [(.int xx), (.int xx)]))
    have c70_4 : ¬ (¬ xx = xx) := not_not_intro rfl
    refine go (fun t k => by refine XS.icmpNo X1.here hx rfl (hb hby at_70) rfl (teq (Decidable.not_not.mp c70_4)).2 ?_; exact k) ?_
    show Go p e below _ (T1.setTop (mkF m 73 #[.val (.int p0), .val (.int xx), .val (.int xx), .val (.int xx), .val (.int (0 : Int32)), .unset, .unset] []))
    refine go (fun t k => by refine XS.iconst X1.here hx rfl (hb hby at_73) ?_; exact k) ?_
    show Go p e below _ (T1.setTop (mkF m 74 #[.val (.int p0), .val (.int xx), .val (.int xx), .val (.int xx), .val (.int (0 : Int32)), .unset, .unset] [(.int (1 : Int32))]))
    refine go (fun t k => by refine XS.goto X1.here hx rfl (pc0 := 74) (pc' := 78) rfl (hb hby at_74) (by decide) (by decide) ?_; exact k) ?_
    show Go p e below _ (T1.setTop (mkF m 78 #[.val (.int p0), .val (.int xx), .val (.int xx), .val (.int xx), .val (.int (0 : Int32)), .unset, .unset] [(.int (1 : Int32))]))
    refine go (fun t k => by refine XS.istore X1.here hx rfl (hb hby at_78) rfl (l' := #[.val (.int p0), .val (.int xx), .val (.int xx), .val (.int xx), .val (.int (0 : Int32)), .val (.int (1 : Int32)), .unset]) rfl ?_; exact k) ?_
    show Go p e below _ (T1.setTop (mkF m 80 #[.val (.int p0), .val (.int xx), .val (.int xx), .val (.int xx), .val (.int (0 : Int32)), .val (.int (1 : Int32)), .unset] []))
    refine go (fun t k => by refine XS.iloadN X1.here hx rfl (hb hby at_80) rfl ?_; exact k) ?_
    show Go p e below _ (T1.setTop (mkF m 81 #[.val (.int p0), .val (.int xx), .val (.int xx), .val (.int xx), .val (.int (0 : Int32)), .val (.int (1 : Int32)), .unset] [(.int xx)]))
    obtain ⟨_, _, ⟨T5, L5, k5, n5⟩, -, X5, ⟨Lc5, hQ5, l5, y5, z5⟩, st5⟩ := Jvm.LawKit.callS X1 hx (y := (⟨"com/example/backfill/backfill/postgres/SqlLexer", "lowerCase", "(C)C"⟩ : MethodName)) hown (mvT hZ (hw _ (List.mem_of_getElem? (i := 1) rfl))) (mvT hZ (hw _ (List.mem_of_getElem? (i := 2) rfl))) (mvT hZ (hw _ (List.mem_of_getElem? (i := 3) rfl))) (mvT hZ (hw _ (List.mem_of_getElem? (i := 4) rfl))) (by decide) (backOf (W := 0) (rm1 l Z a0 hw [] xx h0 n0 Z0) hZ (hw _ (List.mem_of_getElem? (i := 4) rfl)) (hw _ (List.mem_of_getElem? (i := 3) rfl)) (by decide) (by decide)) (g := (mkF m 81 #[.val (.int p0), .val (.int xx), .val (.int xx), .val (.int xx), .val (.int (0 : Int32)), .val (.int (1 : Int32)), .unset] [(.int xx)])) rfl (by rw [hml]; rfl) (argsL := [(.int xx)]) (rest := []) (lenOf pd_0 rfl) rfl (by show 2 * 0 + _ ≤ _; exact Nat.le_of_eq rfl) (hb hby at_81) (fun _ _ => ⟨rfl, e1, (by decide : 0 + 0 ≤ _), (by decide : 0 + 0 ≤ _)⟩)
    dsimp only [Pt.U, Pt.locs, Pt.cells, Pt.slots] at X5 l5 y5 z5 st5 hQ5
    subst l5 y5 z5
    obtain ⟨rfl, N5q, e5⟩ := hQ5
    have N5 := Fr.app N1 N5q
    refine go st5 ?_
    show Go p e below _ (T5.setTop (mkF m 84 #[.val (.int p0), .val (.int xx), .val (.int xx), .val (.int xx), .val (.int (0 : Int32)), .val (.int (1 : Int32)), .unset] [(.int (own_lw xx))]))
    refine go (fun t k => by refine XS.istore X5.here hx rfl (hb hby at_84) rfl (l' := #[.val (.int p0), .val (.int xx), .val (.int xx), .val (.int xx), .val (.int (0 : Int32)), .val (.int (1 : Int32)), .val (.int (own_lw xx))]) rfl ?_; exact k) ?_
    show Go p e below _ (T5.setTop (mkF m 86 #[.val (.int p0), .val (.int xx), .val (.int xx), .val (.int xx), .val (.int (0 : Int32)), .val (.int (1 : Int32)), .val (.int (own_lw xx))] []))
    refine go (fun t k => by refine XS.iload X5.here hx rfl (hb hby at_86) rfl ?_; exact k) ?_
    show Go p e below _ (T5.setTop (mkF m 88 #[.val (.int p0), .val (.int xx), .val (.int xx), .val (.int xx), .val (.int (0 : Int32)), .val (.int (1 : Int32)), .val (.int (own_lw xx))] [(.int (1 : Int32))]))
    have c88_6 : ¬ ((1 : Int32) = (0 : Int32)) := by decide
    refine go (fun t k => by refine XS.ifNo X5.here hx rfl (hb hby at_88) rfl ((if0 _ _).trans (feq c88_6).1) ?_; exact k) ?_
    show Go p e below _ (T5.setTop (mkF m 91 #[.val (.int p0), .val (.int xx), .val (.int xx), .val (.int xx), .val (.int (0 : Int32)), .val (.int (1 : Int32)), .val (.int (own_lw xx))] []))
    refine go (fun t k => by refine XS.iload X5.here hx rfl (hb hby at_91) rfl ?_; exact k) ?_
    show Go p e below _ (T5.setTop (mkF m 93 #[.val (.int p0), .val (.int xx), .val (.int xx), .val (.int xx), .val (.int (0 : Int32)), .val (.int (1 : Int32)), .val (.int (own_lw xx))] [(.int (own_lw xx))]))
    refine go (fun t k => by refine XS.iloadN X5.here hx rfl (hb hby at_93) rfl ?_; exact k) ?_
    show Go p e below _ (T5.setTop (mkF m 94 #[.val (.int p0), .val (.int xx), .val (.int xx), .val (.int xx), .val (.int (0 : Int32)), .val (.int (1 : Int32)), .val (.int (own_lw xx))] [(.int xx), (.int (own_lw xx))]))
    have c94_7 : ¬ (¬ (own_lw xx) = xx) := not_not_intro (own_lw_no xx hr (Or.inl c16_2))
    refine go (fun t k => by refine XS.icmpNo X5.here hx rfl (hb hby at_94) rfl (teq (Decidable.not_not.mp c94_7)).2 ?_; exact k) ?_
    show Go p e below _ (T5.setTop (mkF m 97 #[.val (.int p0), .val (.int xx), .val (.int xx), .val (.int xx), .val (.int (0 : Int32)), .val (.int (1 : Int32)), .val (.int (own_lw xx))] []))
    refine go (fun t k => by refine XS.iconst X5.here hx rfl (hb hby at_97) ?_; exact k) ?_
    show Go p e below _ (T5.setTop (mkF m 98 #[.val (.int p0), .val (.int xx), .val (.int xx), .val (.int xx), .val (.int (0 : Int32)), .val (.int (1 : Int32)), .val (.int (own_lw xx))] [(.int (1 : Int32))]))
    refine go (fun t k => by refine XS.goto X5.here hx rfl (pc0 := 98) (pc' := 102) rfl (hb hby at_98) (by decide) (by decide) ?_; exact k) ?_
    show Go p e below _ (T5.setTop (mkF m 102 #[.val (.int p0), .val (.int xx), .val (.int xx), .val (.int xx), .val (.int (0 : Int32)), .val (.int (1 : Int32)), .val (.int (own_lw xx))] [(.int (1 : Int32))]))
    refine goOut X5 (fun h => by rw [Bd.returns] at h; cases h) hlk (fun fs hr => retN X5 hx (t := .boolean) Bd.returns (by simp) (hb hby at_102) hr) (by decide) (by decide) ?_
    rw [e5]
    exact ⟨rfl, N5⟩
  · skip
    refine go (fun t k => by refine XS.icmpNo X1.here hx rfl (hb hby at_16) rfl (flt c16_2).1 ?_; exact k) ?_
    show Go p e below _ (T1.setTop (mkF m 19 #[.val (.int p0), .val (.int xx), .val (.int xx), .val (.int (own_lw xx)), .unset, .unset, .unset] []))
    refine go (fun t k => by refine XS.iloadN X1.here hx rfl (hb hby at_19) rfl ?_; exact k) ?_
    show Go p e below _ (T1.setTop (mkF m 20 #[.val (.int p0), .val (.int xx), .val (.int xx), .val (.int (own_lw xx)), .unset, .unset, .unset] [(.int xx)]))
    refine go (fun t k => by refine XS.bipush X1.here hx rfl (hb hby at_20) ?_; exact k) ?_
    show Go p e below _ (T1.setTop (mkF m 22 #[.val (.int p0), .val (.int xx), .val (.int xx), .val (.int (own_lw xx)), .unset, .unset, .unset] [(.int (90 : Int32)), (.int xx)]))
    by_cases c22_8 : (90 : Int32) < xx
    · skip
      refine go (fun t k => by refine XS.icmpYes X1.here hx rfl (pc0 := 22) (pc' := 29) rfl (hb hby at_22) rfl (tlt c22_8).2.2.1 (by decide) (by decide) ?_; exact k) ?_
      show Go p e below _ (T1.setTop (mkF m 29 #[.val (.int p0), .val (.int xx), .val (.int xx), .val (.int (own_lw xx)), .unset, .unset, .unset] []))
      refine go (fun t k => by refine XS.iconst X1.here hx rfl (hb hby at_29) ?_; exact k) ?_
      show Go p e below _ (T1.setTop (mkF m 30 #[.val (.int p0), .val (.int xx), .val (.int xx), .val (.int (own_lw xx)), .unset, .unset, .unset] [(.int (0 : Int32))]))
      refine go (fun t k => by refine XS.istore X1.here hx rfl (hb hby at_30) rfl (l' := #[.val (.int p0), .val (.int xx), .val (.int xx), .val (.int (own_lw xx)), .val (.int (0 : Int32)), .unset, .unset]) rfl ?_; exact k) ?_
      show Go p e below _ (T1.setTop (mkF m 32 #[.val (.int p0), .val (.int xx), .val (.int xx), .val (.int (own_lw xx)), .val (.int (0 : Int32)), .unset, .unset] []))
      rw [own_lw_no xx hr (Or.inr c22_8)]
      show Go p e below _ (T1.setTop (mkF m 32 #[.val (.int p0), .val (.int xx), .val (.int xx), .val (.int xx), .val (.int (0 : Int32)), .unset, .unset] []))
      refine go (fun t k => by refine XS.iload X1.here hx rfl (hb hby at_32) rfl ?_; exact k) ?_
      show Go p e below _ (T1.setTop (mkF m 34 #[.val (.int p0), .val (.int xx), .val (.int xx), .val (.int xx), .val (.int (0 : Int32)), .unset, .unset] [(.int (0 : Int32))]))
      have c34_9 : (0 : Int32) = (0 : Int32) := by decide
      refine go (fun t k => by refine XS.ifYes X1.here hx rfl (pc0 := 34) (pc' := 68) rfl (hb hby at_34) rfl ((if0 _ _).trans (teq c34_9).1) (by decide) (by decide) ?_; exact k) ?_
      show Go p e below _ (T1.setTop (mkF m 68 #[.val (.int p0), .val (.int xx), .val (.int xx), .val (.int xx), .val (.int (0 : Int32)), .unset, .unset] []))
      refine go (fun t k => by refine XS.iloadN X1.here hx rfl (hb hby at_68) rfl ?_; exact k) ?_
      show Go p e below _ (T1.setTop (mkF m 69 #[.val (.int p0), .val (.int xx), .val (.int xx), .val (.int xx), .val (.int (0 : Int32)), .unset, .unset] [(.int xx)]))
      refine go (fun t k => by refine XS.iloadN X1.here hx rfl (hb hby at_69) rfl ?_; exact k) ?_
      show Go p e below _ (T1.setTop (mkF m 70 #[.val (.int p0), .val (.int xx), .val (.int xx), .val (.int xx), .val (.int (0 : Int32)), .unset, .unset] [(.int xx), (.int xx)]))
      have c70_10 : ¬ (¬ xx = xx) := not_not_intro rfl
      refine go (fun t k => by refine XS.icmpNo X1.here hx rfl (hb hby at_70) rfl (teq (Decidable.not_not.mp c70_10)).2 ?_; exact k) ?_
      show Go p e below _ (T1.setTop (mkF m 73 #[.val (.int p0), .val (.int xx), .val (.int xx), .val (.int xx), .val (.int (0 : Int32)), .unset, .unset] []))
      refine go (fun t k => by refine XS.iconst X1.here hx rfl (hb hby at_73) ?_; exact k) ?_
      show Go p e below _ (T1.setTop (mkF m 74 #[.val (.int p0), .val (.int xx), .val (.int xx), .val (.int xx), .val (.int (0 : Int32)), .unset, .unset] [(.int (1 : Int32))]))
      refine go (fun t k => by refine XS.goto X1.here hx rfl (pc0 := 74) (pc' := 78) rfl (hb hby at_74) (by decide) (by decide) ?_; exact k) ?_
      show Go p e below _ (T1.setTop (mkF m 78 #[.val (.int p0), .val (.int xx), .val (.int xx), .val (.int xx), .val (.int (0 : Int32)), .unset, .unset] [(.int (1 : Int32))]))
      refine go (fun t k => by refine XS.istore X1.here hx rfl (hb hby at_78) rfl (l' := #[.val (.int p0), .val (.int xx), .val (.int xx), .val (.int xx), .val (.int (0 : Int32)), .val (.int (1 : Int32)), .unset]) rfl ?_; exact k) ?_
      show Go p e below _ (T1.setTop (mkF m 80 #[.val (.int p0), .val (.int xx), .val (.int xx), .val (.int xx), .val (.int (0 : Int32)), .val (.int (1 : Int32)), .unset] []))
      refine go (fun t k => by refine XS.iloadN X1.here hx rfl (hb hby at_80) rfl ?_; exact k) ?_
      show Go p e below _ (T1.setTop (mkF m 81 #[.val (.int p0), .val (.int xx), .val (.int xx), .val (.int xx), .val (.int (0 : Int32)), .val (.int (1 : Int32)), .unset] [(.int xx)]))
      obtain ⟨_, _, ⟨T11, L11, k11, n11⟩, -, X11, ⟨Lc11, hQ11, l11, y11, z11⟩, st11⟩ := Jvm.LawKit.callS X1 hx (y := (⟨"com/example/backfill/backfill/postgres/SqlLexer", "lowerCase", "(C)C"⟩ : MethodName)) hown (mvT hZ (hw _ (List.mem_of_getElem? (i := 1) rfl))) (mvT hZ (hw _ (List.mem_of_getElem? (i := 2) rfl))) (mvT hZ (hw _ (List.mem_of_getElem? (i := 3) rfl))) (mvT hZ (hw _ (List.mem_of_getElem? (i := 4) rfl))) (by decide) (backOf (W := 0) (rm1 l Z a0 hw [] xx h0 n0 Z0) hZ (hw _ (List.mem_of_getElem? (i := 4) rfl)) (hw _ (List.mem_of_getElem? (i := 3) rfl)) (by decide) (by decide)) (g := (mkF m 81 #[.val (.int p0), .val (.int xx), .val (.int xx), .val (.int xx), .val (.int (0 : Int32)), .val (.int (1 : Int32)), .unset] [(.int xx)])) rfl (by rw [hml]; rfl) (argsL := [(.int xx)]) (rest := []) (lenOf pd_0 rfl) rfl (by show 2 * 0 + _ ≤ _; exact Nat.le_of_eq rfl) (hb hby at_81) (fun _ _ => ⟨rfl, e1, (by decide : 0 + 0 ≤ _), (by decide : 0 + 0 ≤ _)⟩)
      dsimp only [Pt.U, Pt.locs, Pt.cells, Pt.slots] at X11 l11 y11 z11 st11 hQ11
      subst l11 y11 z11
      obtain ⟨rfl, N11q, e11⟩ := hQ11
      have N11 := Fr.app N1 N11q
      refine go st11 ?_
      show Go p e below _ (T11.setTop (mkF m 84 #[.val (.int p0), .val (.int xx), .val (.int xx), .val (.int xx), .val (.int (0 : Int32)), .val (.int (1 : Int32)), .unset] [(.int (own_lw xx))]))
      refine go (fun t k => by refine XS.istore X11.here hx rfl (hb hby at_84) rfl (l' := #[.val (.int p0), .val (.int xx), .val (.int xx), .val (.int xx), .val (.int (0 : Int32)), .val (.int (1 : Int32)), .val (.int (own_lw xx))]) rfl ?_; exact k) ?_
      show Go p e below _ (T11.setTop (mkF m 86 #[.val (.int p0), .val (.int xx), .val (.int xx), .val (.int xx), .val (.int (0 : Int32)), .val (.int (1 : Int32)), .val (.int (own_lw xx))] []))
      refine go (fun t k => by refine XS.iload X11.here hx rfl (hb hby at_86) rfl ?_; exact k) ?_
      show Go p e below _ (T11.setTop (mkF m 88 #[.val (.int p0), .val (.int xx), .val (.int xx), .val (.int xx), .val (.int (0 : Int32)), .val (.int (1 : Int32)), .val (.int (own_lw xx))] [(.int (1 : Int32))]))
      have c88_12 : ¬ ((1 : Int32) = (0 : Int32)) := by decide
      refine go (fun t k => by refine XS.ifNo X11.here hx rfl (hb hby at_88) rfl ((if0 _ _).trans (feq c88_12).1) ?_; exact k) ?_
      show Go p e below _ (T11.setTop (mkF m 91 #[.val (.int p0), .val (.int xx), .val (.int xx), .val (.int xx), .val (.int (0 : Int32)), .val (.int (1 : Int32)), .val (.int (own_lw xx))] []))
      refine go (fun t k => by refine XS.iload X11.here hx rfl (hb hby at_91) rfl ?_; exact k) ?_
      show Go p e below _ (T11.setTop (mkF m 93 #[.val (.int p0), .val (.int xx), .val (.int xx), .val (.int xx), .val (.int (0 : Int32)), .val (.int (1 : Int32)), .val (.int (own_lw xx))] [(.int (own_lw xx))]))
      refine go (fun t k => by refine XS.iloadN X11.here hx rfl (hb hby at_93) rfl ?_; exact k) ?_
      show Go p e below _ (T11.setTop (mkF m 94 #[.val (.int p0), .val (.int xx), .val (.int xx), .val (.int xx), .val (.int (0 : Int32)), .val (.int (1 : Int32)), .val (.int (own_lw xx))] [(.int xx), (.int (own_lw xx))]))
      have c94_13 : ¬ (¬ (own_lw xx) = xx) := not_not_intro (own_lw_no xx hr (Or.inr c22_8))
      refine go (fun t k => by refine XS.icmpNo X11.here hx rfl (hb hby at_94) rfl (teq (Decidable.not_not.mp c94_13)).2 ?_; exact k) ?_
      show Go p e below _ (T11.setTop (mkF m 97 #[.val (.int p0), .val (.int xx), .val (.int xx), .val (.int xx), .val (.int (0 : Int32)), .val (.int (1 : Int32)), .val (.int (own_lw xx))] []))
      refine go (fun t k => by refine XS.iconst X11.here hx rfl (hb hby at_97) ?_; exact k) ?_
      show Go p e below _ (T11.setTop (mkF m 98 #[.val (.int p0), .val (.int xx), .val (.int xx), .val (.int xx), .val (.int (0 : Int32)), .val (.int (1 : Int32)), .val (.int (own_lw xx))] [(.int (1 : Int32))]))
      refine go (fun t k => by refine XS.goto X11.here hx rfl (pc0 := 98) (pc' := 102) rfl (hb hby at_98) (by decide) (by decide) ?_; exact k) ?_
      show Go p e below _ (T11.setTop (mkF m 102 #[.val (.int p0), .val (.int xx), .val (.int xx), .val (.int xx), .val (.int (0 : Int32)), .val (.int (1 : Int32)), .val (.int (own_lw xx))] [(.int (1 : Int32))]))
      refine goOut X11 (fun h => by rw [Bd.returns] at h; cases h) hlk (fun fs hr => retN X11 hx (t := .boolean) Bd.returns (by simp) (hb hby at_102) hr) (by decide) (by decide) ?_
      rw [e11]
      exact ⟨rfl, N11⟩
    · skip
      refine go (fun t k => by refine XS.icmpNo X1.here hx rfl (hb hby at_22) rfl (flt c22_8).2.2.1 ?_; exact k) ?_
      show Go p e below _ (T1.setTop (mkF m 25 #[.val (.int p0), .val (.int xx), .val (.int xx), .val (.int (own_lw xx)), .unset, .unset, .unset] []))
      refine go (fun t k => by refine XS.iconst X1.here hx rfl (hb hby at_25) ?_; exact k) ?_
      show Go p e below _ (T1.setTop (mkF m 26 #[.val (.int p0), .val (.int xx), .val (.int xx), .val (.int (own_lw xx)), .unset, .unset, .unset] [(.int (1 : Int32))]))
      refine go (fun t k => by refine XS.goto X1.here hx rfl (pc0 := 26) (pc' := 30) rfl (hb hby at_26) (by decide) (by decide) ?_; exact k) ?_
      show Go p e below _ (T1.setTop (mkF m 30 #[.val (.int p0), .val (.int xx), .val (.int xx), .val (.int (own_lw xx)), .unset, .unset, .unset] [(.int (1 : Int32))]))
      refine go (fun t k => by refine XS.istore X1.here hx rfl (hb hby at_30) rfl (l' := #[.val (.int p0), .val (.int xx), .val (.int xx), .val (.int (own_lw xx)), .val (.int (1 : Int32)), .unset, .unset]) rfl ?_; exact k) ?_
      show Go p e below _ (T1.setTop (mkF m 32 #[.val (.int p0), .val (.int xx), .val (.int xx), .val (.int (own_lw xx)), .val (.int (1 : Int32)), .unset, .unset] []))
      rw [own_lw_up xx c16_2 c22_8]
      show Go p e below _ (T1.setTop (mkF m 32 #[.val (.int p0), .val (.int xx), .val (.int xx), .val (.int (xx + (32 : Int32))), .val (.int (1 : Int32)), .unset, .unset] []))
      refine go (fun t k => by refine XS.iload X1.here hx rfl (hb hby at_32) rfl ?_; exact k) ?_
      show Go p e below _ (T1.setTop (mkF m 34 #[.val (.int p0), .val (.int xx), .val (.int xx), .val (.int (xx + (32 : Int32))), .val (.int (1 : Int32)), .unset, .unset] [(.int (1 : Int32))]))
      have c34_14 : ¬ ((1 : Int32) = (0 : Int32)) := by decide
      refine go (fun t k => by refine XS.ifNo X1.here hx rfl (hb hby at_34) rfl ((if0 _ _).trans (feq c34_14).1) ?_; exact k) ?_
      show Go p e below _ (T1.setTop (mkF m 37 #[.val (.int p0), .val (.int xx), .val (.int xx), .val (.int (xx + (32 : Int32))), .val (.int (1 : Int32)), .unset, .unset] []))
      refine go (fun t k => by refine XS.iloadN X1.here hx rfl (hb hby at_37) rfl ?_; exact k) ?_
      show Go p e below _ (T1.setTop (mkF m 38 #[.val (.int p0), .val (.int xx), .val (.int xx), .val (.int (xx + (32 : Int32))), .val (.int (1 : Int32)), .unset, .unset] [(.int (xx + (32 : Int32)))]))
      refine go (fun t k => by refine XS.iloadN X1.here hx rfl (hb hby at_38) rfl ?_; exact k) ?_
      show Go p e below _ (T1.setTop (mkF m 39 #[.val (.int p0), .val (.int xx), .val (.int xx), .val (.int (xx + (32 : Int32))), .val (.int (1 : Int32)), .unset, .unset] [(.int xx), (.int (xx + (32 : Int32)))]))
      refine go (fun t k => by refine XS.bipush X1.here hx rfl (hb hby at_39) ?_; exact k) ?_
      show Go p e below _ (T1.setTop (mkF m 41 #[.val (.int p0), .val (.int xx), .val (.int xx), .val (.int (xx + (32 : Int32))), .val (.int (1 : Int32)), .unset, .unset] [(.int (32 : Int32)), (.int xx), (.int (xx + (32 : Int32)))]))
      refine go (fun t k => by refine XS.ior X1.here hx rfl (hb hby at_41) rfl ?_; exact k) ?_
      show Go p e below _ (T1.setTop (mkF m 42 #[.val (.int p0), .val (.int xx), .val (.int xx), .val (.int (xx + (32 : Int32))), .val (.int (1 : Int32)), .unset, .unset] [(.int (xx ||| (32 : Int32))), (.int (xx + (32 : Int32)))]))
      refine go (fun t k => by refine XS.i2c X1.here hx rfl (hb hby at_42) rfl ?_; exact k) ?_
      show Go p e below _ (T1.setTop (mkF m 43 #[.val (.int p0), .val (.int xx), .val (.int xx), .val (.int (xx + (32 : Int32))), .val (.int (1 : Int32)), .unset, .unset] [(.int ((xx ||| (32 : Int32)).toUInt32.toUInt16.toUInt32.toInt32)), (.int (xx + (32 : Int32)))]))
      have c43_15 : ¬ (¬ (xx + (32 : Int32)) = ((xx ||| (32 : Int32)).toUInt32.toUInt16.toUInt32.toInt32)) := not_not_intro (own_bit xx c16_2 c22_8).symm
      refine go (fun t k => by refine XS.icmpNo X1.here hx rfl (hb hby at_43) rfl (teq (Decidable.not_not.mp c43_15)).2 ?_; exact k) ?_
      show Go p e below _ (T1.setTop (mkF m 46 #[.val (.int p0), .val (.int xx), .val (.int xx), .val (.int (xx + (32 : Int32))), .val (.int (1 : Int32)), .unset, .unset] []))
      refine go (fun t k => by refine XS.iloadN X1.here hx rfl (hb hby at_46) rfl ?_; exact k) ?_
      show Go p e below _ (T1.setTop (mkF m 47 #[.val (.int p0), .val (.int xx), .val (.int xx), .val (.int (xx + (32 : Int32))), .val (.int (1 : Int32)), .unset, .unset] [(.int (xx + (32 : Int32)))]))
      refine go (fun t k => by refine XS.bipush X1.here hx rfl (hb hby at_47) ?_; exact k) ?_
      show Go p e below _ (T1.setTop (mkF m 49 #[.val (.int p0), .val (.int xx), .val (.int xx), .val (.int (xx + (32 : Int32))), .val (.int (1 : Int32)), .unset, .unset] [(.int (97 : Int32)), (.int (xx + (32 : Int32)))]))
      have c49_16 : ¬ ((xx + (32 : Int32)) < (97 : Int32)) := (own_az xx c16_2 c22_8).1
      refine go (fun t k => by refine XS.icmpNo X1.here hx rfl (hb hby at_49) rfl (flt c49_16).1 ?_; exact k) ?_
      show Go p e below _ (T1.setTop (mkF m 52 #[.val (.int p0), .val (.int xx), .val (.int xx), .val (.int (xx + (32 : Int32))), .val (.int (1 : Int32)), .unset, .unset] []))
      refine go (fun t k => by refine XS.iloadN X1.here hx rfl (hb hby at_52) rfl ?_; exact k) ?_
      show Go p e below _ (T1.setTop (mkF m 53 #[.val (.int p0), .val (.int xx), .val (.int xx), .val (.int (xx + (32 : Int32))), .val (.int (1 : Int32)), .unset, .unset] [(.int (xx + (32 : Int32)))]))
      refine go (fun t k => by refine XS.bipush X1.here hx rfl (hb hby at_53) ?_; exact k) ?_
      show Go p e below _ (T1.setTop (mkF m 55 #[.val (.int p0), .val (.int xx), .val (.int xx), .val (.int (xx + (32 : Int32))), .val (.int (1 : Int32)), .unset, .unset] [(.int (122 : Int32)), (.int (xx + (32 : Int32)))]))
      have c55_17 : ¬ ((122 : Int32) < (xx + (32 : Int32))) := (own_az xx c16_2 c22_8).2
      refine go (fun t k => by refine XS.icmpNo X1.here hx rfl (hb hby at_55) rfl (flt c55_17).2.2.1 ?_; exact k) ?_
      show Go p e below _ (T1.setTop (mkF m 58 #[.val (.int p0), .val (.int xx), .val (.int xx), .val (.int (xx + (32 : Int32))), .val (.int (1 : Int32)), .unset, .unset] []))
      refine go (fun t k => by refine XS.iconst X1.here hx rfl (hb hby at_58) ?_; exact k) ?_
      show Go p e below _ (T1.setTop (mkF m 59 #[.val (.int p0), .val (.int xx), .val (.int xx), .val (.int (xx + (32 : Int32))), .val (.int (1 : Int32)), .unset, .unset] [(.int (1 : Int32))]))
      refine go (fun t k => by refine XS.goto X1.here hx rfl (pc0 := 59) (pc' := 63) rfl (hb hby at_59) (by decide) (by decide) ?_; exact k) ?_
      show Go p e below _ (T1.setTop (mkF m 63 #[.val (.int p0), .val (.int xx), .val (.int xx), .val (.int (xx + (32 : Int32))), .val (.int (1 : Int32)), .unset, .unset] [(.int (1 : Int32))]))
      refine go (fun t k => by refine XS.istore X1.here hx rfl (hb hby at_63) rfl (l' := #[.val (.int p0), .val (.int xx), .val (.int xx), .val (.int (xx + (32 : Int32))), .val (.int (1 : Int32)), .val (.int (1 : Int32)), .unset]) rfl ?_; exact k) ?_
      show Go p e below _ (T1.setTop (mkF m 65 #[.val (.int p0), .val (.int xx), .val (.int xx), .val (.int (xx + (32 : Int32))), .val (.int (1 : Int32)), .val (.int (1 : Int32)), .unset] []))
      refine go (fun t k => by refine XS.goto X1.here hx rfl (pc0 := 65) (pc' := 80) rfl (hb hby at_65) (by decide) (by decide) ?_; exact k) ?_
      show Go p e below _ (T1.setTop (mkF m 80 #[.val (.int p0), .val (.int xx), .val (.int xx), .val (.int (xx + (32 : Int32))), .val (.int (1 : Int32)), .val (.int (1 : Int32)), .unset] []))
      refine go (fun t k => by refine XS.iloadN X1.here hx rfl (hb hby at_80) rfl ?_; exact k) ?_
      show Go p e below _ (T1.setTop (mkF m 81 #[.val (.int p0), .val (.int xx), .val (.int xx), .val (.int (xx + (32 : Int32))), .val (.int (1 : Int32)), .val (.int (1 : Int32)), .unset] [(.int (xx + (32 : Int32)))]))
      obtain ⟨_, _, ⟨T18, L18, k18, n18⟩, -, X18, ⟨Lc18, hQ18, l18, y18, z18⟩, st18⟩ := Jvm.LawKit.callS X1 hx (y := (⟨"com/example/backfill/backfill/postgres/SqlLexer", "lowerCase", "(C)C"⟩ : MethodName)) hown (mvT hZ (hw _ (List.mem_of_getElem? (i := 1) rfl))) (mvT hZ (hw _ (List.mem_of_getElem? (i := 2) rfl))) (mvT hZ (hw _ (List.mem_of_getElem? (i := 3) rfl))) (mvT hZ (hw _ (List.mem_of_getElem? (i := 4) rfl))) (by decide) (backOf (W := 0) (rm1 l Z a0 hw [] (xx + (32 : Int32)) h0 n0 Z0) hZ (hw _ (List.mem_of_getElem? (i := 4) rfl)) (hw _ (List.mem_of_getElem? (i := 3) rfl)) (by decide) (by decide)) (g := (mkF m 81 #[.val (.int p0), .val (.int xx), .val (.int xx), .val (.int (xx + (32 : Int32))), .val (.int (1 : Int32)), .val (.int (1 : Int32)), .unset] [(.int (xx + (32 : Int32)))])) rfl (by rw [hml]; rfl) (argsL := [(.int (xx + (32 : Int32)))]) (rest := []) (lenOf pd_0 rfl) rfl (by show 2 * 0 + _ ≤ _; exact Nat.le_of_eq rfl) (hb hby at_81) (fun _ _ => ⟨rfl, e1, (by decide : 0 + 0 ≤ _), (by decide : 0 + 0 ≤ _)⟩)
      dsimp only [Pt.U, Pt.locs, Pt.cells, Pt.slots] at X18 l18 y18 z18 st18 hQ18
      subst l18 y18 z18
      obtain ⟨rfl, N18q, e18⟩ := hQ18
      have N18 := Fr.app N1 N18q
      refine go st18 ?_
      show Go p e below _ (T18.setTop (mkF m 84 #[.val (.int p0), .val (.int xx), .val (.int xx), .val (.int (xx + (32 : Int32))), .val (.int (1 : Int32)), .val (.int (1 : Int32)), .unset] [(.int (own_lw (xx + (32 : Int32))))]))
      refine go (fun t k => by refine XS.istore X18.here hx rfl (hb hby at_84) rfl (l' := #[.val (.int p0), .val (.int xx), .val (.int xx), .val (.int (xx + (32 : Int32))), .val (.int (1 : Int32)), .val (.int (1 : Int32)), .val (.int (own_lw (xx + (32 : Int32))))]) rfl ?_; exact k) ?_
      show Go p e below _ (T18.setTop (mkF m 86 #[.val (.int p0), .val (.int xx), .val (.int xx), .val (.int (xx + (32 : Int32))), .val (.int (1 : Int32)), .val (.int (1 : Int32)), .val (.int (own_lw (xx + (32 : Int32))))] []))
      refine go (fun t k => by refine XS.iload X18.here hx rfl (hb hby at_86) rfl ?_; exact k) ?_
      show Go p e below _ (T18.setTop (mkF m 88 #[.val (.int p0), .val (.int xx), .val (.int xx), .val (.int (xx + (32 : Int32))), .val (.int (1 : Int32)), .val (.int (1 : Int32)), .val (.int (own_lw (xx + (32 : Int32))))] [(.int (1 : Int32))]))
      have c88_19 : ¬ ((1 : Int32) = (0 : Int32)) := by decide
      refine go (fun t k => by refine XS.ifNo X18.here hx rfl (hb hby at_88) rfl ((if0 _ _).trans (feq c88_19).1) ?_; exact k) ?_
      show Go p e below _ (T18.setTop (mkF m 91 #[.val (.int p0), .val (.int xx), .val (.int xx), .val (.int (xx + (32 : Int32))), .val (.int (1 : Int32)), .val (.int (1 : Int32)), .val (.int (own_lw (xx + (32 : Int32))))] []))
      refine go (fun t k => by refine XS.iload X18.here hx rfl (hb hby at_91) rfl ?_; exact k) ?_
      show Go p e below _ (T18.setTop (mkF m 93 #[.val (.int p0), .val (.int xx), .val (.int xx), .val (.int (xx + (32 : Int32))), .val (.int (1 : Int32)), .val (.int (1 : Int32)), .val (.int (own_lw (xx + (32 : Int32))))] [(.int (own_lw (xx + (32 : Int32))))]))
      refine go (fun t k => by refine XS.iloadN X18.here hx rfl (hb hby at_93) rfl ?_; exact k) ?_
      show Go p e below _ (T18.setTop (mkF m 94 #[.val (.int p0), .val (.int xx), .val (.int xx), .val (.int (xx + (32 : Int32))), .val (.int (1 : Int32)), .val (.int (1 : Int32)), .val (.int (own_lw (xx + (32 : Int32))))] [(.int (xx + (32 : Int32))), (.int (own_lw (xx + (32 : Int32))))]))
      have c94_20 : ¬ (¬ (own_lw (xx + (32 : Int32))) = (xx + (32 : Int32))) := not_not_intro (own_lw_2 xx c16_2 c22_8)
      refine go (fun t k => by refine XS.icmpNo X18.here hx rfl (hb hby at_94) rfl (teq (Decidable.not_not.mp c94_20)).2 ?_; exact k) ?_
      show Go p e below _ (T18.setTop (mkF m 97 #[.val (.int p0), .val (.int xx), .val (.int xx), .val (.int (xx + (32 : Int32))), .val (.int (1 : Int32)), .val (.int (1 : Int32)), .val (.int (own_lw (xx + (32 : Int32))))] []))
      refine go (fun t k => by refine XS.iconst X18.here hx rfl (hb hby at_97) ?_; exact k) ?_
      show Go p e below _ (T18.setTop (mkF m 98 #[.val (.int p0), .val (.int xx), .val (.int xx), .val (.int (xx + (32 : Int32))), .val (.int (1 : Int32)), .val (.int (1 : Int32)), .val (.int (own_lw (xx + (32 : Int32))))] [(.int (1 : Int32))]))
      refine go (fun t k => by refine XS.goto X18.here hx rfl (pc0 := 98) (pc' := 102) rfl (hb hby at_98) (by decide) (by decide) ?_; exact k) ?_
      show Go p e below _ (T18.setTop (mkF m 102 #[.val (.int p0), .val (.int xx), .val (.int xx), .val (.int (xx + (32 : Int32))), .val (.int (1 : Int32)), .val (.int (1 : Int32)), .val (.int (own_lw (xx + (32 : Int32))))] [(.int (1 : Int32))]))
      refine goOut X18 (fun h => by rw [Bd.returns] at h; cases h) hlk (fun fs hr => retN X18 hx (t := .boolean) Bd.returns (by simp) (hb hby at_102) hr) (by decide) (by decide) ?_
      rw [e18]
      exact ⟨rfl, N18⟩
set_option maxRecDepth 65536 in
set_option maxHeartbeats 40000000 in
theorem comes_1 {Post : Tables → Env → Array Value → State → Outcome → State → Prop} (hpost : ∀ tb e args s v u, (limb_1_1.after args s (.returned v) u = true ∧ limb_1_2.after args s (.returned v) u = true ∧ True) → FrameEnd s (.returned v) u (Jvm.fieldLocs frame_1_writes args s ++ Jvm.arrayLocs frame_1_arrays args s ++ Jvm.staticLocs frame_1_statics s) 0 0 → Post tb e args s (.returned v) u) :
    ArmFor flags0 classFile x code maxLocals ret World_1 tables_1 room_1 Calls_1 rest_1 Pre_1 Post := by
  intro l hfl _ _ p e ha hc hk s m args below hf hA hF happ hP
  obtain ⟨hcalls, hrest, hpre⟩ := hP
  obtain ⟨-, -, -, hnamed, -, -, -, hat⟩ := (Spec.applies_iff hf).mp happ
  obtain ⟨hg, hn⟩ := and_e (Cond.before_iff.mp (show (Jvm.Cond.and given_1 narrow_1).before args s = true from hpre))
  obtain ⟨g1, g2⟩ := and_e hg
  obtain ⟨w0, rfl⟩ : ∃ w0 : Value, args = #[w0] := by
    have hs : args.size = 1 := by simpa [Cond.value, given_1] using g1
    obtain ⟨L⟩ := args
    match L, hs with
    | [w0], _ => exact ⟨w0, rfl⟩
  have hw := fun d (hd : d ∈ tables_1) => atoms_spec (ws := Jvm.Cond.code x code maxLocals ret :: tables_1) hat d (List.mem_cons_of_mem _ hd)
  have hfit : Fit s := fun {y c} hc i hi => by
    obtain ⟨ha, rfl⟩ := Array.getElem?_eq_some_iff.mp hc
    have q := List.all_eq_true.mp ((Array.all_eq_true_iff_forall_mem.mp hF) _ (Array.getElem_mem ha)) i (List.mem_range.mpr hi)
    simpa [Array.getElem?_eq_getElem hi] using q
  obtain ⟨i0, ei0⟩ := is_v g2
  obtain rfl : w0 = (.int i0) := Option.some.inj ei0
  obtain ⟨n, o, h1, h2, h3, _, L, rfl, ⟨rfl, N⟩, hq⟩ := rm0 l s _ hw tables_1 i0  s.heap s.heap.size (Nat.le_refl _)  p e ha hc hk s m _ below hf ((Spec.applies_iff_loose hf).mp happ).1 ⟨rfl, State.Warmed39.refl s, rfl⟩ trivial
  refine ⟨n, _, h1, h2, h3, hpost _ _ _ _ _ _ ⟨Cond.after_iff.mpr rfl, Cond.after_iff.mpr (eq_i res_at (Term.int_eval (1)) rfl), trivial⟩ ⟨hq.1, hq.2.1, (hq.2.2.sift fun y hy => Or.inr (N y hy)).mono (by decide) (by decide)⟩⟩
theorem main_1_1 : Claimed_1_1 := comes_1 fun _ _ _ _ _ _ h hF => ⟨h.1, hF⟩
theorem main_1_2 : Claimed_1_2 := comes_1 fun _ _ _ _ _ _ h hF => ⟨h.2.1, hF⟩
end Jvm.Pilot.@@N@@
namespace Jvm.Pilot.@@N@@
open Jvm Jvm.ClassFile Sem Op Lib Jvm.Free Jvm.Stand Jvm.Pilot.@@N@@.Jvm.D
/-! MADE BY PROGRAM (witnessworld.py) out of the Statement's table words and the real class files: 9 classes; the members and pool entries that the words name. The judged class is class 1, her method 1. -/
namespace start1
open Jvm.ClassFile
def u (s : String) : CpInfo := .utf8 (stringToUtf16 s)
/-- a pool by its gaps: so many unusable entries, then the entry; so many at the end -/
def gap : Nat → List CpInfo → List CpInfo
  | 0, r => r
  | n + 1, r => .unusable :: gap n r
def poolList (es : List (Nat × CpInfo)) (last : Nat) : List CpInfo := es.foldr (fun e r => gap e.1 (e.2 :: r)) (gap last [])
def pool (es : List (Nat × CpInfo)) (last : Nat) : Array CpInfo := ⟨poolList es last⟩
def fileOf (pool : Array CpInfo) (this : Nat) (attrs : Array Attribute := #[]) (ms : Array MethodInfo := #[]) (fl : Nat := 33) (sup : Nat := 0) (ifs : Array Nat := #[]) (fds : Array FieldInfo := #[]) : ClassFile where
  minorVersion := 0
  majorVersion := 65
  constantPool := pool
  accessFlags := fl
  thisClass := this
  superClass := sup
  interfaces := ifs
  fields := fds
  methods := ms
  attributes := attrs
def plain (name : String) (sup : Option ClassId) : Class where
  name := name
  kind := .ordinary
  loader := none
  accessFlags := 33
  super := sup
  interfaces := #[]
  cf := none
  fields := #[]
  methods := #[]
  instanceTypes := #[]
  staticTypes := #[]
  resolved := #[]
  callSites := []
  init := .initialized
  statics := none
  mirror := none

def pool0 : Array CpInfo := pool [(5, u "<init>"), (0, u "()V"), (1, .class_ 10), (1, u "java/lang/Object")] 113

def k0m0 : Method := { name := "<init>", desc := "()V", sig := { parameters := [], returnType := none }, accessFlags := 1, code := none }
/-- java/lang/Object -/
def k0 : Class := { plain "java/lang/Object" none with
  accessFlags := 33
  interfaces := #[]
  cf := some (fileOf pool0 8 #[] #[{ accessFlags := 1, nameIndex := 5, descriptorIndex := 6, attributes := #[] }] 33 0 #[] #[])
  fields := #[]
  methods := #[k0m0]
  instanceTypes := #[]
  staticTypes := #[]
  resolved := Array.replicate 124 none
  statics := none }

def pool1 : Array CpInfo := pool [(2, .class_ 4), (1, u "java/lang/Object"), (0, u "<init>"), (0, u "()V"), (0, .integer 65535), (0, .methodref 9 10), (0, .class_ 11), (0, .nameAndType 12 13), (0, u "com/example/backfill/backfill/postgres/SqlLexer"), (0, u "lowerCase"), (0, u "(C)C"), (0, .class_ 15), (0, u "com/example/backfill/backfill/postgres/SqlLexerLowerCasePinLaw"), (2, u "law"), (0, u "(I)Z")] 3

def k1m0 : Method := { name := "<init>", desc := "()V", sig := { parameters := [], returnType := none }, accessFlags := 1, code := none }
def k1c1 : Code := { maxStack := 3, maxLocals := 7, code := code, exceptionTable := #[], attributes := #[] }
def k1m1 : Method := { name := "law", desc := "(I)Z", sig := { parameters := [.int], returnType := some .boolean }, accessFlags := 9, code := some k1c1 }
/-- com/example/backfill/backfill/postgres/SqlLexerLowerCasePinLaw -/
def k1 : Class := { plain "com/example/backfill/backfill/postgres/SqlLexerLowerCasePinLaw" (some 0) with
  accessFlags := 49
  interfaces := #[]
  cf := some (fileOf pool1 14 #[] #[{ accessFlags := 1, nameIndex := 5, descriptorIndex := 6, attributes := #[] }, { accessFlags := 9, nameIndex := 18, descriptorIndex := 19, attributes := #[] }] 49 2 #[] #[])
  fields := #[]
  methods := #[k1m0, k1m1]
  instanceTypes := #[]
  staticTypes := #[]
  resolved := Array.replicate 23 none
  statics := none }

def pool2 : Array CpInfo := pool [(2, .class_ 4), (1, u "com/example/backfill/backfill/postgres/SqlLexer"), (3, .class_ 10), (1, u "java/lang/Object"), (3, u "text"), (0, u "Ljava/lang/String;"), (2, u "at"), (0, u "I"), (2, u "standardStrings"), (0, u "Z"), (51, u "start"), (5, u "kind"), (0, u "Lcom/example/backfill/backfill/postgres/SqlLexer$Kind;"), (0, .class_ 84), (0, u "com/example/backfill/backfill/postgres/SqlLexer$Token"), (5, u "unclosed"), (0, u "Lcom/example/backfill/backfill/postgres/SqlLexer$Unclosed;"), (10, .class_ 104), (1, u "com/example/backfill/backfill/postgres/SqlLexer$Kind"), (28, .class_ 134), (0, u "com/example/backfill/backfill/postgres/SqlLexer$Unclosed"), (14, u "DOLLAR_TAG"), (0, u "Ljava/util/regex/Pattern;"), (46, u "lowerCase"), (0, u "(C)C")] 8

def k2c0 : Code := { maxStack := 2, maxLocals := 1, code := prog_74_method_19_code, exceptionTable := #[], attributes := #[] }
def k2m0 : Method := { name := "lowerCase", desc := "(C)C", sig := { parameters := [.char], returnType := some .char }, accessFlags := 8, code := some k2c0 }
/-- com/example/backfill/backfill/postgres/SqlLexer -/
def k2 : Class := { plain "com/example/backfill/backfill/postgres/SqlLexer" (some 0) with
  accessFlags := 32
  interfaces := #[]
  cf := some (fileOf pool2 2 #[.nestMembers #[133, 83, 102]] #[{ accessFlags := 8, nameIndex := 197, descriptorIndex := 198, attributes := #[] }] 32 8 #[] #[{ accessFlags := 26, nameIndex := 149, descriptorIndex := 150, attributes := #[] }, { accessFlags := 18, nameIndex := 14, descriptorIndex := 15, attributes := #[] }, { accessFlags := 18, nameIndex := 22, descriptorIndex := 23, attributes := #[] }, { accessFlags := 2, nameIndex := 18, descriptorIndex := 19, attributes := #[] }, { accessFlags := 2, nameIndex := 81, descriptorIndex := 82, attributes := #[] }, { accessFlags := 2, nameIndex := 75, descriptorIndex := 19, attributes := #[] }, { accessFlags := 2, nameIndex := 90, descriptorIndex := 91, attributes := #[] }])
  fields := #[{ name := "DOLLAR_TAG", type := (.object "java/util/regex/Pattern"), accessFlags := 26, slot := 0, constantValue := 0 }, { name := "text", type := (.object "java/lang/String"), accessFlags := 18, slot := 0, constantValue := 0 }, { name := "standardStrings", type := .boolean, accessFlags := 18, slot := 1, constantValue := 0 }, { name := "at", type := .int, accessFlags := 2, slot := 2, constantValue := 0 }, { name := "kind", type := (.object "com/example/backfill/backfill/postgres/SqlLexer$Kind"), accessFlags := 2, slot := 3, constantValue := 0 }, { name := "start", type := .int, accessFlags := 2, slot := 4, constantValue := 0 }, { name := "unclosed", type := (.object "com/example/backfill/backfill/postgres/SqlLexer$Unclosed"), accessFlags := 2, slot := 5, constantValue := 0 }]
  methods := #[k2m0]
  instanceTypes := #[(.object "java/lang/String"), .boolean, .int, (.object "com/example/backfill/backfill/postgres/SqlLexer$Kind"), .int, (.object "com/example/backfill/backfill/postgres/SqlLexer$Unclosed")]
  staticTypes := #[(.object "java/util/regex/Pattern")]
  resolved := Array.replicate 207 none
  statics := none }

def pool3 : Array CpInfo := pool [(1, u "java/lang/Cloneable"), (0, .class_ 1), (0, u "java/lang/Object"), (0, .class_ 3)] 3

/-- java/lang/Cloneable -/
def k3 : Class := { plain "java/lang/Cloneable" (some 0) with
  accessFlags := 1537
  interfaces := #[]
  cf := some (fileOf pool3 2 #[] #[] 1537 4 #[] #[])
  fields := #[]
  methods := #[]
  instanceTypes := #[]
  staticTypes := #[]
  resolved := Array.replicate 8 none
  statics := none }

def pool4 : Array CpInfo := pool [(1, u "java/io/Serializable"), (0, .class_ 1), (0, u "java/lang/Object"), (0, .class_ 3)] 3

/-- java/io/Serializable -/
def k4 : Class := { plain "java/io/Serializable" (some 0) with
  accessFlags := 1537
  interfaces := #[]
  cf := some (fileOf pool4 2 #[] #[] 1537 4 #[] #[])
  fields := #[]
  methods := #[]
  instanceTypes := #[]
  staticTypes := #[]
  resolved := Array.replicate 8 none
  statics := none }

/-- the primitive byte -/
def k5 : Class := { plain "byte" none with kind := .primitive 'B', accessFlags := 0x411 }
/-- [B -/
def k6 : Class := { plain "[B" (some 0) with kind := .array 5 .byte, interfaces := #[3, 4], accessFlags := 1041 }

/-- the primitive int -/
def k7 : Class := { plain "int" none with kind := .primitive 'I', accessFlags := 0x411 }
/-- [I -/
def k8 : Class := { plain "[I" (some 0) with kind := .array 7 .int, interfaces := #[3, 4], accessFlags := 1041 }

def heap : Heap := #[]
def classes : Array Class := #[k0, k1, k2, k3, k4, k5, k6, k7, k8]
def interned : List (Array UInt16 × Addr) := []
def slotsUsed : Nat := 0
def theMethod : MethodId := ⟨1, 1⟩
def args0 : Array Value := #[.int 70]
def aboutOver (below : List Frame) : State where
  vm := { classes := classes, interned := interned.toArray }
  heap := heap
  slotsUsed := slotsUsed
  threads := #[{ frames := .invoking theMethod args0 :: below }]
def below0 : List Frame := [.native { method := ⟨0, 0⟩, args := #[] }]
def about1 : State := aboutOver below0
def p0 : Program := .bare "" "" ""
def e0 : Env := launch0.env 0 0 0
theorem w_frames : about1.frames = Frame.invoking theMethod args0 :: below0 := rfl
set_option maxRecDepth 65536 in
theorem w_args : argsFit about1.vm theMethod args0 = true := by decide +kernel
set_option maxRecDepth 65536 in
theorem w_heap : heapFits about1 = true := by decide +kernel
set_option maxRecDepth 65536 in
theorem w_runnable : about1.curStatus? = some .runnable := by decide +kernel
set_option maxRecDepth 65536 in
theorem w_alone : about1.alone = true := by decide +kernel
set_option maxRecDepth 65536 in
theorem w_named : about1.methodNamed? x = some theMethod := by decide +kernel
set_option maxRecDepth 65536 in
theorem w_hears : about1.hears theMethod below0 = true := by decide +kernel
set_option maxRecDepth 65536 in
theorem w_ripe : about1.ripe theMethod args0 below0 = true := by decide +kernel
theorem w_running : about1.status = .running := rfl
set_option maxRecDepth 65536 in
theorem w_room : about1.hasRoom e0.platform room_1 = true :=
  launch0.hasRoom_least _ room_1 (by decide +kernel) (by decide +kernel) (by decide +kernel) (by decide +kernel) (by decide +kernel) (by decide +kernel)
theorem allAtoms_all (ts : List Jvm.Cond) (a : Array Jvm.Value) (st : Jvm.State) : (allAtoms ts).before a st = ts.all (fun c => c.before a st) := by
  induction ts with
  | nil => rfl
  | cons c t ih =>
    show (Jvm.Cond.and c (allAtoms t)).before a st = _
    rw [Jvm.Cond.before_and, ih, List.all_cons]
def words1 : List Jvm.Cond := Jvm.Cond.code x code maxLocals ret :: tables_1
/-- a 'code' word, met by the world's own term for the bytes: nothing is compared byte by byte -/
theorem code_word {y : MethodName} {bytes : ByteArray} {mx : Nat} {rt : Option FieldType} {a : Array Value} {s : State} {m : MethodId} {meth : Method} {c : Code} (h1 : s.methodNamed? y = some m) (h2 : s.vm.method? m = some meth) (h3 : meth.code = some c) (h4 : c.code = bytes)
    (h5 : (c.maxLocals == mx && c.exceptionTable.isEmpty && decide (c.maxStack ≤ mostOperands) && decide (meth.sig.returnType = rt) && !meth.locks && decide (parseMethodDescriptor y.desc = some meth.sig)) = true) : (Jvm.Cond.code y bytes mx rt).before a s = true := by
  simp only [Bool.and_eq_true, beq_iff_eq, Bool.not_eq_true', decide_eq_true_eq] at h5
  obtain ⟨⟨⟨⟨⟨g1, g2⟩, g3⟩, g4⟩, g5⟩, g6⟩ := h5
  simp [Cond.before, Cond.holds, Cond.value, h1, h2, h3, h4, g1, g2, g3, g4, g5, g6]
def isCode : Jvm.Cond → Bool
  | .code _ _ _ _ => true
  | _ => false
theorem all_split {L : List Jvm.Cond} {P : Jvm.Cond → Bool} (h1 : L.all (fun c => isCode c || P c) = true) (h2 : ∀ c ∈ L.filter isCode, P c = true) : L.all P = true := by
  refine List.all_eq_true.mpr fun c hc => ?_
  have h := List.all_eq_true.mp h1 c hc
  rcases Bool.eq_false_or_eq_true (isCode c) with hi | hi
  · exact h2 c (List.mem_filter.mpr ⟨hc, hi⟩)
  · simpa [hi] using h
set_option maxRecDepth 65536 in
theorem w_c0 : (Jvm.Cond.code x code maxLocals ret).before args0 about1 = true := code_word (m := ⟨1, 1⟩) (meth := k1m1) (c := k1c1) (by decide +kernel) rfl rfl rfl (by decide +kernel)
set_option maxRecDepth 65536 in
theorem w_c1 : (Jvm.Cond.code ({ cls := "com/example/backfill/backfill/postgres/SqlLexer", name := "lowerCase", desc := "(C)C" } : Jvm.MethodName) prog_74_method_19_code (1 : Nat) (Option.some Jvm.ClassFile.FieldType.char)).before args0 about1 = true := code_word (m := ⟨2, 0⟩) (meth := k2m0) (c := k2c0) (by decide +kernel) rfl rfl rfl (by decide +kernel)
def codes1 : List Jvm.Cond := [Jvm.Cond.code x code maxLocals ret, Jvm.Cond.code ({ cls := "com/example/backfill/backfill/postgres/SqlLexer", name := "lowerCase", desc := "(C)C" } : Jvm.MethodName) prog_74_method_19_code (1 : Nat) (Option.some Jvm.ClassFile.FieldType.char)]
set_option maxRecDepth 65536 in
theorem codes_eq : words1.filter isCode = codes1 := rfl
theorem w_codes : ∀ c ∈ words1.filter isCode, c.before args0 about1 = true := by
  rw [codes_eq]
  intro c hc
  simp only [codes1, List.mem_cons, List.not_mem_nil, or_false] at hc
  rcases hc with rfl | rfl
  · exact w_c0
  · exact w_c1
set_option maxRecDepth 65536 in
theorem w_t1 : words1.all (fun c => isCode c || c.before args0 about1) = true := by decide +kernel
theorem w_tables : (allAtoms (Jvm.Cond.code x code maxLocals ret :: tables_1)).before args0 about1 = true := by
  rw [allAtoms_all]
  show words1.all (fun c => c.before args0 about1) = true
  refine all_split ?_ w_codes
  rw [w_t1]
set_option maxRecDepth 65536 in
theorem w_case : (Jvm.Cond.and given_1 narrow_1).before args0 about1 = true := by decide +kernel
theorem w_applies : (headSpec (Jvm.Cond.code x code maxLocals ret :: tables_1) room_1).applies x e0.platform about1 = true :=
  (Spec.applies_iff w_frames).mpr ⟨w_running, w_runnable, w_alone, w_named, w_hears, w_ripe, w_room, w_tables⟩
theorem atStart : AtStart classFile x code maxLocals ret World_1 tables_1 room_1 Calls_1 rest_1 Pre_1 launch0 p0 e0 about1 theMethod args0 below0 :=
  ⟨lists_1, trivial, launch0.admits_env _ _ _, launch0.least_env, fairChoices_fair.cas, fairChoices_fair.clock, w_frames, w_args, w_heap, w_applies, trivial, trivial, w_case⟩
end start1
theorem witness_1 : WitnessClaimed_1 := ⟨start1.p0, start1.e0, start1.about1, start1.theMethod, start1.args0, start1.below0, start1.atStart⟩
end Jvm.Pilot.@@N@@
