import JvmDerived
import JvmDerived.Pilot.@@N@@Statement
import JvmDerived.Pilot.@@N@@Code
set_option linter.unusedVariables false
set_option linter.unusedSimpArgs false
namespace Jvm.RoadKit
open Sem ClassFile Op Lib Jvm.Stand Jvm.Free Jvm.LawKit
section Own
variable {p : Program} {l : Launch} {e : Env} {R : Room} {s : State} {m : MethodId} {args : Array Value} {below : List Frame} {meth : Method} {c : Code} {T : State} {locs : List Loc} {cells slots : Nat}
/-- from S the run comes to the end of the call, and K holds there -/
def Go (p : Program) (e : Env) (below : List Frame) (K : State → Outcome → Prop) (S : State) : Prop := ∃ s₂ o, Steps p.tables e below S s₂ ∧ s₂.status = .running ∧ Ended s₂ below o ∧ K s₂ o
def Kq (s : State) (Q : Option Value → Heap → List Loc → Prop) (k n : Nat) (t : State) (o : Outcome) : Prop := ∃ v L, o = .returned v ∧ Q v t.heap L ∧ FrameEnd s o t L k n
theorem go {K : State → Outcome → Prop} {S S' : State} (h : ∀ t, Steps p.tables e below S' t → Steps p.tables e below S t) (g : Go p e below K S') : Go p e below K S := by
  obtain ⟨t, o, h1, h2⟩ := g
  exact ⟨t, o, h _ h1, h2⟩
theorem goOut (X : Stand p l e R s m args below meth c T locs cells slots) {Q : Option Value → Heap → List Loc → Prop} {k n : Nat} {S : State} {v : Option Value} (hv : meth.sig.returnType = none → v = none) (hlocks : meth.locks = false)
    (hs : ∀ fs, (∀ (f : JFrame) (acts : List Action), f.method = m → f.locked = none → f.entered = [] → (doReturn e (T.setTop f) acts v).1 = T.setFrames fs) → Steps p.tables e below S (T.setFrames fs))
    (hk : cells ≤ k) (hn : slots ≤ n) (hq : Q v T.heap locs) : Go p e below (Kq s Q k n) S := by
  obtain ⟨fs, hr, hrun, hended, hW, hsame⟩ := X.leave (v := v) hv hlocks
  exact ⟨_, _, hs fs hr, hrun, hended, _, _, rfl, hq, ⟨_, rfl⟩, hW, hsame.mono hk hn⟩
end Own
end Jvm.RoadKit
namespace Jvm.Pilot.@@N@@
open Jvm Jvm.ClassFile Sem Op Lib Jvm.Free Jvm.Stand Jvm.LawKit Jvm.RoadKit Bundle Jvm.Pilot.@@N@@.Jvm.D
def own_k (k : Fin 11) : Int32 := Int32.ofNat k.1
def own_pow (k : Fin 11) : Int32 := (1 : Int32) <<< (own_k k &&& 31)
theorem d3_0 : decode jdk_33_method_48_code 0 = .ok (.iload_n 0, 1) := by decide +kernel
theorem d3_1 : decode jdk_33_method_48_code 1 = .ok (.iconst (-1), 1) := by decide +kernel
theorem d3_2 : decode jdk_33_method_48_code 2 = .ok (.ixor, 1) := by decide +kernel
theorem d3_3 : decode jdk_33_method_48_code 3 = .ok (.iload_n 0, 1) := by decide +kernel
theorem d3_4 : decode jdk_33_method_48_code 4 = .ok (.iconst 1, 1) := by decide +kernel
theorem d3_5 : decode jdk_33_method_48_code 5 = .ok (.isub, 1) := by decide +kernel
theorem d3_6 : decode jdk_33_method_48_code 6 = .ok (.iand, 1) := by decide +kernel
theorem d3_7 : decode jdk_33_method_48_code 7 = .ok (.istore_n 0, 1) := by decide +kernel
theorem d3_8 : decode jdk_33_method_48_code 8 = .ok (.iload_n 0, 1) := by decide +kernel
theorem d3_9 : decode jdk_33_method_48_code 9 = .ok (.ifCond .gt 8, 3) := by decide +kernel
theorem d3_17 : decode jdk_33_method_48_code 17 = .ok (.iconst 1, 1) := by decide +kernel
theorem d3_18 : decode jdk_33_method_48_code 18 = .ok (.istore_n 1, 1) := by decide +kernel
theorem d3_19 : decode jdk_33_method_48_code 19 = .ok (.iload_n 0, 1) := by decide +kernel
theorem d3_20 : decode jdk_33_method_48_code 20 = .ok (.ldc_w 264, 3) := by decide +kernel
theorem d3_23 : decode jdk_33_method_48_code 23 = .ok (.if_icmp .le 11, 3) := by decide +kernel
theorem d3_34 : decode jdk_33_method_48_code 34 = .ok (.iload_n 0, 1) := by decide +kernel
theorem d3_35 : decode jdk_33_method_48_code 35 = .ok (.sipush 256, 3) := by decide +kernel
theorem d3_38 : decode jdk_33_method_48_code 38 = .ok (.if_icmp .le 11, 3) := by decide +kernel
theorem d3_49 : decode jdk_33_method_48_code 49 = .ok (.iload_n 0, 1) := by decide +kernel
theorem d3_50 : decode jdk_33_method_48_code 50 = .ok (.bipush 16, 2) := by decide +kernel
theorem d3_52 : decode jdk_33_method_48_code 52 = .ok (.if_icmp .le 10, 3) := by decide +kernel
theorem d3_62 : decode jdk_33_method_48_code 62 = .ok (.iload_n 0, 1) := by decide +kernel
theorem d3_63 : decode jdk_33_method_48_code 63 = .ok (.iconst 4, 1) := by decide +kernel
theorem d3_64 : decode jdk_33_method_48_code 64 = .ok (.if_icmp .le 10, 3) := by decide +kernel
theorem d3_74 : decode jdk_33_method_48_code 74 = .ok (.iload_n 1, 1) := by decide +kernel
theorem d3_75 : decode jdk_33_method_48_code 75 = .ok (.iload_n 0, 1) := by decide +kernel
theorem d3_76 : decode jdk_33_method_48_code 76 = .ok (.iconst 1, 1) := by decide +kernel
theorem d3_77 : decode jdk_33_method_48_code 77 = .ok (.iushr, 1) := by decide +kernel
theorem d3_78 : decode jdk_33_method_48_code 78 = .ok (.iadd, 1) := by decide +kernel
theorem d3_79 : decode jdk_33_method_48_code 79 = .ok (.ireturn, 1) := by decide +kernel
theorem d3_67 : decode jdk_33_method_48_code 67 = .ok (.iinc 1 2, 3) := by decide +kernel
theorem d3_70 : decode jdk_33_method_48_code 70 = .ok (.iload_n 0, 1) := by decide +kernel
theorem d3_71 : decode jdk_33_method_48_code 71 = .ok (.iconst 2, 1) := by decide +kernel
theorem d3_72 : decode jdk_33_method_48_code 72 = .ok (.iushr, 1) := by decide +kernel
theorem d3_73 : decode jdk_33_method_48_code 73 = .ok (.istore_n 0, 1) := by decide +kernel
theorem d3_55 : decode jdk_33_method_48_code 55 = .ok (.iinc 1 4, 3) := by decide +kernel
theorem d3_58 : decode jdk_33_method_48_code 58 = .ok (.iload_n 0, 1) := by decide +kernel
theorem d3_59 : decode jdk_33_method_48_code 59 = .ok (.iconst 4, 1) := by decide +kernel
theorem d3_60 : decode jdk_33_method_48_code 60 = .ok (.iushr, 1) := by decide +kernel
theorem d3_61 : decode jdk_33_method_48_code 61 = .ok (.istore_n 0, 1) := by decide +kernel
theorem d3_41 : decode jdk_33_method_48_code 41 = .ok (.iinc 1 8, 3) := by decide +kernel
theorem d3_44 : decode jdk_33_method_48_code 44 = .ok (.iload_n 0, 1) := by decide +kernel
theorem d3_45 : decode jdk_33_method_48_code 45 = .ok (.bipush 8, 2) := by decide +kernel
theorem d3_47 : decode jdk_33_method_48_code 47 = .ok (.iushr, 1) := by decide +kernel
theorem d3_48 : decode jdk_33_method_48_code 48 = .ok (.istore_n 0, 1) := by decide +kernel
theorem d3_26 : decode jdk_33_method_48_code 26 = .ok (.iinc 1 16, 3) := by decide +kernel
theorem d3_29 : decode jdk_33_method_48_code 29 = .ok (.iload_n 0, 1) := by decide +kernel
theorem d3_30 : decode jdk_33_method_48_code 30 = .ok (.bipush 16, 2) := by decide +kernel
theorem d3_32 : decode jdk_33_method_48_code 32 = .ok (.iushr, 1) := by decide +kernel
theorem d3_33 : decode jdk_33_method_48_code 33 = .ok (.istore_n 0, 1) := by decide +kernel
theorem d3_12 : decode jdk_33_method_48_code 12 = .ok (.iload_n 0, 1) := by decide +kernel
theorem d3_13 : decode jdk_33_method_48_code 13 = .ok (.bipush 32, 2) := by decide +kernel
theorem d3_15 : decode jdk_33_method_48_code 15 = .ok (.iand, 1) := by decide +kernel
theorem d3_16 : decode jdk_33_method_48_code 16 = .ok (.ireturn, 1) := by decide +kernel
theorem pn_java_lang_Integer : plainName "java/lang/Integer" = true := by first | (simp [plainName, overriddenIn]; done) | decide +kernel
theorem ef_rm3 (m : MethodId) (x0 : Int32) : entryFrame m #[(.int x0)] 2 = mkF m 0 #[.val (.int x0), .unset] [] := by first | (simp [entryFrame, mkF, argsToLocals, Value.category]; done) | rfl
def Q3 (Z : State) (p0 : Int32) (h0 : Heap) (n0 : Nat) (v : Option Value) (h : Heap) (L : List Loc) : Prop := ∃ r : Int32, v = some (.int r) ∧ (∀ k : Fin 11, p0 = own_pow k → r = own_k k) ∧ Fr n0 L ∧ h = h0
set_option maxRecDepth 65536 in
set_option maxHeartbeats 40000000 in
theorem rm3 (l : Launch) (Z : State) (a0 : Array Value) (hw : ∀ d ∈ tables_1, d.before a0 Z = true) (ws : List Jvm.Cond) (p0 : Int32)  (h0 : Heap) (n0 : Nat) (Z0 : n0 ≤ h0.size)  :
    MetFree l (⟨"java/lang/Integer", "numberOfTrailingZeros", "(I)I"⟩ : MethodName) (head1 (Jvm.Cond.code (⟨"java/lang/Integer", "numberOfTrailingZeros", "(I)I"⟩ : MethodName) jdk_33_method_48_code 2 (some .int) :: ws) ({ frames := 0, cells := 0, slots := 0, locals := 0 } : Room)) (fun av' U => av' = #[(.int p0)] ∧ Z.Warmed39 U.vm ∧ U.heap = h0) (fun _ _ _ _ _ => True) (fun _ U o U' => ∃ v L, o = .returned v ∧ Q3 Z p0 h0 n0 v U'.heap L ∧ FrameEnd U o U' L ({ frames := 0, cells := 0, slots := 0, locals := 0 } : Room).cells ({ frames := 0, cells := 0, slots := 0, locals := 0 } : Room).slots) := by
  refine MetFree.of_bodySF (plainFor_of_name pn_java_lang_Integer) hisR ?_
  intro p e s m args below meth c s₁ Bd hml0 hP hK
  obtain ⟨rfl, hZ, hh⟩ := hP
  have hx := Bd.exec
  have hby := Bd.bytes
  have hlk := Bd.notSynchronized
  have hml : c.maxLocals = 2 := hml0
  have hown : s.vm.findClass "java/lang/Integer" = some m.cls := findClass_of_methodNamed Bd.named
  have hnm := (name_of_methodNamed Bd.named Bd.method).1
  have X0 : Stand p l e ({ frames := 0, cells := 0, slots := 0, locals := 0 } : Room) s m #[(.int p0)] below meth c s₁ [] 0 0 := Stand.of_body Bd
  have e0 : s₁.heap = h0 := by rw [← hh, Bd.state]; rfl
  have N0 := Fr.nil n0
  show Go p e below (Kq s (Q3 Z p0 h0 n0) ({ frames := 0, cells := 0, slots := 0, locals := 0 } : Room).cells ({ frames := 0, cells := 0, slots := 0, locals := 0 } : Room).slots) _
  refine go (fun t kt => castTop (ef_rm3 m p0) kt) ?_
  show Go p e below _ (s₁.setTop (mkF m 0 #[.val (.int p0), .unset] []))
  refine go (fun t kt' => by refine XS.iloadN X0.here hx rfl (hb hby d3_0) rfl ?_; exact kt') ?_
  show Go p e below _ (s₁.setTop (mkF m 1 #[.val (.int p0), .unset] [(.int p0)]))
  refine go (fun t kt' => by refine XS.iconst X0.here hx rfl (hb hby d3_1) ?_; exact kt') ?_
  show Go p e below _ (s₁.setTop (mkF m 2 #[.val (.int p0), .unset] [(.int (-1 : Int32)), (.int p0)]))
  refine go (fun t kt' => by refine XS.ixor X0.here hx rfl (hb hby d3_2) rfl ?_; exact kt') ?_
  show Go p e below _ (s₁.setTop (mkF m 3 #[.val (.int p0), .unset] [(.int (p0 ^^^ (-1 : Int32)))]))
  refine go (fun t kt' => by refine XS.iloadN X0.here hx rfl (hb hby d3_3) rfl ?_; exact kt') ?_
  show Go p e below _ (s₁.setTop (mkF m 4 #[.val (.int p0), .unset] [(.int p0), (.int (p0 ^^^ (-1 : Int32)))]))
  refine go (fun t kt' => by refine XS.iconst X0.here hx rfl (hb hby d3_4) ?_; exact kt') ?_
  show Go p e below _ (s₁.setTop (mkF m 5 #[.val (.int p0), .unset] [(.int (1 : Int32)), (.int p0), (.int (p0 ^^^ (-1 : Int32)))]))
  refine go (fun t kt' => by refine XS.isub X0.here hx rfl (hb hby d3_5) rfl ?_; exact kt') ?_
  show Go p e below _ (s₁.setTop (mkF m 6 #[.val (.int p0), .unset] [(.int (p0 - (1 : Int32))), (.int (p0 ^^^ (-1 : Int32)))]))
  refine go (fun t kt' => by refine XS.iand X0.here hx rfl (hb hby d3_6) rfl ?_; exact kt') ?_
  show Go p e below _ (s₁.setTop (mkF m 7 #[.val (.int p0), .unset] [(.int ((p0 ^^^ (-1 : Int32)) &&& (p0 - (1 : Int32))))]))
  refine go (fun t kt' => by refine XS.istoreN X0.here hx rfl (hb hby d3_7) rfl (l' := #[.val (.int ((p0 ^^^ (-1 : Int32)) &&& (p0 - (1 : Int32)))), .unset]) rfl ?_; exact kt') ?_
  show Go p e below _ (s₁.setTop (mkF m 8 #[.val (.int ((p0 ^^^ (-1 : Int32)) &&& (p0 - (1 : Int32)))), .unset] []))
  refine go (fun t kt' => by refine XS.iloadN X0.here hx rfl (hb hby d3_8) rfl ?_; exact kt') ?_
  show Go p e below _ (s₁.setTop (mkF m 9 #[.val (.int ((p0 ^^^ (-1 : Int32)) &&& (p0 - (1 : Int32)))), .unset] [(.int ((p0 ^^^ (-1 : Int32)) &&& (p0 - (1 : Int32))))]))
  by_cases c9_1 : (0 : Int32) < ((p0 ^^^ (-1 : Int32)) &&& (p0 - (1 : Int32)))
  · skip
    refine go (fun t kt' => by refine XS.ifYes X0.here hx rfl (pc0 := 9) (pc' := 17) rfl (hb hby d3_9) rfl ((if0 _ _).trans (tlt c9_1).2.2.1) (by decide) (by decide) ?_; exact kt') ?_
    show Go p e below _ (s₁.setTop (mkF m 17 #[.val (.int ((p0 ^^^ (-1 : Int32)) &&& (p0 - (1 : Int32)))), .unset] []))
    refine go (fun t kt' => by refine XS.iconst X0.here hx rfl (hb hby d3_17) ?_; exact kt') ?_
    show Go p e below _ (s₁.setTop (mkF m 18 #[.val (.int ((p0 ^^^ (-1 : Int32)) &&& (p0 - (1 : Int32)))), .unset] [(.int (1 : Int32))]))
    refine go (fun t kt' => by refine XS.istoreN X0.here hx rfl (hb hby d3_18) rfl (l' := #[.val (.int ((p0 ^^^ (-1 : Int32)) &&& (p0 - (1 : Int32)))), .val (.int (1 : Int32))]) rfl ?_; exact kt') ?_
    show Go p e below _ (s₁.setTop (mkF m 19 #[.val (.int ((p0 ^^^ (-1 : Int32)) &&& (p0 - (1 : Int32)))), .val (.int (1 : Int32))] []))
    refine go (fun t kt' => by refine XS.iloadN X0.here hx rfl (hb hby d3_19) rfl ?_; exact kt') ?_
    show Go p e below _ (s₁.setTop (mkF m 20 #[.val (.int ((p0 ^^^ (-1 : Int32)) &&& (p0 - (1 : Int32)))), .val (.int (1 : Int32))] [(.int ((p0 ^^^ (-1 : Int32)) &&& (p0 - (1 : Int32))))]))
    refine go (fun t kt' => by refine X0.ldcWI hx hown (mvT hZ (hw _ (List.mem_of_getElem? (i := 18) rfl))) rfl (hb hby d3_20) ?_; exact kt') ?_
    show Go p e below _ (s₁.setTop (mkF m 23 #[.val (.int ((p0 ^^^ (-1 : Int32)) &&& (p0 - (1 : Int32)))), .val (.int (1 : Int32))] [(.int (65536 : Int32)), (.int ((p0 ^^^ (-1 : Int32)) &&& (p0 - (1 : Int32))))]))
    by_cases c23_2 : ¬ (65536 : Int32) < ((p0 ^^^ (-1 : Int32)) &&& (p0 - (1 : Int32)))
    · skip
      refine go (fun t kt' => by refine XS.icmpYes X0.here hx rfl (pc0 := 23) (pc' := 34) rfl (hb hby d3_23) rfl (flt c23_2).2.2.2 (by decide) (by decide) ?_; exact kt') ?_
      show Go p e below _ (s₁.setTop (mkF m 34 #[.val (.int ((p0 ^^^ (-1 : Int32)) &&& (p0 - (1 : Int32)))), .val (.int (1 : Int32))] []))
      refine go (fun t kt' => by refine XS.iloadN X0.here hx rfl (hb hby d3_34) rfl ?_; exact kt') ?_
      show Go p e below _ (s₁.setTop (mkF m 35 #[.val (.int ((p0 ^^^ (-1 : Int32)) &&& (p0 - (1 : Int32)))), .val (.int (1 : Int32))] [(.int ((p0 ^^^ (-1 : Int32)) &&& (p0 - (1 : Int32))))]))
      refine go (fun t kt' => by refine XS.sipush X0.here hx rfl (hb hby d3_35) ?_; exact kt') ?_
      show Go p e below _ (s₁.setTop (mkF m 38 #[.val (.int ((p0 ^^^ (-1 : Int32)) &&& (p0 - (1 : Int32)))), .val (.int (1 : Int32))] [(.int (256 : Int32)), (.int ((p0 ^^^ (-1 : Int32)) &&& (p0 - (1 : Int32))))]))
      by_cases c38_3 : ¬ (256 : Int32) < ((p0 ^^^ (-1 : Int32)) &&& (p0 - (1 : Int32)))
      · skip
        refine go (fun t kt' => by refine XS.icmpYes X0.here hx rfl (pc0 := 38) (pc' := 49) rfl (hb hby d3_38) rfl (flt c38_3).2.2.2 (by decide) (by decide) ?_; exact kt') ?_
        show Go p e below _ (s₁.setTop (mkF m 49 #[.val (.int ((p0 ^^^ (-1 : Int32)) &&& (p0 - (1 : Int32)))), .val (.int (1 : Int32))] []))
        refine go (fun t kt' => by refine XS.iloadN X0.here hx rfl (hb hby d3_49) rfl ?_; exact kt') ?_
        show Go p e below _ (s₁.setTop (mkF m 50 #[.val (.int ((p0 ^^^ (-1 : Int32)) &&& (p0 - (1 : Int32)))), .val (.int (1 : Int32))] [(.int ((p0 ^^^ (-1 : Int32)) &&& (p0 - (1 : Int32))))]))
        refine go (fun t kt' => by refine XS.bipush X0.here hx rfl (hb hby d3_50) ?_; exact kt') ?_
        show Go p e below _ (s₁.setTop (mkF m 52 #[.val (.int ((p0 ^^^ (-1 : Int32)) &&& (p0 - (1 : Int32)))), .val (.int (1 : Int32))] [(.int (16 : Int32)), (.int ((p0 ^^^ (-1 : Int32)) &&& (p0 - (1 : Int32))))]))
        by_cases c52_4 : ¬ (16 : Int32) < ((p0 ^^^ (-1 : Int32)) &&& (p0 - (1 : Int32)))
        · skip
          refine go (fun t kt' => by refine XS.icmpYes X0.here hx rfl (pc0 := 52) (pc' := 62) rfl (hb hby d3_52) rfl (flt c52_4).2.2.2 (by decide) (by decide) ?_; exact kt') ?_
          show Go p e below _ (s₁.setTop (mkF m 62 #[.val (.int ((p0 ^^^ (-1 : Int32)) &&& (p0 - (1 : Int32)))), .val (.int (1 : Int32))] []))
          refine go (fun t kt' => by refine XS.iloadN X0.here hx rfl (hb hby d3_62) rfl ?_; exact kt') ?_
          show Go p e below _ (s₁.setTop (mkF m 63 #[.val (.int ((p0 ^^^ (-1 : Int32)) &&& (p0 - (1 : Int32)))), .val (.int (1 : Int32))] [(.int ((p0 ^^^ (-1 : Int32)) &&& (p0 - (1 : Int32))))]))
          refine go (fun t kt' => by refine XS.iconst X0.here hx rfl (hb hby d3_63) ?_; exact kt') ?_
          show Go p e below _ (s₁.setTop (mkF m 64 #[.val (.int ((p0 ^^^ (-1 : Int32)) &&& (p0 - (1 : Int32)))), .val (.int (1 : Int32))] [(.int (4 : Int32)), (.int ((p0 ^^^ (-1 : Int32)) &&& (p0 - (1 : Int32))))]))
          by_cases c64_5 : ¬ (4 : Int32) < ((p0 ^^^ (-1 : Int32)) &&& (p0 - (1 : Int32)))
          · skip
            refine go (fun t kt' => by refine XS.icmpYes X0.here hx rfl (pc0 := 64) (pc' := 74) rfl (hb hby d3_64) rfl (flt c64_5).2.2.2 (by decide) (by decide) ?_; exact kt') ?_
            show Go p e below _ (s₁.setTop (mkF m 74 #[.val (.int ((p0 ^^^ (-1 : Int32)) &&& (p0 - (1 : Int32)))), .val (.int (1 : Int32))] []))
            refine go (fun t kt' => by refine XS.iloadN X0.here hx rfl (hb hby d3_74) rfl ?_; exact kt') ?_
            show Go p e below _ (s₁.setTop (mkF m 75 #[.val (.int ((p0 ^^^ (-1 : Int32)) &&& (p0 - (1 : Int32)))), .val (.int (1 : Int32))] [(.int (1 : Int32))]))
            refine go (fun t kt' => by refine XS.iloadN X0.here hx rfl (hb hby d3_75) rfl ?_; exact kt') ?_
            show Go p e below _ (s₁.setTop (mkF m 76 #[.val (.int ((p0 ^^^ (-1 : Int32)) &&& (p0 - (1 : Int32)))), .val (.int (1 : Int32))] [(.int ((p0 ^^^ (-1 : Int32)) &&& (p0 - (1 : Int32)))), (.int (1 : Int32))]))
            refine go (fun t kt' => by refine XS.iconst X0.here hx rfl (hb hby d3_76) ?_; exact kt') ?_
            show Go p e below _ (s₁.setTop (mkF m 77 #[.val (.int ((p0 ^^^ (-1 : Int32)) &&& (p0 - (1 : Int32)))), .val (.int (1 : Int32))] [(.int (1 : Int32)), (.int ((p0 ^^^ (-1 : Int32)) &&& (p0 - (1 : Int32)))), (.int (1 : Int32))]))
            refine go (fun t kt' => by refine XS.iushr X0.here hx rfl (hb hby d3_77) rfl ?_; exact kt') ?_
            show Go p e below _ (s₁.setTop (mkF m 78 #[.val (.int ((p0 ^^^ (-1 : Int32)) &&& (p0 - (1 : Int32)))), .val (.int (1 : Int32))] [(.int ((((p0 ^^^ (-1 : Int32)) &&& (p0 - (1 : Int32))).toUInt32 >>> ((1 : Int32) &&& 31).toUInt32).toInt32)), (.int (1 : Int32))]))
            refine go (fun t kt' => by refine XS.iadd X0.here hx rfl (hb hby d3_78) rfl ?_; exact kt') ?_
            show Go p e below _ (s₁.setTop (mkF m 79 #[.val (.int ((p0 ^^^ (-1 : Int32)) &&& (p0 - (1 : Int32)))), .val (.int (1 : Int32))] [(.int ((1 : Int32) + ((((p0 ^^^ (-1 : Int32)) &&& (p0 - (1 : Int32))).toUInt32 >>> ((1 : Int32) &&& 31).toUInt32).toInt32)))]))
            refine goOut X0 (fun h => by rw [Bd.returns] at h; cases h) hlk (fun fs hr => retOut X0 hx Bd.returns rfl (Or.inl ⟨rfl, Or.inl rfl, _, rfl⟩) (hb hby d3_79) hr) (by decide) (by decide) ?_
            rw [e0]
            exact ⟨_, rfl, fun k hk => by rw [hk] at c9_1 c23_2 c38_3 c52_4 c64_5 ⊢; clear hk; revert c9_1 c23_2 c38_3 c52_4 c64_5; revert k; decide +kernel, N0, rfl⟩
          · skip
            refine go (fun t kt' => by refine XS.icmpNo X0.here hx rfl (hb hby d3_64) rfl (tlt (Decidable.not_not.mp c64_5)).2.2.2 ?_; exact kt') ?_
            show Go p e below _ (s₁.setTop (mkF m 67 #[.val (.int ((p0 ^^^ (-1 : Int32)) &&& (p0 - (1 : Int32)))), .val (.int (1 : Int32))] []))
            refine go (fun t kt' => by refine XS.iinc X0.here hx rfl (hb hby d3_67) rfl (l' := #[.val (.int ((p0 ^^^ (-1 : Int32)) &&& (p0 - (1 : Int32)))), .val (.int ((1 : Int32) + (2 : Int32)))]) rfl ?_; exact kt') ?_
            show Go p e below _ (s₁.setTop (mkF m 70 #[.val (.int ((p0 ^^^ (-1 : Int32)) &&& (p0 - (1 : Int32)))), .val (.int ((1 : Int32) + (2 : Int32)))] []))
            refine go (fun t kt' => by refine XS.iloadN X0.here hx rfl (hb hby d3_70) rfl ?_; exact kt') ?_
            show Go p e below _ (s₁.setTop (mkF m 71 #[.val (.int ((p0 ^^^ (-1 : Int32)) &&& (p0 - (1 : Int32)))), .val (.int ((1 : Int32) + (2 : Int32)))] [(.int ((p0 ^^^ (-1 : Int32)) &&& (p0 - (1 : Int32))))]))
            refine go (fun t kt' => by refine XS.iconst X0.here hx rfl (hb hby d3_71) ?_; exact kt') ?_
            show Go p e below _ (s₁.setTop (mkF m 72 #[.val (.int ((p0 ^^^ (-1 : Int32)) &&& (p0 - (1 : Int32)))), .val (.int ((1 : Int32) + (2 : Int32)))] [(.int (2 : Int32)), (.int ((p0 ^^^ (-1 : Int32)) &&& (p0 - (1 : Int32))))]))
            refine go (fun t kt' => by refine XS.iushr X0.here hx rfl (hb hby d3_72) rfl ?_; exact kt') ?_
            show Go p e below _ (s₁.setTop (mkF m 73 #[.val (.int ((p0 ^^^ (-1 : Int32)) &&& (p0 - (1 : Int32)))), .val (.int ((1 : Int32) + (2 : Int32)))] [(.int ((((p0 ^^^ (-1 : Int32)) &&& (p0 - (1 : Int32))).toUInt32 >>> ((2 : Int32) &&& 31).toUInt32).toInt32))]))
            refine go (fun t kt' => by refine XS.istoreN X0.here hx rfl (hb hby d3_73) rfl (l' := #[.val (.int ((((p0 ^^^ (-1 : Int32)) &&& (p0 - (1 : Int32))).toUInt32 >>> ((2 : Int32) &&& 31).toUInt32).toInt32)), .val (.int ((1 : Int32) + (2 : Int32)))]) rfl ?_; exact kt') ?_
            show Go p e below _ (s₁.setTop (mkF m 74 #[.val (.int ((((p0 ^^^ (-1 : Int32)) &&& (p0 - (1 : Int32))).toUInt32 >>> ((2 : Int32) &&& 31).toUInt32).toInt32)), .val (.int ((1 : Int32) + (2 : Int32)))] []))
            refine go (fun t kt' => by refine XS.iloadN X0.here hx rfl (hb hby d3_74) rfl ?_; exact kt') ?_
            show Go p e below _ (s₁.setTop (mkF m 75 #[.val (.int ((((p0 ^^^ (-1 : Int32)) &&& (p0 - (1 : Int32))).toUInt32 >>> ((2 : Int32) &&& 31).toUInt32).toInt32)), .val (.int ((1 : Int32) + (2 : Int32)))] [(.int ((1 : Int32) + (2 : Int32)))]))
            refine go (fun t kt' => by refine XS.iloadN X0.here hx rfl (hb hby d3_75) rfl ?_; exact kt') ?_
            show Go p e below _ (s₁.setTop (mkF m 76 #[.val (.int ((((p0 ^^^ (-1 : Int32)) &&& (p0 - (1 : Int32))).toUInt32 >>> ((2 : Int32) &&& 31).toUInt32).toInt32)), .val (.int ((1 : Int32) + (2 : Int32)))] [(.int ((((p0 ^^^ (-1 : Int32)) &&& (p0 - (1 : Int32))).toUInt32 >>> ((2 : Int32) &&& 31).toUInt32).toInt32)), (.int ((1 : Int32) + (2 : Int32)))]))
            refine go (fun t kt' => by refine XS.iconst X0.here hx rfl (hb hby d3_76) ?_; exact kt') ?_
            show Go p e below _ (s₁.setTop (mkF m 77 #[.val (.int ((((p0 ^^^ (-1 : Int32)) &&& (p0 - (1 : Int32))).toUInt32 >>> ((2 : Int32) &&& 31).toUInt32).toInt32)), .val (.int ((1 : Int32) + (2 : Int32)))] [(.int (1 : Int32)), (.int ((((p0 ^^^ (-1 : Int32)) &&& (p0 - (1 : Int32))).toUInt32 >>> ((2 : Int32) &&& 31).toUInt32).toInt32)), (.int ((1 : Int32) + (2 : Int32)))]))
            refine go (fun t kt' => by refine XS.iushr X0.here hx rfl (hb hby d3_77) rfl ?_; exact kt') ?_
            show Go p e below _ (s₁.setTop (mkF m 78 #[.val (.int ((((p0 ^^^ (-1 : Int32)) &&& (p0 - (1 : Int32))).toUInt32 >>> ((2 : Int32) &&& 31).toUInt32).toInt32)), .val (.int ((1 : Int32) + (2 : Int32)))] [(.int ((((((p0 ^^^ (-1 : Int32)) &&& (p0 - (1 : Int32))).toUInt32 >>> ((2 : Int32) &&& 31).toUInt32).toInt32).toUInt32 >>> ((1 : Int32) &&& 31).toUInt32).toInt32)), (.int ((1 : Int32) + (2 : Int32)))]))
            refine go (fun t kt' => by refine XS.iadd X0.here hx rfl (hb hby d3_78) rfl ?_; exact kt') ?_
            show Go p e below _ (s₁.setTop (mkF m 79 #[.val (.int ((((p0 ^^^ (-1 : Int32)) &&& (p0 - (1 : Int32))).toUInt32 >>> ((2 : Int32) &&& 31).toUInt32).toInt32)), .val (.int ((1 : Int32) + (2 : Int32)))] [(.int (((1 : Int32) + (2 : Int32)) + ((((((p0 ^^^ (-1 : Int32)) &&& (p0 - (1 : Int32))).toUInt32 >>> ((2 : Int32) &&& 31).toUInt32).toInt32).toUInt32 >>> ((1 : Int32) &&& 31).toUInt32).toInt32)))]))
            refine goOut X0 (fun h => by rw [Bd.returns] at h; cases h) hlk (fun fs hr => retOut X0 hx Bd.returns rfl (Or.inl ⟨rfl, Or.inl rfl, _, rfl⟩) (hb hby d3_79) hr) (by decide) (by decide) ?_
            rw [e0]
            exact ⟨_, rfl, fun k hk => by rw [hk] at c9_1 c23_2 c38_3 c52_4 c64_5 ⊢; clear hk; revert c9_1 c23_2 c38_3 c52_4 c64_5; revert k; decide +kernel, N0, rfl⟩
        · skip
          refine go (fun t kt' => by refine XS.icmpNo X0.here hx rfl (hb hby d3_52) rfl (tlt (Decidable.not_not.mp c52_4)).2.2.2 ?_; exact kt') ?_
          show Go p e below _ (s₁.setTop (mkF m 55 #[.val (.int ((p0 ^^^ (-1 : Int32)) &&& (p0 - (1 : Int32)))), .val (.int (1 : Int32))] []))
          refine go (fun t kt' => by refine XS.iinc X0.here hx rfl (hb hby d3_55) rfl (l' := #[.val (.int ((p0 ^^^ (-1 : Int32)) &&& (p0 - (1 : Int32)))), .val (.int ((1 : Int32) + (4 : Int32)))]) rfl ?_; exact kt') ?_
          show Go p e below _ (s₁.setTop (mkF m 58 #[.val (.int ((p0 ^^^ (-1 : Int32)) &&& (p0 - (1 : Int32)))), .val (.int ((1 : Int32) + (4 : Int32)))] []))
          refine go (fun t kt' => by refine XS.iloadN X0.here hx rfl (hb hby d3_58) rfl ?_; exact kt') ?_
          show Go p e below _ (s₁.setTop (mkF m 59 #[.val (.int ((p0 ^^^ (-1 : Int32)) &&& (p0 - (1 : Int32)))), .val (.int ((1 : Int32) + (4 : Int32)))] [(.int ((p0 ^^^ (-1 : Int32)) &&& (p0 - (1 : Int32))))]))
          refine go (fun t kt' => by refine XS.iconst X0.here hx rfl (hb hby d3_59) ?_; exact kt') ?_
          show Go p e below _ (s₁.setTop (mkF m 60 #[.val (.int ((p0 ^^^ (-1 : Int32)) &&& (p0 - (1 : Int32)))), .val (.int ((1 : Int32) + (4 : Int32)))] [(.int (4 : Int32)), (.int ((p0 ^^^ (-1 : Int32)) &&& (p0 - (1 : Int32))))]))
          refine go (fun t kt' => by refine XS.iushr X0.here hx rfl (hb hby d3_60) rfl ?_; exact kt') ?_
          show Go p e below _ (s₁.setTop (mkF m 61 #[.val (.int ((p0 ^^^ (-1 : Int32)) &&& (p0 - (1 : Int32)))), .val (.int ((1 : Int32) + (4 : Int32)))] [(.int ((((p0 ^^^ (-1 : Int32)) &&& (p0 - (1 : Int32))).toUInt32 >>> ((4 : Int32) &&& 31).toUInt32).toInt32))]))
          refine go (fun t kt' => by refine XS.istoreN X0.here hx rfl (hb hby d3_61) rfl (l' := #[.val (.int ((((p0 ^^^ (-1 : Int32)) &&& (p0 - (1 : Int32))).toUInt32 >>> ((4 : Int32) &&& 31).toUInt32).toInt32)), .val (.int ((1 : Int32) + (4 : Int32)))]) rfl ?_; exact kt') ?_
          show Go p e below _ (s₁.setTop (mkF m 62 #[.val (.int ((((p0 ^^^ (-1 : Int32)) &&& (p0 - (1 : Int32))).toUInt32 >>> ((4 : Int32) &&& 31).toUInt32).toInt32)), .val (.int ((1 : Int32) + (4 : Int32)))] []))
          refine go (fun t kt' => by refine XS.iloadN X0.here hx rfl (hb hby d3_62) rfl ?_; exact kt') ?_
          show Go p e below _ (s₁.setTop (mkF m 63 #[.val (.int ((((p0 ^^^ (-1 : Int32)) &&& (p0 - (1 : Int32))).toUInt32 >>> ((4 : Int32) &&& 31).toUInt32).toInt32)), .val (.int ((1 : Int32) + (4 : Int32)))] [(.int ((((p0 ^^^ (-1 : Int32)) &&& (p0 - (1 : Int32))).toUInt32 >>> ((4 : Int32) &&& 31).toUInt32).toInt32))]))
          refine go (fun t kt' => by refine XS.iconst X0.here hx rfl (hb hby d3_63) ?_; exact kt') ?_
          show Go p e below _ (s₁.setTop (mkF m 64 #[.val (.int ((((p0 ^^^ (-1 : Int32)) &&& (p0 - (1 : Int32))).toUInt32 >>> ((4 : Int32) &&& 31).toUInt32).toInt32)), .val (.int ((1 : Int32) + (4 : Int32)))] [(.int (4 : Int32)), (.int ((((p0 ^^^ (-1 : Int32)) &&& (p0 - (1 : Int32))).toUInt32 >>> ((4 : Int32) &&& 31).toUInt32).toInt32))]))
          by_cases c64_6 : ¬ (4 : Int32) < ((((p0 ^^^ (-1 : Int32)) &&& (p0 - (1 : Int32))).toUInt32 >>> ((4 : Int32) &&& 31).toUInt32).toInt32)
          · skip
            refine go (fun t kt' => by refine XS.icmpYes X0.here hx rfl (pc0 := 64) (pc' := 74) rfl (hb hby d3_64) rfl (flt c64_6).2.2.2 (by decide) (by decide) ?_; exact kt') ?_
            show Go p e below _ (s₁.setTop (mkF m 74 #[.val (.int ((((p0 ^^^ (-1 : Int32)) &&& (p0 - (1 : Int32))).toUInt32 >>> ((4 : Int32) &&& 31).toUInt32).toInt32)), .val (.int ((1 : Int32) + (4 : Int32)))] []))
            refine go (fun t kt' => by refine XS.iloadN X0.here hx rfl (hb hby d3_74) rfl ?_; exact kt') ?_
            show Go p e below _ (s₁.setTop (mkF m 75 #[.val (.int ((((p0 ^^^ (-1 : Int32)) &&& (p0 - (1 : Int32))).toUInt32 >>> ((4 : Int32) &&& 31).toUInt32).toInt32)), .val (.int ((1 : Int32) + (4 : Int32)))] [(.int ((1 : Int32) + (4 : Int32)))]))
            refine go (fun t kt' => by refine XS.iloadN X0.here hx rfl (hb hby d3_75) rfl ?_; exact kt') ?_
            show Go p e below _ (s₁.setTop (mkF m 76 #[.val (.int ((((p0 ^^^ (-1 : Int32)) &&& (p0 - (1 : Int32))).toUInt32 >>> ((4 : Int32) &&& 31).toUInt32).toInt32)), .val (.int ((1 : Int32) + (4 : Int32)))] [(.int ((((p0 ^^^ (-1 : Int32)) &&& (p0 - (1 : Int32))).toUInt32 >>> ((4 : Int32) &&& 31).toUInt32).toInt32)), (.int ((1 : Int32) + (4 : Int32)))]))
            refine go (fun t kt' => by refine XS.iconst X0.here hx rfl (hb hby d3_76) ?_; exact kt') ?_
            show Go p e below _ (s₁.setTop (mkF m 77 #[.val (.int ((((p0 ^^^ (-1 : Int32)) &&& (p0 - (1 : Int32))).toUInt32 >>> ((4 : Int32) &&& 31).toUInt32).toInt32)), .val (.int ((1 : Int32) + (4 : Int32)))] [(.int (1 : Int32)), (.int ((((p0 ^^^ (-1 : Int32)) &&& (p0 - (1 : Int32))).toUInt32 >>> ((4 : Int32) &&& 31).toUInt32).toInt32)), (.int ((1 : Int32) + (4 : Int32)))]))
            refine go (fun t kt' => by refine XS.iushr X0.here hx rfl (hb hby d3_77) rfl ?_; exact kt') ?_
            show Go p e below _ (s₁.setTop (mkF m 78 #[.val (.int ((((p0 ^^^ (-1 : Int32)) &&& (p0 - (1 : Int32))).toUInt32 >>> ((4 : Int32) &&& 31).toUInt32).toInt32)), .val (.int ((1 : Int32) + (4 : Int32)))] [(.int ((((((p0 ^^^ (-1 : Int32)) &&& (p0 - (1 : Int32))).toUInt32 >>> ((4 : Int32) &&& 31).toUInt32).toInt32).toUInt32 >>> ((1 : Int32) &&& 31).toUInt32).toInt32)), (.int ((1 : Int32) + (4 : Int32)))]))
            refine go (fun t kt' => by refine XS.iadd X0.here hx rfl (hb hby d3_78) rfl ?_; exact kt') ?_
            show Go p e below _ (s₁.setTop (mkF m 79 #[.val (.int ((((p0 ^^^ (-1 : Int32)) &&& (p0 - (1 : Int32))).toUInt32 >>> ((4 : Int32) &&& 31).toUInt32).toInt32)), .val (.int ((1 : Int32) + (4 : Int32)))] [(.int (((1 : Int32) + (4 : Int32)) + ((((((p0 ^^^ (-1 : Int32)) &&& (p0 - (1 : Int32))).toUInt32 >>> ((4 : Int32) &&& 31).toUInt32).toInt32).toUInt32 >>> ((1 : Int32) &&& 31).toUInt32).toInt32)))]))
            refine goOut X0 (fun h => by rw [Bd.returns] at h; cases h) hlk (fun fs hr => retOut X0 hx Bd.returns rfl (Or.inl ⟨rfl, Or.inl rfl, _, rfl⟩) (hb hby d3_79) hr) (by decide) (by decide) ?_
            rw [e0]
            exact ⟨_, rfl, fun k hk => by rw [hk] at c9_1 c23_2 c38_3 c52_4 c64_6 ⊢; clear hk; revert c9_1 c23_2 c38_3 c52_4 c64_6; revert k; decide +kernel, N0, rfl⟩
          · skip
            refine go (fun t kt' => by refine XS.icmpNo X0.here hx rfl (hb hby d3_64) rfl (tlt (Decidable.not_not.mp c64_6)).2.2.2 ?_; exact kt') ?_
            show Go p e below _ (s₁.setTop (mkF m 67 #[.val (.int ((((p0 ^^^ (-1 : Int32)) &&& (p0 - (1 : Int32))).toUInt32 >>> ((4 : Int32) &&& 31).toUInt32).toInt32)), .val (.int ((1 : Int32) + (4 : Int32)))] []))
            refine go (fun t kt' => by refine XS.iinc X0.here hx rfl (hb hby d3_67) rfl (l' := #[.val (.int ((((p0 ^^^ (-1 : Int32)) &&& (p0 - (1 : Int32))).toUInt32 >>> ((4 : Int32) &&& 31).toUInt32).toInt32)), .val (.int (((1 : Int32) + (4 : Int32)) + (2 : Int32)))]) rfl ?_; exact kt') ?_
            show Go p e below _ (s₁.setTop (mkF m 70 #[.val (.int ((((p0 ^^^ (-1 : Int32)) &&& (p0 - (1 : Int32))).toUInt32 >>> ((4 : Int32) &&& 31).toUInt32).toInt32)), .val (.int (((1 : Int32) + (4 : Int32)) + (2 : Int32)))] []))
            refine go (fun t kt' => by refine XS.iloadN X0.here hx rfl (hb hby d3_70) rfl ?_; exact kt') ?_
            show Go p e below _ (s₁.setTop (mkF m 71 #[.val (.int ((((p0 ^^^ (-1 : Int32)) &&& (p0 - (1 : Int32))).toUInt32 >>> ((4 : Int32) &&& 31).toUInt32).toInt32)), .val (.int (((1 : Int32) + (4 : Int32)) + (2 : Int32)))] [(.int ((((p0 ^^^ (-1 : Int32)) &&& (p0 - (1 : Int32))).toUInt32 >>> ((4 : Int32) &&& 31).toUInt32).toInt32))]))
            refine go (fun t kt' => by refine XS.iconst X0.here hx rfl (hb hby d3_71) ?_; exact kt') ?_
            show Go p e below _ (s₁.setTop (mkF m 72 #[.val (.int ((((p0 ^^^ (-1 : Int32)) &&& (p0 - (1 : Int32))).toUInt32 >>> ((4 : Int32) &&& 31).toUInt32).toInt32)), .val (.int (((1 : Int32) + (4 : Int32)) + (2 : Int32)))] [(.int (2 : Int32)), (.int ((((p0 ^^^ (-1 : Int32)) &&& (p0 - (1 : Int32))).toUInt32 >>> ((4 : Int32) &&& 31).toUInt32).toInt32))]))
            refine go (fun t kt' => by refine XS.iushr X0.here hx rfl (hb hby d3_72) rfl ?_; exact kt') ?_
            show Go p e below _ (s₁.setTop (mkF m 73 #[.val (.int ((((p0 ^^^ (-1 : Int32)) &&& (p0 - (1 : Int32))).toUInt32 >>> ((4 : Int32) &&& 31).toUInt32).toInt32)), .val (.int (((1 : Int32) + (4 : Int32)) + (2 : Int32)))] [(.int ((((((p0 ^^^ (-1 : Int32)) &&& (p0 - (1 : Int32))).toUInt32 >>> ((4 : Int32) &&& 31).toUInt32).toInt32).toUInt32 >>> ((2 : Int32) &&& 31).toUInt32).toInt32))]))
            refine go (fun t kt' => by refine XS.istoreN X0.here hx rfl (hb hby d3_73) rfl (l' := #[.val (.int ((((((p0 ^^^ (-1 : Int32)) &&& (p0 - (1 : Int32))).toUInt32 >>> ((4 : Int32) &&& 31).toUInt32).toInt32).toUInt32 >>> ((2 : Int32) &&& 31).toUInt32).toInt32)), .val (.int (((1 : Int32) + (4 : Int32)) + (2 : Int32)))]) rfl ?_; exact kt') ?_
            show Go p e below _ (s₁.setTop (mkF m 74 #[.val (.int ((((((p0 ^^^ (-1 : Int32)) &&& (p0 - (1 : Int32))).toUInt32 >>> ((4 : Int32) &&& 31).toUInt32).toInt32).toUInt32 >>> ((2 : Int32) &&& 31).toUInt32).toInt32)), .val (.int (((1 : Int32) + (4 : Int32)) + (2 : Int32)))] []))
            refine go (fun t kt' => by refine XS.iloadN X0.here hx rfl (hb hby d3_74) rfl ?_; exact kt') ?_
            show Go p e below _ (s₁.setTop (mkF m 75 #[.val (.int ((((((p0 ^^^ (-1 : Int32)) &&& (p0 - (1 : Int32))).toUInt32 >>> ((4 : Int32) &&& 31).toUInt32).toInt32).toUInt32 >>> ((2 : Int32) &&& 31).toUInt32).toInt32)), .val (.int (((1 : Int32) + (4 : Int32)) + (2 : Int32)))] [(.int (((1 : Int32) + (4 : Int32)) + (2 : Int32)))]))
            refine go (fun t kt' => by refine XS.iloadN X0.here hx rfl (hb hby d3_75) rfl ?_; exact kt') ?_
            show Go p e below _ (s₁.setTop (mkF m 76 #[.val (.int ((((((p0 ^^^ (-1 : Int32)) &&& (p0 - (1 : Int32))).toUInt32 >>> ((4 : Int32) &&& 31).toUInt32).toInt32).toUInt32 >>> ((2 : Int32) &&& 31).toUInt32).toInt32)), .val (.int (((1 : Int32) + (4 : Int32)) + (2 : Int32)))] [(.int ((((((p0 ^^^ (-1 : Int32)) &&& (p0 - (1 : Int32))).toUInt32 >>> ((4 : Int32) &&& 31).toUInt32).toInt32).toUInt32 >>> ((2 : Int32) &&& 31).toUInt32).toInt32)), (.int (((1 : Int32) + (4 : Int32)) + (2 : Int32)))]))
            refine go (fun t kt' => by refine XS.iconst X0.here hx rfl (hb hby d3_76) ?_; exact kt') ?_
            show Go p e below _ (s₁.setTop (mkF m 77 #[.val (.int ((((((p0 ^^^ (-1 : Int32)) &&& (p0 - (1 : Int32))).toUInt32 >>> ((4 : Int32) &&& 31).toUInt32).toInt32).toUInt32 >>> ((2 : Int32) &&& 31).toUInt32).toInt32)), .val (.int (((1 : Int32) + (4 : Int32)) + (2 : Int32)))] [(.int (1 : Int32)), (.int ((((((p0 ^^^ (-1 : Int32)) &&& (p0 - (1 : Int32))).toUInt32 >>> ((4 : Int32) &&& 31).toUInt32).toInt32).toUInt32 >>> ((2 : Int32) &&& 31).toUInt32).toInt32)), (.int (((1 : Int32) + (4 : Int32)) + (2 : Int32)))]))
            refine go (fun t kt' => by refine XS.iushr X0.here hx rfl (hb hby d3_77) rfl ?_; exact kt') ?_
            show Go p e below _ (s₁.setTop (mkF m 78 #[.val (.int ((((((p0 ^^^ (-1 : Int32)) &&& (p0 - (1 : Int32))).toUInt32 >>> ((4 : Int32) &&& 31).toUInt32).toInt32).toUInt32 >>> ((2 : Int32) &&& 31).toUInt32).toInt32)), .val (.int (((1 : Int32) + (4 : Int32)) + (2 : Int32)))] [(.int ((((((((p0 ^^^ (-1 : Int32)) &&& (p0 - (1 : Int32))).toUInt32 >>> ((4 : Int32) &&& 31).toUInt32).toInt32).toUInt32 >>> ((2 : Int32) &&& 31).toUInt32).toInt32).toUInt32 >>> ((1 : Int32) &&& 31).toUInt32).toInt32)), (.int (((1 : Int32) + (4 : Int32)) + (2 : Int32)))]))
            refine go (fun t kt' => by refine XS.iadd X0.here hx rfl (hb hby d3_78) rfl ?_; exact kt') ?_
            show Go p e below _ (s₁.setTop (mkF m 79 #[.val (.int ((((((p0 ^^^ (-1 : Int32)) &&& (p0 - (1 : Int32))).toUInt32 >>> ((4 : Int32) &&& 31).toUInt32).toInt32).toUInt32 >>> ((2 : Int32) &&& 31).toUInt32).toInt32)), .val (.int (((1 : Int32) + (4 : Int32)) + (2 : Int32)))] [(.int ((((1 : Int32) + (4 : Int32)) + (2 : Int32)) + ((((((((p0 ^^^ (-1 : Int32)) &&& (p0 - (1 : Int32))).toUInt32 >>> ((4 : Int32) &&& 31).toUInt32).toInt32).toUInt32 >>> ((2 : Int32) &&& 31).toUInt32).toInt32).toUInt32 >>> ((1 : Int32) &&& 31).toUInt32).toInt32)))]))
            refine goOut X0 (fun h => by rw [Bd.returns] at h; cases h) hlk (fun fs hr => retOut X0 hx Bd.returns rfl (Or.inl ⟨rfl, Or.inl rfl, _, rfl⟩) (hb hby d3_79) hr) (by decide) (by decide) ?_
            rw [e0]
            exact ⟨_, rfl, fun k hk => by rw [hk] at c9_1 c23_2 c38_3 c52_4 c64_6 ⊢; clear hk; revert c9_1 c23_2 c38_3 c52_4 c64_6; revert k; decide +kernel, N0, rfl⟩
      · skip
        refine go (fun t kt' => by refine XS.icmpNo X0.here hx rfl (hb hby d3_38) rfl (tlt (Decidable.not_not.mp c38_3)).2.2.2 ?_; exact kt') ?_
        show Go p e below _ (s₁.setTop (mkF m 41 #[.val (.int ((p0 ^^^ (-1 : Int32)) &&& (p0 - (1 : Int32)))), .val (.int (1 : Int32))] []))
        refine go (fun t kt' => by refine XS.iinc X0.here hx rfl (hb hby d3_41) rfl (l' := #[.val (.int ((p0 ^^^ (-1 : Int32)) &&& (p0 - (1 : Int32)))), .val (.int ((1 : Int32) + (8 : Int32)))]) rfl ?_; exact kt') ?_
        show Go p e below _ (s₁.setTop (mkF m 44 #[.val (.int ((p0 ^^^ (-1 : Int32)) &&& (p0 - (1 : Int32)))), .val (.int ((1 : Int32) + (8 : Int32)))] []))
        refine go (fun t kt' => by refine XS.iloadN X0.here hx rfl (hb hby d3_44) rfl ?_; exact kt') ?_
        show Go p e below _ (s₁.setTop (mkF m 45 #[.val (.int ((p0 ^^^ (-1 : Int32)) &&& (p0 - (1 : Int32)))), .val (.int ((1 : Int32) + (8 : Int32)))] [(.int ((p0 ^^^ (-1 : Int32)) &&& (p0 - (1 : Int32))))]))
        refine go (fun t kt' => by refine XS.bipush X0.here hx rfl (hb hby d3_45) ?_; exact kt') ?_
        show Go p e below _ (s₁.setTop (mkF m 47 #[.val (.int ((p0 ^^^ (-1 : Int32)) &&& (p0 - (1 : Int32)))), .val (.int ((1 : Int32) + (8 : Int32)))] [(.int (8 : Int32)), (.int ((p0 ^^^ (-1 : Int32)) &&& (p0 - (1 : Int32))))]))
        refine go (fun t kt' => by refine XS.iushr X0.here hx rfl (hb hby d3_47) rfl ?_; exact kt') ?_
        show Go p e below _ (s₁.setTop (mkF m 48 #[.val (.int ((p0 ^^^ (-1 : Int32)) &&& (p0 - (1 : Int32)))), .val (.int ((1 : Int32) + (8 : Int32)))] [(.int ((((p0 ^^^ (-1 : Int32)) &&& (p0 - (1 : Int32))).toUInt32 >>> ((8 : Int32) &&& 31).toUInt32).toInt32))]))
        refine go (fun t kt' => by refine XS.istoreN X0.here hx rfl (hb hby d3_48) rfl (l' := #[.val (.int ((((p0 ^^^ (-1 : Int32)) &&& (p0 - (1 : Int32))).toUInt32 >>> ((8 : Int32) &&& 31).toUInt32).toInt32)), .val (.int ((1 : Int32) + (8 : Int32)))]) rfl ?_; exact kt') ?_
        show Go p e below _ (s₁.setTop (mkF m 49 #[.val (.int ((((p0 ^^^ (-1 : Int32)) &&& (p0 - (1 : Int32))).toUInt32 >>> ((8 : Int32) &&& 31).toUInt32).toInt32)), .val (.int ((1 : Int32) + (8 : Int32)))] []))
        refine go (fun t kt' => by refine XS.iloadN X0.here hx rfl (hb hby d3_49) rfl ?_; exact kt') ?_
        show Go p e below _ (s₁.setTop (mkF m 50 #[.val (.int ((((p0 ^^^ (-1 : Int32)) &&& (p0 - (1 : Int32))).toUInt32 >>> ((8 : Int32) &&& 31).toUInt32).toInt32)), .val (.int ((1 : Int32) + (8 : Int32)))] [(.int ((((p0 ^^^ (-1 : Int32)) &&& (p0 - (1 : Int32))).toUInt32 >>> ((8 : Int32) &&& 31).toUInt32).toInt32))]))
        refine go (fun t kt' => by refine XS.bipush X0.here hx rfl (hb hby d3_50) ?_; exact kt') ?_
        show Go p e below _ (s₁.setTop (mkF m 52 #[.val (.int ((((p0 ^^^ (-1 : Int32)) &&& (p0 - (1 : Int32))).toUInt32 >>> ((8 : Int32) &&& 31).toUInt32).toInt32)), .val (.int ((1 : Int32) + (8 : Int32)))] [(.int (16 : Int32)), (.int ((((p0 ^^^ (-1 : Int32)) &&& (p0 - (1 : Int32))).toUInt32 >>> ((8 : Int32) &&& 31).toUInt32).toInt32))]))
        by_cases c52_7 : ¬ (16 : Int32) < ((((p0 ^^^ (-1 : Int32)) &&& (p0 - (1 : Int32))).toUInt32 >>> ((8 : Int32) &&& 31).toUInt32).toInt32)
        · skip
          refine go (fun t kt' => by refine XS.icmpYes X0.here hx rfl (pc0 := 52) (pc' := 62) rfl (hb hby d3_52) rfl (flt c52_7).2.2.2 (by decide) (by decide) ?_; exact kt') ?_
          show Go p e below _ (s₁.setTop (mkF m 62 #[.val (.int ((((p0 ^^^ (-1 : Int32)) &&& (p0 - (1 : Int32))).toUInt32 >>> ((8 : Int32) &&& 31).toUInt32).toInt32)), .val (.int ((1 : Int32) + (8 : Int32)))] []))
          refine go (fun t kt' => by refine XS.iloadN X0.here hx rfl (hb hby d3_62) rfl ?_; exact kt') ?_
          show Go p e below _ (s₁.setTop (mkF m 63 #[.val (.int ((((p0 ^^^ (-1 : Int32)) &&& (p0 - (1 : Int32))).toUInt32 >>> ((8 : Int32) &&& 31).toUInt32).toInt32)), .val (.int ((1 : Int32) + (8 : Int32)))] [(.int ((((p0 ^^^ (-1 : Int32)) &&& (p0 - (1 : Int32))).toUInt32 >>> ((8 : Int32) &&& 31).toUInt32).toInt32))]))
          refine go (fun t kt' => by refine XS.iconst X0.here hx rfl (hb hby d3_63) ?_; exact kt') ?_
          show Go p e below _ (s₁.setTop (mkF m 64 #[.val (.int ((((p0 ^^^ (-1 : Int32)) &&& (p0 - (1 : Int32))).toUInt32 >>> ((8 : Int32) &&& 31).toUInt32).toInt32)), .val (.int ((1 : Int32) + (8 : Int32)))] [(.int (4 : Int32)), (.int ((((p0 ^^^ (-1 : Int32)) &&& (p0 - (1 : Int32))).toUInt32 >>> ((8 : Int32) &&& 31).toUInt32).toInt32))]))
          by_cases c64_8 : ¬ (4 : Int32) < ((((p0 ^^^ (-1 : Int32)) &&& (p0 - (1 : Int32))).toUInt32 >>> ((8 : Int32) &&& 31).toUInt32).toInt32)
          · skip
            refine go (fun t kt' => by refine XS.icmpYes X0.here hx rfl (pc0 := 64) (pc' := 74) rfl (hb hby d3_64) rfl (flt c64_8).2.2.2 (by decide) (by decide) ?_; exact kt') ?_
            show Go p e below _ (s₁.setTop (mkF m 74 #[.val (.int ((((p0 ^^^ (-1 : Int32)) &&& (p0 - (1 : Int32))).toUInt32 >>> ((8 : Int32) &&& 31).toUInt32).toInt32)), .val (.int ((1 : Int32) + (8 : Int32)))] []))
            refine go (fun t kt' => by refine XS.iloadN X0.here hx rfl (hb hby d3_74) rfl ?_; exact kt') ?_
            show Go p e below _ (s₁.setTop (mkF m 75 #[.val (.int ((((p0 ^^^ (-1 : Int32)) &&& (p0 - (1 : Int32))).toUInt32 >>> ((8 : Int32) &&& 31).toUInt32).toInt32)), .val (.int ((1 : Int32) + (8 : Int32)))] [(.int ((1 : Int32) + (8 : Int32)))]))
            refine go (fun t kt' => by refine XS.iloadN X0.here hx rfl (hb hby d3_75) rfl ?_; exact kt') ?_
            show Go p e below _ (s₁.setTop (mkF m 76 #[.val (.int ((((p0 ^^^ (-1 : Int32)) &&& (p0 - (1 : Int32))).toUInt32 >>> ((8 : Int32) &&& 31).toUInt32).toInt32)), .val (.int ((1 : Int32) + (8 : Int32)))] [(.int ((((p0 ^^^ (-1 : Int32)) &&& (p0 - (1 : Int32))).toUInt32 >>> ((8 : Int32) &&& 31).toUInt32).toInt32)), (.int ((1 : Int32) + (8 : Int32)))]))
            refine go (fun t kt' => by refine XS.iconst X0.here hx rfl (hb hby d3_76) ?_; exact kt') ?_
            show Go p e below _ (s₁.setTop (mkF m 77 #[.val (.int ((((p0 ^^^ (-1 : Int32)) &&& (p0 - (1 : Int32))).toUInt32 >>> ((8 : Int32) &&& 31).toUInt32).toInt32)), .val (.int ((1 : Int32) + (8 : Int32)))] [(.int (1 : Int32)), (.int ((((p0 ^^^ (-1 : Int32)) &&& (p0 - (1 : Int32))).toUInt32 >>> ((8 : Int32) &&& 31).toUInt32).toInt32)), (.int ((1 : Int32) + (8 : Int32)))]))
            refine go (fun t kt' => by refine XS.iushr X0.here hx rfl (hb hby d3_77) rfl ?_; exact kt') ?_
            show Go p e below _ (s₁.setTop (mkF m 78 #[.val (.int ((((p0 ^^^ (-1 : Int32)) &&& (p0 - (1 : Int32))).toUInt32 >>> ((8 : Int32) &&& 31).toUInt32).toInt32)), .val (.int ((1 : Int32) + (8 : Int32)))] [(.int ((((((p0 ^^^ (-1 : Int32)) &&& (p0 - (1 : Int32))).toUInt32 >>> ((8 : Int32) &&& 31).toUInt32).toInt32).toUInt32 >>> ((1 : Int32) &&& 31).toUInt32).toInt32)), (.int ((1 : Int32) + (8 : Int32)))]))
            refine go (fun t kt' => by refine XS.iadd X0.here hx rfl (hb hby d3_78) rfl ?_; exact kt') ?_
            show Go p e below _ (s₁.setTop (mkF m 79 #[.val (.int ((((p0 ^^^ (-1 : Int32)) &&& (p0 - (1 : Int32))).toUInt32 >>> ((8 : Int32) &&& 31).toUInt32).toInt32)), .val (.int ((1 : Int32) + (8 : Int32)))] [(.int (((1 : Int32) + (8 : Int32)) + ((((((p0 ^^^ (-1 : Int32)) &&& (p0 - (1 : Int32))).toUInt32 >>> ((8 : Int32) &&& 31).toUInt32).toInt32).toUInt32 >>> ((1 : Int32) &&& 31).toUInt32).toInt32)))]))
            refine goOut X0 (fun h => by rw [Bd.returns] at h; cases h) hlk (fun fs hr => retOut X0 hx Bd.returns rfl (Or.inl ⟨rfl, Or.inl rfl, _, rfl⟩) (hb hby d3_79) hr) (by decide) (by decide) ?_
            rw [e0]
            exact ⟨_, rfl, fun k hk => by rw [hk] at c9_1 c23_2 c38_3 c52_7 c64_8 ⊢; clear hk; revert c9_1 c23_2 c38_3 c52_7 c64_8; revert k; decide +kernel, N0, rfl⟩
          · skip
            refine go (fun t kt' => by refine XS.icmpNo X0.here hx rfl (hb hby d3_64) rfl (tlt (Decidable.not_not.mp c64_8)).2.2.2 ?_; exact kt') ?_
            show Go p e below _ (s₁.setTop (mkF m 67 #[.val (.int ((((p0 ^^^ (-1 : Int32)) &&& (p0 - (1 : Int32))).toUInt32 >>> ((8 : Int32) &&& 31).toUInt32).toInt32)), .val (.int ((1 : Int32) + (8 : Int32)))] []))
            refine go (fun t kt' => by refine XS.iinc X0.here hx rfl (hb hby d3_67) rfl (l' := #[.val (.int ((((p0 ^^^ (-1 : Int32)) &&& (p0 - (1 : Int32))).toUInt32 >>> ((8 : Int32) &&& 31).toUInt32).toInt32)), .val (.int (((1 : Int32) + (8 : Int32)) + (2 : Int32)))]) rfl ?_; exact kt') ?_
            show Go p e below _ (s₁.setTop (mkF m 70 #[.val (.int ((((p0 ^^^ (-1 : Int32)) &&& (p0 - (1 : Int32))).toUInt32 >>> ((8 : Int32) &&& 31).toUInt32).toInt32)), .val (.int (((1 : Int32) + (8 : Int32)) + (2 : Int32)))] []))
            refine go (fun t kt' => by refine XS.iloadN X0.here hx rfl (hb hby d3_70) rfl ?_; exact kt') ?_
            show Go p e below _ (s₁.setTop (mkF m 71 #[.val (.int ((((p0 ^^^ (-1 : Int32)) &&& (p0 - (1 : Int32))).toUInt32 >>> ((8 : Int32) &&& 31).toUInt32).toInt32)), .val (.int (((1 : Int32) + (8 : Int32)) + (2 : Int32)))] [(.int ((((p0 ^^^ (-1 : Int32)) &&& (p0 - (1 : Int32))).toUInt32 >>> ((8 : Int32) &&& 31).toUInt32).toInt32))]))
            refine go (fun t kt' => by refine XS.iconst X0.here hx rfl (hb hby d3_71) ?_; exact kt') ?_
            show Go p e below _ (s₁.setTop (mkF m 72 #[.val (.int ((((p0 ^^^ (-1 : Int32)) &&& (p0 - (1 : Int32))).toUInt32 >>> ((8 : Int32) &&& 31).toUInt32).toInt32)), .val (.int (((1 : Int32) + (8 : Int32)) + (2 : Int32)))] [(.int (2 : Int32)), (.int ((((p0 ^^^ (-1 : Int32)) &&& (p0 - (1 : Int32))).toUInt32 >>> ((8 : Int32) &&& 31).toUInt32).toInt32))]))
            refine go (fun t kt' => by refine XS.iushr X0.here hx rfl (hb hby d3_72) rfl ?_; exact kt') ?_
            show Go p e below _ (s₁.setTop (mkF m 73 #[.val (.int ((((p0 ^^^ (-1 : Int32)) &&& (p0 - (1 : Int32))).toUInt32 >>> ((8 : Int32) &&& 31).toUInt32).toInt32)), .val (.int (((1 : Int32) + (8 : Int32)) + (2 : Int32)))] [(.int ((((((p0 ^^^ (-1 : Int32)) &&& (p0 - (1 : Int32))).toUInt32 >>> ((8 : Int32) &&& 31).toUInt32).toInt32).toUInt32 >>> ((2 : Int32) &&& 31).toUInt32).toInt32))]))
            refine go (fun t kt' => by refine XS.istoreN X0.here hx rfl (hb hby d3_73) rfl (l' := #[.val (.int ((((((p0 ^^^ (-1 : Int32)) &&& (p0 - (1 : Int32))).toUInt32 >>> ((8 : Int32) &&& 31).toUInt32).toInt32).toUInt32 >>> ((2 : Int32) &&& 31).toUInt32).toInt32)), .val (.int (((1 : Int32) + (8 : Int32)) + (2 : Int32)))]) rfl ?_; exact kt') ?_
            show Go p e below _ (s₁.setTop (mkF m 74 #[.val (.int ((((((p0 ^^^ (-1 : Int32)) &&& (p0 - (1 : Int32))).toUInt32 >>> ((8 : Int32) &&& 31).toUInt32).toInt32).toUInt32 >>> ((2 : Int32) &&& 31).toUInt32).toInt32)), .val (.int (((1 : Int32) + (8 : Int32)) + (2 : Int32)))] []))
            refine go (fun t kt' => by refine XS.iloadN X0.here hx rfl (hb hby d3_74) rfl ?_; exact kt') ?_
            show Go p e below _ (s₁.setTop (mkF m 75 #[.val (.int ((((((p0 ^^^ (-1 : Int32)) &&& (p0 - (1 : Int32))).toUInt32 >>> ((8 : Int32) &&& 31).toUInt32).toInt32).toUInt32 >>> ((2 : Int32) &&& 31).toUInt32).toInt32)), .val (.int (((1 : Int32) + (8 : Int32)) + (2 : Int32)))] [(.int (((1 : Int32) + (8 : Int32)) + (2 : Int32)))]))
            refine go (fun t kt' => by refine XS.iloadN X0.here hx rfl (hb hby d3_75) rfl ?_; exact kt') ?_
            show Go p e below _ (s₁.setTop (mkF m 76 #[.val (.int ((((((p0 ^^^ (-1 : Int32)) &&& (p0 - (1 : Int32))).toUInt32 >>> ((8 : Int32) &&& 31).toUInt32).toInt32).toUInt32 >>> ((2 : Int32) &&& 31).toUInt32).toInt32)), .val (.int (((1 : Int32) + (8 : Int32)) + (2 : Int32)))] [(.int ((((((p0 ^^^ (-1 : Int32)) &&& (p0 - (1 : Int32))).toUInt32 >>> ((8 : Int32) &&& 31).toUInt32).toInt32).toUInt32 >>> ((2 : Int32) &&& 31).toUInt32).toInt32)), (.int (((1 : Int32) + (8 : Int32)) + (2 : Int32)))]))
            refine go (fun t kt' => by refine XS.iconst X0.here hx rfl (hb hby d3_76) ?_; exact kt') ?_
            show Go p e below _ (s₁.setTop (mkF m 77 #[.val (.int ((((((p0 ^^^ (-1 : Int32)) &&& (p0 - (1 : Int32))).toUInt32 >>> ((8 : Int32) &&& 31).toUInt32).toInt32).toUInt32 >>> ((2 : Int32) &&& 31).toUInt32).toInt32)), .val (.int (((1 : Int32) + (8 : Int32)) + (2 : Int32)))] [(.int (1 : Int32)), (.int ((((((p0 ^^^ (-1 : Int32)) &&& (p0 - (1 : Int32))).toUInt32 >>> ((8 : Int32) &&& 31).toUInt32).toInt32).toUInt32 >>> ((2 : Int32) &&& 31).toUInt32).toInt32)), (.int (((1 : Int32) + (8 : Int32)) + (2 : Int32)))]))
            refine go (fun t kt' => by refine XS.iushr X0.here hx rfl (hb hby d3_77) rfl ?_; exact kt') ?_
            show Go p e below _ (s₁.setTop (mkF m 78 #[.val (.int ((((((p0 ^^^ (-1 : Int32)) &&& (p0 - (1 : Int32))).toUInt32 >>> ((8 : Int32) &&& 31).toUInt32).toInt32).toUInt32 >>> ((2 : Int32) &&& 31).toUInt32).toInt32)), .val (.int (((1 : Int32) + (8 : Int32)) + (2 : Int32)))] [(.int ((((((((p0 ^^^ (-1 : Int32)) &&& (p0 - (1 : Int32))).toUInt32 >>> ((8 : Int32) &&& 31).toUInt32).toInt32).toUInt32 >>> ((2 : Int32) &&& 31).toUInt32).toInt32).toUInt32 >>> ((1 : Int32) &&& 31).toUInt32).toInt32)), (.int (((1 : Int32) + (8 : Int32)) + (2 : Int32)))]))
            refine go (fun t kt' => by refine XS.iadd X0.here hx rfl (hb hby d3_78) rfl ?_; exact kt') ?_
            show Go p e below _ (s₁.setTop (mkF m 79 #[.val (.int ((((((p0 ^^^ (-1 : Int32)) &&& (p0 - (1 : Int32))).toUInt32 >>> ((8 : Int32) &&& 31).toUInt32).toInt32).toUInt32 >>> ((2 : Int32) &&& 31).toUInt32).toInt32)), .val (.int (((1 : Int32) + (8 : Int32)) + (2 : Int32)))] [(.int ((((1 : Int32) + (8 : Int32)) + (2 : Int32)) + ((((((((p0 ^^^ (-1 : Int32)) &&& (p0 - (1 : Int32))).toUInt32 >>> ((8 : Int32) &&& 31).toUInt32).toInt32).toUInt32 >>> ((2 : Int32) &&& 31).toUInt32).toInt32).toUInt32 >>> ((1 : Int32) &&& 31).toUInt32).toInt32)))]))
            refine goOut X0 (fun h => by rw [Bd.returns] at h; cases h) hlk (fun fs hr => retOut X0 hx Bd.returns rfl (Or.inl ⟨rfl, Or.inl rfl, _, rfl⟩) (hb hby d3_79) hr) (by decide) (by decide) ?_
            rw [e0]
            exact ⟨_, rfl, fun k hk => by rw [hk] at c9_1 c23_2 c38_3 c52_7 c64_8 ⊢; clear hk; revert c9_1 c23_2 c38_3 c52_7 c64_8; revert k; decide +kernel, N0, rfl⟩
        · skip
          refine go (fun t kt' => by refine XS.icmpNo X0.here hx rfl (hb hby d3_52) rfl (tlt (Decidable.not_not.mp c52_7)).2.2.2 ?_; exact kt') ?_
          show Go p e below _ (s₁.setTop (mkF m 55 #[.val (.int ((((p0 ^^^ (-1 : Int32)) &&& (p0 - (1 : Int32))).toUInt32 >>> ((8 : Int32) &&& 31).toUInt32).toInt32)), .val (.int ((1 : Int32) + (8 : Int32)))] []))
          refine go (fun t kt' => by refine XS.iinc X0.here hx rfl (hb hby d3_55) rfl (l' := #[.val (.int ((((p0 ^^^ (-1 : Int32)) &&& (p0 - (1 : Int32))).toUInt32 >>> ((8 : Int32) &&& 31).toUInt32).toInt32)), .val (.int (((1 : Int32) + (8 : Int32)) + (4 : Int32)))]) rfl ?_; exact kt') ?_
          show Go p e below _ (s₁.setTop (mkF m 58 #[.val (.int ((((p0 ^^^ (-1 : Int32)) &&& (p0 - (1 : Int32))).toUInt32 >>> ((8 : Int32) &&& 31).toUInt32).toInt32)), .val (.int (((1 : Int32) + (8 : Int32)) + (4 : Int32)))] []))
          refine go (fun t kt' => by refine XS.iloadN X0.here hx rfl (hb hby d3_58) rfl ?_; exact kt') ?_
          show Go p e below _ (s₁.setTop (mkF m 59 #[.val (.int ((((p0 ^^^ (-1 : Int32)) &&& (p0 - (1 : Int32))).toUInt32 >>> ((8 : Int32) &&& 31).toUInt32).toInt32)), .val (.int (((1 : Int32) + (8 : Int32)) + (4 : Int32)))] [(.int ((((p0 ^^^ (-1 : Int32)) &&& (p0 - (1 : Int32))).toUInt32 >>> ((8 : Int32) &&& 31).toUInt32).toInt32))]))
          refine go (fun t kt' => by refine XS.iconst X0.here hx rfl (hb hby d3_59) ?_; exact kt') ?_
          show Go p e below _ (s₁.setTop (mkF m 60 #[.val (.int ((((p0 ^^^ (-1 : Int32)) &&& (p0 - (1 : Int32))).toUInt32 >>> ((8 : Int32) &&& 31).toUInt32).toInt32)), .val (.int (((1 : Int32) + (8 : Int32)) + (4 : Int32)))] [(.int (4 : Int32)), (.int ((((p0 ^^^ (-1 : Int32)) &&& (p0 - (1 : Int32))).toUInt32 >>> ((8 : Int32) &&& 31).toUInt32).toInt32))]))
          refine go (fun t kt' => by refine XS.iushr X0.here hx rfl (hb hby d3_60) rfl ?_; exact kt') ?_
          show Go p e below _ (s₁.setTop (mkF m 61 #[.val (.int ((((p0 ^^^ (-1 : Int32)) &&& (p0 - (1 : Int32))).toUInt32 >>> ((8 : Int32) &&& 31).toUInt32).toInt32)), .val (.int (((1 : Int32) + (8 : Int32)) + (4 : Int32)))] [(.int ((((((p0 ^^^ (-1 : Int32)) &&& (p0 - (1 : Int32))).toUInt32 >>> ((8 : Int32) &&& 31).toUInt32).toInt32).toUInt32 >>> ((4 : Int32) &&& 31).toUInt32).toInt32))]))
          refine go (fun t kt' => by refine XS.istoreN X0.here hx rfl (hb hby d3_61) rfl (l' := #[.val (.int ((((((p0 ^^^ (-1 : Int32)) &&& (p0 - (1 : Int32))).toUInt32 >>> ((8 : Int32) &&& 31).toUInt32).toInt32).toUInt32 >>> ((4 : Int32) &&& 31).toUInt32).toInt32)), .val (.int (((1 : Int32) + (8 : Int32)) + (4 : Int32)))]) rfl ?_; exact kt') ?_
          show Go p e below _ (s₁.setTop (mkF m 62 #[.val (.int ((((((p0 ^^^ (-1 : Int32)) &&& (p0 - (1 : Int32))).toUInt32 >>> ((8 : Int32) &&& 31).toUInt32).toInt32).toUInt32 >>> ((4 : Int32) &&& 31).toUInt32).toInt32)), .val (.int (((1 : Int32) + (8 : Int32)) + (4 : Int32)))] []))
          refine go (fun t kt' => by refine XS.iloadN X0.here hx rfl (hb hby d3_62) rfl ?_; exact kt') ?_
          show Go p e below _ (s₁.setTop (mkF m 63 #[.val (.int ((((((p0 ^^^ (-1 : Int32)) &&& (p0 - (1 : Int32))).toUInt32 >>> ((8 : Int32) &&& 31).toUInt32).toInt32).toUInt32 >>> ((4 : Int32) &&& 31).toUInt32).toInt32)), .val (.int (((1 : Int32) + (8 : Int32)) + (4 : Int32)))] [(.int ((((((p0 ^^^ (-1 : Int32)) &&& (p0 - (1 : Int32))).toUInt32 >>> ((8 : Int32) &&& 31).toUInt32).toInt32).toUInt32 >>> ((4 : Int32) &&& 31).toUInt32).toInt32))]))
          refine go (fun t kt' => by refine XS.iconst X0.here hx rfl (hb hby d3_63) ?_; exact kt') ?_
          show Go p e below _ (s₁.setTop (mkF m 64 #[.val (.int ((((((p0 ^^^ (-1 : Int32)) &&& (p0 - (1 : Int32))).toUInt32 >>> ((8 : Int32) &&& 31).toUInt32).toInt32).toUInt32 >>> ((4 : Int32) &&& 31).toUInt32).toInt32)), .val (.int (((1 : Int32) + (8 : Int32)) + (4 : Int32)))] [(.int (4 : Int32)), (.int ((((((p0 ^^^ (-1 : Int32)) &&& (p0 - (1 : Int32))).toUInt32 >>> ((8 : Int32) &&& 31).toUInt32).toInt32).toUInt32 >>> ((4 : Int32) &&& 31).toUInt32).toInt32))]))
          by_cases c64_9 : ¬ (4 : Int32) < ((((((p0 ^^^ (-1 : Int32)) &&& (p0 - (1 : Int32))).toUInt32 >>> ((8 : Int32) &&& 31).toUInt32).toInt32).toUInt32 >>> ((4 : Int32) &&& 31).toUInt32).toInt32)
          · skip
            refine go (fun t kt' => by refine XS.icmpYes X0.here hx rfl (pc0 := 64) (pc' := 74) rfl (hb hby d3_64) rfl (flt c64_9).2.2.2 (by decide) (by decide) ?_; exact kt') ?_
            show Go p e below _ (s₁.setTop (mkF m 74 #[.val (.int ((((((p0 ^^^ (-1 : Int32)) &&& (p0 - (1 : Int32))).toUInt32 >>> ((8 : Int32) &&& 31).toUInt32).toInt32).toUInt32 >>> ((4 : Int32) &&& 31).toUInt32).toInt32)), .val (.int (((1 : Int32) + (8 : Int32)) + (4 : Int32)))] []))
            refine go (fun t kt' => by refine XS.iloadN X0.here hx rfl (hb hby d3_74) rfl ?_; exact kt') ?_
            show Go p e below _ (s₁.setTop (mkF m 75 #[.val (.int ((((((p0 ^^^ (-1 : Int32)) &&& (p0 - (1 : Int32))).toUInt32 >>> ((8 : Int32) &&& 31).toUInt32).toInt32).toUInt32 >>> ((4 : Int32) &&& 31).toUInt32).toInt32)), .val (.int (((1 : Int32) + (8 : Int32)) + (4 : Int32)))] [(.int (((1 : Int32) + (8 : Int32)) + (4 : Int32)))]))
            refine go (fun t kt' => by refine XS.iloadN X0.here hx rfl (hb hby d3_75) rfl ?_; exact kt') ?_
            show Go p e below _ (s₁.setTop (mkF m 76 #[.val (.int ((((((p0 ^^^ (-1 : Int32)) &&& (p0 - (1 : Int32))).toUInt32 >>> ((8 : Int32) &&& 31).toUInt32).toInt32).toUInt32 >>> ((4 : Int32) &&& 31).toUInt32).toInt32)), .val (.int (((1 : Int32) + (8 : Int32)) + (4 : Int32)))] [(.int ((((((p0 ^^^ (-1 : Int32)) &&& (p0 - (1 : Int32))).toUInt32 >>> ((8 : Int32) &&& 31).toUInt32).toInt32).toUInt32 >>> ((4 : Int32) &&& 31).toUInt32).toInt32)), (.int (((1 : Int32) + (8 : Int32)) + (4 : Int32)))]))
            refine go (fun t kt' => by refine XS.iconst X0.here hx rfl (hb hby d3_76) ?_; exact kt') ?_
            show Go p e below _ (s₁.setTop (mkF m 77 #[.val (.int ((((((p0 ^^^ (-1 : Int32)) &&& (p0 - (1 : Int32))).toUInt32 >>> ((8 : Int32) &&& 31).toUInt32).toInt32).toUInt32 >>> ((4 : Int32) &&& 31).toUInt32).toInt32)), .val (.int (((1 : Int32) + (8 : Int32)) + (4 : Int32)))] [(.int (1 : Int32)), (.int ((((((p0 ^^^ (-1 : Int32)) &&& (p0 - (1 : Int32))).toUInt32 >>> ((8 : Int32) &&& 31).toUInt32).toInt32).toUInt32 >>> ((4 : Int32) &&& 31).toUInt32).toInt32)), (.int (((1 : Int32) + (8 : Int32)) + (4 : Int32)))]))
            refine go (fun t kt' => by refine XS.iushr X0.here hx rfl (hb hby d3_77) rfl ?_; exact kt') ?_
            show Go p e below _ (s₁.setTop (mkF m 78 #[.val (.int ((((((p0 ^^^ (-1 : Int32)) &&& (p0 - (1 : Int32))).toUInt32 >>> ((8 : Int32) &&& 31).toUInt32).toInt32).toUInt32 >>> ((4 : Int32) &&& 31).toUInt32).toInt32)), .val (.int (((1 : Int32) + (8 : Int32)) + (4 : Int32)))] [(.int ((((((((p0 ^^^ (-1 : Int32)) &&& (p0 - (1 : Int32))).toUInt32 >>> ((8 : Int32) &&& 31).toUInt32).toInt32).toUInt32 >>> ((4 : Int32) &&& 31).toUInt32).toInt32).toUInt32 >>> ((1 : Int32) &&& 31).toUInt32).toInt32)), (.int (((1 : Int32) + (8 : Int32)) + (4 : Int32)))]))
            refine go (fun t kt' => by refine XS.iadd X0.here hx rfl (hb hby d3_78) rfl ?_; exact kt') ?_
            show Go p e below _ (s₁.setTop (mkF m 79 #[.val (.int ((((((p0 ^^^ (-1 : Int32)) &&& (p0 - (1 : Int32))).toUInt32 >>> ((8 : Int32) &&& 31).toUInt32).toInt32).toUInt32 >>> ((4 : Int32) &&& 31).toUInt32).toInt32)), .val (.int (((1 : Int32) + (8 : Int32)) + (4 : Int32)))] [(.int ((((1 : Int32) + (8 : Int32)) + (4 : Int32)) + ((((((((p0 ^^^ (-1 : Int32)) &&& (p0 - (1 : Int32))).toUInt32 >>> ((8 : Int32) &&& 31).toUInt32).toInt32).toUInt32 >>> ((4 : Int32) &&& 31).toUInt32).toInt32).toUInt32 >>> ((1 : Int32) &&& 31).toUInt32).toInt32)))]))
            refine goOut X0 (fun h => by rw [Bd.returns] at h; cases h) hlk (fun fs hr => retOut X0 hx Bd.returns rfl (Or.inl ⟨rfl, Or.inl rfl, _, rfl⟩) (hb hby d3_79) hr) (by decide) (by decide) ?_
            rw [e0]
            exact ⟨_, rfl, fun k hk => by rw [hk] at c9_1 c23_2 c38_3 c52_7 c64_9 ⊢; clear hk; revert c9_1 c23_2 c38_3 c52_7 c64_9; revert k; decide +kernel, N0, rfl⟩
          · skip
            refine go (fun t kt' => by refine XS.icmpNo X0.here hx rfl (hb hby d3_64) rfl (tlt (Decidable.not_not.mp c64_9)).2.2.2 ?_; exact kt') ?_
            show Go p e below _ (s₁.setTop (mkF m 67 #[.val (.int ((((((p0 ^^^ (-1 : Int32)) &&& (p0 - (1 : Int32))).toUInt32 >>> ((8 : Int32) &&& 31).toUInt32).toInt32).toUInt32 >>> ((4 : Int32) &&& 31).toUInt32).toInt32)), .val (.int (((1 : Int32) + (8 : Int32)) + (4 : Int32)))] []))
            refine go (fun t kt' => by refine XS.iinc X0.here hx rfl (hb hby d3_67) rfl (l' := #[.val (.int ((((((p0 ^^^ (-1 : Int32)) &&& (p0 - (1 : Int32))).toUInt32 >>> ((8 : Int32) &&& 31).toUInt32).toInt32).toUInt32 >>> ((4 : Int32) &&& 31).toUInt32).toInt32)), .val (.int ((((1 : Int32) + (8 : Int32)) + (4 : Int32)) + (2 : Int32)))]) rfl ?_; exact kt') ?_
            show Go p e below _ (s₁.setTop (mkF m 70 #[.val (.int ((((((p0 ^^^ (-1 : Int32)) &&& (p0 - (1 : Int32))).toUInt32 >>> ((8 : Int32) &&& 31).toUInt32).toInt32).toUInt32 >>> ((4 : Int32) &&& 31).toUInt32).toInt32)), .val (.int ((((1 : Int32) + (8 : Int32)) + (4 : Int32)) + (2 : Int32)))] []))
            refine go (fun t kt' => by refine XS.iloadN X0.here hx rfl (hb hby d3_70) rfl ?_; exact kt') ?_
            show Go p e below _ (s₁.setTop (mkF m 71 #[.val (.int ((((((p0 ^^^ (-1 : Int32)) &&& (p0 - (1 : Int32))).toUInt32 >>> ((8 : Int32) &&& 31).toUInt32).toInt32).toUInt32 >>> ((4 : Int32) &&& 31).toUInt32).toInt32)), .val (.int ((((1 : Int32) + (8 : Int32)) + (4 : Int32)) + (2 : Int32)))] [(.int ((((((p0 ^^^ (-1 : Int32)) &&& (p0 - (1 : Int32))).toUInt32 >>> ((8 : Int32) &&& 31).toUInt32).toInt32).toUInt32 >>> ((4 : Int32) &&& 31).toUInt32).toInt32))]))
            refine go (fun t kt' => by refine XS.iconst X0.here hx rfl (hb hby d3_71) ?_; exact kt') ?_
            show Go p e below _ (s₁.setTop (mkF m 72 #[.val (.int ((((((p0 ^^^ (-1 : Int32)) &&& (p0 - (1 : Int32))).toUInt32 >>> ((8 : Int32) &&& 31).toUInt32).toInt32).toUInt32 >>> ((4 : Int32) &&& 31).toUInt32).toInt32)), .val (.int ((((1 : Int32) + (8 : Int32)) + (4 : Int32)) + (2 : Int32)))] [(.int (2 : Int32)), (.int ((((((p0 ^^^ (-1 : Int32)) &&& (p0 - (1 : Int32))).toUInt32 >>> ((8 : Int32) &&& 31).toUInt32).toInt32).toUInt32 >>> ((4 : Int32) &&& 31).toUInt32).toInt32))]))
            refine go (fun t kt' => by refine XS.iushr X0.here hx rfl (hb hby d3_72) rfl ?_; exact kt') ?_
            show Go p e below _ (s₁.setTop (mkF m 73 #[.val (.int ((((((p0 ^^^ (-1 : Int32)) &&& (p0 - (1 : Int32))).toUInt32 >>> ((8 : Int32) &&& 31).toUInt32).toInt32).toUInt32 >>> ((4 : Int32) &&& 31).toUInt32).toInt32)), .val (.int ((((1 : Int32) + (8 : Int32)) + (4 : Int32)) + (2 : Int32)))] [(.int ((((((((p0 ^^^ (-1 : Int32)) &&& (p0 - (1 : Int32))).toUInt32 >>> ((8 : Int32) &&& 31).toUInt32).toInt32).toUInt32 >>> ((4 : Int32) &&& 31).toUInt32).toInt32).toUInt32 >>> ((2 : Int32) &&& 31).toUInt32).toInt32))]))
            refine go (fun t kt' => by refine XS.istoreN X0.here hx rfl (hb hby d3_73) rfl (l' := #[.val (.int ((((((((p0 ^^^ (-1 : Int32)) &&& (p0 - (1 : Int32))).toUInt32 >>> ((8 : Int32) &&& 31).toUInt32).toInt32).toUInt32 >>> ((4 : Int32) &&& 31).toUInt32).toInt32).toUInt32 >>> ((2 : Int32) &&& 31).toUInt32).toInt32)), .val (.int ((((1 : Int32) + (8 : Int32)) + (4 : Int32)) + (2 : Int32)))]) rfl ?_; exact kt') ?_
            show Go p e below _ (s₁.setTop (mkF m 74 #[.val (.int ((((((((p0 ^^^ (-1 : Int32)) &&& (p0 - (1 : Int32))).toUInt32 >>> ((8 : Int32) &&& 31).toUInt32).toInt32).toUInt32 >>> ((4 : Int32) &&& 31).toUInt32).toInt32).toUInt32 >>> ((2 : Int32) &&& 31).toUInt32).toInt32)), .val (.int ((((1 : Int32) + (8 : Int32)) + (4 : Int32)) + (2 : Int32)))] []))
            refine go (fun t kt' => by refine XS.iloadN X0.here hx rfl (hb hby d3_74) rfl ?_; exact kt') ?_
            show Go p e below _ (s₁.setTop (mkF m 75 #[.val (.int ((((((((p0 ^^^ (-1 : Int32)) &&& (p0 - (1 : Int32))).toUInt32 >>> ((8 : Int32) &&& 31).toUInt32).toInt32).toUInt32 >>> ((4 : Int32) &&& 31).toUInt32).toInt32).toUInt32 >>> ((2 : Int32) &&& 31).toUInt32).toInt32)), .val (.int ((((1 : Int32) + (8 : Int32)) + (4 : Int32)) + (2 : Int32)))] [(.int ((((1 : Int32) + (8 : Int32)) + (4 : Int32)) + (2 : Int32)))]))
            refine go (fun t kt' => by refine XS.iloadN X0.here hx rfl (hb hby d3_75) rfl ?_; exact kt') ?_
            show Go p e below _ (s₁.setTop (mkF m 76 #[.val (.int ((((((((p0 ^^^ (-1 : Int32)) &&& (p0 - (1 : Int32))).toUInt32 >>> ((8 : Int32) &&& 31).toUInt32).toInt32).toUInt32 >>> ((4 : Int32) &&& 31).toUInt32).toInt32).toUInt32 >>> ((2 : Int32) &&& 31).toUInt32).toInt32)), .val (.int ((((1 : Int32) + (8 : Int32)) + (4 : Int32)) + (2 : Int32)))] [(.int ((((((((p0 ^^^ (-1 : Int32)) &&& (p0 - (1 : Int32))).toUInt32 >>> ((8 : Int32) &&& 31).toUInt32).toInt32).toUInt32 >>> ((4 : Int32) &&& 31).toUInt32).toInt32).toUInt32 >>> ((2 : Int32) &&& 31).toUInt32).toInt32)), (.int ((((1 : Int32) + (8 : Int32)) + (4 : Int32)) + (2 : Int32)))]))
            refine go (fun t kt' => by refine XS.iconst X0.here hx rfl (hb hby d3_76) ?_; exact kt') ?_
            show Go p e below _ (s₁.setTop (mkF m 77 #[.val (.int ((((((((p0 ^^^ (-1 : Int32)) &&& (p0 - (1 : Int32))).toUInt32 >>> ((8 : Int32) &&& 31).toUInt32).toInt32).toUInt32 >>> ((4 : Int32) &&& 31).toUInt32).toInt32).toUInt32 >>> ((2 : Int32) &&& 31).toUInt32).toInt32)), .val (.int ((((1 : Int32) + (8 : Int32)) + (4 : Int32)) + (2 : Int32)))] [(.int (1 : Int32)), (.int ((((((((p0 ^^^ (-1 : Int32)) &&& (p0 - (1 : Int32))).toUInt32 >>> ((8 : Int32) &&& 31).toUInt32).toInt32).toUInt32 >>> ((4 : Int32) &&& 31).toUInt32).toInt32).toUInt32 >>> ((2 : Int32) &&& 31).toUInt32).toInt32)), (.int ((((1 : Int32) + (8 : Int32)) + (4 : Int32)) + (2 : Int32)))]))
            refine go (fun t kt' => by refine XS.iushr X0.here hx rfl (hb hby d3_77) rfl ?_; exact kt') ?_
            show Go p e below _ (s₁.setTop (mkF m 78 #[.val (.int ((((((((p0 ^^^ (-1 : Int32)) &&& (p0 - (1 : Int32))).toUInt32 >>> ((8 : Int32) &&& 31).toUInt32).toInt32).toUInt32 >>> ((4 : Int32) &&& 31).toUInt32).toInt32).toUInt32 >>> ((2 : Int32) &&& 31).toUInt32).toInt32)), .val (.int ((((1 : Int32) + (8 : Int32)) + (4 : Int32)) + (2 : Int32)))] [(.int ((((((((((p0 ^^^ (-1 : Int32)) &&& (p0 - (1 : Int32))).toUInt32 >>> ((8 : Int32) &&& 31).toUInt32).toInt32).toUInt32 >>> ((4 : Int32) &&& 31).toUInt32).toInt32).toUInt32 >>> ((2 : Int32) &&& 31).toUInt32).toInt32).toUInt32 >>> ((1 : Int32) &&& 31).toUInt32).toInt32)), (.int ((((1 : Int32) + (8 : Int32)) + (4 : Int32)) + (2 : Int32)))]))
            refine go (fun t kt' => by refine XS.iadd X0.here hx rfl (hb hby d3_78) rfl ?_; exact kt') ?_
            show Go p e below _ (s₁.setTop (mkF m 79 #[.val (.int ((((((((p0 ^^^ (-1 : Int32)) &&& (p0 - (1 : Int32))).toUInt32 >>> ((8 : Int32) &&& 31).toUInt32).toInt32).toUInt32 >>> ((4 : Int32) &&& 31).toUInt32).toInt32).toUInt32 >>> ((2 : Int32) &&& 31).toUInt32).toInt32)), .val (.int ((((1 : Int32) + (8 : Int32)) + (4 : Int32)) + (2 : Int32)))] [(.int (((((1 : Int32) + (8 : Int32)) + (4 : Int32)) + (2 : Int32)) + ((((((((((p0 ^^^ (-1 : Int32)) &&& (p0 - (1 : Int32))).toUInt32 >>> ((8 : Int32) &&& 31).toUInt32).toInt32).toUInt32 >>> ((4 : Int32) &&& 31).toUInt32).toInt32).toUInt32 >>> ((2 : Int32) &&& 31).toUInt32).toInt32).toUInt32 >>> ((1 : Int32) &&& 31).toUInt32).toInt32)))]))
            refine goOut X0 (fun h => by rw [Bd.returns] at h; cases h) hlk (fun fs hr => retOut X0 hx Bd.returns rfl (Or.inl ⟨rfl, Or.inl rfl, _, rfl⟩) (hb hby d3_79) hr) (by decide) (by decide) ?_
            rw [e0]
            exact ⟨_, rfl, fun k hk => by rw [hk] at c9_1 c23_2 c38_3 c52_7 c64_9 ⊢; clear hk; revert c9_1 c23_2 c38_3 c52_7 c64_9; revert k; decide +kernel, N0, rfl⟩
    · skip
      refine go (fun t kt' => by refine XS.icmpNo X0.here hx rfl (hb hby d3_23) rfl (tlt (Decidable.not_not.mp c23_2)).2.2.2 ?_; exact kt') ?_
      show Go p e below _ (s₁.setTop (mkF m 26 #[.val (.int ((p0 ^^^ (-1 : Int32)) &&& (p0 - (1 : Int32)))), .val (.int (1 : Int32))] []))
      refine go (fun t kt' => by refine XS.iinc X0.here hx rfl (hb hby d3_26) rfl (l' := #[.val (.int ((p0 ^^^ (-1 : Int32)) &&& (p0 - (1 : Int32)))), .val (.int ((1 : Int32) + (16 : Int32)))]) rfl ?_; exact kt') ?_
      show Go p e below _ (s₁.setTop (mkF m 29 #[.val (.int ((p0 ^^^ (-1 : Int32)) &&& (p0 - (1 : Int32)))), .val (.int ((1 : Int32) + (16 : Int32)))] []))
      refine go (fun t kt' => by refine XS.iloadN X0.here hx rfl (hb hby d3_29) rfl ?_; exact kt') ?_
      show Go p e below _ (s₁.setTop (mkF m 30 #[.val (.int ((p0 ^^^ (-1 : Int32)) &&& (p0 - (1 : Int32)))), .val (.int ((1 : Int32) + (16 : Int32)))] [(.int ((p0 ^^^ (-1 : Int32)) &&& (p0 - (1 : Int32))))]))
      refine go (fun t kt' => by refine XS.bipush X0.here hx rfl (hb hby d3_30) ?_; exact kt') ?_
      show Go p e below _ (s₁.setTop (mkF m 32 #[.val (.int ((p0 ^^^ (-1 : Int32)) &&& (p0 - (1 : Int32)))), .val (.int ((1 : Int32) + (16 : Int32)))] [(.int (16 : Int32)), (.int ((p0 ^^^ (-1 : Int32)) &&& (p0 - (1 : Int32))))]))
      refine go (fun t kt' => by refine XS.iushr X0.here hx rfl (hb hby d3_32) rfl ?_; exact kt') ?_
      show Go p e below _ (s₁.setTop (mkF m 33 #[.val (.int ((p0 ^^^ (-1 : Int32)) &&& (p0 - (1 : Int32)))), .val (.int ((1 : Int32) + (16 : Int32)))] [(.int ((((p0 ^^^ (-1 : Int32)) &&& (p0 - (1 : Int32))).toUInt32 >>> ((16 : Int32) &&& 31).toUInt32).toInt32))]))
      refine go (fun t kt' => by refine XS.istoreN X0.here hx rfl (hb hby d3_33) rfl (l' := #[.val (.int ((((p0 ^^^ (-1 : Int32)) &&& (p0 - (1 : Int32))).toUInt32 >>> ((16 : Int32) &&& 31).toUInt32).toInt32)), .val (.int ((1 : Int32) + (16 : Int32)))]) rfl ?_; exact kt') ?_
      show Go p e below _ (s₁.setTop (mkF m 34 #[.val (.int ((((p0 ^^^ (-1 : Int32)) &&& (p0 - (1 : Int32))).toUInt32 >>> ((16 : Int32) &&& 31).toUInt32).toInt32)), .val (.int ((1 : Int32) + (16 : Int32)))] []))
      refine go (fun t kt' => by refine XS.iloadN X0.here hx rfl (hb hby d3_34) rfl ?_; exact kt') ?_
      show Go p e below _ (s₁.setTop (mkF m 35 #[.val (.int ((((p0 ^^^ (-1 : Int32)) &&& (p0 - (1 : Int32))).toUInt32 >>> ((16 : Int32) &&& 31).toUInt32).toInt32)), .val (.int ((1 : Int32) + (16 : Int32)))] [(.int ((((p0 ^^^ (-1 : Int32)) &&& (p0 - (1 : Int32))).toUInt32 >>> ((16 : Int32) &&& 31).toUInt32).toInt32))]))
      refine go (fun t kt' => by refine XS.sipush X0.here hx rfl (hb hby d3_35) ?_; exact kt') ?_
      show Go p e below _ (s₁.setTop (mkF m 38 #[.val (.int ((((p0 ^^^ (-1 : Int32)) &&& (p0 - (1 : Int32))).toUInt32 >>> ((16 : Int32) &&& 31).toUInt32).toInt32)), .val (.int ((1 : Int32) + (16 : Int32)))] [(.int (256 : Int32)), (.int ((((p0 ^^^ (-1 : Int32)) &&& (p0 - (1 : Int32))).toUInt32 >>> ((16 : Int32) &&& 31).toUInt32).toInt32))]))
      by_cases c38_10 : ¬ (256 : Int32) < ((((p0 ^^^ (-1 : Int32)) &&& (p0 - (1 : Int32))).toUInt32 >>> ((16 : Int32) &&& 31).toUInt32).toInt32)
      · skip
        refine go (fun t kt' => by refine XS.icmpYes X0.here hx rfl (pc0 := 38) (pc' := 49) rfl (hb hby d3_38) rfl (flt c38_10).2.2.2 (by decide) (by decide) ?_; exact kt') ?_
        show Go p e below _ (s₁.setTop (mkF m 49 #[.val (.int ((((p0 ^^^ (-1 : Int32)) &&& (p0 - (1 : Int32))).toUInt32 >>> ((16 : Int32) &&& 31).toUInt32).toInt32)), .val (.int ((1 : Int32) + (16 : Int32)))] []))
        refine go (fun t kt' => by refine XS.iloadN X0.here hx rfl (hb hby d3_49) rfl ?_; exact kt') ?_
        show Go p e below _ (s₁.setTop (mkF m 50 #[.val (.int ((((p0 ^^^ (-1 : Int32)) &&& (p0 - (1 : Int32))).toUInt32 >>> ((16 : Int32) &&& 31).toUInt32).toInt32)), .val (.int ((1 : Int32) + (16 : Int32)))] [(.int ((((p0 ^^^ (-1 : Int32)) &&& (p0 - (1 : Int32))).toUInt32 >>> ((16 : Int32) &&& 31).toUInt32).toInt32))]))
        refine go (fun t kt' => by refine XS.bipush X0.here hx rfl (hb hby d3_50) ?_; exact kt') ?_
        show Go p e below _ (s₁.setTop (mkF m 52 #[.val (.int ((((p0 ^^^ (-1 : Int32)) &&& (p0 - (1 : Int32))).toUInt32 >>> ((16 : Int32) &&& 31).toUInt32).toInt32)), .val (.int ((1 : Int32) + (16 : Int32)))] [(.int (16 : Int32)), (.int ((((p0 ^^^ (-1 : Int32)) &&& (p0 - (1 : Int32))).toUInt32 >>> ((16 : Int32) &&& 31).toUInt32).toInt32))]))
        by_cases c52_11 : ¬ (16 : Int32) < ((((p0 ^^^ (-1 : Int32)) &&& (p0 - (1 : Int32))).toUInt32 >>> ((16 : Int32) &&& 31).toUInt32).toInt32)
        · skip
          refine go (fun t kt' => by refine XS.icmpYes X0.here hx rfl (pc0 := 52) (pc' := 62) rfl (hb hby d3_52) rfl (flt c52_11).2.2.2 (by decide) (by decide) ?_; exact kt') ?_
          show Go p e below _ (s₁.setTop (mkF m 62 #[.val (.int ((((p0 ^^^ (-1 : Int32)) &&& (p0 - (1 : Int32))).toUInt32 >>> ((16 : Int32) &&& 31).toUInt32).toInt32)), .val (.int ((1 : Int32) + (16 : Int32)))] []))
          refine go (fun t kt' => by refine XS.iloadN X0.here hx rfl (hb hby d3_62) rfl ?_; exact kt') ?_
          show Go p e below _ (s₁.setTop (mkF m 63 #[.val (.int ((((p0 ^^^ (-1 : Int32)) &&& (p0 - (1 : Int32))).toUInt32 >>> ((16 : Int32) &&& 31).toUInt32).toInt32)), .val (.int ((1 : Int32) + (16 : Int32)))] [(.int ((((p0 ^^^ (-1 : Int32)) &&& (p0 - (1 : Int32))).toUInt32 >>> ((16 : Int32) &&& 31).toUInt32).toInt32))]))
          refine go (fun t kt' => by refine XS.iconst X0.here hx rfl (hb hby d3_63) ?_; exact kt') ?_
          show Go p e below _ (s₁.setTop (mkF m 64 #[.val (.int ((((p0 ^^^ (-1 : Int32)) &&& (p0 - (1 : Int32))).toUInt32 >>> ((16 : Int32) &&& 31).toUInt32).toInt32)), .val (.int ((1 : Int32) + (16 : Int32)))] [(.int (4 : Int32)), (.int ((((p0 ^^^ (-1 : Int32)) &&& (p0 - (1 : Int32))).toUInt32 >>> ((16 : Int32) &&& 31).toUInt32).toInt32))]))
          by_cases c64_12 : ¬ (4 : Int32) < ((((p0 ^^^ (-1 : Int32)) &&& (p0 - (1 : Int32))).toUInt32 >>> ((16 : Int32) &&& 31).toUInt32).toInt32)
          · skip
            refine go (fun t kt' => by refine XS.icmpYes X0.here hx rfl (pc0 := 64) (pc' := 74) rfl (hb hby d3_64) rfl (flt c64_12).2.2.2 (by decide) (by decide) ?_; exact kt') ?_
            show Go p e below _ (s₁.setTop (mkF m 74 #[.val (.int ((((p0 ^^^ (-1 : Int32)) &&& (p0 - (1 : Int32))).toUInt32 >>> ((16 : Int32) &&& 31).toUInt32).toInt32)), .val (.int ((1 : Int32) + (16 : Int32)))] []))
            refine go (fun t kt' => by refine XS.iloadN X0.here hx rfl (hb hby d3_74) rfl ?_; exact kt') ?_
            show Go p e below _ (s₁.setTop (mkF m 75 #[.val (.int ((((p0 ^^^ (-1 : Int32)) &&& (p0 - (1 : Int32))).toUInt32 >>> ((16 : Int32) &&& 31).toUInt32).toInt32)), .val (.int ((1 : Int32) + (16 : Int32)))] [(.int ((1 : Int32) + (16 : Int32)))]))
            refine go (fun t kt' => by refine XS.iloadN X0.here hx rfl (hb hby d3_75) rfl ?_; exact kt') ?_
            show Go p e below _ (s₁.setTop (mkF m 76 #[.val (.int ((((p0 ^^^ (-1 : Int32)) &&& (p0 - (1 : Int32))).toUInt32 >>> ((16 : Int32) &&& 31).toUInt32).toInt32)), .val (.int ((1 : Int32) + (16 : Int32)))] [(.int ((((p0 ^^^ (-1 : Int32)) &&& (p0 - (1 : Int32))).toUInt32 >>> ((16 : Int32) &&& 31).toUInt32).toInt32)), (.int ((1 : Int32) + (16 : Int32)))]))
            refine go (fun t kt' => by refine XS.iconst X0.here hx rfl (hb hby d3_76) ?_; exact kt') ?_
            show Go p e below _ (s₁.setTop (mkF m 77 #[.val (.int ((((p0 ^^^ (-1 : Int32)) &&& (p0 - (1 : Int32))).toUInt32 >>> ((16 : Int32) &&& 31).toUInt32).toInt32)), .val (.int ((1 : Int32) + (16 : Int32)))] [(.int (1 : Int32)), (.int ((((p0 ^^^ (-1 : Int32)) &&& (p0 - (1 : Int32))).toUInt32 >>> ((16 : Int32) &&& 31).toUInt32).toInt32)), (.int ((1 : Int32) + (16 : Int32)))]))
            refine go (fun t kt' => by refine XS.iushr X0.here hx rfl (hb hby d3_77) rfl ?_; exact kt') ?_
            show Go p e below _ (s₁.setTop (mkF m 78 #[.val (.int ((((p0 ^^^ (-1 : Int32)) &&& (p0 - (1 : Int32))).toUInt32 >>> ((16 : Int32) &&& 31).toUInt32).toInt32)), .val (.int ((1 : Int32) + (16 : Int32)))] [(.int ((((((p0 ^^^ (-1 : Int32)) &&& (p0 - (1 : Int32))).toUInt32 >>> ((16 : Int32) &&& 31).toUInt32).toInt32).toUInt32 >>> ((1 : Int32) &&& 31).toUInt32).toInt32)), (.int ((1 : Int32) + (16 : Int32)))]))
            refine go (fun t kt' => by refine XS.iadd X0.here hx rfl (hb hby d3_78) rfl ?_; exact kt') ?_
            show Go p e below _ (s₁.setTop (mkF m 79 #[.val (.int ((((p0 ^^^ (-1 : Int32)) &&& (p0 - (1 : Int32))).toUInt32 >>> ((16 : Int32) &&& 31).toUInt32).toInt32)), .val (.int ((1 : Int32) + (16 : Int32)))] [(.int (((1 : Int32) + (16 : Int32)) + ((((((p0 ^^^ (-1 : Int32)) &&& (p0 - (1 : Int32))).toUInt32 >>> ((16 : Int32) &&& 31).toUInt32).toInt32).toUInt32 >>> ((1 : Int32) &&& 31).toUInt32).toInt32)))]))
            refine goOut X0 (fun h => by rw [Bd.returns] at h; cases h) hlk (fun fs hr => retOut X0 hx Bd.returns rfl (Or.inl ⟨rfl, Or.inl rfl, _, rfl⟩) (hb hby d3_79) hr) (by decide) (by decide) ?_
            rw [e0]
            exact ⟨_, rfl, fun k hk => by rw [hk] at c9_1 c23_2 c38_10 c52_11 c64_12 ⊢; clear hk; revert c9_1 c23_2 c38_10 c52_11 c64_12; revert k; decide +kernel, N0, rfl⟩
          · skip
            refine go (fun t kt' => by refine XS.icmpNo X0.here hx rfl (hb hby d3_64) rfl (tlt (Decidable.not_not.mp c64_12)).2.2.2 ?_; exact kt') ?_
            show Go p e below _ (s₁.setTop (mkF m 67 #[.val (.int ((((p0 ^^^ (-1 : Int32)) &&& (p0 - (1 : Int32))).toUInt32 >>> ((16 : Int32) &&& 31).toUInt32).toInt32)), .val (.int ((1 : Int32) + (16 : Int32)))] []))
            refine go (fun t kt' => by refine XS.iinc X0.here hx rfl (hb hby d3_67) rfl (l' := #[.val (.int ((((p0 ^^^ (-1 : Int32)) &&& (p0 - (1 : Int32))).toUInt32 >>> ((16 : Int32) &&& 31).toUInt32).toInt32)), .val (.int (((1 : Int32) + (16 : Int32)) + (2 : Int32)))]) rfl ?_; exact kt') ?_
            show Go p e below _ (s₁.setTop (mkF m 70 #[.val (.int ((((p0 ^^^ (-1 : Int32)) &&& (p0 - (1 : Int32))).toUInt32 >>> ((16 : Int32) &&& 31).toUInt32).toInt32)), .val (.int (((1 : Int32) + (16 : Int32)) + (2 : Int32)))] []))
            refine go (fun t kt' => by refine XS.iloadN X0.here hx rfl (hb hby d3_70) rfl ?_; exact kt') ?_
            show Go p e below _ (s₁.setTop (mkF m 71 #[.val (.int ((((p0 ^^^ (-1 : Int32)) &&& (p0 - (1 : Int32))).toUInt32 >>> ((16 : Int32) &&& 31).toUInt32).toInt32)), .val (.int (((1 : Int32) + (16 : Int32)) + (2 : Int32)))] [(.int ((((p0 ^^^ (-1 : Int32)) &&& (p0 - (1 : Int32))).toUInt32 >>> ((16 : Int32) &&& 31).toUInt32).toInt32))]))
            refine go (fun t kt' => by refine XS.iconst X0.here hx rfl (hb hby d3_71) ?_; exact kt') ?_
            show Go p e below _ (s₁.setTop (mkF m 72 #[.val (.int ((((p0 ^^^ (-1 : Int32)) &&& (p0 - (1 : Int32))).toUInt32 >>> ((16 : Int32) &&& 31).toUInt32).toInt32)), .val (.int (((1 : Int32) + (16 : Int32)) + (2 : Int32)))] [(.int (2 : Int32)), (.int ((((p0 ^^^ (-1 : Int32)) &&& (p0 - (1 : Int32))).toUInt32 >>> ((16 : Int32) &&& 31).toUInt32).toInt32))]))
            refine go (fun t kt' => by refine XS.iushr X0.here hx rfl (hb hby d3_72) rfl ?_; exact kt') ?_
            show Go p e below _ (s₁.setTop (mkF m 73 #[.val (.int ((((p0 ^^^ (-1 : Int32)) &&& (p0 - (1 : Int32))).toUInt32 >>> ((16 : Int32) &&& 31).toUInt32).toInt32)), .val (.int (((1 : Int32) + (16 : Int32)) + (2 : Int32)))] [(.int ((((((p0 ^^^ (-1 : Int32)) &&& (p0 - (1 : Int32))).toUInt32 >>> ((16 : Int32) &&& 31).toUInt32).toInt32).toUInt32 >>> ((2 : Int32) &&& 31).toUInt32).toInt32))]))
            refine go (fun t kt' => by refine XS.istoreN X0.here hx rfl (hb hby d3_73) rfl (l' := #[.val (.int ((((((p0 ^^^ (-1 : Int32)) &&& (p0 - (1 : Int32))).toUInt32 >>> ((16 : Int32) &&& 31).toUInt32).toInt32).toUInt32 >>> ((2 : Int32) &&& 31).toUInt32).toInt32)), .val (.int (((1 : Int32) + (16 : Int32)) + (2 : Int32)))]) rfl ?_; exact kt') ?_
            show Go p e below _ (s₁.setTop (mkF m 74 #[.val (.int ((((((p0 ^^^ (-1 : Int32)) &&& (p0 - (1 : Int32))).toUInt32 >>> ((16 : Int32) &&& 31).toUInt32).toInt32).toUInt32 >>> ((2 : Int32) &&& 31).toUInt32).toInt32)), .val (.int (((1 : Int32) + (16 : Int32)) + (2 : Int32)))] []))
            refine go (fun t kt' => by refine XS.iloadN X0.here hx rfl (hb hby d3_74) rfl ?_; exact kt') ?_
            show Go p e below _ (s₁.setTop (mkF m 75 #[.val (.int ((((((p0 ^^^ (-1 : Int32)) &&& (p0 - (1 : Int32))).toUInt32 >>> ((16 : Int32) &&& 31).toUInt32).toInt32).toUInt32 >>> ((2 : Int32) &&& 31).toUInt32).toInt32)), .val (.int (((1 : Int32) + (16 : Int32)) + (2 : Int32)))] [(.int (((1 : Int32) + (16 : Int32)) + (2 : Int32)))]))
            refine go (fun t kt' => by refine XS.iloadN X0.here hx rfl (hb hby d3_75) rfl ?_; exact kt') ?_
            show Go p e below _ (s₁.setTop (mkF m 76 #[.val (.int ((((((p0 ^^^ (-1 : Int32)) &&& (p0 - (1 : Int32))).toUInt32 >>> ((16 : Int32) &&& 31).toUInt32).toInt32).toUInt32 >>> ((2 : Int32) &&& 31).toUInt32).toInt32)), .val (.int (((1 : Int32) + (16 : Int32)) + (2 : Int32)))] [(.int ((((((p0 ^^^ (-1 : Int32)) &&& (p0 - (1 : Int32))).toUInt32 >>> ((16 : Int32) &&& 31).toUInt32).toInt32).toUInt32 >>> ((2 : Int32) &&& 31).toUInt32).toInt32)), (.int (((1 : Int32) + (16 : Int32)) + (2 : Int32)))]))
            refine go (fun t kt' => by refine XS.iconst X0.here hx rfl (hb hby d3_76) ?_; exact kt') ?_
            show Go p e below _ (s₁.setTop (mkF m 77 #[.val (.int ((((((p0 ^^^ (-1 : Int32)) &&& (p0 - (1 : Int32))).toUInt32 >>> ((16 : Int32) &&& 31).toUInt32).toInt32).toUInt32 >>> ((2 : Int32) &&& 31).toUInt32).toInt32)), .val (.int (((1 : Int32) + (16 : Int32)) + (2 : Int32)))] [(.int (1 : Int32)), (.int ((((((p0 ^^^ (-1 : Int32)) &&& (p0 - (1 : Int32))).toUInt32 >>> ((16 : Int32) &&& 31).toUInt32).toInt32).toUInt32 >>> ((2 : Int32) &&& 31).toUInt32).toInt32)), (.int (((1 : Int32) + (16 : Int32)) + (2 : Int32)))]))
            refine go (fun t kt' => by refine XS.iushr X0.here hx rfl (hb hby d3_77) rfl ?_; exact kt') ?_
            show Go p e below _ (s₁.setTop (mkF m 78 #[.val (.int ((((((p0 ^^^ (-1 : Int32)) &&& (p0 - (1 : Int32))).toUInt32 >>> ((16 : Int32) &&& 31).toUInt32).toInt32).toUInt32 >>> ((2 : Int32) &&& 31).toUInt32).toInt32)), .val (.int (((1 : Int32) + (16 : Int32)) + (2 : Int32)))] [(.int ((((((((p0 ^^^ (-1 : Int32)) &&& (p0 - (1 : Int32))).toUInt32 >>> ((16 : Int32) &&& 31).toUInt32).toInt32).toUInt32 >>> ((2 : Int32) &&& 31).toUInt32).toInt32).toUInt32 >>> ((1 : Int32) &&& 31).toUInt32).toInt32)), (.int (((1 : Int32) + (16 : Int32)) + (2 : Int32)))]))
            refine go (fun t kt' => by refine XS.iadd X0.here hx rfl (hb hby d3_78) rfl ?_; exact kt') ?_
            show Go p e below _ (s₁.setTop (mkF m 79 #[.val (.int ((((((p0 ^^^ (-1 : Int32)) &&& (p0 - (1 : Int32))).toUInt32 >>> ((16 : Int32) &&& 31).toUInt32).toInt32).toUInt32 >>> ((2 : Int32) &&& 31).toUInt32).toInt32)), .val (.int (((1 : Int32) + (16 : Int32)) + (2 : Int32)))] [(.int ((((1 : Int32) + (16 : Int32)) + (2 : Int32)) + ((((((((p0 ^^^ (-1 : Int32)) &&& (p0 - (1 : Int32))).toUInt32 >>> ((16 : Int32) &&& 31).toUInt32).toInt32).toUInt32 >>> ((2 : Int32) &&& 31).toUInt32).toInt32).toUInt32 >>> ((1 : Int32) &&& 31).toUInt32).toInt32)))]))
            refine goOut X0 (fun h => by rw [Bd.returns] at h; cases h) hlk (fun fs hr => retOut X0 hx Bd.returns rfl (Or.inl ⟨rfl, Or.inl rfl, _, rfl⟩) (hb hby d3_79) hr) (by decide) (by decide) ?_
            rw [e0]
            exact ⟨_, rfl, fun k hk => by rw [hk] at c9_1 c23_2 c38_10 c52_11 c64_12 ⊢; clear hk; revert c9_1 c23_2 c38_10 c52_11 c64_12; revert k; decide +kernel, N0, rfl⟩
        · skip
          refine go (fun t kt' => by refine XS.icmpNo X0.here hx rfl (hb hby d3_52) rfl (tlt (Decidable.not_not.mp c52_11)).2.2.2 ?_; exact kt') ?_
          show Go p e below _ (s₁.setTop (mkF m 55 #[.val (.int ((((p0 ^^^ (-1 : Int32)) &&& (p0 - (1 : Int32))).toUInt32 >>> ((16 : Int32) &&& 31).toUInt32).toInt32)), .val (.int ((1 : Int32) + (16 : Int32)))] []))
          refine go (fun t kt' => by refine XS.iinc X0.here hx rfl (hb hby d3_55) rfl (l' := #[.val (.int ((((p0 ^^^ (-1 : Int32)) &&& (p0 - (1 : Int32))).toUInt32 >>> ((16 : Int32) &&& 31).toUInt32).toInt32)), .val (.int (((1 : Int32) + (16 : Int32)) + (4 : Int32)))]) rfl ?_; exact kt') ?_
          show Go p e below _ (s₁.setTop (mkF m 58 #[.val (.int ((((p0 ^^^ (-1 : Int32)) &&& (p0 - (1 : Int32))).toUInt32 >>> ((16 : Int32) &&& 31).toUInt32).toInt32)), .val (.int (((1 : Int32) + (16 : Int32)) + (4 : Int32)))] []))
          refine go (fun t kt' => by refine XS.iloadN X0.here hx rfl (hb hby d3_58) rfl ?_; exact kt') ?_
          show Go p e below _ (s₁.setTop (mkF m 59 #[.val (.int ((((p0 ^^^ (-1 : Int32)) &&& (p0 - (1 : Int32))).toUInt32 >>> ((16 : Int32) &&& 31).toUInt32).toInt32)), .val (.int (((1 : Int32) + (16 : Int32)) + (4 : Int32)))] [(.int ((((p0 ^^^ (-1 : Int32)) &&& (p0 - (1 : Int32))).toUInt32 >>> ((16 : Int32) &&& 31).toUInt32).toInt32))]))
          refine go (fun t kt' => by refine XS.iconst X0.here hx rfl (hb hby d3_59) ?_; exact kt') ?_
          show Go p e below _ (s₁.setTop (mkF m 60 #[.val (.int ((((p0 ^^^ (-1 : Int32)) &&& (p0 - (1 : Int32))).toUInt32 >>> ((16 : Int32) &&& 31).toUInt32).toInt32)), .val (.int (((1 : Int32) + (16 : Int32)) + (4 : Int32)))] [(.int (4 : Int32)), (.int ((((p0 ^^^ (-1 : Int32)) &&& (p0 - (1 : Int32))).toUInt32 >>> ((16 : Int32) &&& 31).toUInt32).toInt32))]))
          refine go (fun t kt' => by refine XS.iushr X0.here hx rfl (hb hby d3_60) rfl ?_; exact kt') ?_
          show Go p e below _ (s₁.setTop (mkF m 61 #[.val (.int ((((p0 ^^^ (-1 : Int32)) &&& (p0 - (1 : Int32))).toUInt32 >>> ((16 : Int32) &&& 31).toUInt32).toInt32)), .val (.int (((1 : Int32) + (16 : Int32)) + (4 : Int32)))] [(.int ((((((p0 ^^^ (-1 : Int32)) &&& (p0 - (1 : Int32))).toUInt32 >>> ((16 : Int32) &&& 31).toUInt32).toInt32).toUInt32 >>> ((4 : Int32) &&& 31).toUInt32).toInt32))]))
          refine go (fun t kt' => by refine XS.istoreN X0.here hx rfl (hb hby d3_61) rfl (l' := #[.val (.int ((((((p0 ^^^ (-1 : Int32)) &&& (p0 - (1 : Int32))).toUInt32 >>> ((16 : Int32) &&& 31).toUInt32).toInt32).toUInt32 >>> ((4 : Int32) &&& 31).toUInt32).toInt32)), .val (.int (((1 : Int32) + (16 : Int32)) + (4 : Int32)))]) rfl ?_; exact kt') ?_
          show Go p e below _ (s₁.setTop (mkF m 62 #[.val (.int ((((((p0 ^^^ (-1 : Int32)) &&& (p0 - (1 : Int32))).toUInt32 >>> ((16 : Int32) &&& 31).toUInt32).toInt32).toUInt32 >>> ((4 : Int32) &&& 31).toUInt32).toInt32)), .val (.int (((1 : Int32) + (16 : Int32)) + (4 : Int32)))] []))
          refine go (fun t kt' => by refine XS.iloadN X0.here hx rfl (hb hby d3_62) rfl ?_; exact kt') ?_
          show Go p e below _ (s₁.setTop (mkF m 63 #[.val (.int ((((((p0 ^^^ (-1 : Int32)) &&& (p0 - (1 : Int32))).toUInt32 >>> ((16 : Int32) &&& 31).toUInt32).toInt32).toUInt32 >>> ((4 : Int32) &&& 31).toUInt32).toInt32)), .val (.int (((1 : Int32) + (16 : Int32)) + (4 : Int32)))] [(.int ((((((p0 ^^^ (-1 : Int32)) &&& (p0 - (1 : Int32))).toUInt32 >>> ((16 : Int32) &&& 31).toUInt32).toInt32).toUInt32 >>> ((4 : Int32) &&& 31).toUInt32).toInt32))]))
          refine go (fun t kt' => by refine XS.iconst X0.here hx rfl (hb hby d3_63) ?_; exact kt') ?_
          show Go p e below _ (s₁.setTop (mkF m 64 #[.val (.int ((((((p0 ^^^ (-1 : Int32)) &&& (p0 - (1 : Int32))).toUInt32 >>> ((16 : Int32) &&& 31).toUInt32).toInt32).toUInt32 >>> ((4 : Int32) &&& 31).toUInt32).toInt32)), .val (.int (((1 : Int32) + (16 : Int32)) + (4 : Int32)))] [(.int (4 : Int32)), (.int ((((((p0 ^^^ (-1 : Int32)) &&& (p0 - (1 : Int32))).toUInt32 >>> ((16 : Int32) &&& 31).toUInt32).toInt32).toUInt32 >>> ((4 : Int32) &&& 31).toUInt32).toInt32))]))
          by_cases c64_13 : ¬ (4 : Int32) < ((((((p0 ^^^ (-1 : Int32)) &&& (p0 - (1 : Int32))).toUInt32 >>> ((16 : Int32) &&& 31).toUInt32).toInt32).toUInt32 >>> ((4 : Int32) &&& 31).toUInt32).toInt32)
          · skip
            refine go (fun t kt' => by refine XS.icmpYes X0.here hx rfl (pc0 := 64) (pc' := 74) rfl (hb hby d3_64) rfl (flt c64_13).2.2.2 (by decide) (by decide) ?_; exact kt') ?_
            show Go p e below _ (s₁.setTop (mkF m 74 #[.val (.int ((((((p0 ^^^ (-1 : Int32)) &&& (p0 - (1 : Int32))).toUInt32 >>> ((16 : Int32) &&& 31).toUInt32).toInt32).toUInt32 >>> ((4 : Int32) &&& 31).toUInt32).toInt32)), .val (.int (((1 : Int32) + (16 : Int32)) + (4 : Int32)))] []))
            refine go (fun t kt' => by refine XS.iloadN X0.here hx rfl (hb hby d3_74) rfl ?_; exact kt') ?_
            show Go p e below _ (s₁.setTop (mkF m 75 #[.val (.int ((((((p0 ^^^ (-1 : Int32)) &&& (p0 - (1 : Int32))).toUInt32 >>> ((16 : Int32) &&& 31).toUInt32).toInt32).toUInt32 >>> ((4 : Int32) &&& 31).toUInt32).toInt32)), .val (.int (((1 : Int32) + (16 : Int32)) + (4 : Int32)))] [(.int (((1 : Int32) + (16 : Int32)) + (4 : Int32)))]))
            refine go (fun t kt' => by refine XS.iloadN X0.here hx rfl (hb hby d3_75) rfl ?_; exact kt') ?_
            show Go p e below _ (s₁.setTop (mkF m 76 #[.val (.int ((((((p0 ^^^ (-1 : Int32)) &&& (p0 - (1 : Int32))).toUInt32 >>> ((16 : Int32) &&& 31).toUInt32).toInt32).toUInt32 >>> ((4 : Int32) &&& 31).toUInt32).toInt32)), .val (.int (((1 : Int32) + (16 : Int32)) + (4 : Int32)))] [(.int ((((((p0 ^^^ (-1 : Int32)) &&& (p0 - (1 : Int32))).toUInt32 >>> ((16 : Int32) &&& 31).toUInt32).toInt32).toUInt32 >>> ((4 : Int32) &&& 31).toUInt32).toInt32)), (.int (((1 : Int32) + (16 : Int32)) + (4 : Int32)))]))
            refine go (fun t kt' => by refine XS.iconst X0.here hx rfl (hb hby d3_76) ?_; exact kt') ?_
            show Go p e below _ (s₁.setTop (mkF m 77 #[.val (.int ((((((p0 ^^^ (-1 : Int32)) &&& (p0 - (1 : Int32))).toUInt32 >>> ((16 : Int32) &&& 31).toUInt32).toInt32).toUInt32 >>> ((4 : Int32) &&& 31).toUInt32).toInt32)), .val (.int (((1 : Int32) + (16 : Int32)) + (4 : Int32)))] [(.int (1 : Int32)), (.int ((((((p0 ^^^ (-1 : Int32)) &&& (p0 - (1 : Int32))).toUInt32 >>> ((16 : Int32) &&& 31).toUInt32).toInt32).toUInt32 >>> ((4 : Int32) &&& 31).toUInt32).toInt32)), (.int (((1 : Int32) + (16 : Int32)) + (4 : Int32)))]))
            refine go (fun t kt' => by refine XS.iushr X0.here hx rfl (hb hby d3_77) rfl ?_; exact kt') ?_
            show Go p e below _ (s₁.setTop (mkF m 78 #[.val (.int ((((((p0 ^^^ (-1 : Int32)) &&& (p0 - (1 : Int32))).toUInt32 >>> ((16 : Int32) &&& 31).toUInt32).toInt32).toUInt32 >>> ((4 : Int32) &&& 31).toUInt32).toInt32)), .val (.int (((1 : Int32) + (16 : Int32)) + (4 : Int32)))] [(.int ((((((((p0 ^^^ (-1 : Int32)) &&& (p0 - (1 : Int32))).toUInt32 >>> ((16 : Int32) &&& 31).toUInt32).toInt32).toUInt32 >>> ((4 : Int32) &&& 31).toUInt32).toInt32).toUInt32 >>> ((1 : Int32) &&& 31).toUInt32).toInt32)), (.int (((1 : Int32) + (16 : Int32)) + (4 : Int32)))]))
            refine go (fun t kt' => by refine XS.iadd X0.here hx rfl (hb hby d3_78) rfl ?_; exact kt') ?_
            show Go p e below _ (s₁.setTop (mkF m 79 #[.val (.int ((((((p0 ^^^ (-1 : Int32)) &&& (p0 - (1 : Int32))).toUInt32 >>> ((16 : Int32) &&& 31).toUInt32).toInt32).toUInt32 >>> ((4 : Int32) &&& 31).toUInt32).toInt32)), .val (.int (((1 : Int32) + (16 : Int32)) + (4 : Int32)))] [(.int ((((1 : Int32) + (16 : Int32)) + (4 : Int32)) + ((((((((p0 ^^^ (-1 : Int32)) &&& (p0 - (1 : Int32))).toUInt32 >>> ((16 : Int32) &&& 31).toUInt32).toInt32).toUInt32 >>> ((4 : Int32) &&& 31).toUInt32).toInt32).toUInt32 >>> ((1 : Int32) &&& 31).toUInt32).toInt32)))]))
            refine goOut X0 (fun h => by rw [Bd.returns] at h; cases h) hlk (fun fs hr => retOut X0 hx Bd.returns rfl (Or.inl ⟨rfl, Or.inl rfl, _, rfl⟩) (hb hby d3_79) hr) (by decide) (by decide) ?_
            rw [e0]
            exact ⟨_, rfl, fun k hk => by rw [hk] at c9_1 c23_2 c38_10 c52_11 c64_13 ⊢; clear hk; revert c9_1 c23_2 c38_10 c52_11 c64_13; revert k; decide +kernel, N0, rfl⟩
          · skip
            refine go (fun t kt' => by refine XS.icmpNo X0.here hx rfl (hb hby d3_64) rfl (tlt (Decidable.not_not.mp c64_13)).2.2.2 ?_; exact kt') ?_
            show Go p e below _ (s₁.setTop (mkF m 67 #[.val (.int ((((((p0 ^^^ (-1 : Int32)) &&& (p0 - (1 : Int32))).toUInt32 >>> ((16 : Int32) &&& 31).toUInt32).toInt32).toUInt32 >>> ((4 : Int32) &&& 31).toUInt32).toInt32)), .val (.int (((1 : Int32) + (16 : Int32)) + (4 : Int32)))] []))
            refine go (fun t kt' => by refine XS.iinc X0.here hx rfl (hb hby d3_67) rfl (l' := #[.val (.int ((((((p0 ^^^ (-1 : Int32)) &&& (p0 - (1 : Int32))).toUInt32 >>> ((16 : Int32) &&& 31).toUInt32).toInt32).toUInt32 >>> ((4 : Int32) &&& 31).toUInt32).toInt32)), .val (.int ((((1 : Int32) + (16 : Int32)) + (4 : Int32)) + (2 : Int32)))]) rfl ?_; exact kt') ?_
            show Go p e below _ (s₁.setTop (mkF m 70 #[.val (.int ((((((p0 ^^^ (-1 : Int32)) &&& (p0 - (1 : Int32))).toUInt32 >>> ((16 : Int32) &&& 31).toUInt32).toInt32).toUInt32 >>> ((4 : Int32) &&& 31).toUInt32).toInt32)), .val (.int ((((1 : Int32) + (16 : Int32)) + (4 : Int32)) + (2 : Int32)))] []))
            refine go (fun t kt' => by refine XS.iloadN X0.here hx rfl (hb hby d3_70) rfl ?_; exact kt') ?_
            show Go p e below _ (s₁.setTop (mkF m 71 #[.val (.int ((((((p0 ^^^ (-1 : Int32)) &&& (p0 - (1 : Int32))).toUInt32 >>> ((16 : Int32) &&& 31).toUInt32).toInt32).toUInt32 >>> ((4 : Int32) &&& 31).toUInt32).toInt32)), .val (.int ((((1 : Int32) + (16 : Int32)) + (4 : Int32)) + (2 : Int32)))] [(.int ((((((p0 ^^^ (-1 : Int32)) &&& (p0 - (1 : Int32))).toUInt32 >>> ((16 : Int32) &&& 31).toUInt32).toInt32).toUInt32 >>> ((4 : Int32) &&& 31).toUInt32).toInt32))]))
            refine go (fun t kt' => by refine XS.iconst X0.here hx rfl (hb hby d3_71) ?_; exact kt') ?_
            show Go p e below _ (s₁.setTop (mkF m 72 #[.val (.int ((((((p0 ^^^ (-1 : Int32)) &&& (p0 - (1 : Int32))).toUInt32 >>> ((16 : Int32) &&& 31).toUInt32).toInt32).toUInt32 >>> ((4 : Int32) &&& 31).toUInt32).toInt32)), .val (.int ((((1 : Int32) + (16 : Int32)) + (4 : Int32)) + (2 : Int32)))] [(.int (2 : Int32)), (.int ((((((p0 ^^^ (-1 : Int32)) &&& (p0 - (1 : Int32))).toUInt32 >>> ((16 : Int32) &&& 31).toUInt32).toInt32).toUInt32 >>> ((4 : Int32) &&& 31).toUInt32).toInt32))]))
            refine go (fun t kt' => by refine XS.iushr X0.here hx rfl (hb hby d3_72) rfl ?_; exact kt') ?_
            show Go p e below _ (s₁.setTop (mkF m 73 #[.val (.int ((((((p0 ^^^ (-1 : Int32)) &&& (p0 - (1 : Int32))).toUInt32 >>> ((16 : Int32) &&& 31).toUInt32).toInt32).toUInt32 >>> ((4 : Int32) &&& 31).toUInt32).toInt32)), .val (.int ((((1 : Int32) + (16 : Int32)) + (4 : Int32)) + (2 : Int32)))] [(.int ((((((((p0 ^^^ (-1 : Int32)) &&& (p0 - (1 : Int32))).toUInt32 >>> ((16 : Int32) &&& 31).toUInt32).toInt32).toUInt32 >>> ((4 : Int32) &&& 31).toUInt32).toInt32).toUInt32 >>> ((2 : Int32) &&& 31).toUInt32).toInt32))]))
            refine go (fun t kt' => by refine XS.istoreN X0.here hx rfl (hb hby d3_73) rfl (l' := #[.val (.int ((((((((p0 ^^^ (-1 : Int32)) &&& (p0 - (1 : Int32))).toUInt32 >>> ((16 : Int32) &&& 31).toUInt32).toInt32).toUInt32 >>> ((4 : Int32) &&& 31).toUInt32).toInt32).toUInt32 >>> ((2 : Int32) &&& 31).toUInt32).toInt32)), .val (.int ((((1 : Int32) + (16 : Int32)) + (4 : Int32)) + (2 : Int32)))]) rfl ?_; exact kt') ?_
            show Go p e below _ (s₁.setTop (mkF m 74 #[.val (.int ((((((((p0 ^^^ (-1 : Int32)) &&& (p0 - (1 : Int32))).toUInt32 >>> ((16 : Int32) &&& 31).toUInt32).toInt32).toUInt32 >>> ((4 : Int32) &&& 31).toUInt32).toInt32).toUInt32 >>> ((2 : Int32) &&& 31).toUInt32).toInt32)), .val (.int ((((1 : Int32) + (16 : Int32)) + (4 : Int32)) + (2 : Int32)))] []))
            refine go (fun t kt' => by refine XS.iloadN X0.here hx rfl (hb hby d3_74) rfl ?_; exact kt') ?_
            show Go p e below _ (s₁.setTop (mkF m 75 #[.val (.int ((((((((p0 ^^^ (-1 : Int32)) &&& (p0 - (1 : Int32))).toUInt32 >>> ((16 : Int32) &&& 31).toUInt32).toInt32).toUInt32 >>> ((4 : Int32) &&& 31).toUInt32).toInt32).toUInt32 >>> ((2 : Int32) &&& 31).toUInt32).toInt32)), .val (.int ((((1 : Int32) + (16 : Int32)) + (4 : Int32)) + (2 : Int32)))] [(.int ((((1 : Int32) + (16 : Int32)) + (4 : Int32)) + (2 : Int32)))]))
            refine go (fun t kt' => by refine XS.iloadN X0.here hx rfl (hb hby d3_75) rfl ?_; exact kt') ?_
            show Go p e below _ (s₁.setTop (mkF m 76 #[.val (.int ((((((((p0 ^^^ (-1 : Int32)) &&& (p0 - (1 : Int32))).toUInt32 >>> ((16 : Int32) &&& 31).toUInt32).toInt32).toUInt32 >>> ((4 : Int32) &&& 31).toUInt32).toInt32).toUInt32 >>> ((2 : Int32) &&& 31).toUInt32).toInt32)), .val (.int ((((1 : Int32) + (16 : Int32)) + (4 : Int32)) + (2 : Int32)))] [(.int ((((((((p0 ^^^ (-1 : Int32)) &&& (p0 - (1 : Int32))).toUInt32 >>> ((16 : Int32) &&& 31).toUInt32).toInt32).toUInt32 >>> ((4 : Int32) &&& 31).toUInt32).toInt32).toUInt32 >>> ((2 : Int32) &&& 31).toUInt32).toInt32)), (.int ((((1 : Int32) + (16 : Int32)) + (4 : Int32)) + (2 : Int32)))]))
            refine go (fun t kt' => by refine XS.iconst X0.here hx rfl (hb hby d3_76) ?_; exact kt') ?_
            show Go p e below _ (s₁.setTop (mkF m 77 #[.val (.int ((((((((p0 ^^^ (-1 : Int32)) &&& (p0 - (1 : Int32))).toUInt32 >>> ((16 : Int32) &&& 31).toUInt32).toInt32).toUInt32 >>> ((4 : Int32) &&& 31).toUInt32).toInt32).toUInt32 >>> ((2 : Int32) &&& 31).toUInt32).toInt32)), .val (.int ((((1 : Int32) + (16 : Int32)) + (4 : Int32)) + (2 : Int32)))] [(.int (1 : Int32)), (.int ((((((((p0 ^^^ (-1 : Int32)) &&& (p0 - (1 : Int32))).toUInt32 >>> ((16 : Int32) &&& 31).toUInt32).toInt32).toUInt32 >>> ((4 : Int32) &&& 31).toUInt32).toInt32).toUInt32 >>> ((2 : Int32) &&& 31).toUInt32).toInt32)), (.int ((((1 : Int32) + (16 : Int32)) + (4 : Int32)) + (2 : Int32)))]))
            refine go (fun t kt' => by refine XS.iushr X0.here hx rfl (hb hby d3_77) rfl ?_; exact kt') ?_
            show Go p e below _ (s₁.setTop (mkF m 78 #[.val (.int ((((((((p0 ^^^ (-1 : Int32)) &&& (p0 - (1 : Int32))).toUInt32 >>> ((16 : Int32) &&& 31).toUInt32).toInt32).toUInt32 >>> ((4 : Int32) &&& 31).toUInt32).toInt32).toUInt32 >>> ((2 : Int32) &&& 31).toUInt32).toInt32)), .val (.int ((((1 : Int32) + (16 : Int32)) + (4 : Int32)) + (2 : Int32)))] [(.int ((((((((((p0 ^^^ (-1 : Int32)) &&& (p0 - (1 : Int32))).toUInt32 >>> ((16 : Int32) &&& 31).toUInt32).toInt32).toUInt32 >>> ((4 : Int32) &&& 31).toUInt32).toInt32).toUInt32 >>> ((2 : Int32) &&& 31).toUInt32).toInt32).toUInt32 >>> ((1 : Int32) &&& 31).toUInt32).toInt32)), (.int ((((1 : Int32) + (16 : Int32)) + (4 : Int32)) + (2 : Int32)))]))
            refine go (fun t kt' => by refine XS.iadd X0.here hx rfl (hb hby d3_78) rfl ?_; exact kt') ?_
            show Go p e below _ (s₁.setTop (mkF m 79 #[.val (.int ((((((((p0 ^^^ (-1 : Int32)) &&& (p0 - (1 : Int32))).toUInt32 >>> ((16 : Int32) &&& 31).toUInt32).toInt32).toUInt32 >>> ((4 : Int32) &&& 31).toUInt32).toInt32).toUInt32 >>> ((2 : Int32) &&& 31).toUInt32).toInt32)), .val (.int ((((1 : Int32) + (16 : Int32)) + (4 : Int32)) + (2 : Int32)))] [(.int (((((1 : Int32) + (16 : Int32)) + (4 : Int32)) + (2 : Int32)) + ((((((((((p0 ^^^ (-1 : Int32)) &&& (p0 - (1 : Int32))).toUInt32 >>> ((16 : Int32) &&& 31).toUInt32).toInt32).toUInt32 >>> ((4 : Int32) &&& 31).toUInt32).toInt32).toUInt32 >>> ((2 : Int32) &&& 31).toUInt32).toInt32).toUInt32 >>> ((1 : Int32) &&& 31).toUInt32).toInt32)))]))
            refine goOut X0 (fun h => by rw [Bd.returns] at h; cases h) hlk (fun fs hr => retOut X0 hx Bd.returns rfl (Or.inl ⟨rfl, Or.inl rfl, _, rfl⟩) (hb hby d3_79) hr) (by decide) (by decide) ?_
            rw [e0]
            exact ⟨_, rfl, fun k hk => by rw [hk] at c9_1 c23_2 c38_10 c52_11 c64_13 ⊢; clear hk; revert c9_1 c23_2 c38_10 c52_11 c64_13; revert k; decide +kernel, N0, rfl⟩
      · skip
        refine go (fun t kt' => by refine XS.icmpNo X0.here hx rfl (hb hby d3_38) rfl (tlt (Decidable.not_not.mp c38_10)).2.2.2 ?_; exact kt') ?_
        show Go p e below _ (s₁.setTop (mkF m 41 #[.val (.int ((((p0 ^^^ (-1 : Int32)) &&& (p0 - (1 : Int32))).toUInt32 >>> ((16 : Int32) &&& 31).toUInt32).toInt32)), .val (.int ((1 : Int32) + (16 : Int32)))] []))
        refine go (fun t kt' => by refine XS.iinc X0.here hx rfl (hb hby d3_41) rfl (l' := #[.val (.int ((((p0 ^^^ (-1 : Int32)) &&& (p0 - (1 : Int32))).toUInt32 >>> ((16 : Int32) &&& 31).toUInt32).toInt32)), .val (.int (((1 : Int32) + (16 : Int32)) + (8 : Int32)))]) rfl ?_; exact kt') ?_
        show Go p e below _ (s₁.setTop (mkF m 44 #[.val (.int ((((p0 ^^^ (-1 : Int32)) &&& (p0 - (1 : Int32))).toUInt32 >>> ((16 : Int32) &&& 31).toUInt32).toInt32)), .val (.int (((1 : Int32) + (16 : Int32)) + (8 : Int32)))] []))
        refine go (fun t kt' => by refine XS.iloadN X0.here hx rfl (hb hby d3_44) rfl ?_; exact kt') ?_
        show Go p e below _ (s₁.setTop (mkF m 45 #[.val (.int ((((p0 ^^^ (-1 : Int32)) &&& (p0 - (1 : Int32))).toUInt32 >>> ((16 : Int32) &&& 31).toUInt32).toInt32)), .val (.int (((1 : Int32) + (16 : Int32)) + (8 : Int32)))] [(.int ((((p0 ^^^ (-1 : Int32)) &&& (p0 - (1 : Int32))).toUInt32 >>> ((16 : Int32) &&& 31).toUInt32).toInt32))]))
        refine go (fun t kt' => by refine XS.bipush X0.here hx rfl (hb hby d3_45) ?_; exact kt') ?_
        show Go p e below _ (s₁.setTop (mkF m 47 #[.val (.int ((((p0 ^^^ (-1 : Int32)) &&& (p0 - (1 : Int32))).toUInt32 >>> ((16 : Int32) &&& 31).toUInt32).toInt32)), .val (.int (((1 : Int32) + (16 : Int32)) + (8 : Int32)))] [(.int (8 : Int32)), (.int ((((p0 ^^^ (-1 : Int32)) &&& (p0 - (1 : Int32))).toUInt32 >>> ((16 : Int32) &&& 31).toUInt32).toInt32))]))
        refine go (fun t kt' => by refine XS.iushr X0.here hx rfl (hb hby d3_47) rfl ?_; exact kt') ?_
        show Go p e below _ (s₁.setTop (mkF m 48 #[.val (.int ((((p0 ^^^ (-1 : Int32)) &&& (p0 - (1 : Int32))).toUInt32 >>> ((16 : Int32) &&& 31).toUInt32).toInt32)), .val (.int (((1 : Int32) + (16 : Int32)) + (8 : Int32)))] [(.int ((((((p0 ^^^ (-1 : Int32)) &&& (p0 - (1 : Int32))).toUInt32 >>> ((16 : Int32) &&& 31).toUInt32).toInt32).toUInt32 >>> ((8 : Int32) &&& 31).toUInt32).toInt32))]))
        refine go (fun t kt' => by refine XS.istoreN X0.here hx rfl (hb hby d3_48) rfl (l' := #[.val (.int ((((((p0 ^^^ (-1 : Int32)) &&& (p0 - (1 : Int32))).toUInt32 >>> ((16 : Int32) &&& 31).toUInt32).toInt32).toUInt32 >>> ((8 : Int32) &&& 31).toUInt32).toInt32)), .val (.int (((1 : Int32) + (16 : Int32)) + (8 : Int32)))]) rfl ?_; exact kt') ?_
        show Go p e below _ (s₁.setTop (mkF m 49 #[.val (.int ((((((p0 ^^^ (-1 : Int32)) &&& (p0 - (1 : Int32))).toUInt32 >>> ((16 : Int32) &&& 31).toUInt32).toInt32).toUInt32 >>> ((8 : Int32) &&& 31).toUInt32).toInt32)), .val (.int (((1 : Int32) + (16 : Int32)) + (8 : Int32)))] []))
        refine go (fun t kt' => by refine XS.iloadN X0.here hx rfl (hb hby d3_49) rfl ?_; exact kt') ?_
        show Go p e below _ (s₁.setTop (mkF m 50 #[.val (.int ((((((p0 ^^^ (-1 : Int32)) &&& (p0 - (1 : Int32))).toUInt32 >>> ((16 : Int32) &&& 31).toUInt32).toInt32).toUInt32 >>> ((8 : Int32) &&& 31).toUInt32).toInt32)), .val (.int (((1 : Int32) + (16 : Int32)) + (8 : Int32)))] [(.int ((((((p0 ^^^ (-1 : Int32)) &&& (p0 - (1 : Int32))).toUInt32 >>> ((16 : Int32) &&& 31).toUInt32).toInt32).toUInt32 >>> ((8 : Int32) &&& 31).toUInt32).toInt32))]))
        refine go (fun t kt' => by refine XS.bipush X0.here hx rfl (hb hby d3_50) ?_; exact kt') ?_
        show Go p e below _ (s₁.setTop (mkF m 52 #[.val (.int ((((((p0 ^^^ (-1 : Int32)) &&& (p0 - (1 : Int32))).toUInt32 >>> ((16 : Int32) &&& 31).toUInt32).toInt32).toUInt32 >>> ((8 : Int32) &&& 31).toUInt32).toInt32)), .val (.int (((1 : Int32) + (16 : Int32)) + (8 : Int32)))] [(.int (16 : Int32)), (.int ((((((p0 ^^^ (-1 : Int32)) &&& (p0 - (1 : Int32))).toUInt32 >>> ((16 : Int32) &&& 31).toUInt32).toInt32).toUInt32 >>> ((8 : Int32) &&& 31).toUInt32).toInt32))]))
        by_cases c52_14 : ¬ (16 : Int32) < ((((((p0 ^^^ (-1 : Int32)) &&& (p0 - (1 : Int32))).toUInt32 >>> ((16 : Int32) &&& 31).toUInt32).toInt32).toUInt32 >>> ((8 : Int32) &&& 31).toUInt32).toInt32)
        · skip
          refine go (fun t kt' => by refine XS.icmpYes X0.here hx rfl (pc0 := 52) (pc' := 62) rfl (hb hby d3_52) rfl (flt c52_14).2.2.2 (by decide) (by decide) ?_; exact kt') ?_
          show Go p e below _ (s₁.setTop (mkF m 62 #[.val (.int ((((((p0 ^^^ (-1 : Int32)) &&& (p0 - (1 : Int32))).toUInt32 >>> ((16 : Int32) &&& 31).toUInt32).toInt32).toUInt32 >>> ((8 : Int32) &&& 31).toUInt32).toInt32)), .val (.int (((1 : Int32) + (16 : Int32)) + (8 : Int32)))] []))
          refine go (fun t kt' => by refine XS.iloadN X0.here hx rfl (hb hby d3_62) rfl ?_; exact kt') ?_
          show Go p e below _ (s₁.setTop (mkF m 63 #[.val (.int ((((((p0 ^^^ (-1 : Int32)) &&& (p0 - (1 : Int32))).toUInt32 >>> ((16 : Int32) &&& 31).toUInt32).toInt32).toUInt32 >>> ((8 : Int32) &&& 31).toUInt32).toInt32)), .val (.int (((1 : Int32) + (16 : Int32)) + (8 : Int32)))] [(.int ((((((p0 ^^^ (-1 : Int32)) &&& (p0 - (1 : Int32))).toUInt32 >>> ((16 : Int32) &&& 31).toUInt32).toInt32).toUInt32 >>> ((8 : Int32) &&& 31).toUInt32).toInt32))]))
          refine go (fun t kt' => by refine XS.iconst X0.here hx rfl (hb hby d3_63) ?_; exact kt') ?_
          show Go p e below _ (s₁.setTop (mkF m 64 #[.val (.int ((((((p0 ^^^ (-1 : Int32)) &&& (p0 - (1 : Int32))).toUInt32 >>> ((16 : Int32) &&& 31).toUInt32).toInt32).toUInt32 >>> ((8 : Int32) &&& 31).toUInt32).toInt32)), .val (.int (((1 : Int32) + (16 : Int32)) + (8 : Int32)))] [(.int (4 : Int32)), (.int ((((((p0 ^^^ (-1 : Int32)) &&& (p0 - (1 : Int32))).toUInt32 >>> ((16 : Int32) &&& 31).toUInt32).toInt32).toUInt32 >>> ((8 : Int32) &&& 31).toUInt32).toInt32))]))
          by_cases c64_15 : ¬ (4 : Int32) < ((((((p0 ^^^ (-1 : Int32)) &&& (p0 - (1 : Int32))).toUInt32 >>> ((16 : Int32) &&& 31).toUInt32).toInt32).toUInt32 >>> ((8 : Int32) &&& 31).toUInt32).toInt32)
          · skip
            refine go (fun t kt' => by refine XS.icmpYes X0.here hx rfl (pc0 := 64) (pc' := 74) rfl (hb hby d3_64) rfl (flt c64_15).2.2.2 (by decide) (by decide) ?_; exact kt') ?_
            show Go p e below _ (s₁.setTop (mkF m 74 #[.val (.int ((((((p0 ^^^ (-1 : Int32)) &&& (p0 - (1 : Int32))).toUInt32 >>> ((16 : Int32) &&& 31).toUInt32).toInt32).toUInt32 >>> ((8 : Int32) &&& 31).toUInt32).toInt32)), .val (.int (((1 : Int32) + (16 : Int32)) + (8 : Int32)))] []))
            refine go (fun t kt' => by refine XS.iloadN X0.here hx rfl (hb hby d3_74) rfl ?_; exact kt') ?_
            show Go p e below _ (s₁.setTop (mkF m 75 #[.val (.int ((((((p0 ^^^ (-1 : Int32)) &&& (p0 - (1 : Int32))).toUInt32 >>> ((16 : Int32) &&& 31).toUInt32).toInt32).toUInt32 >>> ((8 : Int32) &&& 31).toUInt32).toInt32)), .val (.int (((1 : Int32) + (16 : Int32)) + (8 : Int32)))] [(.int (((1 : Int32) + (16 : Int32)) + (8 : Int32)))]))
            refine go (fun t kt' => by refine XS.iloadN X0.here hx rfl (hb hby d3_75) rfl ?_; exact kt') ?_
            show Go p e below _ (s₁.setTop (mkF m 76 #[.val (.int ((((((p0 ^^^ (-1 : Int32)) &&& (p0 - (1 : Int32))).toUInt32 >>> ((16 : Int32) &&& 31).toUInt32).toInt32).toUInt32 >>> ((8 : Int32) &&& 31).toUInt32).toInt32)), .val (.int (((1 : Int32) + (16 : Int32)) + (8 : Int32)))] [(.int ((((((p0 ^^^ (-1 : Int32)) &&& (p0 - (1 : Int32))).toUInt32 >>> ((16 : Int32) &&& 31).toUInt32).toInt32).toUInt32 >>> ((8 : Int32) &&& 31).toUInt32).toInt32)), (.int (((1 : Int32) + (16 : Int32)) + (8 : Int32)))]))
            refine go (fun t kt' => by refine XS.iconst X0.here hx rfl (hb hby d3_76) ?_; exact kt') ?_
            show Go p e below _ (s₁.setTop (mkF m 77 #[.val (.int ((((((p0 ^^^ (-1 : Int32)) &&& (p0 - (1 : Int32))).toUInt32 >>> ((16 : Int32) &&& 31).toUInt32).toInt32).toUInt32 >>> ((8 : Int32) &&& 31).toUInt32).toInt32)), .val (.int (((1 : Int32) + (16 : Int32)) + (8 : Int32)))] [(.int (1 : Int32)), (.int ((((((p0 ^^^ (-1 : Int32)) &&& (p0 - (1 : Int32))).toUInt32 >>> ((16 : Int32) &&& 31).toUInt32).toInt32).toUInt32 >>> ((8 : Int32) &&& 31).toUInt32).toInt32)), (.int (((1 : Int32) + (16 : Int32)) + (8 : Int32)))]))
            refine go (fun t kt' => by refine XS.iushr X0.here hx rfl (hb hby d3_77) rfl ?_; exact kt') ?_
            show Go p e below _ (s₁.setTop (mkF m 78 #[.val (.int ((((((p0 ^^^ (-1 : Int32)) &&& (p0 - (1 : Int32))).toUInt32 >>> ((16 : Int32) &&& 31).toUInt32).toInt32).toUInt32 >>> ((8 : Int32) &&& 31).toUInt32).toInt32)), .val (.int (((1 : Int32) + (16 : Int32)) + (8 : Int32)))] [(.int ((((((((p0 ^^^ (-1 : Int32)) &&& (p0 - (1 : Int32))).toUInt32 >>> ((16 : Int32) &&& 31).toUInt32).toInt32).toUInt32 >>> ((8 : Int32) &&& 31).toUInt32).toInt32).toUInt32 >>> ((1 : Int32) &&& 31).toUInt32).toInt32)), (.int (((1 : Int32) + (16 : Int32)) + (8 : Int32)))]))
            refine go (fun t kt' => by refine XS.iadd X0.here hx rfl (hb hby d3_78) rfl ?_; exact kt') ?_
            show Go p e below _ (s₁.setTop (mkF m 79 #[.val (.int ((((((p0 ^^^ (-1 : Int32)) &&& (p0 - (1 : Int32))).toUInt32 >>> ((16 : Int32) &&& 31).toUInt32).toInt32).toUInt32 >>> ((8 : Int32) &&& 31).toUInt32).toInt32)), .val (.int (((1 : Int32) + (16 : Int32)) + (8 : Int32)))] [(.int ((((1 : Int32) + (16 : Int32)) + (8 : Int32)) + ((((((((p0 ^^^ (-1 : Int32)) &&& (p0 - (1 : Int32))).toUInt32 >>> ((16 : Int32) &&& 31).toUInt32).toInt32).toUInt32 >>> ((8 : Int32) &&& 31).toUInt32).toInt32).toUInt32 >>> ((1 : Int32) &&& 31).toUInt32).toInt32)))]))
            refine goOut X0 (fun h => by rw [Bd.returns] at h; cases h) hlk (fun fs hr => retOut X0 hx Bd.returns rfl (Or.inl ⟨rfl, Or.inl rfl, _, rfl⟩) (hb hby d3_79) hr) (by decide) (by decide) ?_
            rw [e0]
            exact ⟨_, rfl, fun k hk => by rw [hk] at c9_1 c23_2 c38_10 c52_14 c64_15 ⊢; clear hk; revert c9_1 c23_2 c38_10 c52_14 c64_15; revert k; decide +kernel, N0, rfl⟩
          · skip
            refine go (fun t kt' => by refine XS.icmpNo X0.here hx rfl (hb hby d3_64) rfl (tlt (Decidable.not_not.mp c64_15)).2.2.2 ?_; exact kt') ?_
            show Go p e below _ (s₁.setTop (mkF m 67 #[.val (.int ((((((p0 ^^^ (-1 : Int32)) &&& (p0 - (1 : Int32))).toUInt32 >>> ((16 : Int32) &&& 31).toUInt32).toInt32).toUInt32 >>> ((8 : Int32) &&& 31).toUInt32).toInt32)), .val (.int (((1 : Int32) + (16 : Int32)) + (8 : Int32)))] []))
            refine go (fun t kt' => by refine XS.iinc X0.here hx rfl (hb hby d3_67) rfl (l' := #[.val (.int ((((((p0 ^^^ (-1 : Int32)) &&& (p0 - (1 : Int32))).toUInt32 >>> ((16 : Int32) &&& 31).toUInt32).toInt32).toUInt32 >>> ((8 : Int32) &&& 31).toUInt32).toInt32)), .val (.int ((((1 : Int32) + (16 : Int32)) + (8 : Int32)) + (2 : Int32)))]) rfl ?_; exact kt') ?_
            show Go p e below _ (s₁.setTop (mkF m 70 #[.val (.int ((((((p0 ^^^ (-1 : Int32)) &&& (p0 - (1 : Int32))).toUInt32 >>> ((16 : Int32) &&& 31).toUInt32).toInt32).toUInt32 >>> ((8 : Int32) &&& 31).toUInt32).toInt32)), .val (.int ((((1 : Int32) + (16 : Int32)) + (8 : Int32)) + (2 : Int32)))] []))
            refine go (fun t kt' => by refine XS.iloadN X0.here hx rfl (hb hby d3_70) rfl ?_; exact kt') ?_
            show Go p e below _ (s₁.setTop (mkF m 71 #[.val (.int ((((((p0 ^^^ (-1 : Int32)) &&& (p0 - (1 : Int32))).toUInt32 >>> ((16 : Int32) &&& 31).toUInt32).toInt32).toUInt32 >>> ((8 : Int32) &&& 31).toUInt32).toInt32)), .val (.int ((((1 : Int32) + (16 : Int32)) + (8 : Int32)) + (2 : Int32)))] [(.int ((((((p0 ^^^ (-1 : Int32)) &&& (p0 - (1 : Int32))).toUInt32 >>> ((16 : Int32) &&& 31).toUInt32).toInt32).toUInt32 >>> ((8 : Int32) &&& 31).toUInt32).toInt32))]))
            refine go (fun t kt' => by refine XS.iconst X0.here hx rfl (hb hby d3_71) ?_; exact kt') ?_
            show Go p e below _ (s₁.setTop (mkF m 72 #[.val (.int ((((((p0 ^^^ (-1 : Int32)) &&& (p0 - (1 : Int32))).toUInt32 >>> ((16 : Int32) &&& 31).toUInt32).toInt32).toUInt32 >>> ((8 : Int32) &&& 31).toUInt32).toInt32)), .val (.int ((((1 : Int32) + (16 : Int32)) + (8 : Int32)) + (2 : Int32)))] [(.int (2 : Int32)), (.int ((((((p0 ^^^ (-1 : Int32)) &&& (p0 - (1 : Int32))).toUInt32 >>> ((16 : Int32) &&& 31).toUInt32).toInt32).toUInt32 >>> ((8 : Int32) &&& 31).toUInt32).toInt32))]))
            refine go (fun t kt' => by refine XS.iushr X0.here hx rfl (hb hby d3_72) rfl ?_; exact kt') ?_
            show Go p e below _ (s₁.setTop (mkF m 73 #[.val (.int ((((((p0 ^^^ (-1 : Int32)) &&& (p0 - (1 : Int32))).toUInt32 >>> ((16 : Int32) &&& 31).toUInt32).toInt32).toUInt32 >>> ((8 : Int32) &&& 31).toUInt32).toInt32)), .val (.int ((((1 : Int32) + (16 : Int32)) + (8 : Int32)) + (2 : Int32)))] [(.int ((((((((p0 ^^^ (-1 : Int32)) &&& (p0 - (1 : Int32))).toUInt32 >>> ((16 : Int32) &&& 31).toUInt32).toInt32).toUInt32 >>> ((8 : Int32) &&& 31).toUInt32).toInt32).toUInt32 >>> ((2 : Int32) &&& 31).toUInt32).toInt32))]))
            refine go (fun t kt' => by refine XS.istoreN X0.here hx rfl (hb hby d3_73) rfl (l' := #[.val (.int ((((((((p0 ^^^ (-1 : Int32)) &&& (p0 - (1 : Int32))).toUInt32 >>> ((16 : Int32) &&& 31).toUInt32).toInt32).toUInt32 >>> ((8 : Int32) &&& 31).toUInt32).toInt32).toUInt32 >>> ((2 : Int32) &&& 31).toUInt32).toInt32)), .val (.int ((((1 : Int32) + (16 : Int32)) + (8 : Int32)) + (2 : Int32)))]) rfl ?_; exact kt') ?_
            show Go p e below _ (s₁.setTop (mkF m 74 #[.val (.int ((((((((p0 ^^^ (-1 : Int32)) &&& (p0 - (1 : Int32))).toUInt32 >>> ((16 : Int32) &&& 31).toUInt32).toInt32).toUInt32 >>> ((8 : Int32) &&& 31).toUInt32).toInt32).toUInt32 >>> ((2 : Int32) &&& 31).toUInt32).toInt32)), .val (.int ((((1 : Int32) + (16 : Int32)) + (8 : Int32)) + (2 : Int32)))] []))
            refine go (fun t kt' => by refine XS.iloadN X0.here hx rfl (hb hby d3_74) rfl ?_; exact kt') ?_
            show Go p e below _ (s₁.setTop (mkF m 75 #[.val (.int ((((((((p0 ^^^ (-1 : Int32)) &&& (p0 - (1 : Int32))).toUInt32 >>> ((16 : Int32) &&& 31).toUInt32).toInt32).toUInt32 >>> ((8 : Int32) &&& 31).toUInt32).toInt32).toUInt32 >>> ((2 : Int32) &&& 31).toUInt32).toInt32)), .val (.int ((((1 : Int32) + (16 : Int32)) + (8 : Int32)) + (2 : Int32)))] [(.int ((((1 : Int32) + (16 : Int32)) + (8 : Int32)) + (2 : Int32)))]))
            refine go (fun t kt' => by refine XS.iloadN X0.here hx rfl (hb hby d3_75) rfl ?_; exact kt') ?_
            show Go p e below _ (s₁.setTop (mkF m 76 #[.val (.int ((((((((p0 ^^^ (-1 : Int32)) &&& (p0 - (1 : Int32))).toUInt32 >>> ((16 : Int32) &&& 31).toUInt32).toInt32).toUInt32 >>> ((8 : Int32) &&& 31).toUInt32).toInt32).toUInt32 >>> ((2 : Int32) &&& 31).toUInt32).toInt32)), .val (.int ((((1 : Int32) + (16 : Int32)) + (8 : Int32)) + (2 : Int32)))] [(.int ((((((((p0 ^^^ (-1 : Int32)) &&& (p0 - (1 : Int32))).toUInt32 >>> ((16 : Int32) &&& 31).toUInt32).toInt32).toUInt32 >>> ((8 : Int32) &&& 31).toUInt32).toInt32).toUInt32 >>> ((2 : Int32) &&& 31).toUInt32).toInt32)), (.int ((((1 : Int32) + (16 : Int32)) + (8 : Int32)) + (2 : Int32)))]))
            refine go (fun t kt' => by refine XS.iconst X0.here hx rfl (hb hby d3_76) ?_; exact kt') ?_
            show Go p e below _ (s₁.setTop (mkF m 77 #[.val (.int ((((((((p0 ^^^ (-1 : Int32)) &&& (p0 - (1 : Int32))).toUInt32 >>> ((16 : Int32) &&& 31).toUInt32).toInt32).toUInt32 >>> ((8 : Int32) &&& 31).toUInt32).toInt32).toUInt32 >>> ((2 : Int32) &&& 31).toUInt32).toInt32)), .val (.int ((((1 : Int32) + (16 : Int32)) + (8 : Int32)) + (2 : Int32)))] [(.int (1 : Int32)), (.int ((((((((p0 ^^^ (-1 : Int32)) &&& (p0 - (1 : Int32))).toUInt32 >>> ((16 : Int32) &&& 31).toUInt32).toInt32).toUInt32 >>> ((8 : Int32) &&& 31).toUInt32).toInt32).toUInt32 >>> ((2 : Int32) &&& 31).toUInt32).toInt32)), (.int ((((1 : Int32) + (16 : Int32)) + (8 : Int32)) + (2 : Int32)))]))
            refine go (fun t kt' => by refine XS.iushr X0.here hx rfl (hb hby d3_77) rfl ?_; exact kt') ?_
            show Go p e below _ (s₁.setTop (mkF m 78 #[.val (.int ((((((((p0 ^^^ (-1 : Int32)) &&& (p0 - (1 : Int32))).toUInt32 >>> ((16 : Int32) &&& 31).toUInt32).toInt32).toUInt32 >>> ((8 : Int32) &&& 31).toUInt32).toInt32).toUInt32 >>> ((2 : Int32) &&& 31).toUInt32).toInt32)), .val (.int ((((1 : Int32) + (16 : Int32)) + (8 : Int32)) + (2 : Int32)))] [(.int ((((((((((p0 ^^^ (-1 : Int32)) &&& (p0 - (1 : Int32))).toUInt32 >>> ((16 : Int32) &&& 31).toUInt32).toInt32).toUInt32 >>> ((8 : Int32) &&& 31).toUInt32).toInt32).toUInt32 >>> ((2 : Int32) &&& 31).toUInt32).toInt32).toUInt32 >>> ((1 : Int32) &&& 31).toUInt32).toInt32)), (.int ((((1 : Int32) + (16 : Int32)) + (8 : Int32)) + (2 : Int32)))]))
            refine go (fun t kt' => by refine XS.iadd X0.here hx rfl (hb hby d3_78) rfl ?_; exact kt') ?_
            show Go p e below _ (s₁.setTop (mkF m 79 #[.val (.int ((((((((p0 ^^^ (-1 : Int32)) &&& (p0 - (1 : Int32))).toUInt32 >>> ((16 : Int32) &&& 31).toUInt32).toInt32).toUInt32 >>> ((8 : Int32) &&& 31).toUInt32).toInt32).toUInt32 >>> ((2 : Int32) &&& 31).toUInt32).toInt32)), .val (.int ((((1 : Int32) + (16 : Int32)) + (8 : Int32)) + (2 : Int32)))] [(.int (((((1 : Int32) + (16 : Int32)) + (8 : Int32)) + (2 : Int32)) + ((((((((((p0 ^^^ (-1 : Int32)) &&& (p0 - (1 : Int32))).toUInt32 >>> ((16 : Int32) &&& 31).toUInt32).toInt32).toUInt32 >>> ((8 : Int32) &&& 31).toUInt32).toInt32).toUInt32 >>> ((2 : Int32) &&& 31).toUInt32).toInt32).toUInt32 >>> ((1 : Int32) &&& 31).toUInt32).toInt32)))]))
            refine goOut X0 (fun h => by rw [Bd.returns] at h; cases h) hlk (fun fs hr => retOut X0 hx Bd.returns rfl (Or.inl ⟨rfl, Or.inl rfl, _, rfl⟩) (hb hby d3_79) hr) (by decide) (by decide) ?_
            rw [e0]
            exact ⟨_, rfl, fun k hk => by rw [hk] at c9_1 c23_2 c38_10 c52_14 c64_15 ⊢; clear hk; revert c9_1 c23_2 c38_10 c52_14 c64_15; revert k; decide +kernel, N0, rfl⟩
        · skip
          refine go (fun t kt' => by refine XS.icmpNo X0.here hx rfl (hb hby d3_52) rfl (tlt (Decidable.not_not.mp c52_14)).2.2.2 ?_; exact kt') ?_
          show Go p e below _ (s₁.setTop (mkF m 55 #[.val (.int ((((((p0 ^^^ (-1 : Int32)) &&& (p0 - (1 : Int32))).toUInt32 >>> ((16 : Int32) &&& 31).toUInt32).toInt32).toUInt32 >>> ((8 : Int32) &&& 31).toUInt32).toInt32)), .val (.int (((1 : Int32) + (16 : Int32)) + (8 : Int32)))] []))
          refine go (fun t kt' => by refine XS.iinc X0.here hx rfl (hb hby d3_55) rfl (l' := #[.val (.int ((((((p0 ^^^ (-1 : Int32)) &&& (p0 - (1 : Int32))).toUInt32 >>> ((16 : Int32) &&& 31).toUInt32).toInt32).toUInt32 >>> ((8 : Int32) &&& 31).toUInt32).toInt32)), .val (.int ((((1 : Int32) + (16 : Int32)) + (8 : Int32)) + (4 : Int32)))]) rfl ?_; exact kt') ?_
          show Go p e below _ (s₁.setTop (mkF m 58 #[.val (.int ((((((p0 ^^^ (-1 : Int32)) &&& (p0 - (1 : Int32))).toUInt32 >>> ((16 : Int32) &&& 31).toUInt32).toInt32).toUInt32 >>> ((8 : Int32) &&& 31).toUInt32).toInt32)), .val (.int ((((1 : Int32) + (16 : Int32)) + (8 : Int32)) + (4 : Int32)))] []))
          refine go (fun t kt' => by refine XS.iloadN X0.here hx rfl (hb hby d3_58) rfl ?_; exact kt') ?_
          show Go p e below _ (s₁.setTop (mkF m 59 #[.val (.int ((((((p0 ^^^ (-1 : Int32)) &&& (p0 - (1 : Int32))).toUInt32 >>> ((16 : Int32) &&& 31).toUInt32).toInt32).toUInt32 >>> ((8 : Int32) &&& 31).toUInt32).toInt32)), .val (.int ((((1 : Int32) + (16 : Int32)) + (8 : Int32)) + (4 : Int32)))] [(.int ((((((p0 ^^^ (-1 : Int32)) &&& (p0 - (1 : Int32))).toUInt32 >>> ((16 : Int32) &&& 31).toUInt32).toInt32).toUInt32 >>> ((8 : Int32) &&& 31).toUInt32).toInt32))]))
          refine go (fun t kt' => by refine XS.iconst X0.here hx rfl (hb hby d3_59) ?_; exact kt') ?_
          show Go p e below _ (s₁.setTop (mkF m 60 #[.val (.int ((((((p0 ^^^ (-1 : Int32)) &&& (p0 - (1 : Int32))).toUInt32 >>> ((16 : Int32) &&& 31).toUInt32).toInt32).toUInt32 >>> ((8 : Int32) &&& 31).toUInt32).toInt32)), .val (.int ((((1 : Int32) + (16 : Int32)) + (8 : Int32)) + (4 : Int32)))] [(.int (4 : Int32)), (.int ((((((p0 ^^^ (-1 : Int32)) &&& (p0 - (1 : Int32))).toUInt32 >>> ((16 : Int32) &&& 31).toUInt32).toInt32).toUInt32 >>> ((8 : Int32) &&& 31).toUInt32).toInt32))]))
          refine go (fun t kt' => by refine XS.iushr X0.here hx rfl (hb hby d3_60) rfl ?_; exact kt') ?_
          show Go p e below _ (s₁.setTop (mkF m 61 #[.val (.int ((((((p0 ^^^ (-1 : Int32)) &&& (p0 - (1 : Int32))).toUInt32 >>> ((16 : Int32) &&& 31).toUInt32).toInt32).toUInt32 >>> ((8 : Int32) &&& 31).toUInt32).toInt32)), .val (.int ((((1 : Int32) + (16 : Int32)) + (8 : Int32)) + (4 : Int32)))] [(.int ((((((((p0 ^^^ (-1 : Int32)) &&& (p0 - (1 : Int32))).toUInt32 >>> ((16 : Int32) &&& 31).toUInt32).toInt32).toUInt32 >>> ((8 : Int32) &&& 31).toUInt32).toInt32).toUInt32 >>> ((4 : Int32) &&& 31).toUInt32).toInt32))]))
          refine go (fun t kt' => by refine XS.istoreN X0.here hx rfl (hb hby d3_61) rfl (l' := #[.val (.int ((((((((p0 ^^^ (-1 : Int32)) &&& (p0 - (1 : Int32))).toUInt32 >>> ((16 : Int32) &&& 31).toUInt32).toInt32).toUInt32 >>> ((8 : Int32) &&& 31).toUInt32).toInt32).toUInt32 >>> ((4 : Int32) &&& 31).toUInt32).toInt32)), .val (.int ((((1 : Int32) + (16 : Int32)) + (8 : Int32)) + (4 : Int32)))]) rfl ?_; exact kt') ?_
          show Go p e below _ (s₁.setTop (mkF m 62 #[.val (.int ((((((((p0 ^^^ (-1 : Int32)) &&& (p0 - (1 : Int32))).toUInt32 >>> ((16 : Int32) &&& 31).toUInt32).toInt32).toUInt32 >>> ((8 : Int32) &&& 31).toUInt32).toInt32).toUInt32 >>> ((4 : Int32) &&& 31).toUInt32).toInt32)), .val (.int ((((1 : Int32) + (16 : Int32)) + (8 : Int32)) + (4 : Int32)))] []))
          refine go (fun t kt' => by refine XS.iloadN X0.here hx rfl (hb hby d3_62) rfl ?_; exact kt') ?_
          show Go p e below _ (s₁.setTop (mkF m 63 #[.val (.int ((((((((p0 ^^^ (-1 : Int32)) &&& (p0 - (1 : Int32))).toUInt32 >>> ((16 : Int32) &&& 31).toUInt32).toInt32).toUInt32 >>> ((8 : Int32) &&& 31).toUInt32).toInt32).toUInt32 >>> ((4 : Int32) &&& 31).toUInt32).toInt32)), .val (.int ((((1 : Int32) + (16 : Int32)) + (8 : Int32)) + (4 : Int32)))] [(.int ((((((((p0 ^^^ (-1 : Int32)) &&& (p0 - (1 : Int32))).toUInt32 >>> ((16 : Int32) &&& 31).toUInt32).toInt32).toUInt32 >>> ((8 : Int32) &&& 31).toUInt32).toInt32).toUInt32 >>> ((4 : Int32) &&& 31).toUInt32).toInt32))]))
          refine go (fun t kt' => by refine XS.iconst X0.here hx rfl (hb hby d3_63) ?_; exact kt') ?_
          show Go p e below _ (s₁.setTop (mkF m 64 #[.val (.int ((((((((p0 ^^^ (-1 : Int32)) &&& (p0 - (1 : Int32))).toUInt32 >>> ((16 : Int32) &&& 31).toUInt32).toInt32).toUInt32 >>> ((8 : Int32) &&& 31).toUInt32).toInt32).toUInt32 >>> ((4 : Int32) &&& 31).toUInt32).toInt32)), .val (.int ((((1 : Int32) + (16 : Int32)) + (8 : Int32)) + (4 : Int32)))] [(.int (4 : Int32)), (.int ((((((((p0 ^^^ (-1 : Int32)) &&& (p0 - (1 : Int32))).toUInt32 >>> ((16 : Int32) &&& 31).toUInt32).toInt32).toUInt32 >>> ((8 : Int32) &&& 31).toUInt32).toInt32).toUInt32 >>> ((4 : Int32) &&& 31).toUInt32).toInt32))]))
          by_cases c64_16 : ¬ (4 : Int32) < ((((((((p0 ^^^ (-1 : Int32)) &&& (p0 - (1 : Int32))).toUInt32 >>> ((16 : Int32) &&& 31).toUInt32).toInt32).toUInt32 >>> ((8 : Int32) &&& 31).toUInt32).toInt32).toUInt32 >>> ((4 : Int32) &&& 31).toUInt32).toInt32)
          · skip
            refine go (fun t kt' => by refine XS.icmpYes X0.here hx rfl (pc0 := 64) (pc' := 74) rfl (hb hby d3_64) rfl (flt c64_16).2.2.2 (by decide) (by decide) ?_; exact kt') ?_
            show Go p e below _ (s₁.setTop (mkF m 74 #[.val (.int ((((((((p0 ^^^ (-1 : Int32)) &&& (p0 - (1 : Int32))).toUInt32 >>> ((16 : Int32) &&& 31).toUInt32).toInt32).toUInt32 >>> ((8 : Int32) &&& 31).toUInt32).toInt32).toUInt32 >>> ((4 : Int32) &&& 31).toUInt32).toInt32)), .val (.int ((((1 : Int32) + (16 : Int32)) + (8 : Int32)) + (4 : Int32)))] []))
            refine go (fun t kt' => by refine XS.iloadN X0.here hx rfl (hb hby d3_74) rfl ?_; exact kt') ?_
            show Go p e below _ (s₁.setTop (mkF m 75 #[.val (.int ((((((((p0 ^^^ (-1 : Int32)) &&& (p0 - (1 : Int32))).toUInt32 >>> ((16 : Int32) &&& 31).toUInt32).toInt32).toUInt32 >>> ((8 : Int32) &&& 31).toUInt32).toInt32).toUInt32 >>> ((4 : Int32) &&& 31).toUInt32).toInt32)), .val (.int ((((1 : Int32) + (16 : Int32)) + (8 : Int32)) + (4 : Int32)))] [(.int ((((1 : Int32) + (16 : Int32)) + (8 : Int32)) + (4 : Int32)))]))
            refine go (fun t kt' => by refine XS.iloadN X0.here hx rfl (hb hby d3_75) rfl ?_; exact kt') ?_
            show Go p e below _ (s₁.setTop (mkF m 76 #[.val (.int ((((((((p0 ^^^ (-1 : Int32)) &&& (p0 - (1 : Int32))).toUInt32 >>> ((16 : Int32) &&& 31).toUInt32).toInt32).toUInt32 >>> ((8 : Int32) &&& 31).toUInt32).toInt32).toUInt32 >>> ((4 : Int32) &&& 31).toUInt32).toInt32)), .val (.int ((((1 : Int32) + (16 : Int32)) + (8 : Int32)) + (4 : Int32)))] [(.int ((((((((p0 ^^^ (-1 : Int32)) &&& (p0 - (1 : Int32))).toUInt32 >>> ((16 : Int32) &&& 31).toUInt32).toInt32).toUInt32 >>> ((8 : Int32) &&& 31).toUInt32).toInt32).toUInt32 >>> ((4 : Int32) &&& 31).toUInt32).toInt32)), (.int ((((1 : Int32) + (16 : Int32)) + (8 : Int32)) + (4 : Int32)))]))
            refine go (fun t kt' => by refine XS.iconst X0.here hx rfl (hb hby d3_76) ?_; exact kt') ?_
            show Go p e below _ (s₁.setTop (mkF m 77 #[.val (.int ((((((((p0 ^^^ (-1 : Int32)) &&& (p0 - (1 : Int32))).toUInt32 >>> ((16 : Int32) &&& 31).toUInt32).toInt32).toUInt32 >>> ((8 : Int32) &&& 31).toUInt32).toInt32).toUInt32 >>> ((4 : Int32) &&& 31).toUInt32).toInt32)), .val (.int ((((1 : Int32) + (16 : Int32)) + (8 : Int32)) + (4 : Int32)))] [(.int (1 : Int32)), (.int ((((((((p0 ^^^ (-1 : Int32)) &&& (p0 - (1 : Int32))).toUInt32 >>> ((16 : Int32) &&& 31).toUInt32).toInt32).toUInt32 >>> ((8 : Int32) &&& 31).toUInt32).toInt32).toUInt32 >>> ((4 : Int32) &&& 31).toUInt32).toInt32)), (.int ((((1 : Int32) + (16 : Int32)) + (8 : Int32)) + (4 : Int32)))]))
            refine go (fun t kt' => by refine XS.iushr X0.here hx rfl (hb hby d3_77) rfl ?_; exact kt') ?_
            show Go p e below _ (s₁.setTop (mkF m 78 #[.val (.int ((((((((p0 ^^^ (-1 : Int32)) &&& (p0 - (1 : Int32))).toUInt32 >>> ((16 : Int32) &&& 31).toUInt32).toInt32).toUInt32 >>> ((8 : Int32) &&& 31).toUInt32).toInt32).toUInt32 >>> ((4 : Int32) &&& 31).toUInt32).toInt32)), .val (.int ((((1 : Int32) + (16 : Int32)) + (8 : Int32)) + (4 : Int32)))] [(.int ((((((((((p0 ^^^ (-1 : Int32)) &&& (p0 - (1 : Int32))).toUInt32 >>> ((16 : Int32) &&& 31).toUInt32).toInt32).toUInt32 >>> ((8 : Int32) &&& 31).toUInt32).toInt32).toUInt32 >>> ((4 : Int32) &&& 31).toUInt32).toInt32).toUInt32 >>> ((1 : Int32) &&& 31).toUInt32).toInt32)), (.int ((((1 : Int32) + (16 : Int32)) + (8 : Int32)) + (4 : Int32)))]))
            refine go (fun t kt' => by refine XS.iadd X0.here hx rfl (hb hby d3_78) rfl ?_; exact kt') ?_
            show Go p e below _ (s₁.setTop (mkF m 79 #[.val (.int ((((((((p0 ^^^ (-1 : Int32)) &&& (p0 - (1 : Int32))).toUInt32 >>> ((16 : Int32) &&& 31).toUInt32).toInt32).toUInt32 >>> ((8 : Int32) &&& 31).toUInt32).toInt32).toUInt32 >>> ((4 : Int32) &&& 31).toUInt32).toInt32)), .val (.int ((((1 : Int32) + (16 : Int32)) + (8 : Int32)) + (4 : Int32)))] [(.int (((((1 : Int32) + (16 : Int32)) + (8 : Int32)) + (4 : Int32)) + ((((((((((p0 ^^^ (-1 : Int32)) &&& (p0 - (1 : Int32))).toUInt32 >>> ((16 : Int32) &&& 31).toUInt32).toInt32).toUInt32 >>> ((8 : Int32) &&& 31).toUInt32).toInt32).toUInt32 >>> ((4 : Int32) &&& 31).toUInt32).toInt32).toUInt32 >>> ((1 : Int32) &&& 31).toUInt32).toInt32)))]))
            refine goOut X0 (fun h => by rw [Bd.returns] at h; cases h) hlk (fun fs hr => retOut X0 hx Bd.returns rfl (Or.inl ⟨rfl, Or.inl rfl, _, rfl⟩) (hb hby d3_79) hr) (by decide) (by decide) ?_
            rw [e0]
            exact ⟨_, rfl, fun k hk => by rw [hk] at c9_1 c23_2 c38_10 c52_14 c64_16 ⊢; clear hk; revert c9_1 c23_2 c38_10 c52_14 c64_16; revert k; decide +kernel, N0, rfl⟩
          · skip
            refine go (fun t kt' => by refine XS.icmpNo X0.here hx rfl (hb hby d3_64) rfl (tlt (Decidable.not_not.mp c64_16)).2.2.2 ?_; exact kt') ?_
            show Go p e below _ (s₁.setTop (mkF m 67 #[.val (.int ((((((((p0 ^^^ (-1 : Int32)) &&& (p0 - (1 : Int32))).toUInt32 >>> ((16 : Int32) &&& 31).toUInt32).toInt32).toUInt32 >>> ((8 : Int32) &&& 31).toUInt32).toInt32).toUInt32 >>> ((4 : Int32) &&& 31).toUInt32).toInt32)), .val (.int ((((1 : Int32) + (16 : Int32)) + (8 : Int32)) + (4 : Int32)))] []))
            refine go (fun t kt' => by refine XS.iinc X0.here hx rfl (hb hby d3_67) rfl (l' := #[.val (.int ((((((((p0 ^^^ (-1 : Int32)) &&& (p0 - (1 : Int32))).toUInt32 >>> ((16 : Int32) &&& 31).toUInt32).toInt32).toUInt32 >>> ((8 : Int32) &&& 31).toUInt32).toInt32).toUInt32 >>> ((4 : Int32) &&& 31).toUInt32).toInt32)), .val (.int (((((1 : Int32) + (16 : Int32)) + (8 : Int32)) + (4 : Int32)) + (2 : Int32)))]) rfl ?_; exact kt') ?_
            show Go p e below _ (s₁.setTop (mkF m 70 #[.val (.int ((((((((p0 ^^^ (-1 : Int32)) &&& (p0 - (1 : Int32))).toUInt32 >>> ((16 : Int32) &&& 31).toUInt32).toInt32).toUInt32 >>> ((8 : Int32) &&& 31).toUInt32).toInt32).toUInt32 >>> ((4 : Int32) &&& 31).toUInt32).toInt32)), .val (.int (((((1 : Int32) + (16 : Int32)) + (8 : Int32)) + (4 : Int32)) + (2 : Int32)))] []))
            refine go (fun t kt' => by refine XS.iloadN X0.here hx rfl (hb hby d3_70) rfl ?_; exact kt') ?_
            show Go p e below _ (s₁.setTop (mkF m 71 #[.val (.int ((((((((p0 ^^^ (-1 : Int32)) &&& (p0 - (1 : Int32))).toUInt32 >>> ((16 : Int32) &&& 31).toUInt32).toInt32).toUInt32 >>> ((8 : Int32) &&& 31).toUInt32).toInt32).toUInt32 >>> ((4 : Int32) &&& 31).toUInt32).toInt32)), .val (.int (((((1 : Int32) + (16 : Int32)) + (8 : Int32)) + (4 : Int32)) + (2 : Int32)))] [(.int ((((((((p0 ^^^ (-1 : Int32)) &&& (p0 - (1 : Int32))).toUInt32 >>> ((16 : Int32) &&& 31).toUInt32).toInt32).toUInt32 >>> ((8 : Int32) &&& 31).toUInt32).toInt32).toUInt32 >>> ((4 : Int32) &&& 31).toUInt32).toInt32))]))
            refine go (fun t kt' => by refine XS.iconst X0.here hx rfl (hb hby d3_71) ?_; exact kt') ?_
            show Go p e below _ (s₁.setTop (mkF m 72 #[.val (.int ((((((((p0 ^^^ (-1 : Int32)) &&& (p0 - (1 : Int32))).toUInt32 >>> ((16 : Int32) &&& 31).toUInt32).toInt32).toUInt32 >>> ((8 : Int32) &&& 31).toUInt32).toInt32).toUInt32 >>> ((4 : Int32) &&& 31).toUInt32).toInt32)), .val (.int (((((1 : Int32) + (16 : Int32)) + (8 : Int32)) + (4 : Int32)) + (2 : Int32)))] [(.int (2 : Int32)), (.int ((((((((p0 ^^^ (-1 : Int32)) &&& (p0 - (1 : Int32))).toUInt32 >>> ((16 : Int32) &&& 31).toUInt32).toInt32).toUInt32 >>> ((8 : Int32) &&& 31).toUInt32).toInt32).toUInt32 >>> ((4 : Int32) &&& 31).toUInt32).toInt32))]))
            refine go (fun t kt' => by refine XS.iushr X0.here hx rfl (hb hby d3_72) rfl ?_; exact kt') ?_
            show Go p e below _ (s₁.setTop (mkF m 73 #[.val (.int ((((((((p0 ^^^ (-1 : Int32)) &&& (p0 - (1 : Int32))).toUInt32 >>> ((16 : Int32) &&& 31).toUInt32).toInt32).toUInt32 >>> ((8 : Int32) &&& 31).toUInt32).toInt32).toUInt32 >>> ((4 : Int32) &&& 31).toUInt32).toInt32)), .val (.int (((((1 : Int32) + (16 : Int32)) + (8 : Int32)) + (4 : Int32)) + (2 : Int32)))] [(.int ((((((((((p0 ^^^ (-1 : Int32)) &&& (p0 - (1 : Int32))).toUInt32 >>> ((16 : Int32) &&& 31).toUInt32).toInt32).toUInt32 >>> ((8 : Int32) &&& 31).toUInt32).toInt32).toUInt32 >>> ((4 : Int32) &&& 31).toUInt32).toInt32).toUInt32 >>> ((2 : Int32) &&& 31).toUInt32).toInt32))]))
            refine go (fun t kt' => by refine XS.istoreN X0.here hx rfl (hb hby d3_73) rfl (l' := #[.val (.int ((((((((((p0 ^^^ (-1 : Int32)) &&& (p0 - (1 : Int32))).toUInt32 >>> ((16 : Int32) &&& 31).toUInt32).toInt32).toUInt32 >>> ((8 : Int32) &&& 31).toUInt32).toInt32).toUInt32 >>> ((4 : Int32) &&& 31).toUInt32).toInt32).toUInt32 >>> ((2 : Int32) &&& 31).toUInt32).toInt32)), .val (.int (((((1 : Int32) + (16 : Int32)) + (8 : Int32)) + (4 : Int32)) + (2 : Int32)))]) rfl ?_; exact kt') ?_
            show Go p e below _ (s₁.setTop (mkF m 74 #[.val (.int ((((((((((p0 ^^^ (-1 : Int32)) &&& (p0 - (1 : Int32))).toUInt32 >>> ((16 : Int32) &&& 31).toUInt32).toInt32).toUInt32 >>> ((8 : Int32) &&& 31).toUInt32).toInt32).toUInt32 >>> ((4 : Int32) &&& 31).toUInt32).toInt32).toUInt32 >>> ((2 : Int32) &&& 31).toUInt32).toInt32)), .val (.int (((((1 : Int32) + (16 : Int32)) + (8 : Int32)) + (4 : Int32)) + (2 : Int32)))] []))
            refine go (fun t kt' => by refine XS.iloadN X0.here hx rfl (hb hby d3_74) rfl ?_; exact kt') ?_
            show Go p e below _ (s₁.setTop (mkF m 75 #[.val (.int ((((((((((p0 ^^^ (-1 : Int32)) &&& (p0 - (1 : Int32))).toUInt32 >>> ((16 : Int32) &&& 31).toUInt32).toInt32).toUInt32 >>> ((8 : Int32) &&& 31).toUInt32).toInt32).toUInt32 >>> ((4 : Int32) &&& 31).toUInt32).toInt32).toUInt32 >>> ((2 : Int32) &&& 31).toUInt32).toInt32)), .val (.int (((((1 : Int32) + (16 : Int32)) + (8 : Int32)) + (4 : Int32)) + (2 : Int32)))] [(.int (((((1 : Int32) + (16 : Int32)) + (8 : Int32)) + (4 : Int32)) + (2 : Int32)))]))
            refine go (fun t kt' => by refine XS.iloadN X0.here hx rfl (hb hby d3_75) rfl ?_; exact kt') ?_
            show Go p e below _ (s₁.setTop (mkF m 76 #[.val (.int ((((((((((p0 ^^^ (-1 : Int32)) &&& (p0 - (1 : Int32))).toUInt32 >>> ((16 : Int32) &&& 31).toUInt32).toInt32).toUInt32 >>> ((8 : Int32) &&& 31).toUInt32).toInt32).toUInt32 >>> ((4 : Int32) &&& 31).toUInt32).toInt32).toUInt32 >>> ((2 : Int32) &&& 31).toUInt32).toInt32)), .val (.int (((((1 : Int32) + (16 : Int32)) + (8 : Int32)) + (4 : Int32)) + (2 : Int32)))] [(.int ((((((((((p0 ^^^ (-1 : Int32)) &&& (p0 - (1 : Int32))).toUInt32 >>> ((16 : Int32) &&& 31).toUInt32).toInt32).toUInt32 >>> ((8 : Int32) &&& 31).toUInt32).toInt32).toUInt32 >>> ((4 : Int32) &&& 31).toUInt32).toInt32).toUInt32 >>> ((2 : Int32) &&& 31).toUInt32).toInt32)), (.int (((((1 : Int32) + (16 : Int32)) + (8 : Int32)) + (4 : Int32)) + (2 : Int32)))]))
            refine go (fun t kt' => by refine XS.iconst X0.here hx rfl (hb hby d3_76) ?_; exact kt') ?_
            show Go p e below _ (s₁.setTop (mkF m 77 #[.val (.int ((((((((((p0 ^^^ (-1 : Int32)) &&& (p0 - (1 : Int32))).toUInt32 >>> ((16 : Int32) &&& 31).toUInt32).toInt32).toUInt32 >>> ((8 : Int32) &&& 31).toUInt32).toInt32).toUInt32 >>> ((4 : Int32) &&& 31).toUInt32).toInt32).toUInt32 >>> ((2 : Int32) &&& 31).toUInt32).toInt32)), .val (.int (((((1 : Int32) + (16 : Int32)) + (8 : Int32)) + (4 : Int32)) + (2 : Int32)))] [(.int (1 : Int32)), (.int ((((((((((p0 ^^^ (-1 : Int32)) &&& (p0 - (1 : Int32))).toUInt32 >>> ((16 : Int32) &&& 31).toUInt32).toInt32).toUInt32 >>> ((8 : Int32) &&& 31).toUInt32).toInt32).toUInt32 >>> ((4 : Int32) &&& 31).toUInt32).toInt32).toUInt32 >>> ((2 : Int32) &&& 31).toUInt32).toInt32)), (.int (((((1 : Int32) + (16 : Int32)) + (8 : Int32)) + (4 : Int32)) + (2 : Int32)))]))
            refine go (fun t kt' => by refine XS.iushr X0.here hx rfl (hb hby d3_77) rfl ?_; exact kt') ?_
            show Go p e below _ (s₁.setTop (mkF m 78 #[.val (.int ((((((((((p0 ^^^ (-1 : Int32)) &&& (p0 - (1 : Int32))).toUInt32 >>> ((16 : Int32) &&& 31).toUInt32).toInt32).toUInt32 >>> ((8 : Int32) &&& 31).toUInt32).toInt32).toUInt32 >>> ((4 : Int32) &&& 31).toUInt32).toInt32).toUInt32 >>> ((2 : Int32) &&& 31).toUInt32).toInt32)), .val (.int (((((1 : Int32) + (16 : Int32)) + (8 : Int32)) + (4 : Int32)) + (2 : Int32)))] [(.int ((((((((((((p0 ^^^ (-1 : Int32)) &&& (p0 - (1 : Int32))).toUInt32 >>> ((16 : Int32) &&& 31).toUInt32).toInt32).toUInt32 >>> ((8 : Int32) &&& 31).toUInt32).toInt32).toUInt32 >>> ((4 : Int32) &&& 31).toUInt32).toInt32).toUInt32 >>> ((2 : Int32) &&& 31).toUInt32).toInt32).toUInt32 >>> ((1 : Int32) &&& 31).toUInt32).toInt32)), (.int (((((1 : Int32) + (16 : Int32)) + (8 : Int32)) + (4 : Int32)) + (2 : Int32)))]))
            refine go (fun t kt' => by refine XS.iadd X0.here hx rfl (hb hby d3_78) rfl ?_; exact kt') ?_
            show Go p e below _ (s₁.setTop (mkF m 79 #[.val (.int ((((((((((p0 ^^^ (-1 : Int32)) &&& (p0 - (1 : Int32))).toUInt32 >>> ((16 : Int32) &&& 31).toUInt32).toInt32).toUInt32 >>> ((8 : Int32) &&& 31).toUInt32).toInt32).toUInt32 >>> ((4 : Int32) &&& 31).toUInt32).toInt32).toUInt32 >>> ((2 : Int32) &&& 31).toUInt32).toInt32)), .val (.int (((((1 : Int32) + (16 : Int32)) + (8 : Int32)) + (4 : Int32)) + (2 : Int32)))] [(.int ((((((1 : Int32) + (16 : Int32)) + (8 : Int32)) + (4 : Int32)) + (2 : Int32)) + ((((((((((((p0 ^^^ (-1 : Int32)) &&& (p0 - (1 : Int32))).toUInt32 >>> ((16 : Int32) &&& 31).toUInt32).toInt32).toUInt32 >>> ((8 : Int32) &&& 31).toUInt32).toInt32).toUInt32 >>> ((4 : Int32) &&& 31).toUInt32).toInt32).toUInt32 >>> ((2 : Int32) &&& 31).toUInt32).toInt32).toUInt32 >>> ((1 : Int32) &&& 31).toUInt32).toInt32)))]))
            refine goOut X0 (fun h => by rw [Bd.returns] at h; cases h) hlk (fun fs hr => retOut X0 hx Bd.returns rfl (Or.inl ⟨rfl, Or.inl rfl, _, rfl⟩) (hb hby d3_79) hr) (by decide) (by decide) ?_
            rw [e0]
            exact ⟨_, rfl, fun k hk => by rw [hk] at c9_1 c23_2 c38_10 c52_14 c64_16 ⊢; clear hk; revert c9_1 c23_2 c38_10 c52_14 c64_16; revert k; decide +kernel, N0, rfl⟩
  · skip
    refine go (fun t kt' => by refine XS.ifNo X0.here hx rfl (hb hby d3_9) rfl ((if0 _ _).trans (flt c9_1).2.2.1) ?_; exact kt') ?_
    show Go p e below _ (s₁.setTop (mkF m 12 #[.val (.int ((p0 ^^^ (-1 : Int32)) &&& (p0 - (1 : Int32)))), .unset] []))
    refine go (fun t kt' => by refine XS.iloadN X0.here hx rfl (hb hby d3_12) rfl ?_; exact kt') ?_
    show Go p e below _ (s₁.setTop (mkF m 13 #[.val (.int ((p0 ^^^ (-1 : Int32)) &&& (p0 - (1 : Int32)))), .unset] [(.int ((p0 ^^^ (-1 : Int32)) &&& (p0 - (1 : Int32))))]))
    refine go (fun t kt' => by refine XS.bipush X0.here hx rfl (hb hby d3_13) ?_; exact kt') ?_
    show Go p e below _ (s₁.setTop (mkF m 15 #[.val (.int ((p0 ^^^ (-1 : Int32)) &&& (p0 - (1 : Int32)))), .unset] [(.int (32 : Int32)), (.int ((p0 ^^^ (-1 : Int32)) &&& (p0 - (1 : Int32))))]))
    refine go (fun t kt' => by refine XS.iand X0.here hx rfl (hb hby d3_15) rfl ?_; exact kt') ?_
    show Go p e below _ (s₁.setTop (mkF m 16 #[.val (.int ((p0 ^^^ (-1 : Int32)) &&& (p0 - (1 : Int32)))), .unset] [(.int (((p0 ^^^ (-1 : Int32)) &&& (p0 - (1 : Int32))) &&& (32 : Int32)))]))
    refine goOut X0 (fun h => by rw [Bd.returns] at h; cases h) hlk (fun fs hr => retOut X0 hx Bd.returns rfl (Or.inl ⟨rfl, Or.inl rfl, _, rfl⟩) (hb hby d3_16) hr) (by decide) (by decide) ?_
    rw [e0]
    exact ⟨_, rfl, fun k hk => by rw [hk] at c9_1 ⊢; clear hk; revert c9_1; revert k; decide +kernel, N0, rfl⟩
theorem d1_0 : decode prog_14_method_1_code 0 = .ok (.aload_n 0, 1) := by decide +kernel
theorem d1_1 : decode prog_14_method_1_code 1 = .ok (.invokespecial 1, 3) := by decide +kernel
theorem d1_4 : decode prog_14_method_1_code 4 = .ok (.aload_n 0, 1) := by decide +kernel
theorem d1_5 : decode prog_14_method_1_code 5 = .ok (.iload_n 1, 1) := by decide +kernel
theorem d1_6 : decode prog_14_method_1_code 6 = .ok (.anewarray 7, 3) := by decide +kernel
theorem d1_9 : decode prog_14_method_1_code 9 = .ok (.putfield 9, 3) := by decide +kernel
theorem d1_12 : decode prog_14_method_1_code 12 = .ok (.aload_n 0, 1) := by decide +kernel
theorem d1_13 : decode prog_14_method_1_code 13 = .ok (.bipush 32, 2) := by decide +kernel
theorem d1_15 : decode prog_14_method_1_code 15 = .ok (.iload_n 1, 1) := by decide +kernel
theorem d1_16 : decode prog_14_method_1_code 16 = .ok (.invokestatic 17, 3) := by decide +kernel
theorem pd_0 : parseMethodDescriptor "(I)I" = some ⟨[.int], some .int⟩ := by decide +kernel
theorem d1_19 : decode prog_14_method_1_code 19 = .ok (.isub, 1) := by decide +kernel
theorem d1_20 : decode prog_14_method_1_code 20 = .ok (.putfield 21, 3) := by decide +kernel
theorem d1_23 : decode prog_14_method_1_code 23 = .ok (.aload_n 0, 1) := by decide +kernel
theorem d1_24 : decode prog_14_method_1_code 24 = .ok (.iload_n 1, 1) := by decide +kernel
theorem d1_25 : decode prog_14_method_1_code 25 = .ok (.iconst 1, 1) := by decide +kernel
theorem d1_26 : decode prog_14_method_1_code 26 = .ok (.isub, 1) := by decide +kernel
theorem d1_27 : decode prog_14_method_1_code 27 = .ok (.putfield 25, 3) := by decide +kernel
theorem d1_30 : decode prog_14_method_1_code 30 = .ok (.return_, 1) := by decide +kernel
theorem pn_com_example_stripewell_stripewell_map_SegmentTables : plainName "com/example/stripewell/stripewell/map/SegmentTables" = true := by first | (simp [plainName, overriddenIn]; done) | decide +kernel
theorem ef_rm1 (m : MethodId) (x0 : Addr) (x1 : Int32) : entryFrame m #[(.ref x0), (.int x1)] 2 = mkF m 0 #[.val (.ref x0), .val (.int x1)] [] := by first | (simp [entryFrame, mkF, argsToLocals, Value.category]; done) | rfl
def Q1 (Z : State) (a : Addr) (p1 : Int32) (k : Fin 11) (h0 : Heap) (n0 : Nat) (v : Option Value) (h : Heap) (L : List Loc) : Prop := v = none ∧ Fr n0 L ∧ Keep h0 h [a] ∧ Exa Z h a "com/example/stripewell/stripewell/map/SegmentTables" ∧ Fld Z h a "com/example/stripewell/stripewell/map/SegmentTables" "segmentShift" "I" (.int ((32 : Int32) - own_k k)) ∧ Fld Z h a "com/example/stripewell/stripewell/map/SegmentTables" "segmentMask" "I" (.int (p1 - (1 : Int32)))
set_option maxRecDepth 65536 in
set_option maxHeartbeats 40000000 in
theorem rm1 (l : Launch) (Z : State) (a0 : Array Value) (hw : ∀ d ∈ tables_1, d.before a0 Z = true) (ws : List Jvm.Cond) (a : Addr) (p1 : Int32) (k : Fin 11) (h0 : Heap) (n0 : Nat) (Z0 : n0 ≤ h0.size) (E_a : Exa Z h0 a "com/example/stripewell/stripewell/map/SegmentTables") (g_a : n0 ≤ a) (F_tables_a : Fld Z h0 a "com/example/stripewell/stripewell/map/SegmentTables" "tables" "[[Lcom/example/stripewell/stripewell/map/Slot;" .null) (F_segmentShift_a : Fld Z h0 a "com/example/stripewell/stripewell/map/SegmentTables" "segmentShift" "I" (.int (0 : Int32))) (F_segmentMask_a : Fld Z h0 a "com/example/stripewell/stripewell/map/SegmentTables" "segmentMask" "I" (.int (0 : Int32))) (hc : p1 = own_pow k) (hcn : ¬ p1 < 0) (hcap : p1.toNatClampNeg ≤ 1024) :
    MetFree l (⟨"com/example/stripewell/stripewell/map/SegmentTables", "<init>", "(I)V"⟩ : MethodName) (head1 (Jvm.Cond.code (⟨"com/example/stripewell/stripewell/map/SegmentTables", "<init>", "(I)V"⟩ : MethodName) prog_14_method_1_code 2 none :: ws) ({ frames := 1, cells := 1, slots := 1024, locals := 15 } : Room)) (fun av' U => av' = #[(.ref a), (.int p1)] ∧ Z.Warmed39 U.vm ∧ U.heap = h0) (fun _ _ _ _ _ => True) (fun _ U o U' => ∃ v L, o = .returned v ∧ Q1 Z a p1 k h0 n0 v U'.heap L ∧ FrameEnd U o U' L ({ frames := 1, cells := 1, slots := 1024, locals := 15 } : Room).cells ({ frames := 1, cells := 1, slots := 1024, locals := 15 } : Room).slots) := by
  refine MetFree.of_bodySF (plainFor_of_name pn_com_example_stripewell_stripewell_map_SegmentTables) hisR ?_
  intro p e s m args below meth c s₁ Bd hml0 hP hK
  obtain ⟨rfl, hZ, hh⟩ := hP
  have hx := Bd.exec
  have hby := Bd.bytes
  have hlk := Bd.notSynchronized
  have hml : c.maxLocals = 2 := hml0
  have hown : s.vm.findClass "com/example/stripewell/stripewell/map/SegmentTables" = some m.cls := findClass_of_methodNamed Bd.named
  have hnm := (name_of_methodNamed Bd.named Bd.method).1
  have X0 : Stand p l e ({ frames := 1, cells := 1, slots := 1024, locals := 15 } : Room) s m #[(.ref a), (.int p1)] below meth c s₁ [] 0 0 := Stand.of_body Bd
  have e0 : s₁.heap = h0 := by rw [← hh, Bd.state]; rfl
  have N0 := Fr.nil n0
  show Go p e below (Kq s (Q1 Z a p1 k h0 n0) ({ frames := 1, cells := 1, slots := 1024, locals := 15 } : Room).cells ({ frames := 1, cells := 1, slots := 1024, locals := 15 } : Room).slots) _
  refine go (fun t kt => castTop (ef_rm1 m a p1) kt) ?_
  have K0 := Keep.refl h0 [a]
  show Go p e below _ (s₁.setTop (mkF m 0 #[.val (.ref a), .val (.int p1)] []))
  refine go (fun t kt' => by refine XS.aloadN X0.here hx rfl (hb hby d1_0) rfl rfl ?_; exact kt') ?_
  show Go p e below _ (s₁.setTop (mkF m 1 #[.val (.ref a), .val (.int p1)] [(.ref a)]))
  obtain ⟨T1, X1, e1, st1⟩ := initO X0 hx hZ hown (hw _ (List.mem_of_getElem? (i := 7) rfl)) (hw _ (List.mem_of_getElem? (i := 8) rfl)) (hw _ (List.mem_of_getElem? (i := 9) rfl)) e0 (g := (mkF m 1 #[.val (.ref a), .val (.int p1)] [(.ref a)])) rfl (by rw [hml]; rfl) rfl (hb hby d1_1) (by decide) (W := 0) (by show 2 * 0 + _ ≤ _; exact Nat.le_of_eq rfl) (by decide)
  refine go st1 ?_
  show Go p e below _ (T1.setTop (mkF m 4 #[.val (.ref a), .val (.int p1)] []))
  refine go (fun t kt' => by refine XS.aloadN X1.here hx rfl (hb hby d1_4) rfl rfl ?_; exact kt') ?_
  show Go p e below _ (T1.setTop (mkF m 5 #[.val (.ref a), .val (.int p1)] [(.ref a)]))
  refine go (fun t kt' => by refine XS.iloadN X1.here hx rfl (hb hby d1_5) rfl ?_; exact kt') ?_
  show Go p e below _ (T1.setTop (mkF m 6 #[.val (.ref a), .val (.int p1)] [(.int p1), (.ref a)]))
  obtain ⟨T2, h2, k2, X2, e2, E2, -, A2, -, st2⟩ := newRA X1 hx hZ hown (C := "[Lcom/example/stripewell/stripewell/map/Slot;") (ty := .object "com/example/stripewell/stripewell/map/Slot") rfl (hw _ (List.mem_of_getElem? (i := 10) rfl)) (hw _ (List.mem_of_getElem? (i := 11) rfl)) e1 (g := (mkF m 6 #[.val (.ref a), .val (.int p1)] [(.int p1), (.ref a)])) rfl (hb hby d1_6) rfl hcn (cap := 1024) hcap (by decide) (by decide) (by decide) rfl
  obtain ⟨b2, g2⟩ : ∃ z, z = h0.size := ⟨_, rfl⟩
  have n0_b2 : n0 ≤ b2 := Nat.le_trans Z0 (Nat.le_of_eq g2.symm)
  have sz_b2 : h0.size ≤ b2 := Nat.le_trans K0.1 (Nat.le_of_eq g2.symm)
  have ne2_a_b2 : a ≠ b2 := Nat.ne_of_lt (Nat.lt_of_lt_of_le E_a.lt (Nat.le_of_eq g2.symm))
  rw [← g2] at A2 st2
  have f3_Z := Nat.le_trans Z0 E2.1
  have f4_K := K0.ext E2
  have f5_E_a := E_a.ext E2
  have f6_F_a_tables := F_tables_a.ext E2
  have f7_F_a_segmentShift := F_segmentShift_a.ext E2
  have f8_F_a_segmentMask := F_segmentMask_a.ext E2
  refine go st2 ?_
  show Go p e below _ (T2.setTop (mkF m 9 #[.val (.ref a), .val (.int p1)] [(.ref b2), (.ref a)]))
  obtain ⟨T9, h9, X9, e9, W9, st9⟩ := putF X2 hx hZ hown (host := "") (Or.inl (hw _ (List.mem_of_getElem? (i := 12) rfl))) Via.refl e2 f6_F_a_tables f5_E_a (Or.inr ⟨(hw _ (List.mem_of_getElem? (i := 13) rfl)), rfl, hnm⟩) (hw _ (List.mem_of_getElem? (i := 2) rfl)) (ty := (.array (.array (.object "com/example/stripewell/stripewell/map/Slot")))) (by decide) rfl rfl (g := (mkF m 9 #[.val (.ref a), .val (.int p1)] [(.ref b2), (.ref a)])) rfl rfl (hb hby d1_9)
  have N9 := Fr.snoc X9 N0 g_a
  have f10_Z := Nat.le_trans f3_Z (Keep.of_wr W9).1
  have f11_K := f4_K.wr W9 (Or.inl (List.mem_of_getElem? (i := 0) rfl))
  have f12_E_a := f5_E_a.wr W9
  have f13_F_a_tables := f6_F_a_tables.same W9
  have f14_F_a_segmentShift := f7_F_a_segmentShift.other W9 (Or.inr (slot_ne (Or.inr (hw _ (List.mem_of_getElem? (i := 20) rfl))) (Or.inr (hw _ (List.mem_of_getElem? (i := 13) rfl))) (by decide) (t := .int) (t' := (.array (.array (.object "com/example/stripewell/stripewell/map/Slot")))) (by decide) (by decide)))
  have f15_F_a_segmentMask := f8_F_a_segmentMask.other W9 (Or.inr (slot_ne (Or.inr (hw _ (List.mem_of_getElem? (i := 22) rfl))) (Or.inr (hw _ (List.mem_of_getElem? (i := 13) rfl))) (by decide) (t := .int) (t' := (.array (.array (.object "com/example/stripewell/stripewell/map/Slot")))) (by decide) (by decide)))
  refine go st9 ?_
  show Go p e below _ (T9.setTop (mkF m 12 #[.val (.ref a), .val (.int p1)] []))
  refine go (fun t kt' => by refine XS.aloadN X9.here hx rfl (hb hby d1_12) rfl rfl ?_; exact kt') ?_
  show Go p e below _ (T9.setTop (mkF m 13 #[.val (.ref a), .val (.int p1)] [(.ref a)]))
  refine go (fun t kt' => by refine XS.bipush X9.here hx rfl (hb hby d1_13) ?_; exact kt') ?_
  show Go p e below _ (T9.setTop (mkF m 15 #[.val (.ref a), .val (.int p1)] [(.int (32 : Int32)), (.ref a)]))
  refine go (fun t kt' => by refine XS.iloadN X9.here hx rfl (hb hby d1_15) rfl ?_; exact kt') ?_
  show Go p e below _ (T9.setTop (mkF m 16 #[.val (.ref a), .val (.int p1)] [(.int p1), (.int (32 : Int32)), (.ref a)]))
  obtain ⟨_, _, ⟨T16, L16, k16, n16⟩, -, X16, ⟨Lc16, hQ16, l16, y16, z16⟩, st16⟩ := Jvm.LawKit.callS X9 hx (y := (⟨"java/lang/Integer", "numberOfTrailingZeros", "(I)I"⟩ : MethodName)) hown (mvT hZ (hw _ (List.mem_of_getElem? (i := 14) rfl))) (mvT hZ (hw _ (List.mem_of_getElem? (i := 15) rfl))) (mvT hZ (hw _ (List.mem_of_getElem? (i := 16) rfl))) (mvT hZ (hw _ (List.mem_of_getElem? (i := 17) rfl))) (by decide) (backOf (W := 2) (rm3 l Z a0 hw [] p1 h9 n0 f10_Z) hZ (hw _ (List.mem_of_getElem? (i := 17) rfl)) (hw _ (List.mem_of_getElem? (i := 16) rfl)) (by decide) (by decide)) (g := (mkF m 16 #[.val (.ref a), .val (.int p1)] [(.int p1), (.int (32 : Int32)), (.ref a)])) rfl (by rw [hml]; rfl) (argsL := [(.int p1)]) (rest := [(.int (32 : Int32)), (.ref a)]) (lenOf pd_0 rfl) rfl (by show 2 * 0 + _ ≤ _; exact Nat.le_of_eq rfl) (hb hby d1_16) (fun _ _ => ⟨rfl, e9, (by decide : 1 + 0 ≤ _), (by decide : 1024 + 0 ≤ _)⟩)
  dsimp only [Pt.U, Pt.locs, Pt.cells, Pt.slots] at X16 l16 y16 z16 st16 hQ16
  subst l16 y16 z16
  obtain ⟨r16, rfl, hr16, N16q, e16⟩ := hQ16
  have N16 := Fr.app N9 N16q
  obtain rfl := hr16 k hc
  refine go st16 ?_
  show Go p e below _ (T16.setTop (mkF m 19 #[.val (.ref a), .val (.int p1)] [(.int (own_k k)), (.int (32 : Int32)), (.ref a)]))
  refine go (fun t kt' => by refine XS.isub X16.here hx rfl (hb hby d1_19) rfl ?_; exact kt') ?_
  show Go p e below _ (T16.setTop (mkF m 20 #[.val (.ref a), .val (.int p1)] [(.int ((32 : Int32) - (own_k k))), (.ref a)]))
  obtain ⟨T17, h17, X17, e17, W17, st17⟩ := putF X16 hx hZ hown (host := "") (Or.inl (hw _ (List.mem_of_getElem? (i := 19) rfl))) Via.refl e16 f14_F_a_segmentShift f12_E_a (Or.inr ⟨(hw _ (List.mem_of_getElem? (i := 20) rfl)), rfl, hnm⟩) (hw _ (List.mem_of_getElem? (i := 2) rfl)) (ty := .int) (by decide) rfl rfl (g := (mkF m 20 #[.val (.ref a), .val (.int p1)] [(.int ((32 : Int32) - (own_k k))), (.ref a)])) rfl rfl (hb hby d1_20)
  have N17 := Fr.snoc X17 N16 g_a
  have f18_Z := Nat.le_trans f10_Z (Keep.of_wr W17).1
  have f19_K := f11_K.wr W17 (Or.inl (List.mem_of_getElem? (i := 0) rfl))
  have f20_E_a := f12_E_a.wr W17
  have f21_F_a_tables := f13_F_a_tables.other W17 (Or.inr (slot_ne (Or.inr (hw _ (List.mem_of_getElem? (i := 13) rfl))) (Or.inr (hw _ (List.mem_of_getElem? (i := 20) rfl))) (by decide) (t := (.array (.array (.object "com/example/stripewell/stripewell/map/Slot")))) (t' := .int) (by decide) (by decide)))
  have f22_F_a_segmentShift := f14_F_a_segmentShift.same W17
  have f23_F_a_segmentMask := f15_F_a_segmentMask.other W17 (Or.inr (slot_ne (Or.inr (hw _ (List.mem_of_getElem? (i := 22) rfl))) (Or.inr (hw _ (List.mem_of_getElem? (i := 20) rfl))) (by decide) (t := .int) (t' := .int) (by decide) (by decide)))
  refine go st17 ?_
  show Go p e below _ (T17.setTop (mkF m 23 #[.val (.ref a), .val (.int p1)] []))
  refine go (fun t kt' => by refine XS.aloadN X17.here hx rfl (hb hby d1_23) rfl rfl ?_; exact kt') ?_
  show Go p e below _ (T17.setTop (mkF m 24 #[.val (.ref a), .val (.int p1)] [(.ref a)]))
  refine go (fun t kt' => by refine XS.iloadN X17.here hx rfl (hb hby d1_24) rfl ?_; exact kt') ?_
  show Go p e below _ (T17.setTop (mkF m 25 #[.val (.ref a), .val (.int p1)] [(.int p1), (.ref a)]))
  refine go (fun t kt' => by refine XS.iconst X17.here hx rfl (hb hby d1_25) ?_; exact kt') ?_
  show Go p e below _ (T17.setTop (mkF m 26 #[.val (.ref a), .val (.int p1)] [(.int (1 : Int32)), (.int p1), (.ref a)]))
  refine go (fun t kt' => by refine XS.isub X17.here hx rfl (hb hby d1_26) rfl ?_; exact kt') ?_
  show Go p e below _ (T17.setTop (mkF m 27 #[.val (.ref a), .val (.int p1)] [(.int (p1 - (1 : Int32))), (.ref a)]))
  obtain ⟨T24, h24, X24, e24, W24, st24⟩ := putF X17 hx hZ hown (host := "") (Or.inl (hw _ (List.mem_of_getElem? (i := 21) rfl))) Via.refl e17 f23_F_a_segmentMask f20_E_a (Or.inr ⟨(hw _ (List.mem_of_getElem? (i := 22) rfl)), rfl, hnm⟩) (hw _ (List.mem_of_getElem? (i := 2) rfl)) (ty := .int) (by decide) rfl rfl (g := (mkF m 27 #[.val (.ref a), .val (.int p1)] [(.int (p1 - (1 : Int32))), (.ref a)])) rfl rfl (hb hby d1_27)
  have N24 := Fr.snoc X24 N17 g_a
  have f25_Z := Nat.le_trans f18_Z (Keep.of_wr W24).1
  have f26_K := f19_K.wr W24 (Or.inl (List.mem_of_getElem? (i := 0) rfl))
  have f27_E_a := f20_E_a.wr W24
  have f28_F_a_tables := f21_F_a_tables.other W24 (Or.inr (slot_ne (Or.inr (hw _ (List.mem_of_getElem? (i := 13) rfl))) (Or.inr (hw _ (List.mem_of_getElem? (i := 22) rfl))) (by decide) (t := (.array (.array (.object "com/example/stripewell/stripewell/map/Slot")))) (t' := .int) (by decide) (by decide)))
  have f29_F_a_segmentShift := f22_F_a_segmentShift.other W24 (Or.inr (slot_ne (Or.inr (hw _ (List.mem_of_getElem? (i := 20) rfl))) (Or.inr (hw _ (List.mem_of_getElem? (i := 22) rfl))) (by decide) (t := .int) (t' := .int) (by decide) (by decide)))
  have f30_F_a_segmentMask := f23_F_a_segmentMask.same W24
  refine go st24 ?_
  show Go p e below _ (T24.setTop (mkF m 30 #[.val (.ref a), .val (.int p1)] []))
  refine goOut X24 (fun _ => rfl) hlk (fun fs hr => X24.returnOut hx Bd.returns (hb hby d1_30) hr) (by decide) (by decide) ?_
  rw [e24]
  exact ⟨rfl, N24, f26_K, f27_E_a, f29_F_a_segmentShift, f30_F_a_segmentMask⟩
theorem d4_0 : decode prog_14_method_2_code 0 = .ok (.iload_n 1, 1) := by decide +kernel
theorem d4_1 : decode prog_14_method_2_code 1 = .ok (.aload_n 0, 1) := by decide +kernel
theorem d4_2 : decode prog_14_method_2_code 2 = .ok (.getfield 21, 3) := by decide +kernel
theorem d4_5 : decode prog_14_method_2_code 5 = .ok (.iushr, 1) := by decide +kernel
theorem d4_6 : decode prog_14_method_2_code 6 = .ok (.aload_n 0, 1) := by decide +kernel
theorem d4_7 : decode prog_14_method_2_code 7 = .ok (.getfield 25, 3) := by decide +kernel
theorem d4_10 : decode prog_14_method_2_code 10 = .ok (.iand, 1) := by decide +kernel
theorem d4_11 : decode prog_14_method_2_code 11 = .ok (.ireturn, 1) := by decide +kernel
theorem ef_rm4 (m : MethodId) (x0 : Addr) (x1 : Int32) : entryFrame m #[(.ref x0), (.int x1)] 2 = mkF m 0 #[.val (.ref x0), .val (.int x1)] [] := by first | (simp [entryFrame, mkF, argsToLocals, Value.category]; done) | rfl
def Q4 (Z : State) (p1 s1 s2 : Int32) (h0 : Heap) (n0 : Nat) (v : Option Value) (h : Heap) (L : List Loc) : Prop := v = some (.int (((p1.toUInt32 >>> (s1 &&& 31).toUInt32).toInt32) &&& s2)) ∧ Fr n0 L ∧ h = h0
set_option maxRecDepth 65536 in
set_option maxHeartbeats 40000000 in
theorem rm4 (l : Launch) (Z : State) (a0 : Array Value) (hw : ∀ d ∈ tables_1, d.before a0 Z = true) (ws : List Jvm.Cond) (a : Addr) (p1 : Int32) (s1 s2 : Int32) (h0 : Heap) (n0 : Nat) (Z0 : n0 ≤ h0.size) (E_a : Exa Z h0 a "com/example/stripewell/stripewell/map/SegmentTables") (F_segmentShift_a : Fld Z h0 a "com/example/stripewell/stripewell/map/SegmentTables" "segmentShift" "I" (.int s1)) (F_segmentMask_a : Fld Z h0 a "com/example/stripewell/stripewell/map/SegmentTables" "segmentMask" "I" (.int s2)) :
    MetFree l (⟨"com/example/stripewell/stripewell/map/SegmentTables", "indexOf", "(I)I"⟩ : MethodName) (head1 (Jvm.Cond.code (⟨"com/example/stripewell/stripewell/map/SegmentTables", "indexOf", "(I)I"⟩ : MethodName) prog_14_method_2_code 2 (some .int) :: ws) ({ frames := 0, cells := 0, slots := 0, locals := 0 } : Room)) (fun av' U => av' = #[(.ref a), (.int p1)] ∧ Z.Warmed39 U.vm ∧ U.heap = h0) (fun _ _ _ _ _ => True) (fun _ U o U' => ∃ v L, o = .returned v ∧ Q4 Z p1 s1 s2 h0 n0 v U'.heap L ∧ FrameEnd U o U' L ({ frames := 0, cells := 0, slots := 0, locals := 0 } : Room).cells ({ frames := 0, cells := 0, slots := 0, locals := 0 } : Room).slots) := by
  refine MetFree.of_bodySF (plainFor_of_name pn_com_example_stripewell_stripewell_map_SegmentTables) hisR ?_
  intro p e s m args below meth c s₁ Bd hml0 hP hK
  obtain ⟨rfl, hZ, hh⟩ := hP
  have hx := Bd.exec
  have hby := Bd.bytes
  have hlk := Bd.notSynchronized
  have hml : c.maxLocals = 2 := hml0
  have hown : s.vm.findClass "com/example/stripewell/stripewell/map/SegmentTables" = some m.cls := findClass_of_methodNamed Bd.named
  have hnm := (name_of_methodNamed Bd.named Bd.method).1
  have X0 : Stand p l e ({ frames := 0, cells := 0, slots := 0, locals := 0 } : Room) s m #[(.ref a), (.int p1)] below meth c s₁ [] 0 0 := Stand.of_body Bd
  have e0 : s₁.heap = h0 := by rw [← hh, Bd.state]; rfl
  have N0 := Fr.nil n0
  show Go p e below (Kq s (Q4 Z p1 s1 s2 h0 n0) ({ frames := 0, cells := 0, slots := 0, locals := 0 } : Room).cells ({ frames := 0, cells := 0, slots := 0, locals := 0 } : Room).slots) _
  refine go (fun t kt => castTop (ef_rm4 m a p1) kt) ?_
  show Go p e below _ (s₁.setTop (mkF m 0 #[.val (.ref a), .val (.int p1)] []))
  refine go (fun t kt' => by refine XS.iloadN X0.here hx rfl (hb hby d4_0) rfl ?_; exact kt') ?_
  show Go p e below _ (s₁.setTop (mkF m 1 #[.val (.ref a), .val (.int p1)] [(.int p1)]))
  refine go (fun t kt' => by refine XS.aloadN X0.here hx rfl (hb hby d4_1) rfl rfl ?_; exact kt') ?_
  show Go p e below _ (s₁.setTop (mkF m 2 #[.val (.ref a), .val (.int p1)] [(.ref a), (.int p1)]))
  obtain ⟨T1, X1, e1, st1⟩ := getF X0 hx hZ hown (host := "") (Or.inl (hw _ (List.mem_of_getElem? (i := 19) rfl))) Via.refl e0 F_segmentShift_a (g := (mkF m 2 #[.val (.ref a), .val (.int p1)] [(.ref a), (.int p1)])) rfl rfl (hb hby d4_2)
  refine go st1 ?_
  show Go p e below _ (T1.setTop (mkF m 5 #[.val (.ref a), .val (.int p1)] [(.int s1), (.int p1)]))
  refine go (fun t kt' => by refine XS.iushr X1.here hx rfl (hb hby d4_5) rfl ?_; exact kt') ?_
  show Go p e below _ (T1.setTop (mkF m 6 #[.val (.ref a), .val (.int p1)] [(.int ((p1.toUInt32 >>> (s1 &&& 31).toUInt32).toInt32))]))
  refine go (fun t kt' => by refine XS.aloadN X1.here hx rfl (hb hby d4_6) rfl rfl ?_; exact kt') ?_
  show Go p e below _ (T1.setTop (mkF m 7 #[.val (.ref a), .val (.int p1)] [(.ref a), (.int ((p1.toUInt32 >>> (s1 &&& 31).toUInt32).toInt32))]))
  obtain ⟨T2, X2, e2, st2⟩ := getF X1 hx hZ hown (host := "") (Or.inl (hw _ (List.mem_of_getElem? (i := 21) rfl))) Via.refl e1 F_segmentMask_a (g := (mkF m 7 #[.val (.ref a), .val (.int p1)] [(.ref a), (.int ((p1.toUInt32 >>> (s1 &&& 31).toUInt32).toInt32))])) rfl rfl (hb hby d4_7)
  refine go st2 ?_
  show Go p e below _ (T2.setTop (mkF m 10 #[.val (.ref a), .val (.int p1)] [(.int s2), (.int ((p1.toUInt32 >>> (s1 &&& 31).toUInt32).toInt32))]))
  refine go (fun t kt' => by refine XS.iand X2.here hx rfl (hb hby d4_10) rfl ?_; exact kt') ?_
  show Go p e below _ (T2.setTop (mkF m 11 #[.val (.ref a), .val (.int p1)] [(.int (((p1.toUInt32 >>> (s1 &&& 31).toUInt32).toInt32) &&& s2))]))
  refine goOut X2 (fun h => by rw [Bd.returns] at h; cases h) hlk (fun fs hr => retOut X2 hx Bd.returns rfl (Or.inl ⟨rfl, Or.inl rfl, _, rfl⟩) (hb hby d4_11) hr) (by decide) (by decide) ?_
  rw [e2]
  exact ⟨rfl, N0, rfl⟩
def own_ix (h : Int32) (k : Fin 11) : Int32 := (((h.toUInt32 >>> (((32 : Int32) - own_k k) &&& 31).toUInt32).toInt32) &&& (own_pow k - (1 : Int32)))
theorem own_kk (b : Int32) : ∃ k : Fin 11, (b &&& (2147483647 : Int32)) % (11 : Int32) = own_k k := by
  have h1 : (b &&& (2147483647 : Int32)).toInt = b.toInt % (2 ^ 31 : Nat) := c_mask b 2147483647 31 (by decide) (by decide)
  have h2 := (c_irem (b &&& (2147483647 : Int32)) 11 11 rfl).1 (by omega)
  refine ⟨⟨((b &&& (2147483647 : Int32)) % (11 : Int32)).toInt.toNat, by omega⟩, ?_⟩
  rw [← Int32.toInt_inj]
  unfold own_k
  rw [Int32.toInt_ofNat_of_lt (by show ((b &&& (2147483647 : Int32)) % (11 : Int32)).toInt.toNat < _; omega)]
  show _ = ((((b &&& (2147483647 : Int32)) % (11 : Int32)).toInt.toNat : Nat) : Int)
  omega
theorem own_cn (k : Fin 11) : ¬ own_pow k < 0 ∧ (own_pow k).toNatClampNeg ≤ 1024 := by revert k; decide +kernel

theorem own_ans (h : Int32) (k : Fin 11) : 0 ≤ (own_ix h k).toInt ∧ (own_ix h k).toInt < (own_pow k).toInt ∧ (own_ix h k).toInt64 = (((h.toInt64 &&& (4294967295 : Int64)) * (own_pow k).toInt64).toUInt64 >>> ((32 : Int32) &&& 0x3f).toInt64.toUInt64).toInt64 := by
  have r := rng32 h
  have u1 := c_maskL h.toInt64 4294967295 32 (by decide) (by decide)
  rw [c_i2l] at u1
  have u2 := c_lmul (h.toInt64 &&& (4294967295 : Int64)) (own_pow k).toInt64
  have u3 := rng64 ((h.toInt64 &&& (4294967295 : Int64)) * (own_pow k).toInt64)
  have u4 := c_lushr ((h.toInt64 &&& (4294967295 : Int64)) * (own_pow k).toInt64) 32 32 (by decide) (by decide)
  rw [← Int64.toInt_inj, u4, c_i2l]
  rw [c_i2l] at u2
  generalize ((h.toInt64 &&& (4294967295 : Int64)) * (own_pow k).toInt64).toInt = M at *
  rw [u1] at u2
  match k with
  | ⟨0, _⟩ =>
    have pw : (own_pow ⟨0, by decide⟩).toInt = 1 := by decide
    rw [pw] at u2 ⊢
    have e1 : own_ix h ⟨0, by decide⟩ = 0 := by unfold own_ix; rw [show own_pow ⟨0, by decide⟩ - (1 : Int32) = 0 from by decide]; exact Int32.and_zero
    rw [e1]; simp only [Int32.reduceToInt, Int32.toInt_zero] at *; omega
  | ⟨1, _⟩ =>
    have pw : (own_pow ⟨1, by decide⟩).toInt = 2 := by decide
    rw [pw] at u2 ⊢
    have q1 := c_iushr h ((32 : Int32) - own_k ⟨1, by decide⟩) 31 (by decide) (by decide)
    have q2 := c_mask ((h.toUInt32 >>> (((32 : Int32) - own_k ⟨1, by decide⟩) &&& 31).toUInt32).toInt32) (own_pow ⟨1, by decide⟩ - (1 : Int32)) 1 (by decide) (by decide)
    change (own_ix h ⟨1, by decide⟩).toInt = _ at q2
    rw [q2, q1]; omega
  | ⟨2, _⟩ =>
    have pw : (own_pow ⟨2, by decide⟩).toInt = 4 := by decide
    rw [pw] at u2 ⊢
    have q1 := c_iushr h ((32 : Int32) - own_k ⟨2, by decide⟩) 30 (by decide) (by decide)
    have q2 := c_mask ((h.toUInt32 >>> (((32 : Int32) - own_k ⟨2, by decide⟩) &&& 31).toUInt32).toInt32) (own_pow ⟨2, by decide⟩ - (1 : Int32)) 2 (by decide) (by decide)
    change (own_ix h ⟨2, by decide⟩).toInt = _ at q2
    rw [q2, q1]; omega
  | ⟨3, _⟩ =>
    have pw : (own_pow ⟨3, by decide⟩).toInt = 8 := by decide
    rw [pw] at u2 ⊢
    have q1 := c_iushr h ((32 : Int32) - own_k ⟨3, by decide⟩) 29 (by decide) (by decide)
    have q2 := c_mask ((h.toUInt32 >>> (((32 : Int32) - own_k ⟨3, by decide⟩) &&& 31).toUInt32).toInt32) (own_pow ⟨3, by decide⟩ - (1 : Int32)) 3 (by decide) (by decide)
    change (own_ix h ⟨3, by decide⟩).toInt = _ at q2
    rw [q2, q1]; omega
  | ⟨4, _⟩ =>
    have pw : (own_pow ⟨4, by decide⟩).toInt = 16 := by decide
    rw [pw] at u2 ⊢
    have q1 := c_iushr h ((32 : Int32) - own_k ⟨4, by decide⟩) 28 (by decide) (by decide)
    have q2 := c_mask ((h.toUInt32 >>> (((32 : Int32) - own_k ⟨4, by decide⟩) &&& 31).toUInt32).toInt32) (own_pow ⟨4, by decide⟩ - (1 : Int32)) 4 (by decide) (by decide)
    change (own_ix h ⟨4, by decide⟩).toInt = _ at q2
    rw [q2, q1]; omega
  | ⟨5, _⟩ =>
    have pw : (own_pow ⟨5, by decide⟩).toInt = 32 := by decide
    rw [pw] at u2 ⊢
    have q1 := c_iushr h ((32 : Int32) - own_k ⟨5, by decide⟩) 27 (by decide) (by decide)
    have q2 := c_mask ((h.toUInt32 >>> (((32 : Int32) - own_k ⟨5, by decide⟩) &&& 31).toUInt32).toInt32) (own_pow ⟨5, by decide⟩ - (1 : Int32)) 5 (by decide) (by decide)
    change (own_ix h ⟨5, by decide⟩).toInt = _ at q2
    rw [q2, q1]; omega
  | ⟨6, _⟩ =>
    have pw : (own_pow ⟨6, by decide⟩).toInt = 64 := by decide
    rw [pw] at u2 ⊢
    have q1 := c_iushr h ((32 : Int32) - own_k ⟨6, by decide⟩) 26 (by decide) (by decide)
    have q2 := c_mask ((h.toUInt32 >>> (((32 : Int32) - own_k ⟨6, by decide⟩) &&& 31).toUInt32).toInt32) (own_pow ⟨6, by decide⟩ - (1 : Int32)) 6 (by decide) (by decide)
    change (own_ix h ⟨6, by decide⟩).toInt = _ at q2
    rw [q2, q1]; omega
  | ⟨7, _⟩ =>
    have pw : (own_pow ⟨7, by decide⟩).toInt = 128 := by decide
    rw [pw] at u2 ⊢
    have q1 := c_iushr h ((32 : Int32) - own_k ⟨7, by decide⟩) 25 (by decide) (by decide)
    have q2 := c_mask ((h.toUInt32 >>> (((32 : Int32) - own_k ⟨7, by decide⟩) &&& 31).toUInt32).toInt32) (own_pow ⟨7, by decide⟩ - (1 : Int32)) 7 (by decide) (by decide)
    change (own_ix h ⟨7, by decide⟩).toInt = _ at q2
    rw [q2, q1]; omega
  | ⟨8, _⟩ =>
    have pw : (own_pow ⟨8, by decide⟩).toInt = 256 := by decide
    rw [pw] at u2 ⊢
    have q1 := c_iushr h ((32 : Int32) - own_k ⟨8, by decide⟩) 24 (by decide) (by decide)
    have q2 := c_mask ((h.toUInt32 >>> (((32 : Int32) - own_k ⟨8, by decide⟩) &&& 31).toUInt32).toInt32) (own_pow ⟨8, by decide⟩ - (1 : Int32)) 8 (by decide) (by decide)
    change (own_ix h ⟨8, by decide⟩).toInt = _ at q2
    rw [q2, q1]; omega
  | ⟨9, _⟩ =>
    have pw : (own_pow ⟨9, by decide⟩).toInt = 512 := by decide
    rw [pw] at u2 ⊢
    have q1 := c_iushr h ((32 : Int32) - own_k ⟨9, by decide⟩) 23 (by decide) (by decide)
    have q2 := c_mask ((h.toUInt32 >>> (((32 : Int32) - own_k ⟨9, by decide⟩) &&& 31).toUInt32).toInt32) (own_pow ⟨9, by decide⟩ - (1 : Int32)) 9 (by decide) (by decide)
    change (own_ix h ⟨9, by decide⟩).toInt = _ at q2
    rw [q2, q1]; omega
  | ⟨10, _⟩ =>
    have pw : (own_pow ⟨10, by decide⟩).toInt = 1024 := by decide
    rw [pw] at u2 ⊢
    have q1 := c_iushr h ((32 : Int32) - own_k ⟨10, by decide⟩) 22 (by decide) (by decide)
    have q2 := c_mask ((h.toUInt32 >>> (((32 : Int32) - own_k ⟨10, by decide⟩) &&& 31).toUInt32).toInt32) (own_pow ⟨10, by decide⟩ - (1 : Int32)) 10 (by decide) (by decide)
    change (own_ix h ⟨10, by decide⟩).toInt = _ at q2
    rw [q2, q1]; omega
theorem pd_1 : parseMethodDescriptor "(I)V" = some ⟨[.int], none⟩ := by decide +kernel
theorem pn_com_example_stripewell_stripewell_map_SegmentTablesIndexOfPinLaw : plainName "com/example/stripewell/stripewell/map/SegmentTablesIndexOfPinLaw" = true := by first | (simp [plainName, overriddenIn]; done) | decide +kernel
theorem ef_rm0 (m : MethodId) (x0 : Int32) (x1 : Int32) : entryFrame m #[(.int x0), (.int x1)] maxLocals = mkF m 0 #[.val (.int x0), .val (.int x1), .unset, .unset, .unset, .unset, .unset, .unset, .unset, .unset] [] := by first | (simp [entryFrame, mkF, argsToLocals, Value.category, maxLocals]; done) | rfl
def Q0 (Z : State) (p0 : Int32) (p1 : Int32) (h0 : Heap) (n0 : Nat) (v : Option Value) (h : Heap) (L : List Loc) : Prop := v = some (.int 1) ∧ Fr n0 L
set_option maxRecDepth 65536 in
set_option maxHeartbeats 40000000 in
theorem rm0 (l : Launch) (Z : State) (a0 : Array Value) (hw : ∀ d ∈ tables_1, d.before a0 Z = true) (ws : List Jvm.Cond) (p0 : Int32) (p1 : Int32)  (h0 : Heap) (n0 : Nat) (Z0 : n0 ≤ h0.size)  :
    MetFree l x (head1 (Jvm.Cond.code x code maxLocals ret :: ws) room_1) (fun av' U => av' = #[(.int p0), (.int p1)] ∧ Z.Warmed39 U.vm ∧ U.heap = h0) (fun _ _ _ _ _ => True) (fun _ U o U' => ∃ v L, o = .returned v ∧ Q0 Z p0 p1 h0 n0 v U'.heap L ∧ FrameEnd U o U' L room_1.cells room_1.slots) := by
  refine MetFree.of_bodySF (plainFor_of_name pn_com_example_stripewell_stripewell_map_SegmentTablesIndexOfPinLaw) hisR ?_
  intro p e s m args below meth c s₁ Bd hml0 hP hK
  obtain ⟨rfl, hZ, hh⟩ := hP
  have hx := Bd.exec
  have hby := Bd.bytes
  have hlk := Bd.notSynchronized
  have hml : c.maxLocals = 10 := hml0
  have hown : s.vm.findClass "com/example/stripewell/stripewell/map/SegmentTablesIndexOfPinLaw" = some m.cls := findClass_of_methodNamed Bd.named
  have hnm := (name_of_methodNamed Bd.named Bd.method).1
  have X0 : Stand p l e room_1 s m #[(.int p0), (.int p1)] below meth c s₁ [] 0 0 := Stand.of_body Bd
  have e0 : s₁.heap = h0 := by rw [← hh, Bd.state]; rfl
  have N0 := Fr.nil n0
  show Go p e below (Kq s (Q0 Z p0 p1 h0 n0) room_1.cells room_1.slots) _
  refine go (fun t kt => castTop (ef_rm0 m p0 p1) kt) ?_
  show Go p e below _ (s₁.setTop (mkF m 0 #[.val (.int p0), .val (.int p1), .unset, .unset, .unset, .unset, .unset, .unset, .unset, .unset] []))
  refine go (fun t kt' => by refine XS.iloadN X0.here hx rfl (hb hby at_0) rfl ?_; exact kt') ?_
  show Go p e below _ (s₁.setTop (mkF m 1 #[.val (.int p0), .val (.int p1), .unset, .unset, .unset, .unset, .unset, .unset, .unset, .unset] [(.int p1)]))
  refine go (fun t kt' => by refine X0.ldcI hx hown (mvT hZ (hw _ (List.mem_of_getElem? (i := 0) rfl))) rfl (hb hby at_1) ?_; exact kt') ?_
  show Go p e below _ (s₁.setTop (mkF m 3 #[.val (.int p0), .val (.int p1), .unset, .unset, .unset, .unset, .unset, .unset, .unset, .unset] [(.int (2147483647 : Int32)), (.int p1)]))
  refine go (fun t kt' => by refine XS.iand X0.here hx rfl (hb hby at_3) rfl ?_; exact kt') ?_
  show Go p e below _ (s₁.setTop (mkF m 4 #[.val (.int p0), .val (.int p1), .unset, .unset, .unset, .unset, .unset, .unset, .unset, .unset] [(.int (p1 &&& (2147483647 : Int32)))]))
  refine go (fun t kt' => by refine XS.bipush X0.here hx rfl (hb hby at_4) ?_; exact kt') ?_
  show Go p e below _ (s₁.setTop (mkF m 6 #[.val (.int p0), .val (.int p1), .unset, .unset, .unset, .unset, .unset, .unset, .unset, .unset] [(.int (11 : Int32)), (.int (p1 &&& (2147483647 : Int32)))]))
  refine go (fun t kt' => by refine XS.irem X0.here hx rfl (hb hby at_6) rfl (by decide) ?_; exact kt') ?_
  show Go p e below _ (s₁.setTop (mkF m 7 #[.val (.int p0), .val (.int p1), .unset, .unset, .unset, .unset, .unset, .unset, .unset, .unset] [(.int ((p1 &&& (2147483647 : Int32)) - ((p1 &&& (2147483647 : Int32)) / (11 : Int32)) * (11 : Int32)))]))
  rw [Jvm.irem_eq_mod]
  show Go p e below _ (s₁.setTop (mkF m 7 #[.val (.int p0), .val (.int p1), .unset, .unset, .unset, .unset, .unset, .unset, .unset, .unset] [(.int ((p1 &&& (2147483647 : Int32)) % (11 : Int32)))]))
  refine go (fun t kt' => by refine XS.istoreN X0.here hx rfl (hb hby at_7) rfl (l' := #[.val (.int p0), .val (.int p1), .val (.int ((p1 &&& (2147483647 : Int32)) % (11 : Int32))), .unset, .unset, .unset, .unset, .unset, .unset, .unset]) rfl ?_; exact kt') ?_
  show Go p e below _ (s₁.setTop (mkF m 8 #[.val (.int p0), .val (.int p1), .val (.int ((p1 &&& (2147483647 : Int32)) % (11 : Int32))), .unset, .unset, .unset, .unset, .unset, .unset, .unset] []))
  obtain ⟨k, hk⟩ := own_kk p1
  rw [hk]
  show Go p e below _ (s₁.setTop (mkF m 8 #[.val (.int p0), .val (.int p1), .val (.int (own_k k)), .unset, .unset, .unset, .unset, .unset, .unset, .unset] []))
  refine go (fun t kt' => by refine XS.iconst X0.here hx rfl (hb hby at_8) ?_; exact kt') ?_
  show Go p e below _ (s₁.setTop (mkF m 9 #[.val (.int p0), .val (.int p1), .val (.int (own_k k)), .unset, .unset, .unset, .unset, .unset, .unset, .unset] [(.int (1 : Int32))]))
  refine go (fun t kt' => by refine XS.iloadN X0.here hx rfl (hb hby at_9) rfl ?_; exact kt') ?_
  show Go p e below _ (s₁.setTop (mkF m 10 #[.val (.int p0), .val (.int p1), .val (.int (own_k k)), .unset, .unset, .unset, .unset, .unset, .unset, .unset] [(.int (own_k k)), (.int (1 : Int32))]))
  refine go (fun t kt' => by refine XS.ishl X0.here hx rfl (hb hby at_10) rfl ?_; exact kt') ?_
  show Go p e below _ (s₁.setTop (mkF m 11 #[.val (.int p0), .val (.int p1), .val (.int (own_k k)), .unset, .unset, .unset, .unset, .unset, .unset, .unset] [(.int ((1 : Int32) <<< ((own_k k) &&& 31)))]))
  refine go (fun t kt' => by refine XS.istoreN X0.here hx rfl (hb hby at_11) rfl (l' := #[.val (.int p0), .val (.int p1), .val (.int (own_k k)), .val (.int ((1 : Int32) <<< ((own_k k) &&& 31))), .unset, .unset, .unset, .unset, .unset, .unset]) rfl ?_; exact kt') ?_
  show Go p e below _ (s₁.setTop (mkF m 12 #[.val (.int p0), .val (.int p1), .val (.int (own_k k)), .val (.int ((1 : Int32) <<< ((own_k k) &&& 31))), .unset, .unset, .unset, .unset, .unset, .unset] []))
  have hcn := (own_cn k).1
  have hcap := (own_cn k).2
  have hans := own_ans p0 k
  have hc : own_pow k = own_pow k := rfl
  show Go p e below _ (s₁.setTop (mkF m 12 #[.val (.int p0), .val (.int p1), .val (.int (own_k k)), .val (.int (own_pow k)), .unset, .unset, .unset, .unset, .unset, .unset] []))
  obtain ⟨T1, h1, X1, e1, E1, A1, D1, -, st1⟩ := newO X0 hx hZ hown (hw _ (List.mem_of_getElem? (i := 1) rfl)) (hw _ (List.mem_of_getElem? (i := 2) rfl)) (hw _ (List.mem_of_getElem? (i := 3) rfl)) e0 (g := (mkF m 12 #[.val (.int p0), .val (.int p1), .val (.int (own_k k)), .val (.int (own_pow k)), .unset, .unset, .unset, .unset, .unset, .unset] [])) rfl (hb hby at_12) (by decide) (by decide)
  obtain ⟨b1, g1⟩ : ∃ z, z = h0.size := ⟨_, rfl⟩
  have n0_b1 : n0 ≤ b1 := Nat.le_trans Z0 (Nat.le_of_eq g1.symm)
  rw [← g1] at A1 D1 st1
  have f2_Z := Nat.le_trans Z0 E1.1
  have F1_tables : Fld Z h1 b1 "com/example/stripewell/stripewell/map/SegmentTables" "tables" "[[Lcom/example/stripewell/stripewell/map/Slot;" .null := D1 (Or.inr (hw _ (List.mem_of_getElem? (i := 13) rfl))) (ty := (.array (.array (.object "com/example/stripewell/stripewell/map/Slot")))) (by decide)
  have F1_segmentShift : Fld Z h1 b1 "com/example/stripewell/stripewell/map/SegmentTables" "segmentShift" "I" (.int (0 : Int32)) := D1 (Or.inr (hw _ (List.mem_of_getElem? (i := 20) rfl))) (ty := .int) (by decide)
  have F1_segmentMask : Fld Z h1 b1 "com/example/stripewell/stripewell/map/SegmentTables" "segmentMask" "I" (.int (0 : Int32)) := D1 (Or.inr (hw _ (List.mem_of_getElem? (i := 22) rfl))) (ty := .int) (by decide)
  refine go st1 ?_
  show Go p e below _ (T1.setTop (mkF m 15 #[.val (.int p0), .val (.int p1), .val (.int (own_k k)), .val (.int (own_pow k)), .unset, .unset, .unset, .unset, .unset, .unset] [(.ref b1)]))
  refine go (fun t kt' => by refine XS.dup X1.here hx rfl (hb hby at_15) rfl rfl ?_; exact kt') ?_
  show Go p e below _ (T1.setTop (mkF m 16 #[.val (.int p0), .val (.int p1), .val (.int (own_k k)), .val (.int (own_pow k)), .unset, .unset, .unset, .unset, .unset, .unset] [(.ref b1), (.ref b1)]))
  refine go (fun t kt' => by refine XS.iloadN X1.here hx rfl (hb hby at_16) rfl ?_; exact kt') ?_
  show Go p e below _ (T1.setTop (mkF m 17 #[.val (.int p0), .val (.int p1), .val (.int (own_k k)), .val (.int (own_pow k)), .unset, .unset, .unset, .unset, .unset, .unset] [(.int (own_pow k)), (.ref b1), (.ref b1)]))
  obtain ⟨_, _, ⟨T3, L3, k3, n3⟩, -, X3, ⟨Lc3, hQ3, l3, y3, z3⟩, st3⟩ := X1.specialBack hx (y := (⟨"com/example/stripewell/stripewell/map/SegmentTables", "<init>", "(I)V"⟩ : MethodName)) rfl hown (mvT hZ (hw _ (List.mem_of_getElem? (i := 4) rfl))) (mvT hZ (hw _ (List.mem_of_getElem? (i := 5) rfl))) (mvT hZ (hw _ (List.mem_of_getElem? (i := 6) rfl))) (by decide) (backOf (W := 1) (rm1 l Z a0 hw [] b1 (own_pow k) k h1 n0 f2_Z A1 n0_b1 F1_tables F1_segmentShift F1_segmentMask hc hcn hcap) hZ (hw _ (List.mem_of_getElem? (i := 6) rfl)) (hw _ (List.mem_of_getElem? (i := 3) rfl)) (by decide) (by decide)) (g := (mkF m 17 #[.val (.int p0), .val (.int p1), .val (.int (own_k k)), .val (.int (own_pow k)), .unset, .unset, .unset, .unset, .unset, .unset] [(.int (own_pow k)), (.ref b1), (.ref b1)])) rfl (by rw [hml]; rfl) (Steps.refl _) (a := b1) (argsL := [(.int (own_pow k))]) (rest := [(.ref b1)]) (lenOf pd_1 rfl) rfl (by show 2 * 0 + _ ≤ _; exact Nat.le_of_eq rfl) (hb hby at_17) (fun _ _ => ⟨rfl, e1, (by decide : 1 + 1 ≤ _), (by decide : 3 + 1024 ≤ _)⟩)
  dsimp only [Pt.U, Pt.locs, Pt.cells, Pt.slots] at X3 l3 y3 z3 st3 hQ3
  subst l3 y3 z3
  obtain ⟨rfl, N3q, K3, P3_0, P3_1, P3_2⟩ := hQ3
  have N3 := Fr.app N0 N3q
  have f4_Z := Nat.le_trans f2_Z K3.1
  refine go (fun t kt => st3.trans kt) ?_
  show Go p e below _ (T3.setTop (mkF m 20 #[.val (.int p0), .val (.int p1), .val (.int (own_k k)), .val (.int (own_pow k)), .unset, .unset, .unset, .unset, .unset, .unset] [(.ref b1)]))
  refine go (fun t kt' => by refine XS.astore X3.here hx rfl (hb hby at_20) rfl rfl (l' := #[.val (.int p0), .val (.int p1), .val (.int (own_k k)), .val (.int (own_pow k)), .val (.ref b1), .unset, .unset, .unset, .unset, .unset]) rfl ?_; exact kt') ?_
  show Go p e below _ (T3.setTop (mkF m 22 #[.val (.int p0), .val (.int p1), .val (.int (own_k k)), .val (.int (own_pow k)), .val (.ref b1), .unset, .unset, .unset, .unset, .unset] []))
  refine go (fun t kt' => by refine XS.aload X3.here hx rfl (hb hby at_22) rfl rfl ?_; exact kt') ?_
  show Go p e below _ (T3.setTop (mkF m 24 #[.val (.int p0), .val (.int p1), .val (.int (own_k k)), .val (.int (own_pow k)), .val (.ref b1), .unset, .unset, .unset, .unset, .unset] [(.ref b1)]))
  refine go (fun t kt' => by refine XS.iloadN X3.here hx rfl (hb hby at_24) rfl ?_; exact kt') ?_
  show Go p e below _ (T3.setTop (mkF m 25 #[.val (.int p0), .val (.int p1), .val (.int (own_k k)), .val (.int (own_pow k)), .val (.ref b1), .unset, .unset, .unset, .unset, .unset] [(.int p0), (.ref b1)]))
  obtain ⟨cq5, kq5, q5a, q5b, q5c⟩ := isOf hZ rfl P3_0
  obtain ⟨_, _, ⟨T5, L5, k5, n5⟩, -, X5, ⟨Lc5, hQ5, l5, y5, z5⟩, st5⟩ := X3.virtualBack hx (y := (⟨"com/example/stripewell/stripewell/map/SegmentTables", "indexOf", "(I)I"⟩ : MethodName)) (z := (⟨"com/example/stripewell/stripewell/map/SegmentTables", "indexOf", "(I)I"⟩ : MethodName)) hown (mvT hZ (hw _ (List.mem_of_getElem? (i := 23) rfl))) (mvT hZ (hw _ (List.mem_of_getElem? (i := 24) rfl))) (notFace_of_selects (args := #[]) (mvT hZ (hw _ (List.mem_of_getElem? (i := 26) rfl)))) (mvT hZ (hw _ (List.mem_of_getElem? (i := 26) rfl))) (mvT hZ (hw _ (List.mem_of_getElem? (i := 25) rfl))) (by decide) (backOf (W := 0) (rm4 l Z a0 hw [] b1 p0 ((32 : Int32) - own_k k) ((own_pow k) - (1 : Int32)) T3.heap n0 f4_Z P3_0 P3_1 P3_2) hZ (hw _ (List.mem_of_getElem? (i := 27) rfl)) (hw _ (List.mem_of_getElem? (i := 3) rfl)) (by decide) (by decide)) q5a q5c (g := (mkF m 25 #[.val (.int p0), .val (.int p1), .val (.int (own_k k)), .val (.int (own_pow k)), .val (.ref b1), .unset, .unset, .unset, .unset, .unset] [(.int p0), (.ref b1)])) rfl (by rw [hml]; rfl) (Steps.refl _) (argsL := [(.int p0)]) (rest := []) (lenOf pd_0 rfl) rfl (by show 2 * 0 + _ ≤ _; exact Nat.le_of_eq rfl) (hb hby at_25) (fun _ _ => ⟨rfl, rfl, (by decide : 2 + 0 ≤ _), (by decide : 1027 + 0 ≤ _)⟩)
  dsimp only [Pt.U, Pt.locs, Pt.cells, Pt.slots] at X5 l5 y5 z5 st5 hQ5
  subst l5 y5 z5
  obtain ⟨rfl, N5q, e5⟩ := hQ5
  have N5 := Fr.app N3 N5q
  refine go (fun t kt => st5.trans kt) ?_
  show Go p e below _ (T5.setTop (mkF m 28 #[.val (.int p0), .val (.int p1), .val (.int (own_k k)), .val (.int (own_pow k)), .val (.ref b1), .unset, .unset, .unset, .unset, .unset] [(.int (own_ix p0 k))]))
  refine go (fun t kt' => by refine XS.istore X5.here hx rfl (hb hby at_28) rfl (l' := #[.val (.int p0), .val (.int p1), .val (.int (own_k k)), .val (.int (own_pow k)), .val (.ref b1), .val (.int (own_ix p0 k)), .unset, .unset, .unset, .unset]) rfl ?_; exact kt') ?_
  show Go p e below _ (T5.setTop (mkF m 30 #[.val (.int p0), .val (.int p1), .val (.int (own_k k)), .val (.int (own_pow k)), .val (.ref b1), .val (.int (own_ix p0 k)), .unset, .unset, .unset, .unset] []))
  refine go (fun t kt' => by refine XS.iloadN X5.here hx rfl (hb hby at_30) rfl ?_; exact kt') ?_
  show Go p e below _ (T5.setTop (mkF m 31 #[.val (.int p0), .val (.int p1), .val (.int (own_k k)), .val (.int (own_pow k)), .val (.ref b1), .val (.int (own_ix p0 k)), .unset, .unset, .unset, .unset] [(.int p0)]))
  refine go (fun t kt' => by refine XS.i2l X5.here hx rfl (hb hby at_31) rfl ?_; exact kt') ?_
  show Go p e below _ (T5.setTop (mkF m 32 #[.val (.int p0), .val (.int p1), .val (.int (own_k k)), .val (.int (own_pow k)), .val (.ref b1), .val (.int (own_ix p0 k)), .unset, .unset, .unset, .unset] [(.long (p0.toInt64))]))
  refine go (fun t kt' => by refine X5.ldc2J hx hown (mvT hZ (hw _ (List.mem_of_getElem? (i := 28) rfl))) rfl (hb hby at_32) ?_; exact kt') ?_
  show Go p e below _ (T5.setTop (mkF m 35 #[.val (.int p0), .val (.int p1), .val (.int (own_k k)), .val (.int (own_pow k)), .val (.ref b1), .val (.int (own_ix p0 k)), .unset, .unset, .unset, .unset] [(.long (4294967295 : Int64)), (.long (p0.toInt64))]))
  refine go (fun t kt' => by refine XS.land X5.here hx rfl (hb hby at_35) rfl ?_; exact kt') ?_
  show Go p e below _ (T5.setTop (mkF m 36 #[.val (.int p0), .val (.int p1), .val (.int (own_k k)), .val (.int (own_pow k)), .val (.ref b1), .val (.int (own_ix p0 k)), .unset, .unset, .unset, .unset] [(.long ((p0.toInt64) &&& (4294967295 : Int64)))]))
  refine go (fun t kt' => by refine XS.lstore X5.here hx rfl (hb hby at_36) rfl (l' := #[.val (.int p0), .val (.int p1), .val (.int (own_k k)), .val (.int (own_pow k)), .val (.ref b1), .val (.int (own_ix p0 k)), .val (.long ((p0.toInt64) &&& (4294967295 : Int64))), .second, .unset, .unset]) rfl ?_; exact kt') ?_
  show Go p e below _ (T5.setTop (mkF m 38 #[.val (.int p0), .val (.int p1), .val (.int (own_k k)), .val (.int (own_pow k)), .val (.ref b1), .val (.int (own_ix p0 k)), .val (.long ((p0.toInt64) &&& (4294967295 : Int64))), .second, .unset, .unset] []))
  refine go (fun t kt' => by refine XS.lload X5.here hx rfl (hb hby at_38) rfl ?_; exact kt') ?_
  show Go p e below _ (T5.setTop (mkF m 40 #[.val (.int p0), .val (.int p1), .val (.int (own_k k)), .val (.int (own_pow k)), .val (.ref b1), .val (.int (own_ix p0 k)), .val (.long ((p0.toInt64) &&& (4294967295 : Int64))), .second, .unset, .unset] [(.long ((p0.toInt64) &&& (4294967295 : Int64)))]))
  refine go (fun t kt' => by refine XS.iloadN X5.here hx rfl (hb hby at_40) rfl ?_; exact kt') ?_
  show Go p e below _ (T5.setTop (mkF m 41 #[.val (.int p0), .val (.int p1), .val (.int (own_k k)), .val (.int (own_pow k)), .val (.ref b1), .val (.int (own_ix p0 k)), .val (.long ((p0.toInt64) &&& (4294967295 : Int64))), .second, .unset, .unset] [(.int (own_pow k)), (.long ((p0.toInt64) &&& (4294967295 : Int64)))]))
  refine go (fun t kt' => by refine XS.i2l X5.here hx rfl (hb hby at_41) rfl ?_; exact kt') ?_
  show Go p e below _ (T5.setTop (mkF m 42 #[.val (.int p0), .val (.int p1), .val (.int (own_k k)), .val (.int (own_pow k)), .val (.ref b1), .val (.int (own_ix p0 k)), .val (.long ((p0.toInt64) &&& (4294967295 : Int64))), .second, .unset, .unset] [(.long ((own_pow k).toInt64)), (.long ((p0.toInt64) &&& (4294967295 : Int64)))]))
  refine go (fun t kt' => by refine XS.lmul X5.here hx rfl (hb hby at_42) rfl ?_; exact kt') ?_
  show Go p e below _ (T5.setTop (mkF m 43 #[.val (.int p0), .val (.int p1), .val (.int (own_k k)), .val (.int (own_pow k)), .val (.ref b1), .val (.int (own_ix p0 k)), .val (.long ((p0.toInt64) &&& (4294967295 : Int64))), .second, .unset, .unset] [(.long (((p0.toInt64) &&& (4294967295 : Int64)) * ((own_pow k).toInt64)))]))
  refine go (fun t kt' => by refine XS.bipush X5.here hx rfl (hb hby at_43) ?_; exact kt') ?_
  show Go p e below _ (T5.setTop (mkF m 45 #[.val (.int p0), .val (.int p1), .val (.int (own_k k)), .val (.int (own_pow k)), .val (.ref b1), .val (.int (own_ix p0 k)), .val (.long ((p0.toInt64) &&& (4294967295 : Int64))), .second, .unset, .unset] [(.int (32 : Int32)), (.long (((p0.toInt64) &&& (4294967295 : Int64)) * ((own_pow k).toInt64)))]))
  refine go (fun t kt' => by refine XS.lushr X5.here hx rfl (hb hby at_45) rfl ?_; exact kt') ?_
  show Go p e below _ (T5.setTop (mkF m 46 #[.val (.int p0), .val (.int p1), .val (.int (own_k k)), .val (.int (own_pow k)), .val (.ref b1), .val (.int (own_ix p0 k)), .val (.long ((p0.toInt64) &&& (4294967295 : Int64))), .second, .unset, .unset] [(.long (((((p0.toInt64) &&& (4294967295 : Int64)) * ((own_pow k).toInt64)).toUInt64 >>> ((32 : Int32) &&& 0x3f).toInt64.toUInt64).toInt64))]))
  refine go (fun t kt' => by refine XS.lstore X5.here hx rfl (hb hby at_46) rfl (l' := #[.val (.int p0), .val (.int p1), .val (.int (own_k k)), .val (.int (own_pow k)), .val (.ref b1), .val (.int (own_ix p0 k)), .val (.long ((p0.toInt64) &&& (4294967295 : Int64))), .second, .val (.long (((((p0.toInt64) &&& (4294967295 : Int64)) * ((own_pow k).toInt64)).toUInt64 >>> ((32 : Int32) &&& 0x3f).toInt64.toUInt64).toInt64)), .second]) rfl ?_; exact kt') ?_
  show Go p e below _ (T5.setTop (mkF m 48 #[.val (.int p0), .val (.int p1), .val (.int (own_k k)), .val (.int (own_pow k)), .val (.ref b1), .val (.int (own_ix p0 k)), .val (.long ((p0.toInt64) &&& (4294967295 : Int64))), .second, .val (.long (((((p0.toInt64) &&& (4294967295 : Int64)) * ((own_pow k).toInt64)).toUInt64 >>> ((32 : Int32) &&& 0x3f).toInt64.toUInt64).toInt64)), .second] []))
  refine go (fun t kt' => by refine XS.iload X5.here hx rfl (hb hby at_48) rfl ?_; exact kt') ?_
  show Go p e below _ (T5.setTop (mkF m 50 #[.val (.int p0), .val (.int p1), .val (.int (own_k k)), .val (.int (own_pow k)), .val (.ref b1), .val (.int (own_ix p0 k)), .val (.long ((p0.toInt64) &&& (4294967295 : Int64))), .second, .val (.long (((((p0.toInt64) &&& (4294967295 : Int64)) * ((own_pow k).toInt64)).toUInt64 >>> ((32 : Int32) &&& 0x3f).toInt64.toUInt64).toInt64)), .second] [(.int (own_ix p0 k))]))
  have c50_6 : ¬ ((own_ix p0 k) < (0 : Int32)) := by rw [Int32.lt_iff_toInt_lt]; have := hans.1; have e : (0 : Int32).toInt = 0 := rfl; omega
  refine go (fun t kt' => by refine XS.ifNo X5.here hx rfl (hb hby at_50) rfl ((if0 _ _).trans (flt c50_6).1) ?_; exact kt') ?_
  show Go p e below _ (T5.setTop (mkF m 53 #[.val (.int p0), .val (.int p1), .val (.int (own_k k)), .val (.int (own_pow k)), .val (.ref b1), .val (.int (own_ix p0 k)), .val (.long ((p0.toInt64) &&& (4294967295 : Int64))), .second, .val (.long (((((p0.toInt64) &&& (4294967295 : Int64)) * ((own_pow k).toInt64)).toUInt64 >>> ((32 : Int32) &&& 0x3f).toInt64.toUInt64).toInt64)), .second] []))
  refine go (fun t kt' => by refine XS.iload X5.here hx rfl (hb hby at_53) rfl ?_; exact kt') ?_
  show Go p e below _ (T5.setTop (mkF m 55 #[.val (.int p0), .val (.int p1), .val (.int (own_k k)), .val (.int (own_pow k)), .val (.ref b1), .val (.int (own_ix p0 k)), .val (.long ((p0.toInt64) &&& (4294967295 : Int64))), .second, .val (.long (((((p0.toInt64) &&& (4294967295 : Int64)) * ((own_pow k).toInt64)).toUInt64 >>> ((32 : Int32) &&& 0x3f).toInt64.toUInt64).toInt64)), .second] [(.int (own_ix p0 k))]))
  refine go (fun t kt' => by refine XS.iloadN X5.here hx rfl (hb hby at_55) rfl ?_; exact kt') ?_
  show Go p e below _ (T5.setTop (mkF m 56 #[.val (.int p0), .val (.int p1), .val (.int (own_k k)), .val (.int (own_pow k)), .val (.ref b1), .val (.int (own_ix p0 k)), .val (.long ((p0.toInt64) &&& (4294967295 : Int64))), .second, .val (.long (((((p0.toInt64) &&& (4294967295 : Int64)) * ((own_pow k).toInt64)).toUInt64 >>> ((32 : Int32) &&& 0x3f).toInt64.toUInt64).toInt64)), .second] [(.int (own_pow k)), (.int (own_ix p0 k))]))
  have c56_7 : ¬ (¬ (own_ix p0 k) < (own_pow k)) := not_not_intro (Int32.lt_iff_toInt_lt.mpr hans.2.1)
  refine go (fun t kt' => by refine XS.icmpNo X5.here hx rfl (hb hby at_56) rfl (tlt (Decidable.not_not.mp c56_7)).2.1 ?_; exact kt') ?_
  show Go p e below _ (T5.setTop (mkF m 59 #[.val (.int p0), .val (.int p1), .val (.int (own_k k)), .val (.int (own_pow k)), .val (.ref b1), .val (.int (own_ix p0 k)), .val (.long ((p0.toInt64) &&& (4294967295 : Int64))), .second, .val (.long (((((p0.toInt64) &&& (4294967295 : Int64)) * ((own_pow k).toInt64)).toUInt64 >>> ((32 : Int32) &&& 0x3f).toInt64.toUInt64).toInt64)), .second] []))
  refine go (fun t kt' => by refine XS.iload X5.here hx rfl (hb hby at_59) rfl ?_; exact kt') ?_
  show Go p e below _ (T5.setTop (mkF m 61 #[.val (.int p0), .val (.int p1), .val (.int (own_k k)), .val (.int (own_pow k)), .val (.ref b1), .val (.int (own_ix p0 k)), .val (.long ((p0.toInt64) &&& (4294967295 : Int64))), .second, .val (.long (((((p0.toInt64) &&& (4294967295 : Int64)) * ((own_pow k).toInt64)).toUInt64 >>> ((32 : Int32) &&& 0x3f).toInt64.toUInt64).toInt64)), .second] [(.int (own_ix p0 k))]))
  refine go (fun t kt' => by refine XS.i2l X5.here hx rfl (hb hby at_61) rfl ?_; exact kt') ?_
  show Go p e below _ (T5.setTop (mkF m 62 #[.val (.int p0), .val (.int p1), .val (.int (own_k k)), .val (.int (own_pow k)), .val (.ref b1), .val (.int (own_ix p0 k)), .val (.long ((p0.toInt64) &&& (4294967295 : Int64))), .second, .val (.long (((((p0.toInt64) &&& (4294967295 : Int64)) * ((own_pow k).toInt64)).toUInt64 >>> ((32 : Int32) &&& 0x3f).toInt64.toUInt64).toInt64)), .second] [(.long ((own_ix p0 k).toInt64))]))
  refine go (fun t kt' => by refine XS.lload X5.here hx rfl (hb hby at_62) rfl ?_; exact kt') ?_
  show Go p e below _ (T5.setTop (mkF m 64 #[.val (.int p0), .val (.int p1), .val (.int (own_k k)), .val (.int (own_pow k)), .val (.ref b1), .val (.int (own_ix p0 k)), .val (.long ((p0.toInt64) &&& (4294967295 : Int64))), .second, .val (.long (((((p0.toInt64) &&& (4294967295 : Int64)) * ((own_pow k).toInt64)).toUInt64 >>> ((32 : Int32) &&& 0x3f).toInt64.toUInt64).toInt64)), .second] [(.long (((((p0.toInt64) &&& (4294967295 : Int64)) * ((own_pow k).toInt64)).toUInt64 >>> ((32 : Int32) &&& 0x3f).toInt64.toUInt64).toInt64)), (.long ((own_ix p0 k).toInt64))]))
  refine go (fun t kt' => by refine XS.lcmp X5.here hx rfl (hb hby at_64) rfl ?_; exact kt') ?_
  show Go p e below _ (T5.setTop (mkF m 65 #[.val (.int p0), .val (.int p1), .val (.int (own_k k)), .val (.int (own_pow k)), .val (.ref b1), .val (.int (own_ix p0 k)), .val (.long ((p0.toInt64) &&& (4294967295 : Int64))), .second, .val (.long (((((p0.toInt64) &&& (4294967295 : Int64)) * ((own_pow k).toInt64)).toUInt64 >>> ((32 : Int32) &&& 0x3f).toInt64.toUInt64).toInt64)), .second] [(.int (lcmpW ((own_ix p0 k).toInt64) (((((p0.toInt64) &&& (4294967295 : Int64)) * ((own_pow k).toInt64)).toUInt64 >>> ((32 : Int32) &&& 0x3f).toInt64.toUInt64).toInt64)))]))
  have c65_8 : ¬ (¬ ((own_ix p0 k).toInt64) = (((((p0.toInt64) &&& (4294967295 : Int64)) * ((own_pow k).toInt64)).toUInt64 >>> ((32 : Int32) &&& 0x3f).toInt64.toUInt64).toInt64)) := not_not_intro hans.2.2
  refine go (fun t kt' => by refine XS.ifNo X5.here hx rfl (hb hby at_65) rfl ((if0 _ _).trans (teq ((lw_eq _ _).mpr (Decidable.not_not.mp c65_8))).2) ?_; exact kt') ?_
  show Go p e below _ (T5.setTop (mkF m 68 #[.val (.int p0), .val (.int p1), .val (.int (own_k k)), .val (.int (own_pow k)), .val (.ref b1), .val (.int (own_ix p0 k)), .val (.long ((p0.toInt64) &&& (4294967295 : Int64))), .second, .val (.long (((((p0.toInt64) &&& (4294967295 : Int64)) * ((own_pow k).toInt64)).toUInt64 >>> ((32 : Int32) &&& 0x3f).toInt64.toUInt64).toInt64)), .second] []))
  refine go (fun t kt' => by refine XS.iconst X5.here hx rfl (hb hby at_68) ?_; exact kt') ?_
  show Go p e below _ (T5.setTop (mkF m 69 #[.val (.int p0), .val (.int p1), .val (.int (own_k k)), .val (.int (own_pow k)), .val (.ref b1), .val (.int (own_ix p0 k)), .val (.long ((p0.toInt64) &&& (4294967295 : Int64))), .second, .val (.long (((((p0.toInt64) &&& (4294967295 : Int64)) * ((own_pow k).toInt64)).toUInt64 >>> ((32 : Int32) &&& 0x3f).toInt64.toUInt64).toInt64)), .second] [(.int (1 : Int32))]))
  refine go (fun t kt' => by refine XS.goto X5.here hx rfl (pc0 := 69) (pc' := 73) rfl (hb hby at_69) (by decide) (by decide) ?_; exact kt') ?_
  show Go p e below _ (T5.setTop (mkF m 73 #[.val (.int p0), .val (.int p1), .val (.int (own_k k)), .val (.int (own_pow k)), .val (.ref b1), .val (.int (own_ix p0 k)), .val (.long ((p0.toInt64) &&& (4294967295 : Int64))), .second, .val (.long (((((p0.toInt64) &&& (4294967295 : Int64)) * ((own_pow k).toInt64)).toUInt64 >>> ((32 : Int32) &&& 0x3f).toInt64.toUInt64).toInt64)), .second] [(.int (1 : Int32))]))
  refine goOut X5 (fun h => by rw [Bd.returns] at h; cases h) hlk (fun fs hr => retN X5 hx (t := .boolean) Bd.returns (by simp) (hb hby at_73) hr) (by decide) (by decide) ?_
  rw [e5]
  exact ⟨rfl, N5⟩
set_option maxRecDepth 65536 in
set_option maxHeartbeats 40000000 in
theorem comes_1 {Post : Tables → Env → Array Value → State → Outcome → State → Prop} (hpost : ∀ tb e args s v u, (limb_1_1.after args s (.returned v) u = true ∧ limb_1_2.after args s (.returned v) u = true ∧ True) → FrameEnd s (.returned v) u (Jvm.fieldLocs frame_1_writes args s ++ Jvm.arrayLocs frame_1_arrays args s ++ Jvm.staticLocs frame_1_statics s) 16 2176 → Post tb e args s (.returned v) u) :
    ArmFor flags0 classFile x code maxLocals ret World_1 tables_1 room_1 Calls_1 rest_1 Pre_1 Post := by
  intro l hfl _ _ p e ha hc hk s m args below hf hA hF happ hP
  obtain ⟨hcalls, hrest, hpre⟩ := hP
  obtain ⟨-, -, -, hnamed, -, -, -, hat⟩ := (Spec.applies_iff hf).mp happ
  obtain ⟨hg, hn⟩ := and_e (Cond.before_iff.mp (show (Jvm.Cond.and given_1 narrow_1).before args s = true from hpre))
  obtain ⟨g1, g2⟩ := and_e hg
  obtain ⟨g3, g4⟩ := and_e g2
  obtain ⟨w0, w1, rfl⟩ : ∃ w0 w1 : Value, args = #[w0, w1] := by
    have hs : args.size = 2 := by simpa [Cond.value, given_1] using g1
    obtain ⟨L⟩ := args
    match L, hs with
    | [w0, w1], _ => exact ⟨w0, w1, rfl⟩
  have hw := fun d (hd : d ∈ tables_1) => atoms_spec (ws := Jvm.Cond.code x code maxLocals ret :: tables_1) hat d (List.mem_cons_of_mem _ hd)
  have hfit : Fit s := fun {y c} hc i hi => by
    obtain ⟨ha, rfl⟩ := Array.getElem?_eq_some_iff.mp hc
    have q := List.all_eq_true.mp ((Array.all_eq_true_iff_forall_mem.mp hF) _ (Array.getElem_mem ha)) i (List.mem_range.mpr hi)
    simpa [Array.getElem?_eq_getElem hi] using q
  obtain ⟨i0, ei0⟩ := is_v g3
  obtain rfl : w0 = (.int i0) := Option.some.inj ei0
  obtain ⟨i1, ei1⟩ := is_v g4
  obtain rfl : w1 = (.int i1) := Option.some.inj ei1
  obtain ⟨n, o, h1, h2, h3, _, L, rfl, ⟨rfl, N⟩, hq⟩ := rm0 l s _ hw tables_1 i0 i1  s.heap s.heap.size (Nat.le_refl _)  p e ha hc hk s m _ below hf ((Spec.applies_iff_loose hf).mp happ).1 ⟨rfl, State.Warmed39.refl s, rfl⟩ trivial
  refine ⟨n, _, h1, h2, h3, hpost _ _ _ _ _ _ ⟨Cond.after_iff.mpr rfl, Cond.after_iff.mpr (eq_i res_at (Term.int_eval (1)) rfl), trivial⟩ ⟨hq.1, hq.2.1, (hq.2.2.sift fun y hy => Or.inr (N y hy)).mono (by decide) (by decide)⟩⟩
theorem main_1_1 : Claimed_1_1 := comes_1 fun _ _ _ _ _ _ h hF => ⟨h.1, hF⟩
theorem main_1_2 : Claimed_1_2 := comes_1 fun _ _ _ _ _ _ h hF => ⟨h.2.1, hF⟩
end Jvm.Pilot.@@N@@
namespace Jvm.Pilot.@@N@@
open Jvm Jvm.ClassFile Sem Op Lib Jvm.Free Jvm.Stand Jvm.Pilot.@@N@@.Jvm.D
/-! MADE BY PROGRAM (witnessworld.py) out of the Statement's table words and the real class files: 14 classes; the members and pool entries that the words name. The judged class is class 1, her method 1. -/
namespace start1
open Jvm.ClassFile
def u (s : String) : CpInfo := .utf8 (stringToUtf16 s)
/-- a pool by its gaps: so many unusable entries, then the entry; so many at the end -/
def gap : Nat → List CpInfo → List CpInfo
  | 0, r => r
  | n + 1, r => .unusable :: gap n r
def poolList (es : List (Nat × CpInfo)) (last : Nat) : List CpInfo := es.foldr (fun e r => gap e.1 (e.2 :: r)) (gap last [])
def pool (es : List (Nat × CpInfo)) (last : Nat) : Array CpInfo := ⟨poolList es last⟩
def fileOf (pool : Array CpInfo) (this : Nat) (attrs : Array Attribute := #[]) (ms : Array MethodInfo := #[]) (fl : Nat := 33) (sup : Nat := 0) (ifs : Array Nat := #[]) (fds : Array FieldInfo := #[]) : ClassFile where
  minorVersion := 0
  majorVersion := 65
  constantPool := pool
  accessFlags := fl
  thisClass := this
  superClass := sup
  interfaces := ifs
  fields := fds
  methods := ms
  attributes := attrs
def plain (name : String) (sup : Option ClassId) : Class where
  name := name
  kind := .ordinary
  loader := none
  accessFlags := 33
  super := sup
  interfaces := #[]
  cf := none
  fields := #[]
  methods := #[]
  instanceTypes := #[]
  staticTypes := #[]
  resolved := #[]
  callSites := []
  init := .initialized
  statics := none
  mirror := none

def pool0 : Array CpInfo := pool [(5, u "<init>"), (0, u "()V"), (1, .class_ 10), (1, u "java/lang/Object")] 113

def k0c0 : Code := { maxStack := 0, maxLocals := 1, code := object_method_1_code, exceptionTable := #[], attributes := #[] }
def k0m0 : Method := { name := "<init>", desc := "()V", sig := { parameters := [], returnType := none }, accessFlags := 1, code := some k0c0 }
/-- java/lang/Object -/
def k0 : Class := { plain "java/lang/Object" none with
  accessFlags := 33
  interfaces := #[]
  cf := some (fileOf pool0 8 #[] #[{ accessFlags := 1, nameIndex := 5, descriptorIndex := 6, attributes := #[] }] 33 0 #[] #[])
  fields := #[]
  methods := #[k0m0]
  instanceTypes := #[]
  staticTypes := #[]
  resolved := Array.replicate 124 none
  statics := none }

def pool1 : Array CpInfo := pool [(2, .class_ 4), (1, u "java/lang/Object"), (0, u "<init>"), (0, u "()V"), (0, .integer 2147483647), (0, .class_ 9), (0, u "com/example/stripewell/stripewell/map/SegmentTables"), (0, .methodref 8 11), (0, .nameAndType 5 12), (0, u "(I)V"), (0, .methodref 8 14), (0, .nameAndType 15 16), (0, u "indexOf"), (0, u "(I)I"), (0, .long 4294967295), (1, .class_ 20), (0, u "com/example/stripewell/stripewell/map/SegmentTablesIndexOfPinLaw"), (2, u "law"), (0, u "(II)Z")] 3

def k1m0 : Method := { name := "<init>", desc := "()V", sig := { parameters := [], returnType := none }, accessFlags := 2, code := none }
def k1c1 : Code := { maxStack := 4, maxLocals := 10, code := code, exceptionTable := #[], attributes := #[] }
def k1m1 : Method := { name := "law", desc := "(II)Z", sig := { parameters := [.int, .int], returnType := some .boolean }, accessFlags := 9, code := some k1c1 }
/-- com/example/stripewell/stripewell/map/SegmentTablesIndexOfPinLaw -/
def k1 : Class := { plain "com/example/stripewell/stripewell/map/SegmentTablesIndexOfPinLaw" (some 0) with
  accessFlags := 49
  interfaces := #[]
  cf := some (fileOf pool1 19 #[] #[{ accessFlags := 2, nameIndex := 5, descriptorIndex := 6, attributes := #[] }, { accessFlags := 9, nameIndex := 23, descriptorIndex := 24, attributes := #[] }] 49 2 #[] #[])
  fields := #[]
  methods := #[k1m0, k1m1]
  instanceTypes := #[]
  staticTypes := #[]
  resolved := Array.replicate 28 none
  statics := none }

def pool2 : Array CpInfo := pool [(1, .methodref 2 3), (0, .class_ 4), (0, .nameAndType 5 6), (0, u "java/lang/Object"), (0, u "<init>"), (0, u "()V"), (0, .class_ 8), (0, u "[Lcom/example/stripewell/stripewell/map/Slot;"), (0, .fieldref 10 11), (0, .class_ 12), (0, .nameAndType 13 14), (0, u "com/example/stripewell/stripewell/map/SegmentTables"), (0, u "tables"), (0, u "[[Lcom/example/stripewell/stripewell/map/Slot;"), (0, .class_ 16), (0, u "java/lang/Integer"), (0, .methodref 15 18), (0, .nameAndType 19 20), (0, u "numberOfTrailingZeros"), (0, u "(I)I"), (0, .fieldref 10 22), (0, .nameAndType 23 24), (0, u "segmentShift"), (0, u "I"), (0, .fieldref 10 26), (0, .nameAndType 27 24), (0, u "segmentMask"), (2, u "indexOf"), (6, u "TABLES"), (0, u "Ljava/lang/invoke/VarHandle;"), (19, u "(I)V")] 11

def k2c0 : Code := { maxStack := 3, maxLocals := 2, code := prog_14_method_1_code, exceptionTable := #[], attributes := #[] }
def k2m0 : Method := { name := "<init>", desc := "(I)V", sig := { parameters := [.int], returnType := none }, accessFlags := 0, code := some k2c0 }
def k2c1 : Code := { maxStack := 2, maxLocals := 2, code := prog_14_method_2_code, exceptionTable := #[], attributes := #[] }
def k2m1 : Method := { name := "indexOf", desc := "(I)I", sig := { parameters := [.int], returnType := some .int }, accessFlags := 0, code := some k2c1 }
/-- com/example/stripewell/stripewell/map/SegmentTables -/
def k2 : Class := { plain "com/example/stripewell/stripewell/map/SegmentTables" (some 0) with
  accessFlags := 32
  interfaces := #[]
  cf := some (fileOf pool2 10 #[] #[{ accessFlags := 0, nameIndex := 5, descriptorIndex := 58, attributes := #[] }, { accessFlags := 0, nameIndex := 30, descriptorIndex := 20, attributes := #[] }] 32 2 #[] #[{ accessFlags := 26, nameIndex := 37, descriptorIndex := 38, attributes := #[] }, { accessFlags := 18, nameIndex := 13, descriptorIndex := 14, attributes := #[] }, { accessFlags := 18, nameIndex := 23, descriptorIndex := 24, attributes := #[] }, { accessFlags := 18, nameIndex := 27, descriptorIndex := 24, attributes := #[] }])
  fields := #[{ name := "TABLES", type := (.object "java/lang/invoke/VarHandle"), accessFlags := 26, slot := 0, constantValue := 0 }, { name := "tables", type := (.array (.array (.object "com/example/stripewell/stripewell/map/Slot"))), accessFlags := 18, slot := 0, constantValue := 0 }, { name := "segmentShift", type := .int, accessFlags := 18, slot := 1, constantValue := 0 }, { name := "segmentMask", type := .int, accessFlags := 18, slot := 2, constantValue := 0 }]
  methods := #[k2m0, k2m1]
  instanceTypes := #[(.array (.array (.object "com/example/stripewell/stripewell/map/Slot"))), .int, .int]
  staticTypes := #[(.object "java/lang/invoke/VarHandle")]
  resolved := Array.replicate 70 none
  statics := none }

def pool3 : Array CpInfo := pool [(1, .class_ 2), (0, u "java/io/Serializable"), (0, .class_ 4), (0, u "java/lang/Object")] 2

/-- java/io/Serializable -/
def k3 : Class := { plain "java/io/Serializable" (some 0) with
  accessFlags := 1537
  interfaces := #[]
  cf := some (fileOf pool3 1 #[] #[] 1537 3 #[] #[])
  fields := #[]
  methods := #[]
  instanceTypes := #[]
  staticTypes := #[]
  resolved := Array.replicate 7 none
  statics := none }

def pool4 : Array CpInfo := pool [(2, .class_ 4), (1, u "java/lang/Object"), (0, u "<init>"), (0, u "()V"), (1, .class_ 10), (1, u "java/lang/Number"), (2, .class_ 14), (0, u "java/io/Serializable"), (0, u "serialVersionUID"), (0, u "J")] 20

def k4m0 : Method := { name := "<init>", desc := "()V", sig := { parameters := [], returnType := none }, accessFlags := 1, code := none }
/-- java/lang/Number -/
def k4 : Class := { plain "java/lang/Number" (some 0) with
  accessFlags := 1057
  interfaces := #[3]
  cf := some (fileOf pool4 8 #[] #[{ accessFlags := 1, nameIndex := 5, descriptorIndex := 6, attributes := #[] }] 1057 2 #[13] #[{ accessFlags := 26, nameIndex := 15, descriptorIndex := 16, attributes := #[] }])
  fields := #[{ name := "serialVersionUID", type := .long, accessFlags := 26, slot := 0, constantValue := 0 }]
  methods := #[k4m0]
  instanceTypes := #[]
  staticTypes := #[.long]
  resolved := Array.replicate 37 none
  statics := none }

def pool5 : Array CpInfo := pool [(1, .class_ 2), (0, u "java/lang/Comparable"), (0, .class_ 4), (0, u "java/lang/Object")] 7

/-- java/lang/Comparable -/
def k5 : Class := { plain "java/lang/Comparable" (some 0) with
  accessFlags := 1537
  interfaces := #[]
  cf := some (fileOf pool5 1 #[] #[] 1537 3 #[] #[])
  fields := #[]
  methods := #[]
  instanceTypes := #[]
  staticTypes := #[]
  resolved := Array.replicate 12 none
  statics := none }

def pool6 : Array CpInfo := pool [(1, .class_ 2), (0, u "java/lang/constant/Constable"), (0, .class_ 4), (0, u "java/lang/Object")] 6

/-- java/lang/constant/Constable -/
def k6 : Class := { plain "java/lang/constant/Constable" (some 0) with
  accessFlags := 1537
  interfaces := #[]
  cf := some (fileOf pool6 1 #[] #[] 1537 3 #[] #[])
  fields := #[]
  methods := #[]
  instanceTypes := #[]
  staticTypes := #[]
  resolved := Array.replicate 11 none
  statics := none }

def pool7 : Array CpInfo := pool [(1, .class_ 2), (0, u "java/lang/constant/ConstantDesc"), (0, .class_ 4), (0, u "java/lang/Object")] 32

/-- java/lang/constant/ConstantDesc -/
def k7 : Class := { plain "java/lang/constant/ConstantDesc" (some 0) with
  accessFlags := 1537
  interfaces := #[]
  cf := some (fileOf pool7 1 #[] #[] 1537 3 #[] #[])
  fields := #[]
  methods := #[]
  instanceTypes := #[]
  staticTypes := #[]
  resolved := Array.replicate 37 none
  statics := none }

def pool8 : Array CpInfo := pool [(1, .class_ 2), (0, u "java/lang/Integer"), (16, u "digits"), (0, u "[C"), (33, u "(I)I"), (30, u "DigitOnes"), (0, u "[B"), (2, u "DigitTens"), (99, .class_ 190), (0, u "java/lang/Integer$IntegerCache"), (3, u "I"), (8, .class_ 204), (0, u "java/lang/Number"), (2, u "value"), (56, .integer 65536), (37, u "TYPE"), (0, u "Ljava/lang/Class;"), (0, .class_ 305), (0, u "java/lang/Comparable"), (0, .class_ 307), (0, u "java/lang/constant/Constable"), (0, .class_ 309), (0, u "java/lang/constant/ConstantDesc"), (0, u "MIN_VALUE"), (1, u "MAX_VALUE"), (3, u "SIZE"), (1, u "BYTES"), (1, u "serialVersionUID"), (0, u "J"), (84, u "numberOfTrailingZeros")] 46

def k8c0 : Code := { maxStack := 3, maxLocals := 2, code := jdk_33_method_48_code, exceptionTable := #[], attributes := #[] }
def k8m0 : Method := { name := "numberOfTrailingZeros", desc := "(I)I", sig := { parameters := [.int], returnType := some .int }, accessFlags := 9, code := some k8c0 }
/-- java/lang/Integer -/
def k8 : Class := { plain "java/lang/Integer" (some 4) with
  accessFlags := 49
  interfaces := #[5, 6, 7]
  cf := some (fileOf pool8 1 #[.nestMembers #[189]] #[{ accessFlags := 9, nameIndex := 406, descriptorIndex := 54, attributes := #[] }] 49 203 #[304, 306, 308] #[{ accessFlags := 25, nameIndex := 310, descriptorIndex := 194, attributes := #[] }, { accessFlags := 25, nameIndex := 312, descriptorIndex := 194, attributes := #[] }, { accessFlags := 25, nameIndex := 302, descriptorIndex := 303, attributes := #[] }, { accessFlags := 24, nameIndex := 19, descriptorIndex := 20, attributes := #[] }, { accessFlags := 24, nameIndex := 89, descriptorIndex := 86, attributes := #[] }, { accessFlags := 24, nameIndex := 85, descriptorIndex := 86, attributes := #[] }, { accessFlags := 18, nameIndex := 207, descriptorIndex := 194, attributes := #[] }, { accessFlags := 25, nameIndex := 316, descriptorIndex := 194, attributes := #[] }, { accessFlags := 25, nameIndex := 318, descriptorIndex := 194, attributes := #[] }, { accessFlags := 26, nameIndex := 320, descriptorIndex := 321, attributes := #[] }])
  fields := #[{ name := "MIN_VALUE", type := .int, accessFlags := 25, slot := 0, constantValue := 0 }, { name := "MAX_VALUE", type := .int, accessFlags := 25, slot := 1, constantValue := 0 }, { name := "TYPE", type := (.object "java/lang/Class"), accessFlags := 25, slot := 2, constantValue := 0 }, { name := "digits", type := (.array .char), accessFlags := 24, slot := 3, constantValue := 0 }, { name := "DigitTens", type := (.array .byte), accessFlags := 24, slot := 4, constantValue := 0 }, { name := "DigitOnes", type := (.array .byte), accessFlags := 24, slot := 5, constantValue := 0 }, { name := "value", type := .int, accessFlags := 18, slot := 0, constantValue := 0 }, { name := "SIZE", type := .int, accessFlags := 25, slot := 6, constantValue := 0 }, { name := "BYTES", type := .int, accessFlags := 25, slot := 7, constantValue := 0 }, { name := "serialVersionUID", type := .long, accessFlags := 26, slot := 8, constantValue := 0 }]
  methods := #[k8m0]
  instanceTypes := #[.int]
  staticTypes := #[.int, .int, (.object "java/lang/Class"), (.array .char), (.array .byte), (.array .byte), .int, .int, .long]
  resolved := Array.replicate 453 none
  statics := none }

def pool9 : Array CpInfo := pool [(1, u "java/lang/Cloneable"), (0, .class_ 1), (0, u "java/lang/Object"), (0, .class_ 3)] 3

/-- java/lang/Cloneable -/
def k9 : Class := { plain "java/lang/Cloneable" (some 0) with
  accessFlags := 1537
  interfaces := #[]
  cf := some (fileOf pool9 2 #[] #[] 1537 4 #[] #[])
  fields := #[]
  methods := #[]
  instanceTypes := #[]
  staticTypes := #[]
  resolved := Array.replicate 8 none
  statics := none }

/-- the primitive byte -/
def k10 : Class := { plain "byte" none with kind := .primitive 'B', accessFlags := 0x411 }
/-- [B -/
def k11 : Class := { plain "[B" (some 0) with kind := .array 10 .byte, interfaces := #[9, 3], accessFlags := 1041 }

/-- the primitive int -/
def k12 : Class := { plain "int" none with kind := .primitive 'I', accessFlags := 0x411 }
/-- [I -/
def k13 : Class := { plain "[I" (some 0) with kind := .array 12 .int, interfaces := #[9, 3], accessFlags := 1041 }

def heap : Heap := #[]
def kS0 : Class := { plain "com/example/stripewell/stripewell/map/Slot" (some 0) with accessFlags := 33 }
def kS1 : Class := { plain "[Lcom/example/stripewell/stripewell/map/Slot;" (some 0) with kind := .array 14 (.object "com/example/stripewell/stripewell/map/Slot"), interfaces := #[9, 3], accessFlags := 1041 }
def kS2 : Class := { plain "[[Lcom/example/stripewell/stripewell/map/Slot;" (some 0) with kind := .array 15 (.array (.object "com/example/stripewell/stripewell/map/Slot")), interfaces := #[9, 3], accessFlags := 1041 }
def classes : Array Class := #[k0, k1, k2, k3, k4, k5, k6, k7, k8, k9, k10, k11, k12, k13, kS0, kS1, kS2]
def interned : List (Array UInt16 × Addr) := []
def slotsUsed : Nat := 0
def theMethod : MethodId := ⟨1, 1⟩
def args0 : Array Value := #[.int 5, .int 3]
def aboutOver (below : List Frame) : State where
  vm := { classes := classes, interned := interned.toArray }
  heap := heap
  slotsUsed := slotsUsed
  threads := #[{ frames := .invoking theMethod args0 :: below }]
def below0 : List Frame := [.native { method := ⟨0, 0⟩, args := #[] }]
def about1 : State := aboutOver below0
def p0 : Program := .bare "" "" ""
def e0 : Env := launch0.env 0 0 0
theorem w_frames : about1.frames = Frame.invoking theMethod args0 :: below0 := rfl
set_option maxRecDepth 65536 in
theorem w_args : argsFit about1.vm theMethod args0 = true := by decide +kernel
set_option maxRecDepth 65536 in
theorem w_heap : heapFits about1 = true := by decide +kernel
set_option maxRecDepth 65536 in
theorem w_runnable : about1.curStatus? = some .runnable := by decide +kernel
set_option maxRecDepth 65536 in
theorem w_alone : about1.alone = true := by decide +kernel
set_option maxRecDepth 65536 in
theorem w_named : about1.methodNamed? x = some theMethod := by decide +kernel
set_option maxRecDepth 65536 in
theorem w_hears : about1.hears theMethod below0 = true := by decide +kernel
set_option maxRecDepth 65536 in
theorem w_ripe : about1.ripe theMethod args0 below0 = true := by decide +kernel
theorem w_running : about1.status = .running := rfl
set_option maxRecDepth 65536 in
theorem w_room : about1.hasRoom e0.platform room_1 = true :=
  launch0.hasRoom_least _ room_1 (by decide +kernel) (by decide +kernel) (by decide +kernel) (by decide +kernel) (by decide +kernel) (by decide +kernel)
theorem allAtoms_all (ts : List Jvm.Cond) (a : Array Jvm.Value) (st : Jvm.State) : (allAtoms ts).before a st = ts.all (fun c => c.before a st) := by
  induction ts with
  | nil => rfl
  | cons c t ih =>
    show (Jvm.Cond.and c (allAtoms t)).before a st = _
    rw [Jvm.Cond.before_and, ih, List.all_cons]
def words1 : List Jvm.Cond := Jvm.Cond.code x code maxLocals ret :: tables_1
/-- a 'code' word, met by the world's own term for the bytes: nothing is compared byte by byte -/
theorem code_word {y : MethodName} {bytes : ByteArray} {mx : Nat} {rt : Option FieldType} {a : Array Value} {s : State} {m : MethodId} {meth : Method} {c : Code} (h1 : s.methodNamed? y = some m) (h2 : s.vm.method? m = some meth) (h3 : meth.code = some c) (h4 : c.code = bytes)
    (h5 : (c.maxLocals == mx && c.exceptionTable.isEmpty && decide (c.maxStack ≤ mostOperands) && decide (meth.sig.returnType = rt) && !meth.locks && decide (parseMethodDescriptor y.desc = some meth.sig)) = true) : (Jvm.Cond.code y bytes mx rt).before a s = true := by
  simp only [Bool.and_eq_true, beq_iff_eq, Bool.not_eq_true', decide_eq_true_eq] at h5
  obtain ⟨⟨⟨⟨⟨g1, g2⟩, g3⟩, g4⟩, g5⟩, g6⟩ := h5
  simp [Cond.before, Cond.holds, Cond.value, h1, h2, h3, h4, g1, g2, g3, g4, g5, g6]
def isCode : Jvm.Cond → Bool
  | .code _ _ _ _ => true
  | _ => false
theorem all_split {L : List Jvm.Cond} {P : Jvm.Cond → Bool} (h1 : L.all (fun c => isCode c || P c) = true) (h2 : ∀ c ∈ L.filter isCode, P c = true) : L.all P = true := by
  refine List.all_eq_true.mpr fun c hc => ?_
  have h := List.all_eq_true.mp h1 c hc
  rcases Bool.eq_false_or_eq_true (isCode c) with hi | hi
  · exact h2 c (List.mem_filter.mpr ⟨hc, hi⟩)
  · simpa [hi] using h
set_option maxRecDepth 65536 in
theorem w_c0 : (Jvm.Cond.code x code maxLocals ret).before args0 about1 = true := code_word (m := ⟨1, 1⟩) (meth := k1m1) (c := k1c1) (by decide +kernel) rfl rfl rfl (by decide +kernel)
set_option maxRecDepth 65536 in
theorem w_c1 : (Jvm.Cond.code ({ cls := "com/example/stripewell/stripewell/map/SegmentTables", name := "<init>", desc := "(I)V" } : Jvm.MethodName) prog_14_method_1_code (2 : Nat) (Option.none : Option Jvm.ClassFile.FieldType)).before args0 about1 = true := code_word (m := ⟨2, 0⟩) (meth := k2m0) (c := k2c0) (by decide +kernel) rfl rfl rfl (by decide +kernel)
set_option maxRecDepth 65536 in
theorem w_c2 : (Jvm.Cond.code ({ cls := "java/lang/Object", name := "<init>", desc := "()V" } : Jvm.MethodName) object_method_1_code (1 : Nat) (Option.none : Option Jvm.ClassFile.FieldType)).before args0 about1 = true := code_word (m := ⟨0, 0⟩) (meth := k0m0) (c := k0c0) (by decide +kernel) rfl rfl rfl (by decide +kernel)
set_option maxRecDepth 65536 in
theorem w_c3 : (Jvm.Cond.code ({ cls := "java/lang/Integer", name := "numberOfTrailingZeros", desc := "(I)I" } : Jvm.MethodName) jdk_33_method_48_code (2 : Nat) (Option.some Jvm.ClassFile.FieldType.int)).before args0 about1 = true := code_word (m := ⟨8, 0⟩) (meth := k8m0) (c := k8c0) (by decide +kernel) rfl rfl rfl (by decide +kernel)
set_option maxRecDepth 65536 in
theorem w_c4 : (Jvm.Cond.code ({ cls := "com/example/stripewell/stripewell/map/SegmentTables", name := "indexOf", desc := "(I)I" } : Jvm.MethodName) prog_14_method_2_code (2 : Nat) (Option.some Jvm.ClassFile.FieldType.int)).before args0 about1 = true := code_word (m := ⟨2, 1⟩) (meth := k2m1) (c := k2c1) (by decide +kernel) rfl rfl rfl (by decide +kernel)
def codes1 : List Jvm.Cond := [Jvm.Cond.code x code maxLocals ret, Jvm.Cond.code ({ cls := "com/example/stripewell/stripewell/map/SegmentTables", name := "<init>", desc := "(I)V" } : Jvm.MethodName) prog_14_method_1_code (2 : Nat) (Option.none : Option Jvm.ClassFile.FieldType), Jvm.Cond.code ({ cls := "java/lang/Object", name := "<init>", desc := "()V" } : Jvm.MethodName) object_method_1_code (1 : Nat) (Option.none : Option Jvm.ClassFile.FieldType), Jvm.Cond.code ({ cls := "java/lang/Integer", name := "numberOfTrailingZeros", desc := "(I)I" } : Jvm.MethodName) jdk_33_method_48_code (2 : Nat) (Option.some Jvm.ClassFile.FieldType.int), Jvm.Cond.code ({ cls := "com/example/stripewell/stripewell/map/SegmentTables", name := "indexOf", desc := "(I)I" } : Jvm.MethodName) prog_14_method_2_code (2 : Nat) (Option.some Jvm.ClassFile.FieldType.int)]
set_option maxRecDepth 65536 in
theorem codes_eq : words1.filter isCode = codes1 := rfl
theorem w_codes : ∀ c ∈ words1.filter isCode, c.before args0 about1 = true := by
  rw [codes_eq]
  intro c hc
  simp only [codes1, List.mem_cons, List.not_mem_nil, or_false] at hc
  rcases hc with rfl | rfl | rfl | rfl | rfl
  · exact w_c0
  · exact w_c1
  · exact w_c2
  · exact w_c3
  · exact w_c4
set_option maxRecDepth 65536 in
theorem w_t1 : (words1.take 24).all (fun c => isCode c || c.before args0 about1) = true := by decide +kernel
set_option maxRecDepth 65536 in
theorem w_t2 : (words1.drop 24).all (fun c => isCode c || c.before args0 about1) = true := by decide +kernel
theorem w_tables : (allAtoms (Jvm.Cond.code x code maxLocals ret :: tables_1)).before args0 about1 = true := by
  rw [allAtoms_all]
  show words1.all (fun c => c.before args0 about1) = true
  refine all_split ?_ w_codes
  rw [← List.take_append_drop 24 words1, List.all_append, w_t1, w_t2]
  rfl
set_option maxRecDepth 65536 in
theorem w_case : (Jvm.Cond.and given_1 narrow_1).before args0 about1 = true := by decide +kernel
theorem w_applies : (headSpec (Jvm.Cond.code x code maxLocals ret :: tables_1) room_1).applies x e0.platform about1 = true :=
  (Spec.applies_iff w_frames).mpr ⟨w_running, w_runnable, w_alone, w_named, w_hears, w_ripe, w_room, w_tables⟩
theorem atStart : AtStart classFile x code maxLocals ret World_1 tables_1 room_1 Calls_1 rest_1 Pre_1 launch0 p0 e0 about1 theMethod args0 below0 :=
  ⟨lists_1, trivial, launch0.admits_env _ _ _, launch0.least_env, fairChoices_fair.cas, fairChoices_fair.clock, w_frames, w_args, w_heap, w_applies, trivial, trivial, w_case⟩
end start1
theorem witness_1 : WitnessClaimed_1 := ⟨start1.p0, start1.e0, start1.about1, start1.theMethod, start1.args0, start1.below0, start1.atStart⟩
end Jvm.Pilot.@@N@@
