import JvmDerived
import JvmDerived.Pilot.@@N@@Statement
import JvmDerived.Pilot.@@N@@Code
set_option linter.unusedVariables false
set_option linter.unusedSimpArgs false
namespace Jvm.RoadKit
open Sem ClassFile Op Lib Jvm.Stand Jvm.Free Jvm.LawKit
section Own
variable {p : Program} {l : Launch} {e : Env} {R : Room} {s : State} {m : MethodId} {args : Array Value} {below : List Frame} {meth : Method} {c : Code} {T : State} {locs : List Loc} {cells slots : Nat}
/-- from S the run comes to the end of the call, and K holds there -/
def Go (p : Program) (e : Env) (below : List Frame) (K : State → Outcome → Prop) (S : State) : Prop := ∃ s₂ o, Steps p.tables e below S s₂ ∧ s₂.status = .running ∧ Ended s₂ below o ∧ K s₂ o
def Kq (s : State) (Q : Option Value → Heap → List Loc → Prop) (k n : Nat) (t : State) (o : Outcome) : Prop := ∃ v L, o = .returned v ∧ Q v t.heap L ∧ FrameEnd s o t L k n
theorem go {K : State → Outcome → Prop} {S S' : State} (h : ∀ t, Steps p.tables e below S' t → Steps p.tables e below S t) (g : Go p e below K S') : Go p e below K S := by
  obtain ⟨t, o, h1, h2⟩ := g
  exact ⟨t, o, h _ h1, h2⟩
theorem goOut (X : Stand p l e R s m args below meth c T locs cells slots) {Q : Option Value → Heap → List Loc → Prop} {k n : Nat} {S : State} {v : Option Value} (hv : meth.sig.returnType = none → v = none) (hlocks : meth.locks = false)
    (hs : ∀ fs, (∀ (f : JFrame) (acts : List Action), f.method = m → f.locked = none → f.entered = [] → (doReturn e (T.setTop f) acts v).1 = T.setFrames fs) → Steps p.tables e below S (T.setFrames fs))
    (hk : cells ≤ k) (hn : slots ≤ n) (hq : Q v T.heap locs) : Go p e below (Kq s Q k n) S := by
  obtain ⟨fs, hr, hrun, hended, hW, hsame⟩ := X.leave (v := v) hv hlocks
  exact ⟨_, _, hs fs hr, hrun, hended, _, _, rfl, hq, ⟨_, rfl⟩, hW, hsame.mono hk hn⟩
end Own
end Jvm.RoadKit
namespace Jvm.RoadKit
open Sem ClassFile Op Lib Jvm.Stand Jvm.Free Jvm.LawKit
section OwnArr
variable {p : Program} {l : Launch} {e : Env} {R : Room} {s : State} {m : MethodId} {args : Array Value} {below : List Frame} {meth : Method} {c : Code} {T : State} {locs : List Loc} {cells slots : Nat} {Z : State} {h h' : Heap} {a b : Addr} {ty : FieldType} {n : Nat} {f : Nat → Int32} {v : Value} {sl : Nat} {ws : List Addr}
/-- an array of n places, of a kind that lies on the stack as an int, that holds f -/
def IA (Z : State) (h : Heap) (a : Addr) (ty : FieldType) (n : Nat) (f : Nat → Int32) : Prop := ∃ c : Cell, Arr Z h a c ty ∧ c.slots.size = n ∧ ∀ j, j < n → c.slots[j]? = some (.int (f j))
def upI (f : Nat → Int32) (j : Nat) (x : Int32) : Nat → Int32 := fun i => if i = j then x else f i
theorem IA.lt (F : IA Z h a ty n f) : a < h.size := by obtain ⟨c, A, -⟩ := F; exact A.lt
theorem IA.ext (F : IA Z h a ty n f) (E : Ext h h') : IA Z h' a ty n f := by obtain ⟨c, A, r⟩ := F; exact ⟨c, A.ext E, r⟩
theorem IA.other (F : IA Z h b ty n f) (W : Wr h h' a sl v) (q : b ≠ a) : IA Z h' b ty n f := by obtain ⟨c, A, r⟩ := F; exact ⟨c, A.other W q, r⟩
theorem IA.keep (F : IA Z h a ty n f) (K : Keep h h' ws) (q : a ∉ ws) : IA Z h' a ty n f := by obtain ⟨c, A, r⟩ := F; exact ⟨c, ⟨K.2.1 a c A.1 q, A.2⟩, r⟩
theorem IA.new {k : ClassId} {z : Int32} (A : Arr Z h a (newA k ty z) ty) (q : z.toNatClampNeg = n) (hd : defaultValue ty = .int 0) : IA Z h a ty n (fun _ => 0) := by
  refine ⟨_, A, (sz_new _ _ _).trans q, fun j hj => ?_⟩
  simp [newA, hd, q, hj]
theorem IA.put {j x : Int32} {cl : Cell} (A : Arr Z h a cl ty) (S : cl.slots.size = n) (H : ∀ j, j < n → cl.slots[j]? = some (.int (f j))) (W : Wr h h' a j.toNatClampNeg (.int x)) : IA Z h' a ty n (upI f j.toNatClampNeg x) := by
  refine ⟨_, A.same W, by rw [sz_set]; exact S, fun i hi => ?_⟩
  by_cases q : i = j.toNatClampNeg
  · subst q; simp [upI, Cell.setSlot, S, hi]
  · rw [show (cl.setSlot j.toNatClampNeg (.int x)).slots[i]? = cl.slots[i]? from Array.getElem?_setIfInBounds_ne (Ne.symm q), H i hi]; simp [upI, q]
theorem in_of {j : Int32} {cl : Cell} (S : cl.slots.size = n) (hj : 0 ≤ j.toInt ∧ j.toInt < n) : ¬ (j < 0 ∨ cl.slots.size ≤ j.toNatClampNeg) := by
  have h0 : ¬ j < 0 := by rw [Int32.lt_iff_toInt_lt]; have : (0 : Int32).toInt = 0 := rfl; omega
  have h1 := nat_of h0
  rw [S]; intro q; rcases q with q | q
  · exact h0 q
  · omega
theorem nat_in {j : Int32} (hj : 0 ≤ j.toInt ∧ j.toInt < n) : j.toNatClampNeg < n := by
  have h0 : ¬ j < 0 := by rw [Int32.lt_iff_toInt_lt]; have : (0 : Int32).toInt = 0 := rfl; omega
  have h1 := nat_of h0; omega
theorem ldIA (X : Stand p l e R s m args below meth c T locs cells slots) (hx : p.tables.exec = Jvm.exec) (hZ : Z.Warmed39 s.vm) (eT : T.heap = h) (A : IA Z h a .int n f) {j : Int32} (hj : 0 ≤ j.toInt ∧ j.toInt < n) {g : JFrame} (hg : g.method = m) {rest : List Value} (hs : g.stack = .int j :: .ref a :: rest) (hd : decode c.code g.pc = .ok (.iaload, 1)) :
    ∀ target, Steps p.tables e below (T.setTop { g with pc := g.pc + 1, stack := .int (f j.toNatClampNeg) :: rest }) target → Steps p.tables e below (T.setTop g) target := by
  obtain ⟨cl, A, S, H⟩ := A
  exact X.iaload hx (by rw [eT]; exact A.1) (State.isArrayOf_alike hZ.alike A.2.1) A.2.2 (in_of S hj) (H _ (nat_in hj)) hg hs hd
theorem ldCA (X : Stand p l e R s m args below meth c T locs cells slots) (hx : p.tables.exec = Jvm.exec) (hZ : Z.Warmed39 s.vm) (eT : T.heap = h) (A : IA Z h a .char n f) {j : Int32} (hj : 0 ≤ j.toInt ∧ j.toInt < n) {g : JFrame} (hg : g.method = m) {rest : List Value} (hs : g.stack = .int j :: .ref a :: rest) (hd : decode c.code g.pc = .ok (.caload, 1)) :
    ∀ target, Steps p.tables e below (T.setTop { g with pc := g.pc + 1, stack := .int (f j.toNatClampNeg) :: rest }) target → Steps p.tables e below (T.setTop g) target := by
  obtain ⟨cl, A, S, H⟩ := A
  exact X.caload hx (by rw [eT]; exact A.1) (State.isArrayOf_alike hZ.alike A.2.1) A.2.2 (in_of S hj) (H _ (nat_in hj)) hg hs hd
theorem lenIA (X : Stand p l e R s m args below meth c T locs cells slots) (hx : p.tables.exec = Jvm.exec) (hZ : Z.Warmed39 s.vm) (eT : T.heap = h) (A : IA Z h a ty n f) {g : JFrame} (hg : g.method = m) {rest : List Value} (hs : g.stack = .ref a :: rest) (hd : decode c.code g.pc = .ok (.arraylength, 1)) :
    ∀ target, Steps p.tables e below (T.setTop { g with pc := g.pc + 1, stack := .int n.toInt32 :: rest }) target → Steps p.tables e below (T.setTop g) target := by
  obtain ⟨cl, A, S, H⟩ := A
  intro target k
  refine X.arraylength hx (by rw [eT]; exact A.1) (State.isArrayOf_alike hZ.alike A.2.1) hg hs hd target ?_
  rw [S]; exact k
theorem stIA (X : Stand p l e R s m args below meth c T locs cells slots) (hx : p.tables.exec = Jvm.exec) (hZ : Z.Warmed39 s.vm) (eT : T.heap = h) (A : IA Z h a .int n f) {j x : Int32} (hj : 0 ≤ j.toInt ∧ j.toInt < n) {g : JFrame} (hg : g.method = m) {rest : List Value} (hs : g.stack = .int x :: .int j :: .ref a :: rest) (hd : decode c.code g.pc = .ok (.iastore, 1)) :
    ∃ T' h', Stand p l e R s m args below meth c T' (locs ++ [⟨a, j.toNatClampNeg⟩]) cells slots ∧ T'.heap = h' ∧ Wr h h' a j.toNatClampNeg (.int x) ∧ IA Z h' a .int n (upI f j.toNatClampNeg x) ∧ ∀ target, Steps p.tables e below (T'.setTop { g with pc := g.pc + 1, stack := rest }) target → Steps p.tables e below (T.setTop g) target := by
  obtain ⟨cl, A, S, H⟩ := A
  obtain ⟨T', h', X', e', W, st⟩ := stI X hx hZ eT A (in_of S hj) hg hs hd
  exact ⟨T', h', X', e', W, IA.put A S H W, st⟩
theorem stCA (X : Stand p l e R s m args below meth c T locs cells slots) (hx : p.tables.exec = Jvm.exec) (hZ : Z.Warmed39 s.vm) (eT : T.heap = h) (A : IA Z h a .char n f) {j x : Int32} (hj : 0 ≤ j.toInt ∧ j.toInt < n) {g : JFrame} (hg : g.method = m) {rest : List Value} (hs : g.stack = .int x :: .int j :: .ref a :: rest) (hd : decode c.code g.pc = .ok (.castore, 1)) :
    ∃ T' h', Stand p l e R s m args below meth c T' (locs ++ [⟨a, j.toNatClampNeg⟩]) cells slots ∧ T'.heap = h' ∧ Wr h h' a j.toNatClampNeg (.int (nar .char x)) ∧ IA Z h' a .char n (upI f j.toNatClampNeg (nar .char x)) ∧ ∀ target, Steps p.tables e below (T'.setTop { g with pc := g.pc + 1, stack := rest }) target → Steps p.tables e below (T.setTop g) target := by
  obtain ⟨cl, A, S, H⟩ := A
  obtain ⟨T', h', X', e', W, st⟩ := stC X hx hZ eT A (in_of S hj) hg hs hd
  exact ⟨T', h', X', e', W, IA.put A S H W, st⟩
theorem stBA (X : Stand p l e R s m args below meth c T locs cells slots) (hx : p.tables.exec = Jvm.exec) (hZ : Z.Warmed39 s.vm) (eT : T.heap = h) (A : IA Z h a .byte n f) {j x : Int32} (hj : 0 ≤ j.toInt ∧ j.toInt < n) {g : JFrame} (hg : g.method = m) {rest : List Value} (hs : g.stack = .int x :: .int j :: .ref a :: rest) (hd : decode c.code g.pc = .ok (.bastore, 1)) :
    ∃ T' h', Stand p l e R s m args below meth c T' (locs ++ [⟨a, j.toNatClampNeg⟩]) cells slots ∧ T'.heap = h' ∧ Wr h h' a j.toNatClampNeg (.int (nar .byte x)) ∧ IA Z h' a .byte n (upI f j.toNatClampNeg (nar .byte x)) ∧ ∀ target, Steps p.tables e below (T'.setTop { g with pc := g.pc + 1, stack := rest }) target → Steps p.tables e below (T.setTop g) target := by
  obtain ⟨cl, A, S, H⟩ := A
  obtain ⟨T', h', X', e', W, st⟩ := stB X hx hZ eT A (in_of S hj) hg hs hd
  exact ⟨T', h', X', e', W, IA.put A S H W, st⟩
end OwnArr
end Jvm.RoadKit
namespace Jvm.RoadKit
open Sem ClassFile Op Lib Jvm.Stand Jvm.Free Jvm.LawKit
section OwnArr2
variable {p : Program} {l : Launch} {e : Env} {R : Room} {s : State} {m : MethodId} {args : Array Value} {below : List Frame} {meth : Method} {c : Code} {T : State} {locs : List Loc} {cells slots : Nat} {Z : State} {h h' : Heap} {a b : Addr} {ty : FieldType} {n : Nat} {f g : Nat → Int32} {v : Value} {sl : Nat} {ws : List Addr} {C : String} {fr : Nat → Value}
theorem cat_of_ref {w : Value} (q : w.isRef = true) : w.category = 1 := by cases w <;> simp_all [Value.isRef, Value.category]
theorem IA.congr (F : IA Z h a ty n f) (q : ∀ j, j < n → f j = g j) : IA Z h a ty n g := by obtain ⟨c, A, S, H⟩ := F; exact ⟨c, A, S, fun j hj => by rw [H j hj, q j hj]⟩
theorem ldBA (X : Stand p l e R s m args below meth c T locs cells slots) (hx : p.tables.exec = Jvm.exec) (hZ : Z.Warmed39 s.vm) (eT : T.heap = h) (A : IA Z h a .byte n f) {j : Int32} (hj : 0 ≤ j.toInt ∧ j.toInt < n) {g : JFrame} (hg : g.method = m) {rest : List Value} (hs : g.stack = .int j :: .ref a :: rest) (hd : decode c.code g.pc = .ok (.baload, 1)) :
    ∀ target, Steps p.tables e below (T.setTop { g with pc := g.pc + 1, stack := .int (f j.toNatClampNeg) :: rest }) target → Steps p.tables e below (T.setTop g) target := by
  obtain ⟨cl, A, S, H⟩ := A
  exact X.baloadBytes hx (by rw [eT]; exact A.1) (State.isArrayOf_alike hZ.alike A.2.1) A.2.2 (in_of S hj) (H _ (nat_in hj)) hg hs hd
/-- an array of n references, over C, that holds fr -/
def RA (Z : State) (h : Heap) (a : Addr) (C : String) (n : Nat) (fr : Nat → Value) : Prop := ∃ c : Cell, Arr Z h a c (.object C) ∧ Ovr Z c.cls C ∧ c.slots.size = n ∧ ∀ j, j < n → c.slots[j]? = some (fr j)
def upV (f : Nat → Value) (j : Nat) (x : Value) : Nat → Value := fun i => if i = j then x else f i
theorem RA.lt (F : RA Z h a C n fr) : a < h.size := by obtain ⟨c, A, -⟩ := F; exact A.lt
theorem RA.ext (F : RA Z h a C n fr) (E : Ext h h') : RA Z h' a C n fr := by obtain ⟨c, A, r⟩ := F; exact ⟨c, A.ext E, r⟩
theorem RA.other (F : RA Z h b C n fr) (W : Wr h h' a sl v) (q : b ≠ a) : RA Z h' b C n fr := by obtain ⟨c, A, r⟩ := F; exact ⟨c, A.other W q, r⟩
theorem RA.keep (F : RA Z h a C n fr) (K : Keep h h' ws) (q : a ∉ ws) : RA Z h' a C n fr := by obtain ⟨c, A, r⟩ := F; exact ⟨c, ⟨K.2.1 a c A.1 q, A.2⟩, r⟩
theorem RA.new {k : ClassId} {z : Int32} (A : Arr Z h a (newA k (.object C) z) (.object C)) (O : Ovr Z k C) (q : z.toNatClampNeg = n) : RA Z h a C n (fun _ => .null) := by
  refine ⟨_, A, O, (sz_new _ _ _).trans q, fun j hj => ?_⟩
  simp [newA, defaultValue, q, hj]
theorem RA.put {j : Int32} {cl : Cell} (A : Arr Z h a cl (.object C)) (O : Ovr Z cl.cls C) (S : cl.slots.size = n) (H : ∀ j, j < n → cl.slots[j]? = some (fr j)) (W : Wr h h' a j.toNatClampNeg v) : RA Z h' a C n (upV fr j.toNatClampNeg v) := by
  refine ⟨_, A.same W, O, by rw [sz_set]; exact S, fun i hi => ?_⟩
  by_cases q : i = j.toNatClampNeg
  · subst q; simp [upV, Cell.setSlot, S, hi]
  · rw [show (cl.setSlot j.toNatClampNeg v).slots[i]? = cl.slots[i]? from Array.getElem?_setIfInBounds_ne (Ne.symm q), H i hi]; simp [upV, q]
theorem ldRA (X : Stand p l e R s m args below meth c T locs cells slots) (hx : p.tables.exec = Jvm.exec) (hZ : Z.Warmed39 s.vm) (eT : T.heap = h) (A : RA Z h a C n fr) {j : Int32} (hj : 0 ≤ j.toInt ∧ j.toInt < n) {g : JFrame} (hg : g.method = m) {rest : List Value} (hs : g.stack = .int j :: .ref a :: rest) (hd : decode c.code g.pc = .ok (.aaload, 1)) :
    ∀ target, Steps p.tables e below (T.setTop { g with pc := g.pc + 1, stack := (fr j.toNatClampNeg) :: rest }) target → Steps p.tables e below (T.setTop g) target := by
  obtain ⟨cl, A, O, S, H⟩ := A
  exact X.aaload hx (by rw [eT]; exact A.1) (State.isArrayOf_alike hZ.alike A.2.1) rfl A.2.2 (in_of S hj) (H _ (nat_in hj)) hg hs hd
theorem stRA (X : Stand p l e R s m args below meth c T locs cells slots) (hx : p.tables.exec = Jvm.exec) (hZ : Z.Warmed39 s.vm) (eT : T.heap = h) (A : RA Z h a C n fr) (hv : v = .null ∨ ∃ y, v = .ref y ∧ Ins Z h y C true) {j : Int32} (hj : 0 ≤ j.toInt ∧ j.toInt < n) {g : JFrame} (hg : g.method = m) {rest : List Value} (hs : g.stack = v :: .int j :: .ref a :: rest) (hd : decode c.code g.pc = .ok (.aastore, 1)) :
    ∃ T' h', Stand p l e R s m args below meth c T' (locs ++ [⟨a, j.toNatClampNeg⟩]) cells slots ∧ T'.heap = h' ∧ Wr h h' a j.toNatClampNeg v ∧ RA Z h' a C n (upV fr j.toNatClampNeg v) ∧ ∀ target, Steps p.tables e below (T'.setTop { g with pc := g.pc + 1, stack := rest }) target → Steps p.tables e below (T.setTop g) target := by
  obtain ⟨cl, A, O, S, H⟩ := A
  obtain ⟨T', h', X', e', W, st⟩ := stR X hx hZ eT A (in_of S hj) rfl (by
    rcases hv with hv | ⟨y, rfl, I⟩
    · exact Or.inl hv
    · exact Sto.of A O I) hg hs hd
  exact ⟨T', h', X', e', W, RA.put A O S H W, st⟩
theorem lookHit (X : Stand p l e R s m args below meth c T locs cells slots) (hx : p.tables.exec = Jvm.exec) {g : JFrame} (hg : g.method = m) {k : Int32} {rest : List Value} {pc0 pc' : Nat} (hpc : g.pc = pc0)
    (hs : g.stack = .int k :: rest) {default : Int} {pairs : Array (Int × Int)} {len : Nat} (hd : decode c.code g.pc = .ok (.lookupswitch default pairs, len))
    (hsorted : (pairs.toList.zip (pairs.toList.drop 1)).all (fun (a, next) => a.1 < next.1) = true) {a off : Int} (hfind : pairs.find? (·.1 == k.toInt) = some (a, off)) (ho : 0 ≤ (pc0 : Int) + off) (hp : ((pc0 : Int) + off).toNat = pc')
    {target : State} (hr : Steps p.tables e below (T.setTop { g with pc := pc', stack := rest }) target) : Steps p.tables e below (T.setTop g) target := by
  subst hpc; subst hp
  exact X.lookupswitchHit hx hg hs hd hsorted hfind ho target hr
theorem lookMiss (X : Stand p l e R s m args below meth c T locs cells slots) (hx : p.tables.exec = Jvm.exec) {g : JFrame} (hg : g.method = m) {k : Int32} {rest : List Value} {pc0 pc' : Nat} (hpc : g.pc = pc0)
    (hs : g.stack = .int k :: rest) {default : Int} {pairs : Array (Int × Int)} {len : Nat} (hd : decode c.code g.pc = .ok (.lookupswitch default pairs, len))
    (hsorted : (pairs.toList.zip (pairs.toList.drop 1)).all (fun (a, next) => a.1 < next.1) = true) (hfind : pairs.find? (·.1 == k.toInt) = none) (ho : 0 ≤ (pc0 : Int) + default) (hp : ((pc0 : Int) + default).toNat = pc')
    {target : State} (hr : Steps p.tables e below (T.setTop { g with pc := pc', stack := rest }) target) : Steps p.tables e below (T.setTop g) target := by
  subst hpc; subst hp
  exact X.lookupswitchMiss hx hg hs hd hsorted hfind ho target hr
theorem tabHit (X : Stand p l e R s m args below meth c T locs cells slots) (hx : p.tables.exec = Jvm.exec) {g : JFrame} (hg : g.method = m) {k : Int32} {rest : List Value} {pc0 pc' : Nat} (hpc : g.pc = pc0)
    (hs : g.stack = .int k :: rest) {default low high : Int} {offsets : Array Int} {len : Nat} (hd : decode c.code g.pc = .ok (.tableswitch default low high offsets, len))
    (hin : ¬ (k.toInt < low ∨ k.toInt > high)) {off : Int} (hoffs : offsets[(k.toInt - low).toNat]? = some off) (ho : 0 ≤ (pc0 : Int) + off) (hp : ((pc0 : Int) + off).toNat = pc')
    {target : State} (hr : Steps p.tables e below (T.setTop { g with pc := pc', stack := rest }) target) : Steps p.tables e below (T.setTop g) target := by
  subst hpc; subst hp
  exact X.tableswitchIn hx hg hs hd hin hoffs ho target hr
end OwnArr2
end Jvm.RoadKit
namespace Jvm.Pilot.@@N@@
open Jvm Jvm.ClassFile Sem Op Lib Jvm.Free Jvm.Stand Jvm.LawKit Jvm.RoadKit Bundle Jvm.Pilot.@@N@@.Jvm.D
def own_home (c : Int32) : Int32 := (((c * (-1640531527 : Int32)).toUInt32 >>> ((28 : Int32) &&& 31).toUInt32).toInt32)
def own_hm (c : Int32) : Nat := (own_home c).toInt.toNat
theorem own_home_rng (c : Int32) : 0 ≤ (own_home c).toInt ∧ (own_home c).toInt < 16 := by
  have e : (own_home c).toInt = ((c * (-1640531527 : Int32)).toInt % 4294967296) / (2 ^ 28 : Nat) := c_iushr (c * (-1640531527 : Int32)) 28 28 (by decide) (by decide)
  rw [e]
  generalize (c * (-1640531527 : Int32)).toInt = z
  omega
theorem own_hm_eq (c : Int32) : (own_home c).toInt = own_hm c := by have := own_home_rng c; unfold own_hm; omega
theorem own_hm_lt (c : Int32) : own_hm c < 16 := by have := own_home_rng c; unfold own_hm; omega
def own_sl (c : Int32) (d : Nat) : Nat := (own_hm c + d) % 16
theorem own_sl_lt (c : Int32) (d : Nat) : own_sl c d < 16 := Nat.mod_lt _ (by decide)
theorem own_sl0 (c : Int32) : own_sl c 0 = own_hm c := by have := own_hm_lt c; unfold own_sl; omega
theorem own_cl {j : Int32} {s : Nat} (h : j.toInt = s) : j.toNatClampNeg = s := by simp only [Int32.toNatClampNeg]; omega
theorem own_ge {j : Int32} {s : Nat} (h : j.toInt = s) : ¬ j < 0 := by
  rw [Int32.lt_iff_toInt_lt, h]; have : (0 : Int32).toInt = 0 := rfl; omega
theorem own_next {c i : Int32} {d : Nat} (h : i.toInt = own_sl c d) : ((i + (1 : Int32)) &&& (15 : Int32)).toInt = own_sl c (d + 1) := by
  have m : ((i + (1 : Int32)) &&& (15 : Int32)).toInt = (i + (1 : Int32)).toInt % (2 ^ 4 : Nat) := c_mask _ _ 4 (by decide) (by decide)
  have a := c_iadd i 1
  have r := rng32 (i + 1)
  have o : (1 : Int32).toInt = 1 := rfl
  have l := own_sl_lt c d
  rw [m]
  unfold own_sl at h l ⊢
  omega
theorem own_not {j : Int32} {s : Nat} (h : j.toInt = s) (hs : s < 16) : (j ^^^ (-1 : Int32)) < 0 ∧ (j ^^^ (-1 : Int32)) ^^^ (-1 : Int32) = j := by
  constructor
  · rw [Int32.lt_iff_toInt_lt, Int32.xor_neg_one, Int32.not_eq_neg_sub]
    have z : (0 : Int32).toInt = 0 := rfl
    have o : (1 : Int32).toInt = 1 := rfl
    have a1 := c_isub (-j) 1
    have a2 := c_ineg j
    have r := rng32 (-j - 1)
    have r2 := rng32 (-j)
    omega
  · rw [Int32.xor_assoc, Int32.xor_self, Int32.xor_zero]
theorem own_p1 {x : Int32} (h0 : 0 ≤ x.toInt) (h1 : x.toInt < 16777216) : x + 1 ≠ 0 ∧ x + 1 - 1 = x := by
  have a := c_iadd x 1
  have r := rng32 (x + 1)
  have o : (1 : Int32).toInt = 1 := rfl
  have z : (0 : Int32).toInt = 0 := rfl
  constructor
  · intro h; rw [h] at a; omega
  · rw [← Int32.toInt_inj]
    have b := c_isub (x + 1) 1
    have r2 := rng32 (x + 1 - 1)
    omega
/-- where the search for the hash c ends: r is the place found, or the free place, turned -/
def own_Fnd (pl hs : Nat → Int32) (c r : Int32) : Prop := ∃ (d : Nat) (j : Int32), d < 16 ∧ j.toInt = own_sl c d ∧ (∀ e, e < d → pl (own_sl c e) ≠ 0 ∧ hs (own_sl c e) ≠ c) ∧ ((pl (own_sl c d) ≠ 0 ∧ hs (own_sl c d) = c ∧ r = j) ∨ (pl (own_sl c d) = 0 ∧ r = j ^^^ (-1 : Int32)))
def own_Free (pl : Nat → Int32) (c : Int32) : Prop := ∃ d, d < 16 ∧ pl (own_sl c d) = 0
theorem own_fin {pl hs : Nat → Int32} {c r : Int32} (F : own_Fnd pl hs c r) (h : ¬ r < 0) : (0 ≤ r.toInt ∧ r.toInt < (16 : Nat)) ∧ pl r.toNatClampNeg ≠ 0 := by
  obtain ⟨d, j, hd, hj, hb, hr⟩ := F
  have l := own_sl_lt c d
  rcases hr with ⟨r1, r2, rfl⟩ | ⟨r1, rfl⟩
  · rw [own_cl hj]; exact ⟨by omega, r1⟩
  · exact absurd (own_not hj l).1 h
theorem own_fin' {pl hs : Nat → Int32} {c r : Int32} (F : own_Fnd pl hs c r) (h : r < 0) : 0 ≤ (r ^^^ (-1 : Int32)).toInt ∧ (r ^^^ (-1 : Int32)).toInt < (16 : Nat) := by
  obtain ⟨d, j, hd, hj, hb, hr⟩ := F
  have l := own_sl_lt c d
  rcases hr with ⟨r1, r2, rfl⟩ | ⟨r1, rfl⟩
  · exact absurd h (own_ge hj)
  · rw [(own_not hj l).2]; omega
/-- the n entries, in the order in which they came: keys fk, places fp; t says where each lies -/
def own_IT (pl hs tk : Nat → Int32) (n : Nat) (fk fp : Nat → Int32) (t : Nat → Nat) : Prop :=
  (∀ i, i < n → t i < 16 ∧ (tk i).toInt = t i ∧ pl (t i) = fp i + 1 ∧ hs (t i) = fk i ∧ 0 ≤ (fp i).toInt ∧ (fp i).toInt < 16777216) ∧
  (∀ i j, i < n → j < n → fk i = fk j → i = j) ∧
  (∀ s, s < 16 → pl s ≠ 0 → ∃ i, i < n ∧ t i = s) ∧
  (∀ i, i < n → ∃ d, d < 16 ∧ t i = own_sl (fk i) d ∧ ∀ e, e < d → ∃ j, j < i ∧ t j = own_sl (fk i) e)
def own_Inv (pl hs tk : Nat → Int32) (n : Nat) (fk fp : Nat → Int32) : Prop := ∃ t : Nat → Nat, own_IT pl hs tk n fk fp t
theorem own_ph (n : Nat) : ∀ g : Nat → Nat, (∀ i, i ≤ n → g i < n) → ∃ i j, i < j ∧ j ≤ n ∧ g i = g j := by
  induction n with
  | zero => intro g h; exact absurd (h 0 (Nat.le_refl _)) (Nat.not_lt_zero _)
  | succ n ih =>
    intro g h
    by_cases q : ∃ i, i ≤ n ∧ g i = g (n + 1)
    · obtain ⟨i, h1, h2⟩ := q; exact ⟨i, n + 1, by omega, by omega, h2⟩
    · have q' : ∀ i, i ≤ n → g i ≠ g (n + 1) := fun i hi z => q ⟨i, hi, z⟩
      have hn := h (n + 1) (Nat.le_refl _)
      obtain ⟨i, j, h1, h2, h3⟩ := ih (fun i => if g i < g (n + 1) then g i else g i - 1) (fun i hi => by
        have a := h i (by omega)
        have b := q' i hi
        show (if g i < g (n + 1) then g i else g i - 1) < n
        split <;> omega)
      refine ⟨i, j, h1, by omega, ?_⟩
      have a := q' i (by omega)
      have b := q' j (by omega)
      have h3' : (if g i < g (n + 1) then g i else g i - 1) = (if g j < g (n + 1) then g j else g j - 1) := h3
      split at h3' <;> split at h3' <;> omega
theorem own_free {pl hs tk fk fp : Nat → Int32} {n : Nat} (I : own_Inv pl hs tk n fk fp) (hn : n ≤ 4) (c : Int32) : own_Free pl c := by
  obtain ⟨t, h1, h2, h3, h4⟩ := I
  refine Classical.byContradiction fun q => ?_
  have q' : ∀ d, d < 16 → ∃ i, i < n ∧ t i = own_sl c d := fun d hd => h3 _ (own_sl_lt c d) (fun z => q ⟨d, hd, z⟩)
  obtain ⟨g, hg⟩ : ∃ g : Nat → Nat, ∀ d, d < 16 → g d < n ∧ t (g d) = own_sl c d :=
    ⟨fun d => if h : d < 16 then Classical.choose (q' d h) else 0, fun d hd => by simp only [dif_pos hd]; exact Classical.choose_spec (q' d hd)⟩
  obtain ⟨i, j, hij, hj, e⟩ := own_ph n g (fun i hi => (hg i (by omega)).1)
  have a := (hg i (by omega)).2
  have b := (hg j (by omega)).2
  rw [e] at a
  have z := a.symm.trans b
  unfold own_sl at z
  omega
theorem own_hit {pl hs tk fk fp : Nat → Int32} {n i : Nat} {t : Nat → Nat} {c r : Int32} (I : own_IT pl hs tk n fk fp t) (hi : i < n) (hc : fk i = c) (F : own_Fnd pl hs c r) : r.toInt = t i := by
  obtain ⟨h1, h2, h3, h4⟩ := I
  obtain ⟨d, j, hd, hj, hb, hr⟩ := F
  obtain ⟨D, hD, hD1, hD2⟩ := h4 i hi
  rw [hc] at hD1 hD2
  obtain ⟨a1, a2, a3, a4, a5, a6⟩ := h1 i hi
  have key : d = D := by
    rcases Nat.lt_trichotomy d D with q | q | q
    · obtain ⟨k, hk, hk1⟩ := hD2 d q
      have hkn : k < n := by omega
      obtain ⟨b1, b2, b3, b4, b5, b6⟩ := h1 k hkn
      rw [hk1] at b3 b4
      exfalso
      rcases hr with ⟨r1, r2, r3⟩ | ⟨r1, r2⟩
      · have := h2 k i hkn hi ((b4.symm.trans r2).trans hc.symm); omega
      · exact (own_p1 b5 b6).1 (b3.symm.trans r1)
    · exact q
    · exfalso
      have z := (hb D q).2
      rw [← hD1] at z; exact z (a4.trans hc)
  subst key
  rcases hr with ⟨r1, r2, r3⟩ | ⟨r1, r2⟩
  · rw [r3, hj, hD1]
  · exfalso; rw [← hD1, a3] at r1; exact (own_p1 a5 a6).1 r1
theorem own_miss {pl hs tk fk fp : Nat → Int32} {n : Nat} {t : Nat → Nat} {c r : Int32} (I : own_IT pl hs tk n fk fp t) (hm : ∀ i, i < n → fk i ≠ c) (F : own_Fnd pl hs c r) :
    ∃ (d : Nat) (j : Int32), d < 16 ∧ j.toInt = own_sl c d ∧ r = j ^^^ (-1 : Int32) ∧ pl (own_sl c d) = 0 ∧ ∀ e, e < d → ∃ i, i < n ∧ t i = own_sl c e := by
  obtain ⟨h1, h2, h3, h4⟩ := I
  obtain ⟨d, j, hd, hj, hb, hr⟩ := F
  rcases hr with ⟨r1, r2, r3⟩ | ⟨r1, r2⟩
  · exfalso
    obtain ⟨i, hi, e⟩ := h3 _ (own_sl_lt c d) r1
    have z := (h1 i hi).2.2.2.1
    rw [e, r2] at z; exact hm i hi z.symm
  · exact ⟨d, j, hd, hj, r2, r1, fun e he => h3 _ (own_sl_lt c e) (hb e he).1⟩
def own_Pt (pl hs tk : Nat → Int32) (sz c p r : Int32) (pl' hs' tk' : Nat → Int32) (sz' : Int32) : Prop := ∃ r0 : Int32, own_Fnd pl hs c r0 ∧
  ((¬ r0 < 0 ∧ pl r0.toNatClampNeg - 1 = r ∧ upI pl r0.toNatClampNeg (p + 1) = pl' ∧ hs = hs' ∧ tk = tk' ∧ sz = sz') ∨
   (r0 < 0 ∧ (-1 : Int32) = r ∧ upI pl (r0 ^^^ (-1 : Int32)).toNatClampNeg (p + 1) = pl' ∧ upI hs (r0 ^^^ (-1 : Int32)).toNatClampNeg c = hs' ∧ upI tk sz.toNatClampNeg (r0 ^^^ (-1 : Int32)) = tk' ∧ sz + 1 = sz'))
def own_Ap (n : Nat) (fk fp : Nat → Int32) (c p : Int32) (n' : Nat) (fk' fp' : Nat → Int32) : Prop :=
  (∃ i, i < n ∧ fk i = c ∧ n = n' ∧ fk = fk' ∧ upI fp i p = fp') ∨ ((∀ i, i < n → fk i ≠ c) ∧ n + 1 = n' ∧ upI fk n c = fk' ∧ upI fp n p = fp')
def own_Lk (n : Nat) (fk fp : Nat → Int32) (c r : Int32) : Prop := (∃ i, i < n ∧ fk i = c ∧ fp i = r) ∨ ((∀ i, i < n → fk i ≠ c) ∧ (-1 : Int32) = r)
def own_Gt (pl hs : Nat → Int32) (c r : Int32) : Prop := ∃ r0 : Int32, own_Fnd pl hs c r0 ∧ ((¬ r0 < 0 ∧ pl r0.toNatClampNeg - 1 = r) ∨ (r0 < 0 ∧ (-1 : Int32) = r))
theorem own_up1 (f : Nat → Int32) (j : Nat) (x : Int32) : upI f j x j = x := by simp [upI]
theorem own_up2 (f : Nat → Int32) {i j : Nat} (x : Int32) (h : i ≠ j) : upI f j x i = f i := by simp [upI, h]
theorem own_put {pl hs tk fk fp pl' hs' tk' fk' fp' : Nat → Int32} {n n' : Nat} {sz sz' c p r : Int32} (I : own_Inv pl hs tk n fk fp) (hsz : sz.toInt = n) (hn : n ≤ 3) (hp : 0 ≤ p.toInt ∧ p.toInt < 16777216)
    (P : own_Pt pl hs tk sz c p r pl' hs' tk' sz') (A : own_Ap n fk fp c p n' fk' fp') : own_Inv pl' hs' tk' n' fk' fp' ∧ sz'.toInt = n' ∧ n' ≤ n + 1 ∧ n ≤ n' ∧ 1 ≤ n' := by
  obtain ⟨t, I⟩ := I
  obtain ⟨r0, F, P⟩ := P
  rcases A with ⟨i, hi, hc, rfl, rfl, rfl⟩ | ⟨hm, rfl, rfl, rfl⟩
  · have e := own_hit I hi hc F
    rcases P with ⟨q, -, rfl, rfl, rfl, rfl⟩ | ⟨q, -⟩
    · rw [own_cl e]
      obtain ⟨h1, h2, h3, h4⟩ := I
      refine ⟨⟨t, fun k hk => ?_, h2, fun s hs q => ?_, h4⟩, hsz, by omega, by omega, by omega⟩
      · obtain ⟨a1, a2, a3, a4, a5, a6⟩ := h1 k hk
        by_cases z : k = i
        · subst z; rw [own_up1, own_up1]; exact ⟨a1, a2, rfl, a4, hp.1, hp.2⟩
        · have z' : t k ≠ t i := fun w => z (h2 k i hk hi (by rw [← a4, w, (h1 i hi).2.2.2.1]))
          rw [own_up2 _ _ z', own_up2 _ _ z]; exact ⟨a1, a2, a3, a4, a5, a6⟩
      · by_cases z : s = t i
        · exact ⟨i, hi, z.symm⟩
        · rw [own_up2 _ _ z] at q; exact h3 s hs q
    · exact absurd q (own_ge e)
  · obtain ⟨d, j, hd, hj, hr, hz, ho⟩ := own_miss I hm F
    obtain ⟨x1, x2⟩ := own_not hj (own_sl_lt c d)
    subst hr
    rcases P with ⟨q, -⟩ | ⟨q, -, rfl, rfl, rfl, rfl⟩
    · exact absurd x1 q
    · rw [x2, own_cl hj, own_cl hsz]
      obtain ⟨h1, h2, h3, h4⟩ := I
      have nf : ∀ i, i < n → t i ≠ own_sl c d := fun i hi w => by
        obtain ⟨a1, a2, a3, a4, a5, a6⟩ := h1 i hi
        rw [w, hz] at a3; exact (own_p1 a5 a6).1 a3.symm
      have hsz' : (sz + 1).toInt = ((n + 1 : Nat) : Int) := by
        have a := c_iadd sz 1
        have r := rng32 (sz + 1)
        have o : (1 : Int32).toInt = 1 := rfl
        omega
      obtain ⟨t', ht1, ht2⟩ : ∃ t' : Nat → Nat, t' n = own_sl c d ∧ ∀ i, i ≠ n → t' i = t i := ⟨fun i => if i = n then own_sl c d else t i, by simp, fun i h => by simp [h]⟩
      refine ⟨⟨t', fun k hk => ?_, fun a b ha hb w => ?_, fun s hs q => ?_, fun k hk => ?_⟩, hsz', by omega, by omega, by omega⟩
      · by_cases z : k = n
        · subst z
          rw [ht1]
          exact ⟨own_sl_lt c d, by rw [own_up1]; exact hj, by rw [own_up1, own_up1], by rw [own_up1, own_up1], by rw [own_up1]; exact hp.1, by rw [own_up1]; exact hp.2⟩
        · have hk' : k < n := by omega
          obtain ⟨a1, a2, a3, a4, a5, a6⟩ := h1 k hk'
          rw [ht2 k z, own_up2 _ _ z, own_up2 _ _ (nf k hk'), own_up2 _ _ (nf k hk'), own_up2 _ _ z, own_up2 _ _ z]
          exact ⟨a1, a2, a3, a4, a5, a6⟩
      · by_cases za : a = n <;> by_cases zb : b = n
        · omega
        · subst za; rw [own_up1, own_up2 _ _ zb] at w; exact absurd w.symm (hm b (by omega))
        · subst zb; rw [own_up1, own_up2 _ _ za] at w; exact absurd w (hm a (by omega))
        · rw [own_up2 _ _ za, own_up2 _ _ zb] at w; exact h2 a b (by omega) (by omega) w
      · by_cases z : s = own_sl c d
        · exact ⟨n, by omega, ht1.trans z.symm⟩
        · rw [own_up2 _ _ z] at q
          obtain ⟨i, hi, e⟩ := h3 s hs q
          exact ⟨i, by omega, (ht2 i (by omega)).trans e⟩
      · by_cases z : k = n
        · subst z
          rw [own_up1]
          refine ⟨d, hd, ht1, fun e he => ?_⟩
          obtain ⟨i, hi, w⟩ := ho e he
          exact ⟨i, hi, (ht2 i (by omega)).trans w⟩
        · obtain ⟨D, hD, w1, w2⟩ := h4 k (by omega)
          rw [own_up2 _ _ z]
          refine ⟨D, hD, (ht2 k z).trans w1, fun e he => ?_⟩
          obtain ⟨i, hi, w⟩ := w2 e he
          exact ⟨i, hi, (ht2 i (by omega)).trans w⟩
theorem own_get {pl hs tk fk fp : Nat → Int32} {n : Nat} {c r r' : Int32} (I : own_Inv pl hs tk n fk fp) (G : own_Gt pl hs c r) (L : own_Lk n fk fp c r') : r = r' := by
  obtain ⟨t, I⟩ := I
  obtain ⟨r0, F, G⟩ := G
  rcases L with ⟨i, hi, hc, rfl⟩ | ⟨hm, rfl⟩
  · have e := own_hit I hi hc F
    rcases G with ⟨q, rfl⟩ | ⟨q, -⟩
    · obtain ⟨a1, a2, a3, a4, a5, a6⟩ := I.1 i hi
      rw [own_cl e, a3, (own_p1 a5 a6).2]
    · exact absurd q (own_ge e)
  · obtain ⟨d, j, hd, hj, hr, hz, ho⟩ := own_miss I hm F
    rcases G with ⟨q, -⟩ | ⟨q, rfl⟩
    · exact absurd (hr ▸ (own_not hj (own_sl_lt c d)).1) q
    · rfl
theorem own_had {pl hs tk fk fp pl' hs' tk' : Nat → Int32} {n : Nat} {sz sz' c p r r' : Int32} (I : own_Inv pl hs tk n fk fp) (P : own_Pt pl hs tk sz c p r pl' hs' tk' sz') (L : own_Lk n fk fp c r') : r = r' := by
  obtain ⟨r0, F, P⟩ := P
  exact own_get I ⟨r0, F, P.imp (fun q => ⟨q.1, q.2.1⟩) (fun q => ⟨q.1, q.2.1⟩)⟩ L
theorem own_some (n : Nat) (fk fp : Nat → Int32) (c p : Int32) : ∃ n' fk' fp', own_Ap n fk fp c p n' fk' fp' ∧ own_Lk n' fk' fp' c p := by
  by_cases q : ∃ i, i < n ∧ fk i = c
  · obtain ⟨i, hi, hc⟩ := q
    exact ⟨n, fk, upI fp i p, Or.inl ⟨i, hi, hc, rfl, rfl, rfl⟩, Or.inl ⟨i, hi, hc, own_up1 _ _ _⟩⟩
  · exact ⟨n + 1, upI fk n c, upI fp n p, Or.inr ⟨fun i hi w => q ⟨i, hi, w⟩, rfl, rfl, rfl⟩, Or.inl ⟨n, by omega, own_up1 _ _ _, own_up1 _ _ _⟩⟩
theorem own_last {pl hs tk fk fp pl' hs' tk' : Nat → Int32} {n : Nat} {sz sz' c p r r' : Int32} (I : own_Inv pl hs tk n fk fp) (hsz : sz.toInt = n) (hn : n ≤ 3) (hp : 0 ≤ p.toInt ∧ p.toInt < 16777216)
    (P : own_Pt pl hs tk sz c p r pl' hs' tk' sz') : own_Free pl' c ∧ (own_Gt pl' hs' c r' → r' = p) := by
  obtain ⟨n', fk', fp', A, L⟩ := own_some n fk fp c p
  obtain ⟨I', -, h, -⟩ := own_put I hsz hn hp P A
  exact ⟨own_free I' (by omega) c, fun G => own_get I' G L⟩
theorem own_rem {pl hs tk fk fp : Nat → Int32} {n : Nat} (I : own_Inv pl hs tk (n + 1) fk fp) : ∃ s : Nat, s < 16 ∧ (tk n).toInt = s ∧ own_Inv (upI pl s 0) hs tk n fk fp := by
  obtain ⟨t, h1, h2, h3, h4⟩ := I
  obtain ⟨b1, b2, b3, b4, b5, b6⟩ := h1 n (by omega)
  refine ⟨t n, b1, b2, t, fun k hk => ?_, fun i j hi hj => h2 i j (by omega) (by omega), fun s hs q => ?_, fun k hk => h4 k (by omega)⟩
  · obtain ⟨a1, a2, a3, a4, a5, a6⟩ := h1 k (by omega)
    have z : t k ≠ t n := fun w => by
      have := h2 k n (by omega) (by omega) (by rw [← a4, w, b4]); omega
    rw [own_up2 _ _ z]; exact ⟨a1, a2, a3, a4, a5, a6⟩
  · by_cases z : s = t n
    · subst z; rw [own_up1] at q; exact absurd rfl q
    · rw [own_up2 _ _ z] at q
      obtain ⟨i, hi, e⟩ := h3 s hs q
      refine ⟨i, ?_, e⟩
      have : i ≠ n := fun w => z (by rw [← e, w])
      omega
theorem own_inv0 : own_Inv (fun _ => 0) (fun _ => 0) (fun _ => 0) 0 (fun _ => 0) (fun _ => 0) :=
  ⟨fun _ => 0, fun i hi => absurd hi (Nat.not_lt_zero _), fun i j hi => absurd hi (Nat.not_lt_zero _), fun s hs q => absurd rfl q, fun i hi => absurd hi (Nat.not_lt_zero _)⟩
theorem own_c255 (x : Int32) : 0 ≤ ((x &&& (255 : Int32)).toUInt32.toUInt16.toUInt32.toInt32).toInt ∧ ((x &&& (255 : Int32)).toUInt32.toUInt16.toUInt32.toInt32).toInt < 256 := by
  rw [i2c_mask]
  have m : (x &&& (255 : Int32)).toInt = x.toInt % (2 ^ 8 : Nat) := c_mask _ _ 8 (by decide) (by decide)
  omega
theorem own_sh8 (x : Int32) : 0 ≤ ((x.toUInt32 >>> ((8 : Int32) &&& 31).toUInt32).toInt32).toInt ∧ ((x.toUInt32 >>> ((8 : Int32) &&& 31).toUInt32).toInt32).toInt < 16777216 := by
  have e : ((x.toUInt32 >>> ((8 : Int32) &&& 31).toUInt32).toInt32).toInt = (x.toInt % 4294967296) / (2 ^ 8 : Nat) := c_iushr x 8 8 (by decide) (by decide)
  omega
def own_H (x : Int32) : Int32 := x &&& (255 : Int32)
def own_okb (x : Int32) : Prop := -128 ≤ x.toInt ∧ x.toInt < 128
theorem own_Hc {p : Int32} (h : 0 ≤ p.toInt ∧ p.toInt < 256) : own_H (p.toInt8.toInt32) = p ∧ own_okb (p.toInt8.toInt32) := by
  have b := c_i2b p
  refine ⟨?_, b.2⟩
  have m : (p.toInt8.toInt32 &&& (255 : Int32)).toInt = (p.toInt8.toInt32).toInt % (2 ^ 8 : Nat) := c_mask _ _ 8 (by decide) (by decide)
  unfold own_H
  rw [← Int32.toInt_inj, m]
  omega
theorem own_Hinj {x y : Int32} (hx : own_okb x) (hy : own_okb y) (h : own_H x = own_H y) : x = y := by
  have m : (x &&& (255 : Int32)).toInt = x.toInt % (2 ^ 8 : Nat) := c_mask _ _ 8 (by decide) (by decide)
  have m' : (y &&& (255 : Int32)).toInt = y.toInt % (2 ^ 8 : Nat) := c_mask _ _ 8 (by decide) (by decide)
  unfold own_H at h
  unfold own_okb at hx hy
  rw [h, m'] at m
  rw [← Int32.toInt_inj]
  omega
theorem own_nb (p : Int32) : nar .byte (p.toInt8.toInt32) = p.toInt8.toInt32 := by
  show (p.toInt8.toInt32).toInt8.toInt32 = p.toInt8.toInt32
  have a := c_i2b p
  have b := c_i2b (p.toInt8.toInt32)
  rw [← Int32.toInt_inj]
  omega
theorem own_nc {p : Int32} (h : 0 ≤ p.toInt ∧ p.toInt < 256) : nar .char p = p := by
  show p.toUInt32.toUInt16.toUInt32.toInt32 = p
  have a := c_i2c p
  rw [← Int32.toInt_inj]
  omega
theorem own_load {sz : Int32} (h : 0 ≤ sz.toInt ∧ sz.toInt ≤ 7) : ¬ (16 : Int32) < (2 : Int32) * (sz + (1 : Int32)) := by
  have a := c_iadd sz 1
  have r := rng32 (sz + 1)
  have b := c_imul 2 (sz + 1)
  have r2 := rng32 (2 * (sz + 1))
  have o : (1 : Int32).toInt = 1 := rfl
  have o2 : (2 : Int32).toInt = 2 := rfl
  have o16 : (16 : Int32).toInt = 16 := rfl
  rw [Int32.lt_iff_toInt_lt, o16]
  rw [o2] at b
  omega
theorem own_szi {sz : Int32} (h : 0 ≤ sz.toInt ∧ sz.toInt ≤ 7) : 0 ≤ sz.toInt ∧ sz.toInt < (8 : Nat) := ⟨h.1, by omega⟩
theorem own_dec {x : Int32} {n : Nat} (h : x.toInt = ((n + 1 : Nat) : Int)) : (x - (1 : Int32)).toInt = n := by
  have a := c_isub x 1
  have r := rng32 (x - 1)
  have r2 := rng32 x
  have o : (1 : Int32).toInt = 1 := rfl
  omega
theorem own_inc {x : Int32} {n : Nat} (h : x.toInt = n) (hn : n ≤ 1000) : (x + (1 : Int32)).toInt = ((n + 1 : Nat) : Int) := by
  have a := c_iadd x 1
  have r := rng32 (x + 1)
  have o : (1 : Int32).toInt = 1 := rfl
  omega
theorem own_none {N : Nat} {n c : Int32} {fk : Nat → Int32} (hn : n.toInt = N) (hN : N ≤ 2) (h0 : ¬ (0 : Int32) < n ∨ ¬ fk 0 = c) (h1 : ¬ (1 : Int32) < n ∨ ¬ fk 1 = c) : ∀ i, i < N → fk i ≠ c := by
  have o : (1 : Int32).toInt = 1 := rfl
  have z : (0 : Int32).toInt = 0 := rfl
  rw [Int32.lt_iff_toInt_lt, z, hn] at h0
  rw [Int32.lt_iff_toInt_lt, o, hn] at h1
  intro i hi
  rcases h0 with h0 | h0
  · omega
  · match i, hi with
    | 0, _ => exact h0
    | 1, _ => rcases h1 with h1 | h1
              · omega
              · exact h1
    | i + 2, _ => omega
theorem own_two {N : Nat} {n : Int32} (hn : n.toInt = N) (hN : N ≤ 2) : ¬ (2 : Int32) < n := by
  have o : (2 : Int32).toInt = 2 := rfl
  rw [Int32.lt_iff_toInt_lt, o, hn]; omega
theorem own_lt0 {N : Nat} {n : Int32} (hn : n.toInt = N) (h : (0 : Int32) < n) : 0 < N := by
  have z : (0 : Int32).toInt = 0 := rfl
  rw [Int32.lt_iff_toInt_lt, z, hn] at h; omega
theorem own_lt1 {N : Nat} {n : Int32} (hn : n.toInt = N) (h : (1 : Int32) < n) : 1 < N := by
  have z : (1 : Int32).toInt = 1 := rfl
  rw [Int32.lt_iff_toInt_lt, z, hn] at h; omega
theorem own_n128 {d : Nat} {pr : Int32} (h : pr.toInt = d) (hd : d < 16) : ¬ pr = (128 : Int32) := by
  intro q; rw [q] at h; have : (128 : Int32).toInt = 128 := rfl; omega

abbrev own_bt (x : Int32) : Nat → Int32 := fun _ => x
theorem own_btinj {x y : Int32} (h : ∀ j, j < 1 → own_bt x j = own_bt y j) : x = y := h 0 (by decide)
section OwnHeap
variable {Z : State} {n0 n : Nat} {h h' h'' : Heap} {a b q o : Addr} {x y : Int32} {ty : FieldType} {sl : Nat} {v w : Value} {ws : List Addr} {f g : Nat → Int32} {fr : Nat → Value} {C : String}
def own_sets (Z : State) (cs : Int32) (rd : Addr) : Prop := Sta Z Z.heap "java/lang/String" "COMPACT_STRINGS" "Z" (.int cs) ∧ ¬ cs = 0 ∧ Sta Z Z.heap "com/example/casewright/casewright/formats/StringHash" "RANDOM" "Lcom/example/casewright/casewright/formats/StringHash;" (.ref rd)
theorem own_z (O : Old Z n0 h) : n0 ≤ h.size := by rw [← O.1]; exact O.2.1
def own_St (Z : State) (n0 : Nat) (h : Heap) (a : Addr) (x : Int32) : Prop := n0 ≤ a ∧ Exa Z h a "java/lang/String" ∧ Fld Z h a "java/lang/String" "coder" "B" (.int (0 : Int32)) ∧ own_okb x ∧ ∃ (b : Addr) (hv zv : Int32), Fld Z h a "java/lang/String" "value" "[B" (.ref b) ∧ IA Z h b .byte 1 (own_bt x) ∧ Fld Z h a "java/lang/String" "hash" "I" (.int hv) ∧ Fld Z h a "java/lang/String" "hashIsZero" "Z" (.int zv) ∧ (hv = 0 ∨ hv = own_H x) ∧ (zv = 0 ∨ own_H x = 0)
theorem own_St.ext (S : own_St Z n0 h a x) (E : Ext h h') : own_St Z n0 h' a x := by
  obtain ⟨g, e, c, k, b, hv, zv, v1, i, f1, f2, r⟩ := S
  exact ⟨g, e.ext E, c.ext E, k, b, hv, zv, v1.ext E, i.ext E, f1.ext E, f2.ext E, r⟩
/-- a cell that is no String and no byte[] -/
def own_Ok (Z : State) (h : Heap) (q : Addr) : Prop := (∀ a, Exa Z h a "java/lang/String" → a ≠ q) ∧ ∀ b n f, IA Z h b .byte n f → b ≠ q
theorem own_St.wr (S : own_St Z n0 h a x) (W : Wr h h' q sl v) (O : own_Ok Z h q) : own_St Z n0 h' a x := by
  obtain ⟨g, e, c, k, b, hv, zv, v1, i, f1, f2, r⟩ := S
  have na := O.1 a e
  have nb := O.2 b _ _ i
  exact ⟨g, e.wr W, c.other W (Or.inl na), k, b, hv, zv, v1.other W (Or.inl na), i.other W nb, f1.other W (Or.inl na), f2.other W (Or.inl na), r⟩
theorem own_St.keep (S : own_St Z n0 h a x) (K : Keep h h' ws) (O : ∀ w ∈ ws, own_Ok Z h w) : own_St Z n0 h' a x := by
  obtain ⟨g, e, c, k, b, hv, zv, v1, i, f1, f2, r⟩ := S
  have na : a ∉ ws := fun hm => (O a hm).1 a e rfl
  have nb : b ∉ ws := fun hm => (O b hm).2 b _ _ i rfl
  exact ⟨g, e.keep K, c.keep K na, k, b, hv, zv, v1.keep K na, i.keep K nb, f1.keep K na, f2.keep K na, r⟩
theorem own_ne_ty {c c' : Cell} {ty' : FieldType} (A : Arr Z h a c ty) (B : Arr Z h b c' ty') (q : ty ≠ ty') : a ≠ b := by
  intro e; subst e
  cases A.1.symm.trans B.1
  obtain ⟨-, k, h1, cp, h2⟩ := A.2.1
  obtain ⟨-, k', g1, cp', g2⟩ := B.2.1
  cases h1.symm.trans g1
  rw [h2] at g2; cases g2; exact q rfl
theorem own_okO {a0 : Array Value} (hw : ∀ d ∈ tables_1, d.before a0 Z = true) (E : Exa Z h q "com/example/casewright/casewright/formats/HashIndex") : own_Ok Z h q :=
  ⟨fun a ha => ne_exa ha E (by decide), fun b n f hb => by obtain ⟨c, A, -⟩ := hb; exact Ne.symm (ne_arr E (hw _ (List.mem_of_getElem? (i := 29) rfl)) A)⟩
theorem own_okI {a0 : Array Value} (hw : ∀ d ∈ tables_1, d.before a0 Z = true) (A : IA Z h q ty n f) (hty : ty ≠ .byte) : own_Ok Z h q := by
  obtain ⟨c, A, -⟩ := A
  exact ⟨fun a ha => ne_arr ha (hw _ (List.mem_of_getElem? (i := 10) rfl)) A, fun b n f hb => by obtain ⟨c', B, -⟩ := hb; exact own_ne_ty B A (Ne.symm hty)⟩
theorem own_okR {a0 : Array Value} (hw : ∀ d ∈ tables_1, d.before a0 Z = true) (A : RA Z h q C n fr) : own_Ok Z h q := by
  obtain ⟨c, A, -⟩ := A
  exact ⟨fun a ha => ne_arr ha (hw _ (List.mem_of_getElem? (i := 10) rfl)) A, fun b n f hb => by obtain ⟨c', B, -⟩ := hb; exact own_ne_ty B A (by intro q; cases q)⟩
theorem own_neb {a0 : Array Value} (hw : ∀ d ∈ tables_1, d.before a0 Z = true) (E : Exa Z h a "java/lang/String") (A : IA Z h b ty n f) : b ≠ a := by obtain ⟨c, A, -⟩ := A; exact Ne.symm (ne_arr E (hw _ (List.mem_of_getElem? (i := 10) rfl)) A)
theorem own_neR {a0 : Array Value} (hw : ∀ d ∈ tables_1, d.before a0 Z = true) (E : Exa Z h a "java/lang/String") (A : RA Z h b C n fr) : b ≠ a := by obtain ⟨c, A, -⟩ := A; exact Ne.symm (ne_arr E (hw _ (List.mem_of_getElem? (i := 10) rfl)) A)
theorem own_neIR (A : IA Z h a ty n f) {m : Nat} (B : RA Z h b C m fr) (q : ty ≠ .object C) : a ≠ b := by
  obtain ⟨c, A, -⟩ := A; obtain ⟨c', B, -⟩ := B; exact own_ne_ty A B q
theorem own_fldinj {n d : String} (F : Fld Z h a C n d v) (G : Fld Z h a C n d w) : v = w := by
  obtain ⟨c, cf, k, i, f, h1, h2, h3, h4, h5, h6, h7⟩ := F
  obtain ⟨c', cf', k', i', f', g1, g2, g3, g4, g5, g6, g7⟩ := G
  cases h1.symm.trans g1
  cases h2.symm.trans g2
  exact Option.some.inj (h7.symm.trans g7)
theorem own_iainj {ty' : FieldType} (A : IA Z h b ty n f) (B : IA Z h b ty' n g) {j : Nat} (hj : j < n) : f j = g j := by
  obtain ⟨c, A1, s1, H1⟩ := A
  obtain ⟨c', B1, s2, H2⟩ := B
  cases A1.1.symm.trans B1.1
  have z := (H1 j hj).symm.trans (H2 j hj)
  simpa using z
theorem own_St.inj (S : own_St Z n0 h a x) (S' : own_St Z n0 h a y) : x = y := by
  obtain ⟨g, e, c, k, b, hv, zv, v1, i, f1, f2, r⟩ := S
  obtain ⟨g', e', c', k', b', hv', zv', v1', i', f1', f2', r'⟩ := S'
  cases own_fldinj v1 v1'
  exact own_btinj fun j hj => own_iainj i i' hj
def own_PS (Z : State) (n0 : Nat) (h h' : Heap) : Prop := ∀ a x, own_St Z n0 h a x → own_St Z n0 h' a x
theorem own_PS.refl (Z : State) (n0 : Nat) (h : Heap) : own_PS Z n0 h h := fun _ _ S => S
theorem own_PS.trans (P : own_PS Z n0 h h') (P' : own_PS Z n0 h' h'') : own_PS Z n0 h h'' := fun a x S => P' a x (P a x S)
theorem own_PS.wr (P : own_PS Z n0 h h') (W : Wr h' h'' q sl v) (O : own_Ok Z h' q) : own_PS Z n0 h h'' := fun a x S => (P a x S).wr W O
theorem own_PS.ext (P : own_PS Z n0 h h') (E : Ext h' h'') : own_PS Z n0 h h'' := fun a x S => (P a x S).ext E
theorem own_PS.keep (P : own_PS Z n0 h h') (K : Keep h' h'' ws) (O : ∀ w ∈ ws, own_Ok Z h' w) : own_PS Z n0 h h'' := fun a x S => (P a x S).keep K O
theorem own_wh {a0 : Array Value} (hw : ∀ d ∈ tables_1, d.before a0 Z = true) (S0 : own_St Z n0 h a x) (W : Wr h h' a (Jvm.RoadKit.slotOf Z "java/lang/String" "hash" "I") (.int (own_H x))) : own_PS Z n0 h h' := by
  intro a' y S
  by_cases q : a' = a
  · subst q
    cases S.inj S0
    obtain ⟨g, e, c, k, b, hv, zv, v1, i, f1, f2, r1, r2⟩ := S
    exact ⟨g, e.wr W, c.other W (Or.inr (slot_ne (Or.inr (hw _ (List.mem_of_getElem? (i := 25) rfl))) (Or.inl (hw _ (List.mem_of_getElem? (i := 81) rfl))) (by decide) (t := .byte) (t' := .int) (by decide) (by decide))), k, b, own_H _, zv, v1.other W (Or.inr (slot_ne (Or.inr (hw _ (List.mem_of_getElem? (i := 23) rfl))) (Or.inl (hw _ (List.mem_of_getElem? (i := 81) rfl))) (by decide) (t := (.array .byte)) (t' := .int) (by decide) (by decide))), i.other W (own_neb hw e i), f1.same W, f2.other W (Or.inr (slot_ne (Or.inl (hw _ (List.mem_of_getElem? (i := 83) rfl))) (Or.inl (hw _ (List.mem_of_getElem? (i := 81) rfl))) (by decide) (t := .boolean) (t' := .int) (by decide) (by decide))), Or.inr rfl, r2⟩
  · obtain ⟨g, e, c, k, b, hv, zv, v1, i, f1, f2, r⟩ := S
    exact ⟨g, e.wr W, c.other W (Or.inl q), k, b, hv, zv, v1.other W (Or.inl q), i.other W (own_neb hw S0.2.1 i), f1.other W (Or.inl q), f2.other W (Or.inl q), r⟩
theorem own_wz {a0 : Array Value} (hw : ∀ d ∈ tables_1, d.before a0 Z = true) (S0 : own_St Z n0 h a x) (hz : own_H x = 0) {z : Int32} (W : Wr h h' a (Jvm.RoadKit.slotOf Z "java/lang/String" "hashIsZero" "Z") (.int z)) : own_PS Z n0 h h' := by
  intro a' y S
  by_cases q : a' = a
  · subst q
    cases S.inj S0
    obtain ⟨g, e, c, k, b, hv, zv, v1, i, f1, f2, r1, r2⟩ := S
    exact ⟨g, e.wr W, c.other W (Or.inr (slot_ne (Or.inr (hw _ (List.mem_of_getElem? (i := 25) rfl))) (Or.inl (hw _ (List.mem_of_getElem? (i := 83) rfl))) (by decide) (t := .byte) (t' := .boolean) (by decide) (by decide))), k, b, hv, z, v1.other W (Or.inr (slot_ne (Or.inr (hw _ (List.mem_of_getElem? (i := 23) rfl))) (Or.inl (hw _ (List.mem_of_getElem? (i := 83) rfl))) (by decide) (t := (.array .byte)) (t' := .boolean) (by decide) (by decide))), i.other W (own_neb hw e i), f1.other W (Or.inr (slot_ne (Or.inl (hw _ (List.mem_of_getElem? (i := 81) rfl))) (Or.inl (hw _ (List.mem_of_getElem? (i := 83) rfl))) (by decide) (t := .int) (t' := .boolean) (by decide) (by decide))), f2.same W, r1, Or.inr hz⟩
  · obtain ⟨g, e, c, k, b, hv, zv, v1, i, f1, f2, r⟩ := S
    exact ⟨g, e.wr W, c.other W (Or.inl q), k, b, hv, zv, v1.other W (Or.inl q), i.other W (own_neb hw S0.2.1 i), f1.other W (Or.inl q), f2.other W (Or.inl q), r⟩
def own_KA (Z : State) (h h' : Heap) (o : Addr) : Prop := ∀ q ty n f, q < o → IA Z h q ty n f → IA Z h' q ty n f
theorem own_KA.refl (Z : State) (h : Heap) (o : Addr) : own_KA Z h h o := fun _ _ _ _ _ A => A
theorem own_KA.trans (P : own_KA Z h h' o) (P' : own_KA Z h' h'' o) : own_KA Z h h'' o := fun q ty n f l A => P' q ty n f l (P q ty n f l A)
theorem own_KA.wr (P : own_KA Z h h' o) (W : Wr h' h'' q sl v) (le : o ≤ q) : own_KA Z h h'' o := fun q' ty n f l A => (P q' ty n f l A).other W (Nat.ne_of_lt (Nat.lt_of_lt_of_le l le))
theorem own_KA.kp {a0 : Array Value} (hw : ∀ d ∈ tables_1, d.before a0 Z = true) (P : own_KA Z h h' o) (K : Keep h' h'' [a]) (E : Exa Z h' a "java/lang/String") : own_KA Z h h'' o := fun q ty n f l A => (P q ty n f l A).keep K (ninS (own_neb hw E (P q ty n f l A)) nin0)
theorem own_selp {a0 : Array Value} (hw : ∀ d ∈ tables_1, d.before a0 Z = true) {y : MethodName} (hc : y.cls = "com/example/casewright/casewright/formats/HashIndex") (hp : (Cond.privateMethod y).before a0 Z = true) (hi : (Cond.instanceMethod y).before a0 Z = true) : (Cond.selects y.cls y y).before a0 Z = true := by
  obtain ⟨t, k, h1, h2, -, h4, -⟩ := Cond.instantiable_spec (hw _ (List.mem_of_getElem? (i := 29) rfl))
  exact Jvm.Stand.selects_self_of_private (by rw [hc]; exact h1) h2 (by cases hq : k.isInterface <;> simp_all) (Cond.privateMethod_at hp) hi (by rw [hc]; decide)
def own_eq (x y : Int32) : Int32 := if x = y then 1 else 0
theorem own_eqt (e : x = y) : own_eq x y = 1 := if_pos e
theorem own_eqf (e : ¬ x = y) : own_eq x y = 0 := if_neg e
theorem own_eq1 (e : ¬ own_eq x y = 0) : own_eq x y = 1 := by
  by_cases q : x = y
  · exact own_eqt q
  · exact absurd (own_eqf q) e
theorem own_hb {pl : Nat → Int32} {hs : Nat → Int32} {c : Int32} {d : Nat} (hb : ∀ e, e < d → pl (own_sl c e) ≠ 0 ∧ hs (own_sl c e) ≠ c) (h1 : pl (own_sl c d) ≠ 0) (h2 : hs (own_sl c d) ≠ c) : ∀ e, e < d + 1 → pl (own_sl c e) ≠ 0 ∧ hs (own_sl c e) ≠ c := fun e he => by
  by_cases q : e = d
  · subst q; exact ⟨h1, h2⟩
  · exact hb e (by omega)
theorem own_upn (f : Nat → Value) (s : Nat) (hf : ∀ i, f i = .null) : upV f s .null = fun _ => .null := by
  funext i
  by_cases q : i = s <;> simp [upV, q, hf]
theorem own_cs0 {args : Array Value} {s : State} {t : Jvm.Term} {cs : Int32} (ev : t.eval args s none [] s = some (.int cs)) (h : (Jvm.Cond.not (Jvm.Cond.eq t (Jvm.Term.int (0 : Int32)))).value args s none s [] = some true) : ¬ cs = 0 := by
  intro q; subst q
  have h1 := not_v h
  have h2 : (Jvm.Cond.eq t (Jvm.Term.int (0 : Int32))).value args s none s [] = some true := eq_i ev (Term.int_eval (0)) rfl
  rw [h2] at h1; cases h1
end OwnHeap
section OwnHX
variable {Z : State} {n0 : Nat} {h h' : Heap} {o a : Addr} {x : Int32} {pl hs tk : Nat → Int32} {kf : Nat → Value} {sz fh : Int32} {ws : List Addr} {s : Nat}
def own_HK (Z : State) (n0 : Nat) (h : Heap) (pl hs : Nat → Int32) (kf : Nat → Value) : Prop := ∀ i, i < 16 → pl i ≠ 0 → ∃ a x, kf i = .ref a ∧ own_St Z n0 h a x ∧ own_H x = hs i
theorem own_HK.ps (K : own_HK Z n0 h pl hs kf) (P : own_PS Z n0 h h') : own_HK Z n0 h' pl hs kf := fun i hi q => by
  obtain ⟨a, x, e, S, r⟩ := K i hi q; exact ⟨a, x, e, P a x S, r⟩
theorem own_HK.upd (K : own_HK Z n0 h pl hs kf) (S : own_St Z n0 h a x) (e : own_H x = fh) (y : Int32) : own_HK Z n0 h (upI pl s y) (upI hs s fh) (upV kf s (.ref a)) := fun i hi q => by
  by_cases z : i = s
  · subst z; exact ⟨a, x, by simp [upV], S, by rw [own_up1]; exact e⟩
  · rw [own_up2 _ _ z] at q
    obtain ⟨a', x', e', S', r⟩ := K i hi q
    exact ⟨a', x', by simp [upV, z, e'], S', by rw [own_up2 _ _ z]; exact r⟩
theorem own_HK.set (K : own_HK Z n0 h pl hs kf) (hz : pl s ≠ 0) (y : Int32) : own_HK Z n0 h (upI pl s y) hs kf := fun i hi q => by
  by_cases z : i = s
  · subst z; exact K i hi hz
  · rw [own_up2 _ _ z] at q; exact K i hi q
theorem own_HK.rem (K : own_HK Z n0 h pl hs kf) : own_HK Z n0 h (upI pl s 0) hs (upV kf s .null) := fun i hi q => by
  by_cases z : i = s
  · subst z; rw [own_up1] at q; exact absurd rfl q
  · rw [own_up2 _ _ z] at q
    obtain ⟨a', x', e', S', r⟩ := K i hi q
    exact ⟨a', x', by simp [upV, z, e'], S', r⟩
def own_HX (Z : State) (n0 : Nat) (h : Heap) (o : Addr) (pl hs tk : Nat → Int32) (sz fh : Int32) : Prop := n0 ≤ o ∧ Exa Z h o "com/example/casewright/casewright/formats/HashIndex" ∧ ∃ (A1 A2 A3 A4 A5 : Addr) (kf : Nat → Value), (o < A1 ∧ o < A2 ∧ o < A3 ∧ o < A4 ∧ o < A5) ∧ (A1 ≠ A2 ∧ A1 ≠ A5 ∧ A2 ≠ A5 ∧ A3 ≠ A4) ∧ Fld Z h o "com/example/casewright/casewright/formats/HashIndex" "places" "[I" (.ref A1) ∧ Fld Z h o "com/example/casewright/casewright/formats/HashIndex" "hashes" "[I" (.ref A2) ∧ Fld Z h o "com/example/casewright/casewright/formats/HashIndex" "keys" "[Ljava/lang/String;" (.ref A3) ∧ Fld Z h o "com/example/casewright/casewright/formats/HashIndex" "seconds" "[Ljava/lang/String;" (.ref A4) ∧ Fld Z h o "com/example/casewright/casewright/formats/HashIndex" "taken" "[I" (.ref A5) ∧ Fld Z h o "com/example/casewright/casewright/formats/HashIndex" "size" "I" (.int sz) ∧ Fld Z h o "com/example/casewright/casewright/formats/HashIndex" "hashedAtRandom" "Z" (.int (0 : Int32)) ∧ Fld Z h o "com/example/casewright/casewright/formats/HashIndex" "foundHash" "I" (.int fh) ∧
  IA Z h A1 .int 16 pl ∧ IA Z h A2 .int 16 hs ∧ RA Z h A3 "java/lang/String" 16 kf ∧ RA Z h A4 "java/lang/String" 16 (fun _ => .null) ∧ IA Z h A5 .int 8 tk ∧ own_HK Z n0 h pl hs kf
theorem own_HX.keep (X : own_HX Z n0 h o pl hs tk sz fh) (K : Keep h h' ws) (hl : ∀ w ∈ ws, w < o) (P : own_PS Z n0 h h') : own_HX Z n0 h' o pl hs tk sz fh := by
  obtain ⟨g, E, A1, A2, A3, A4, A5, kf, ⟨l1, l2, l3, l4, l5⟩, nn, f1, f2, f3, f4, f5, f6, f7, f8, v1, v2, v3, v4, v5, hk⟩ := X
  have no : o ∉ ws := fun hm => Nat.lt_irrefl _ (hl _ hm)
  have na : ∀ {A : Addr}, o < A → A ∉ ws := fun l hm => Nat.lt_irrefl _ (Nat.lt_trans (hl _ hm) l)
  exact ⟨g, E.keep K, A1, A2, A3, A4, A5, kf, ⟨l1, l2, l3, l4, l5⟩, nn, f1.keep K no, f2.keep K no, f3.keep K no, f4.keep K no, f5.keep K no, f6.keep K no, f7.keep K no, f8.keep K no, v1.keep K (na l1), v2.keep K (na l2), v3.keep K (na l3), v4.keep K (na l4), v5.keep K (na l5), hk.ps P⟩
def own_Cm (Z : State) (n0 : Nat) (h0 h : Heap) (o : Addr) (L : List Loc) : Prop := Fr n0 L ∧ Old Z n0 h ∧ own_PS Z n0 h0 h ∧ own_KA Z h0 h o
end OwnHX
theorem d13_0 : decode jdk_42_method_154_code 0 = .ok (.getstatic 38, 3) := by decide +kernel
theorem d13_3 : decode jdk_42_method_154_code 3 = .ok (.ifCond .eq 14, 3) := by decide +kernel
theorem d13_6 : decode jdk_42_method_154_code 6 = .ok (.aload_n 0, 1) := by decide +kernel
theorem d13_7 : decode jdk_42_method_154_code 7 = .ok (.getfield 15, 3) := by decide +kernel
theorem d13_10 : decode jdk_42_method_154_code 10 = .ok (.ifCond .ne 7, 3) := by decide +kernel
theorem d13_13 : decode jdk_42_method_154_code 13 = .ok (.iconst 1, 1) := by decide +kernel
theorem d13_14 : decode jdk_42_method_154_code 14 = .ok (.goto 4, 3) := by decide +kernel
theorem d13_18 : decode jdk_42_method_154_code 18 = .ok (.ireturn, 1) := by decide +kernel
theorem pn_java_lang_String : plainName "java/lang/String" = true := by first | (simp [plainName, overriddenIn]; done) | decide +kernel
theorem ef_rm_l1 (m : MethodId) (x0 : Addr) : entryFrame m #[(.ref x0)] 1 = mkF m 0 #[.val (.ref x0)] [] := by first | (simp [entryFrame, mkF, argsToLocals, Value.category]; done) | rfl
def Q_l1 (Z : State)  (h0 : Heap) (n0 : Nat) (v : Option Value) (h : Heap) (L : List Loc) : Prop := v = some (.int (1 : Int32)) ∧ Fr n0 L ∧ h = h0
set_option maxRecDepth 65536 in
set_option maxHeartbeats 40000000 in
theorem rm_l1 (l : Launch) (Z : State) (a0 : Array Value) (hw : ∀ d ∈ tables_1, d.before a0 Z = true) (ws : List Jvm.Cond) (a : Addr) (cs : Int32) (rd : Addr)  (h0 : Heap) (n0 : Nat) (Z0 : n0 ≤ h0.size) (HS : own_sets Z cs rd) (OO : Old Z n0 h0) (E_a : Exa Z h0 a "java/lang/String") (F_coder_a : Fld Z h0 a "java/lang/String" "coder" "B" (.int (0 : Int32))) :
    MetFree l (⟨"java/lang/String", "isLatin1", "()Z"⟩ : MethodName) (head1 (Jvm.Cond.code (⟨"java/lang/String", "isLatin1", "()Z"⟩ : MethodName) jdk_42_method_154_code 1 (some .boolean) :: ws) ({ frames := 0, cells := 0, slots := 0, locals := 0 } : Room)) (fun av' U => av' = #[(.ref a)] ∧ Z.Warmed39 U.vm ∧ U.heap = h0) (fun _ _ _ _ _ => True) (fun _ U o U' => ∃ v L, o = .returned v ∧ Q_l1 Z  h0 n0 v U'.heap L ∧ FrameEnd U o U' L ({ frames := 0, cells := 0, slots := 0, locals := 0 } : Room).cells ({ frames := 0, cells := 0, slots := 0, locals := 0 } : Room).slots) := by
  refine MetFree.of_bodySF (plainFor_of_name pn_java_lang_String) hisR ?_
  intro p e s m args below meth c s₁ Bd hml0 hP hK
  obtain ⟨rfl, hZ, hh⟩ := hP
  have hx := Bd.exec
  have hby := Bd.bytes
  have hlk := Bd.notSynchronized
  have hml : c.maxLocals = 1 := hml0
  have hown : s.vm.findClass "java/lang/String" = some m.cls := findClass_of_methodNamed Bd.named
  have hnm := (name_of_methodNamed Bd.named Bd.method).1
  have X0 : Stand p l e ({ frames := 0, cells := 0, slots := 0, locals := 0 } : Room) s m #[(.ref a)] below meth c s₁ [] 0 0 := Stand.of_body Bd
  have e0 : s₁.heap = h0 := by rw [← hh, Bd.state]; rfl
  have N0 := Fr.nil n0
  show Go p e below (Kq s (Q_l1 Z  h0 n0) ({ frames := 0, cells := 0, slots := 0, locals := 0 } : Room).cells ({ frames := 0, cells := 0, slots := 0, locals := 0 } : Room).slots) _
  refine go (fun t kt => castTop (ef_rm_l1 m a) kt) ?_
  have HS0 := HS
  obtain ⟨S_cs, hcs, S_rd⟩ := HS0
  show Go p e below _ (s₁.setTop (mkF m 0 #[.val (.ref a)] []))
  obtain ⟨T1, X1, e1, st1⟩ := getS2 X0 hx hZ hown (host := "") (Or.inl (hw _ (List.mem_of_getElem? (i := 4) rfl))) Via.refl e0 (Sta.ext OO.2 S_cs) (g := (mkF m 0 #[.val (.ref a)] [])) rfl (hb hby d13_0)
  refine go st1 ?_
  show Go p e below _ (T1.setTop (mkF m 3 #[.val (.ref a)] [(.int cs)]))
  have c3_2 : ¬ (cs = (0 : Int32)) := hcs
  refine go (fun t kt' => by refine XS.ifNo X1.here hx rfl (hb hby d13_3) rfl ((if0 _ _).trans (feq c3_2).1) ?_; exact kt') ?_
  show Go p e below _ (T1.setTop (mkF m 6 #[.val (.ref a)] []))
  refine go (fun t kt' => by refine XS.aloadN X1.here hx rfl (hb hby d13_6) rfl rfl ?_; exact kt') ?_
  show Go p e below _ (T1.setTop (mkF m 7 #[.val (.ref a)] [(.ref a)]))
  obtain ⟨T3, X3, e3, st3⟩ := getF X1 hx hZ hown (host := "") (Or.inl (hw _ (List.mem_of_getElem? (i := 24) rfl))) Via.refl e1 F_coder_a (g := (mkF m 7 #[.val (.ref a)] [(.ref a)])) rfl rfl (hb hby d13_7)
  refine go st3 ?_
  show Go p e below _ (T3.setTop (mkF m 10 #[.val (.ref a)] [(.int (0 : Int32))]))
  have c10_4 : ¬ (¬ (0 : Int32) = (0 : Int32)) := by decide
  refine go (fun t kt' => by refine XS.ifNo X3.here hx rfl (hb hby d13_10) rfl ((if0 _ _).trans (teq (Decidable.not_not.mp c10_4)).2) ?_; exact kt') ?_
  show Go p e below _ (T3.setTop (mkF m 13 #[.val (.ref a)] []))
  refine go (fun t kt' => by refine XS.iconst X3.here hx rfl (hb hby d13_13) ?_; exact kt') ?_
  show Go p e below _ (T3.setTop (mkF m 14 #[.val (.ref a)] [(.int (1 : Int32))]))
  refine go (fun t kt' => by refine XS.goto X3.here hx rfl (pc0 := 14) (pc' := 18) rfl (hb hby d13_14) (by decide) (by decide) ?_; exact kt') ?_
  show Go p e below _ (T3.setTop (mkF m 18 #[.val (.ref a)] [(.int (1 : Int32))]))
  refine goOut X3 (fun h => by rw [Bd.returns] at h; cases h) hlk (fun fs hr => retN X3 hx (t := .boolean) Bd.returns (by simp) (hb hby d13_18) hr) (by decide) (by decide) ?_
  rw [e3]
  exact ⟨rfl, N0, rfl⟩
theorem d14_0 : decode jdk_43_method_21_code 0 = .ok (.aload_n 0, 1) := by decide +kernel
theorem d14_1 : decode jdk_43_method_21_code 1 = .ok (.arraylength, 1) := by decide +kernel
theorem d14_2 : decode jdk_43_method_21_code 2 = .ok (.lookupswitch 40 #[(0, 26), (1, 30)], 26) := by decide +kernel
theorem d14_32 : decode jdk_43_method_21_code 32 = .ok (.aload_n 0, 1) := by decide +kernel
theorem d14_33 : decode jdk_43_method_21_code 33 = .ok (.iconst 0, 1) := by decide +kernel
theorem d14_34 : decode jdk_43_method_21_code 34 = .ok (.baload, 1) := by decide +kernel
theorem d14_35 : decode jdk_43_method_21_code 35 = .ok (.sipush 255, 3) := by decide +kernel
theorem d14_38 : decode jdk_43_method_21_code 38 = .ok (.iand, 1) := by decide +kernel
theorem d14_39 : decode jdk_43_method_21_code 39 = .ok (.goto 12, 3) := by decide +kernel
theorem d14_51 : decode jdk_43_method_21_code 51 = .ok (.ireturn, 1) := by decide +kernel
theorem pn_java_lang_StringLatin1 : plainName "java/lang/StringLatin1" = true := by first | (simp [plainName, overriddenIn]; done) | decide +kernel
theorem ef_rm_lh (m : MethodId) (x0 : Addr) : entryFrame m #[(.ref x0)] 1 = mkF m 0 #[.val (.ref x0)] [] := by first | (simp [entryFrame, mkF, argsToLocals, Value.category]; done) | rfl
def Q_lh (Z : State) (f : Nat → Int32) (h0 : Heap) (n0 : Nat) (v : Option Value) (h : Heap) (L : List Loc) : Prop := v = some (.int ((f 0) &&& (255 : Int32))) ∧ Fr n0 L ∧ h = h0
set_option maxRecDepth 65536 in
set_option maxHeartbeats 40000000 in
theorem rm_lh (l : Launch) (Z : State) (a0 : Array Value) (hw : ∀ d ∈ tables_1, d.before a0 Z = true) (ws : List Jvm.Cond) (b : Addr) (cs : Int32) (rd : Addr) (f : Nat → Int32) (h0 : Heap) (n0 : Nat) (Z0 : n0 ≤ h0.size) (HS : own_sets Z cs rd) (OO : Old Z n0 h0) (V_b : IA Z h0 b .byte 1 f) :
    MetFree l (⟨"java/lang/StringLatin1", "hashCode", "([B)I"⟩ : MethodName) (head1 (Jvm.Cond.code (⟨"java/lang/StringLatin1", "hashCode", "([B)I"⟩ : MethodName) jdk_43_method_21_code 1 (some .int) :: ws) ({ frames := 0, cells := 0, slots := 0, locals := 0 } : Room)) (fun av' U => av' = #[(.ref b)] ∧ Z.Warmed39 U.vm ∧ U.heap = h0) (fun _ _ _ _ _ => True) (fun _ U o U' => ∃ v L, o = .returned v ∧ Q_lh Z f h0 n0 v U'.heap L ∧ FrameEnd U o U' L ({ frames := 0, cells := 0, slots := 0, locals := 0 } : Room).cells ({ frames := 0, cells := 0, slots := 0, locals := 0 } : Room).slots) := by
  refine MetFree.of_bodySF (plainFor_of_name pn_java_lang_StringLatin1) hisR ?_
  intro p e s m args below meth c s₁ Bd hml0 hP hK
  obtain ⟨rfl, hZ, hh⟩ := hP
  have hx := Bd.exec
  have hby := Bd.bytes
  have hlk := Bd.notSynchronized
  have hml : c.maxLocals = 1 := hml0
  have hown : s.vm.findClass "java/lang/StringLatin1" = some m.cls := findClass_of_methodNamed Bd.named
  have hnm := (name_of_methodNamed Bd.named Bd.method).1
  have X0 : Stand p l e ({ frames := 0, cells := 0, slots := 0, locals := 0 } : Room) s m #[(.ref b)] below meth c s₁ [] 0 0 := Stand.of_body Bd
  have e0 : s₁.heap = h0 := by rw [← hh, Bd.state]; rfl
  have N0 := Fr.nil n0
  show Go p e below (Kq s (Q_lh Z f h0 n0) ({ frames := 0, cells := 0, slots := 0, locals := 0 } : Room).cells ({ frames := 0, cells := 0, slots := 0, locals := 0 } : Room).slots) _
  refine go (fun t kt => castTop (ef_rm_lh m b) kt) ?_
  have HS0 := HS
  obtain ⟨S_cs, hcs, S_rd⟩ := HS0
  show Go p e below _ (s₁.setTop (mkF m 0 #[.val (.ref b)] []))
  refine go (fun t kt' => by refine XS.aloadN X0.here hx rfl (hb hby d14_0) rfl rfl ?_; exact kt') ?_
  show Go p e below _ (s₁.setTop (mkF m 1 #[.val (.ref b)] [(.ref b)]))
  refine go (fun t kt' => by refine lenIA X0 hx hZ e0 V_b (g := (mkF m 1 #[.val (.ref b)] [(.ref b)])) rfl rfl (hb hby d14_1) t ?_; exact kt') ?_
  show Go p e below _ (s₁.setTop (mkF m 2 #[.val (.ref b)] [(.int (1 : Int32))]))
  refine go (fun t kt' => by refine lookHit X0 hx (g := (mkF m 2 #[.val (.ref b)] [(.int (1 : Int32))])) rfl (pc0 := 2) (pc' := 32) rfl rfl (hb hby d14_2) (by decide) (a := 1) (off := 30) (by decide) (by decide) (by decide) ?_; exact kt') ?_
  show Go p e below _ (s₁.setTop (mkF m 32 #[.val (.ref b)] []))
  refine go (fun t kt' => by refine XS.aloadN X0.here hx rfl (hb hby d14_32) rfl rfl ?_; exact kt') ?_
  show Go p e below _ (s₁.setTop (mkF m 33 #[.val (.ref b)] [(.ref b)]))
  refine go (fun t kt' => by refine XS.iconst X0.here hx rfl (hb hby d14_33) ?_; exact kt') ?_
  show Go p e below _ (s₁.setTop (mkF m 34 #[.val (.ref b)] [(.int (0 : Int32)), (.ref b)]))
  refine go (fun t kt' => by refine ldBA X0 hx hZ e0 V_b (j := (0 : Int32)) ⟨by decide, by decide⟩ (g := (mkF m 34 #[.val (.ref b)] [(.int (0 : Int32)), (.ref b)])) rfl rfl (hb hby d14_34) t ?_; exact kt') ?_
  show Go p e below _ (s₁.setTop (mkF m 35 #[.val (.ref b)] [(.int (f 0))]))
  refine go (fun t kt' => by refine XS.sipush X0.here hx rfl (hb hby d14_35) ?_; exact kt') ?_
  show Go p e below _ (s₁.setTop (mkF m 38 #[.val (.ref b)] [(.int (255 : Int32)), (.int (f 0))]))
  refine go (fun t kt' => by refine XS.iand X0.here hx rfl (hb hby d14_38) rfl ?_; exact kt') ?_
  show Go p e below _ (s₁.setTop (mkF m 39 #[.val (.ref b)] [(.int ((f 0) &&& (255 : Int32)))]))
  refine go (fun t kt' => by refine XS.goto X0.here hx rfl (pc0 := 39) (pc' := 51) rfl (hb hby d14_39) (by decide) (by decide) ?_; exact kt') ?_
  show Go p e below _ (s₁.setTop (mkF m 51 #[.val (.ref b)] [(.int ((f 0) &&& (255 : Int32)))]))
  refine goOut X0 (fun h => by rw [Bd.returns] at h; cases h) hlk (fun fs hr => retOut X0 hx Bd.returns rfl (Or.inl ⟨rfl, Or.inl rfl, _, rfl⟩) (hb hby d14_51) hr) (by decide) (by decide) ?_
  rw [e0]
  exact ⟨rfl, N0, rfl⟩
theorem d12_0 : decode jdk_42_method_78_code 0 = .ok (.aload_n 0, 1) := by decide +kernel
theorem d12_1 : decode jdk_42_method_78_code 1 = .ok (.getfield 19, 3) := by decide +kernel
theorem d12_4 : decode jdk_42_method_78_code 4 = .ok (.istore_n 1, 1) := by decide +kernel
theorem d12_5 : decode jdk_42_method_78_code 5 = .ok (.iload_n 1, 1) := by decide +kernel
theorem d12_6 : decode jdk_42_method_78_code 6 = .ok (.ifCond .ne 52, 3) := by decide +kernel
theorem d12_58 : decode jdk_42_method_78_code 58 = .ok (.iload_n 1, 1) := by decide +kernel
theorem d12_59 : decode jdk_42_method_78_code 59 = .ok (.ireturn, 1) := by decide +kernel
theorem d12_9 : decode jdk_42_method_78_code 9 = .ok (.aload_n 0, 1) := by decide +kernel
theorem d12_10 : decode jdk_42_method_78_code 10 = .ok (.getfield 23, 3) := by decide +kernel
theorem d12_13 : decode jdk_42_method_78_code 13 = .ok (.ifCond .ne 45, 3) := by decide +kernel
theorem d12_16 : decode jdk_42_method_78_code 16 = .ok (.aload_n 0, 1) := by decide +kernel
theorem d12_17 : decode jdk_42_method_78_code 17 = .ok (.invokevirtual 492, 3) := by decide +kernel
theorem pd_0 : parseMethodDescriptor "()Z" = some ⟨[], some .boolean⟩ := by decide +kernel
theorem d12_20 : decode jdk_42_method_78_code 20 = .ok (.ifCond .eq 13, 3) := by decide +kernel
theorem d12_23 : decode jdk_42_method_78_code 23 = .ok (.aload_n 0, 1) := by decide +kernel
theorem d12_24 : decode jdk_42_method_78_code 24 = .ok (.getfield 9, 3) := by decide +kernel
theorem d12_27 : decode jdk_42_method_78_code 27 = .ok (.invokestatic 628, 3) := by decide +kernel
theorem pd_1 : parseMethodDescriptor "([B)I" = some ⟨[(.array .byte)], some .int⟩ := by decide +kernel
theorem d12_30 : decode jdk_42_method_78_code 30 = .ok (.goto 10, 3) := by decide +kernel
theorem d12_40 : decode jdk_42_method_78_code 40 = .ok (.istore_n 1, 1) := by decide +kernel
theorem d12_41 : decode jdk_42_method_78_code 41 = .ok (.iload_n 1, 1) := by decide +kernel
theorem d12_42 : decode jdk_42_method_78_code 42 = .ok (.ifCond .ne 11, 3) := by decide +kernel
theorem d12_53 : decode jdk_42_method_78_code 53 = .ok (.aload_n 0, 1) := by decide +kernel
theorem d12_54 : decode jdk_42_method_78_code 54 = .ok (.iload_n 1, 1) := by decide +kernel
theorem d12_55 : decode jdk_42_method_78_code 55 = .ok (.putfield 19, 3) := by decide +kernel
theorem d12_45 : decode jdk_42_method_78_code 45 = .ok (.aload_n 0, 1) := by decide +kernel
theorem d12_46 : decode jdk_42_method_78_code 46 = .ok (.iconst 1, 1) := by decide +kernel
theorem d12_47 : decode jdk_42_method_78_code 47 = .ok (.putfield 23, 3) := by decide +kernel
theorem d12_50 : decode jdk_42_method_78_code 50 = .ok (.goto 8, 3) := by decide +kernel
theorem ef_rm_hc (m : MethodId) (x0 : Addr) : entryFrame m #[(.ref x0)] 2 = mkF m 0 #[.val (.ref x0), .unset] [] := by first | (simp [entryFrame, mkF, argsToLocals, Value.category]; done) | rfl
def Q_hc (Z : State) (a : Addr) (xx : Int32) (h0 : Heap) (n0 : Nat) (v : Option Value) (h : Heap) (L : List Loc) : Prop := v = some (.int (own_H xx)) ∧ Fr n0 L ∧ Keep h0 h [a] ∧ own_PS Z n0 h0 h ∧ Old Z n0 h
set_option maxRecDepth 65536 in
set_option maxHeartbeats 40000000 in
theorem rm_hc (l : Launch) (Z : State) (a0 : Array Value) (hw : ∀ d ∈ tables_1, d.before a0 Z = true) (ws : List Jvm.Cond) (a : Addr) (cs : Int32) (rd : Addr) (xx : Int32) (h0 : Heap) (n0 : Nat) (Z0 : n0 ≤ h0.size) (HS : own_sets Z cs rd) (OO : Old Z n0 h0) (S_a : own_St Z n0 h0 a xx) :
    MetFree l (⟨"java/lang/String", "hashCode", "()I"⟩ : MethodName) (head1 (Jvm.Cond.code (⟨"java/lang/String", "hashCode", "()I"⟩ : MethodName) jdk_42_method_78_code 2 (some .int) :: ws) ({ frames := 1, cells := 0, slots := 0, locals := 12 } : Room)) (fun av' U => av' = #[(.ref a)] ∧ Z.Warmed39 U.vm ∧ U.heap = h0) (fun _ _ _ _ _ => True) (fun _ U o U' => ∃ v L, o = .returned v ∧ Q_hc Z a xx h0 n0 v U'.heap L ∧ FrameEnd U o U' L ({ frames := 1, cells := 0, slots := 0, locals := 12 } : Room).cells ({ frames := 1, cells := 0, slots := 0, locals := 12 } : Room).slots) := by
  refine MetFree.of_bodySF (plainFor_of_name pn_java_lang_String) hisR ?_
  intro p e s m args below meth c s₁ Bd hml0 hP hK
  obtain ⟨rfl, hZ, hh⟩ := hP
  have hx := Bd.exec
  have hby := Bd.bytes
  have hlk := Bd.notSynchronized
  have hml : c.maxLocals = 2 := hml0
  have hown : s.vm.findClass "java/lang/String" = some m.cls := findClass_of_methodNamed Bd.named
  have hnm := (name_of_methodNamed Bd.named Bd.method).1
  have X0 : Stand p l e ({ frames := 1, cells := 0, slots := 0, locals := 12 } : Room) s m #[(.ref a)] below meth c s₁ [] 0 0 := Stand.of_body Bd
  have e0 : s₁.heap = h0 := by rw [← hh, Bd.state]; rfl
  have N0 := Fr.nil n0
  show Go p e below (Kq s (Q_hc Z a xx h0 n0) ({ frames := 1, cells := 0, slots := 0, locals := 12 } : Room).cells ({ frames := 1, cells := 0, slots := 0, locals := 12 } : Room).slots) _
  refine go (fun t kt => castTop (ef_rm_hc m a) kt) ?_
  have HS0 := HS
  obtain ⟨S_cs, hcs, S_rd⟩ := HS0
  have S_a' := S_a
  obtain ⟨g_a, E_a, F_coder_a, k_a, bb, hvb, zvb, F_value_a, V_bb, F_hash_a, F_hashIsZero_a, hhvb, hzvb⟩ := S_a'
  have ne_bb_a := own_neb hw E_a V_bb
  have K0 := Keep.refl h0 [a]
  show Go p e below _ (s₁.setTop (mkF m 0 #[.val (.ref a), .unset] []))
  refine go (fun t kt' => by refine XS.aloadN X0.here hx rfl (hb hby d12_0) rfl rfl ?_; exact kt') ?_
  show Go p e below _ (s₁.setTop (mkF m 1 #[.val (.ref a), .unset] [(.ref a)]))
  obtain ⟨T1, X1, e1, st1⟩ := getF X0 hx hZ hown (host := "") (Or.inl (hw _ (List.mem_of_getElem? (i := 80) rfl))) Via.refl e0 F_hash_a (g := (mkF m 1 #[.val (.ref a), .unset] [(.ref a)])) rfl rfl (hb hby d12_1)
  refine go st1 ?_
  show Go p e below _ (T1.setTop (mkF m 4 #[.val (.ref a), .unset] [(.int hvb)]))
  refine go (fun t kt' => by refine XS.istoreN X1.here hx rfl (hb hby d12_4) rfl (l' := #[.val (.ref a), .val (.int hvb)]) rfl ?_; exact kt') ?_
  show Go p e below _ (T1.setTop (mkF m 5 #[.val (.ref a), .val (.int hvb)] []))
  refine go (fun t kt' => by refine XS.iloadN X1.here hx rfl (hb hby d12_5) rfl ?_; exact kt') ?_
  show Go p e below _ (T1.setTop (mkF m 6 #[.val (.ref a), .val (.int hvb)] [(.int hvb)]))
  by_cases c6_2 : ¬ hvb = (0 : Int32)
  · skip
    refine go (fun t kt' => by refine XS.ifYes X1.here hx rfl (pc0 := 6) (pc' := 58) rfl (hb hby d12_6) rfl ((if0 _ _).trans (feq c6_2).2) (by decide) (by decide) ?_; exact kt') ?_
    show Go p e below _ (T1.setTop (mkF m 58 #[.val (.ref a), .val (.int hvb)] []))
    refine go (fun t kt' => by refine XS.iloadN X1.here hx rfl (hb hby d12_58) rfl ?_; exact kt') ?_
    show Go p e below _ (T1.setTop (mkF m 59 #[.val (.ref a), .val (.int hvb)] [(.int hvb)]))
    refine goOut X1 (fun h => by rw [Bd.returns] at h; cases h) hlk (fun fs hr => retOut X1 hx Bd.returns rfl (Or.inl ⟨rfl, Or.inl rfl, _, rfl⟩) (hb hby d12_59) hr) (by decide) (by decide) ?_
    rw [e1]
    exact ⟨by rw [hhvb.resolve_left c6_2], N0, Keep.refl _ _, own_PS.refl _ _ _, OO⟩
  · skip
    refine go (fun t kt' => by refine XS.ifNo X1.here hx rfl (hb hby d12_6) rfl ((if0 _ _).trans (teq (Decidable.not_not.mp c6_2)).2) ?_; exact kt') ?_
    show Go p e below _ (T1.setTop (mkF m 9 #[.val (.ref a), .val (.int hvb)] []))
    refine go (fun t kt' => by refine XS.aloadN X1.here hx rfl (hb hby d12_9) rfl rfl ?_; exact kt') ?_
    show Go p e below _ (T1.setTop (mkF m 10 #[.val (.ref a), .val (.int hvb)] [(.ref a)]))
    obtain ⟨T3, X3, e3, st3⟩ := getF X1 hx hZ hown (host := "") (Or.inl (hw _ (List.mem_of_getElem? (i := 82) rfl))) Via.refl e1 F_hashIsZero_a (g := (mkF m 10 #[.val (.ref a), .val (.int hvb)] [(.ref a)])) rfl rfl (hb hby d12_10)
    refine go st3 ?_
    show Go p e below _ (T3.setTop (mkF m 13 #[.val (.ref a), .val (.int hvb)] [(.int zvb)]))
    by_cases c13_4 : ¬ zvb = (0 : Int32)
    · skip
      refine go (fun t kt' => by refine XS.ifYes X3.here hx rfl (pc0 := 13) (pc' := 58) rfl (hb hby d12_13) rfl ((if0 _ _).trans (feq c13_4).2) (by decide) (by decide) ?_; exact kt') ?_
      show Go p e below _ (T3.setTop (mkF m 58 #[.val (.ref a), .val (.int hvb)] []))
      refine go (fun t kt' => by refine XS.iloadN X3.here hx rfl (hb hby d12_58) rfl ?_; exact kt') ?_
      show Go p e below _ (T3.setTop (mkF m 59 #[.val (.ref a), .val (.int hvb)] [(.int hvb)]))
      refine goOut X3 (fun h => by rw [Bd.returns] at h; cases h) hlk (fun fs hr => retOut X3 hx Bd.returns rfl (Or.inl ⟨rfl, Or.inl rfl, _, rfl⟩) (hb hby d12_59) hr) (by decide) (by decide) ?_
      rw [e3]
      exact ⟨by rw [hzvb.resolve_left c13_4, Decidable.not_not.mp c6_2], N0, Keep.refl _ _, own_PS.refl _ _ _, OO⟩
    · skip
      refine go (fun t kt' => by refine XS.ifNo X3.here hx rfl (hb hby d12_13) rfl ((if0 _ _).trans (teq (Decidable.not_not.mp c13_4)).2) ?_; exact kt') ?_
      show Go p e below _ (T3.setTop (mkF m 16 #[.val (.ref a), .val (.int hvb)] []))
      refine go (fun t kt' => by refine XS.aloadN X3.here hx rfl (hb hby d12_16) rfl rfl ?_; exact kt') ?_
      show Go p e below _ (T3.setTop (mkF m 17 #[.val (.ref a), .val (.int hvb)] [(.ref a)]))
      obtain ⟨cq5, kq5, q5a, q5b, q5c⟩ := isOf hZ e3 E_a
      obtain ⟨_, _, ⟨T5, L5, k5, n5⟩, -, X5, ⟨Lc5, hQ5, l5, y5, z5⟩, st5⟩ := X3.virtualBack hx (y := (⟨"java/lang/String", "isLatin1", "()Z"⟩ : MethodName)) (z := (⟨"java/lang/String", "isLatin1", "()Z"⟩ : MethodName)) hown (mvT hZ (hw _ (List.mem_of_getElem? (i := 84) rfl))) (mvT hZ (hw _ (List.mem_of_getElem? (i := 85) rfl))) (notFace_of_selects (args := #[]) (mvT hZ (hw _ (List.mem_of_getElem? (i := 87) rfl)))) (mvT hZ (hw _ (List.mem_of_getElem? (i := 87) rfl))) (mvT hZ (hw _ (List.mem_of_getElem? (i := 86) rfl))) (by decide) (backOf (W := 0) (rm_l1 l Z a0 hw [] a cs rd  h0 n0 Z0 HS OO E_a F_coder_a) hZ (hw _ (List.mem_of_getElem? (i := 88) rfl)) (hw _ (List.mem_of_getElem? (i := 2) rfl)) (by decide) (by decide)) q5a q5c (g := (mkF m 17 #[.val (.ref a), .val (.int hvb)] [(.ref a)])) rfl (by rw [hml]; rfl) (Steps.refl _) (argsL := []) (rest := []) (lenOf pd_0 rfl) rfl (by show 2 * 0 + _ ≤ _; exact Nat.le_of_eq rfl) (hb hby d12_17) (fun _ _ => ⟨rfl, e3, (by decide : 0 + 0 ≤ _), (by decide : 0 + 0 ≤ _)⟩)
      dsimp only [Pt.U, Pt.locs, Pt.cells, Pt.slots] at X5 l5 y5 z5 st5 hQ5
      rw [l5, y5, z5] at X5
      obtain ⟨rfl, N5q, e5⟩ := hQ5
      have N5 := Fr.app N0 N5q
      refine go (fun t kt => st5.trans kt) ?_
      show Go p e below _ (T5.setTop (mkF m 20 #[.val (.ref a), .val (.int hvb)] [(.int (1 : Int32))]))
      have c20_6 : ¬ ((1 : Int32) = (0 : Int32)) := by decide
      refine go (fun t kt' => by refine XS.ifNo X5.here hx rfl (hb hby d12_20) rfl ((if0 _ _).trans (feq c20_6).1) ?_; exact kt') ?_
      show Go p e below _ (T5.setTop (mkF m 23 #[.val (.ref a), .val (.int hvb)] []))
      refine go (fun t kt' => by refine XS.aloadN X5.here hx rfl (hb hby d12_23) rfl rfl ?_; exact kt') ?_
      show Go p e below _ (T5.setTop (mkF m 24 #[.val (.ref a), .val (.int hvb)] [(.ref a)]))
      obtain ⟨T7, X7, e7, st7⟩ := getF X5 hx hZ hown (host := "") (Or.inl (hw _ (List.mem_of_getElem? (i := 22) rfl))) Via.refl e5 F_value_a (g := (mkF m 24 #[.val (.ref a), .val (.int hvb)] [(.ref a)])) rfl rfl (hb hby d12_24)
      refine go st7 ?_
      show Go p e below _ (T7.setTop (mkF m 27 #[.val (.ref a), .val (.int hvb)] [(.ref bb)]))
      obtain ⟨_, _, ⟨T8, L8, k8, n8⟩, -, X8, ⟨Lc8, hQ8, l8, y8, z8⟩, st8⟩ := Jvm.LawKit.callS X7 hx (y := (⟨"java/lang/StringLatin1", "hashCode", "([B)I"⟩ : MethodName)) hown (mvT hZ (hw _ (List.mem_of_getElem? (i := 89) rfl))) (mvT hZ (hw _ (List.mem_of_getElem? (i := 90) rfl))) (mvT hZ (hw _ (List.mem_of_getElem? (i := 7) rfl))) (mvT hZ (hw _ (List.mem_of_getElem? (i := 91) rfl))) (by decide) (backOf (W := 0) (rm_lh l Z a0 hw [] bb cs rd (own_bt xx) h0 n0 Z0 HS OO V_bb) hZ (hw _ (List.mem_of_getElem? (i := 91) rfl)) (hw _ (List.mem_of_getElem? (i := 7) rfl)) (by decide) (by decide)) (g := (mkF m 27 #[.val (.ref a), .val (.int hvb)] [(.ref bb)])) rfl (by rw [hml]; rfl) (argsL := [(.ref bb)]) (rest := []) (lenOf pd_1 rfl) rfl (by show 2 * 0 + _ ≤ _; exact Nat.le_of_eq rfl) (hb hby d12_27) (fun _ _ => ⟨rfl, e7, (by decide : 0 + 0 ≤ _), (by decide : 0 + 0 ≤ _)⟩)
      dsimp only [Pt.U, Pt.locs, Pt.cells, Pt.slots] at X8 l8 y8 z8 st8 hQ8
      rw [l8, y8, z8] at X8
      obtain ⟨rfl, N8q, e8⟩ := hQ8
      have N8 := Fr.app N5 N8q
      refine go st8 ?_
      show Go p e below _ (T8.setTop (mkF m 30 #[.val (.ref a), .val (.int hvb)] [(.int (own_H xx))]))
      refine go (fun t kt' => by refine XS.goto X8.here hx rfl (pc0 := 30) (pc' := 40) rfl (hb hby d12_30) (by decide) (by decide) ?_; exact kt') ?_
      show Go p e below _ (T8.setTop (mkF m 40 #[.val (.ref a), .val (.int hvb)] [(.int (own_H xx))]))
      refine go (fun t kt' => by refine XS.istoreN X8.here hx rfl (hb hby d12_40) rfl (l' := #[.val (.ref a), .val (.int (own_H xx))]) rfl ?_; exact kt') ?_
      show Go p e below _ (T8.setTop (mkF m 41 #[.val (.ref a), .val (.int (own_H xx))] []))
      refine go (fun t kt' => by refine XS.iloadN X8.here hx rfl (hb hby d12_41) rfl ?_; exact kt') ?_
      show Go p e below _ (T8.setTop (mkF m 42 #[.val (.ref a), .val (.int (own_H xx))] [(.int (own_H xx))]))
      by_cases c42_9 : ¬ (own_H xx) = (0 : Int32)
      · skip
        refine go (fun t kt' => by refine XS.ifYes X8.here hx rfl (pc0 := 42) (pc' := 53) rfl (hb hby d12_42) rfl ((if0 _ _).trans (feq c42_9).2) (by decide) (by decide) ?_; exact kt') ?_
        show Go p e below _ (T8.setTop (mkF m 53 #[.val (.ref a), .val (.int (own_H xx))] []))
        refine go (fun t kt' => by refine XS.aloadN X8.here hx rfl (hb hby d12_53) rfl rfl ?_; exact kt') ?_
        show Go p e below _ (T8.setTop (mkF m 54 #[.val (.ref a), .val (.int (own_H xx))] [(.ref a)]))
        refine go (fun t kt' => by refine XS.iloadN X8.here hx rfl (hb hby d12_54) rfl ?_; exact kt') ?_
        show Go p e below _ (T8.setTop (mkF m 55 #[.val (.ref a), .val (.int (own_H xx))] [(.int (own_H xx)), (.ref a)]))
        obtain ⟨T10, h10, X10, e10, W10, st10⟩ := putF X8 hx hZ hown (host := "") (Or.inl (hw _ (List.mem_of_getElem? (i := 80) rfl))) Via.refl e8 F_hash_a E_a (Or.inl (hw _ (List.mem_of_getElem? (i := 81) rfl))) (hw _ (List.mem_of_getElem? (i := 10) rfl)) (ty := .int) (by decide) rfl rfl (g := (mkF m 55 #[.val (.ref a), .val (.int (own_H xx))] [(.int (own_H xx)), (.ref a)])) rfl rfl (hb hby d12_55)
        have N10 := Fr.snoc X10 N8 g_a
        have f11_Z := Nat.le_trans Z0 (Keep.of_wr W10).1
        have f12_O := OO.wr W10 g_a
        have f13_E_a := E_a.wr W10
        have f14_F_a_coder := F_coder_a.other W10 (Or.inr (slot_ne (Or.inr (hw _ (List.mem_of_getElem? (i := 25) rfl))) (Or.inl (hw _ (List.mem_of_getElem? (i := 81) rfl))) (by decide) (t := .byte) (t' := .int) (by decide) (by decide)))
        have f15_F_a_value := F_value_a.other W10 (Or.inr (slot_ne (Or.inr (hw _ (List.mem_of_getElem? (i := 23) rfl))) (Or.inl (hw _ (List.mem_of_getElem? (i := 81) rfl))) (by decide) (t := (.array .byte)) (t' := .int) (by decide) (by decide)))
        have f16_F_a_hash := F_hash_a.same W10
        have f17_F_a_hashIsZero := F_hashIsZero_a.other W10 (Or.inr (slot_ne (Or.inl (hw _ (List.mem_of_getElem? (i := 83) rfl))) (Or.inl (hw _ (List.mem_of_getElem? (i := 81) rfl))) (by decide) (t := .boolean) (t' := .int) (by decide) (by decide)))
        have f18_A_bb := V_bb.other W10 ne_bb_a
        have f19_K := K0.wr W10 (Or.inl (List.mem_of_getElem? (i := 0) rfl))
        refine go st10 ?_
        show Go p e below _ (T10.setTop (mkF m 58 #[.val (.ref a), .val (.int (own_H xx))] []))
        refine go (fun t kt' => by refine XS.iloadN X10.here hx rfl (hb hby d12_58) rfl ?_; exact kt') ?_
        show Go p e below _ (T10.setTop (mkF m 59 #[.val (.ref a), .val (.int (own_H xx))] [(.int (own_H xx))]))
        refine goOut X10 (fun h => by rw [Bd.returns] at h; cases h) hlk (fun fs hr => retOut X10 hx Bd.returns rfl (Or.inl ⟨rfl, Or.inl rfl, _, rfl⟩) (hb hby d12_59) hr) (by decide) (by decide) ?_
        rw [e10]
        exact ⟨rfl, N10, f19_K, own_wh hw S_a W10, f12_O⟩
      · skip
        refine go (fun t kt' => by refine XS.ifNo X8.here hx rfl (hb hby d12_42) rfl ((if0 _ _).trans (teq (Decidable.not_not.mp c42_9)).2) ?_; exact kt') ?_
        show Go p e below _ (T8.setTop (mkF m 45 #[.val (.ref a), .val (.int (own_H xx))] []))
        refine go (fun t kt' => by refine XS.aloadN X8.here hx rfl (hb hby d12_45) rfl rfl ?_; exact kt') ?_
        show Go p e below _ (T8.setTop (mkF m 46 #[.val (.ref a), .val (.int (own_H xx))] [(.ref a)]))
        refine go (fun t kt' => by refine XS.iconst X8.here hx rfl (hb hby d12_46) ?_; exact kt') ?_
        show Go p e below _ (T8.setTop (mkF m 47 #[.val (.ref a), .val (.int (own_H xx))] [(.int (1 : Int32)), (.ref a)]))
        obtain ⟨T20, h20, X20, e20, W20, st20⟩ := putFN X8 hx hZ hown (hw _ (List.mem_of_getElem? (i := 82) rfl)) Via.refl e8 F_hashIsZero_a E_a (Or.inl (hw _ (List.mem_of_getElem? (i := 83) rfl))) (hw _ (List.mem_of_getElem? (i := 10) rfl)) (ty := .boolean) (v' := (.int (nar .boolean (1 : Int32)))) (by decide) rfl (fits_nar_bool _) (g := (mkF m 47 #[.val (.ref a), .val (.int (own_H xx))] [(.int (1 : Int32)), (.ref a)])) rfl rfl (hb hby d12_47)
        have N20 := Fr.snoc X20 N8 g_a
        have f21_Z := Nat.le_trans Z0 (Keep.of_wr W20).1
        have f22_O := OO.wr W20 g_a
        have f23_E_a := E_a.wr W20
        have f24_F_a_coder := F_coder_a.other W20 (Or.inr (slot_ne (Or.inr (hw _ (List.mem_of_getElem? (i := 25) rfl))) (Or.inl (hw _ (List.mem_of_getElem? (i := 83) rfl))) (by decide) (t := .byte) (t' := .boolean) (by decide) (by decide)))
        have f25_F_a_value := F_value_a.other W20 (Or.inr (slot_ne (Or.inr (hw _ (List.mem_of_getElem? (i := 23) rfl))) (Or.inl (hw _ (List.mem_of_getElem? (i := 83) rfl))) (by decide) (t := (.array .byte)) (t' := .boolean) (by decide) (by decide)))
        have f26_F_a_hash := F_hash_a.other W20 (Or.inr (slot_ne (Or.inl (hw _ (List.mem_of_getElem? (i := 81) rfl))) (Or.inl (hw _ (List.mem_of_getElem? (i := 83) rfl))) (by decide) (t := .int) (t' := .boolean) (by decide) (by decide)))
        have f27_F_a_hashIsZero := F_hashIsZero_a.same W20
        have f28_A_bb := V_bb.other W20 ne_bb_a
        have f29_K := K0.wr W20 (Or.inl (List.mem_of_getElem? (i := 0) rfl))
        refine go st20 ?_
        show Go p e below _ (T20.setTop (mkF m 50 #[.val (.ref a), .val (.int (own_H xx))] []))
        refine go (fun t kt' => by refine XS.goto X20.here hx rfl (pc0 := 50) (pc' := 58) rfl (hb hby d12_50) (by decide) (by decide) ?_; exact kt') ?_
        show Go p e below _ (T20.setTop (mkF m 58 #[.val (.ref a), .val (.int (own_H xx))] []))
        refine go (fun t kt' => by refine XS.iloadN X20.here hx rfl (hb hby d12_58) rfl ?_; exact kt') ?_
        show Go p e below _ (T20.setTop (mkF m 59 #[.val (.ref a), .val (.int (own_H xx))] [(.int (own_H xx))]))
        refine goOut X20 (fun h => by rw [Bd.returns] at h; cases h) hlk (fun fs hr => retOut X20 hx Bd.returns rfl (Or.inl ⟨rfl, Or.inl rfl, _, rfl⟩) (hb hby d12_59) hr) (by decide) (by decide) ?_
        rw [e20]
        exact ⟨rfl, N20, f29_K, own_wz hw S_a (Decidable.not_not.mp c42_9) W20, f22_O⟩
theorem d11_0 : decode prog_120_method_10_code 0 = .ok (.aload_n 0, 1) := by decide +kernel
theorem d11_1 : decode prog_120_method_10_code 1 = .ok (.getfield 45, 3) := by decide +kernel
theorem d11_4 : decode prog_120_method_10_code 4 = .ok (.ifCond .eq 28, 3) := by decide +kernel
theorem d11_32 : decode prog_120_method_10_code 32 = .ok (.aload_n 2, 1) := by decide +kernel
theorem d11_33 : decode prog_120_method_10_code 33 = .ok (.ifnonnull 10, 3) := by decide +kernel
theorem d11_36 : decode prog_120_method_10_code 36 = .ok (.aload_n 1, 1) := by decide +kernel
theorem d11_37 : decode prog_120_method_10_code 37 = .ok (.invokevirtual 74, 3) := by decide +kernel
theorem pd_2 : parseMethodDescriptor "()I" = some ⟨[], some .int⟩ := by decide +kernel
theorem d11_40 : decode prog_120_method_10_code 40 = .ok (.goto 15, 3) := by decide +kernel
theorem d11_55 : decode prog_120_method_10_code 55 = .ok (.ireturn, 1) := by decide +kernel
theorem pn_com_example_casewright_casewright_formats_HashIndex : plainName "com/example/casewright/casewright/formats/HashIndex" = true := by first | (simp [plainName, overriddenIn]; done) | decide +kernel
theorem ef_rm_hs (m : MethodId) (x0 : Addr) (x1 : Addr) : entryFrame m #[(.ref x0), (.ref x1), .null] 3 = mkF m 0 #[.val (.ref x0), .val (.ref x1), .val .null] [] := by first | (simp [entryFrame, mkF, argsToLocals, Value.category]; done) | rfl
def Q_hs (Z : State) (a1 : Addr) (xx : Int32) (h0 : Heap) (n0 : Nat) (v : Option Value) (h : Heap) (L : List Loc) : Prop := v = some (.int (own_H xx)) ∧ Fr n0 L ∧ Keep h0 h [a1] ∧ own_PS Z n0 h0 h ∧ Old Z n0 h
set_option maxRecDepth 65536 in
set_option maxHeartbeats 40000000 in
theorem rm_hs (l : Launch) (Z : State) (a0 : Array Value) (hw : ∀ d ∈ tables_1, d.before a0 Z = true) (ws : List Jvm.Cond) (ob : Addr) (a1 : Addr) (cs : Int32) (rd : Addr) (xx : Int32) (h0 : Heap) (n0 : Nat) (Z0 : n0 ≤ h0.size) (HS : own_sets Z cs rd) (OO : Old Z n0 h0) (E_ob : Exa Z h0 ob "com/example/casewright/casewright/formats/HashIndex") (F_hashedAtRandom_ob : Fld Z h0 ob "com/example/casewright/casewright/formats/HashIndex" "hashedAtRandom" "Z" (.int (0 : Int32))) (S_a1 : own_St Z n0 h0 a1 xx) :
    MetFree l (⟨"com/example/casewright/casewright/formats/HashIndex", "hash", "(Ljava/lang/String;Ljava/lang/String;)I"⟩ : MethodName) (head1 (Jvm.Cond.code (⟨"com/example/casewright/casewright/formats/HashIndex", "hash", "(Ljava/lang/String;Ljava/lang/String;)I"⟩ : MethodName) prog_120_method_10_code 3 (some .int) :: ws) ({ frames := 2, cells := 0, slots := 0, locals := 25 } : Room)) (fun av' U => av' = #[(.ref ob), (.ref a1), .null] ∧ Z.Warmed39 U.vm ∧ U.heap = h0) (fun _ _ _ _ _ => True) (fun _ U o U' => ∃ v L, o = .returned v ∧ Q_hs Z a1 xx h0 n0 v U'.heap L ∧ FrameEnd U o U' L ({ frames := 2, cells := 0, slots := 0, locals := 25 } : Room).cells ({ frames := 2, cells := 0, slots := 0, locals := 25 } : Room).slots) := by
  refine MetFree.of_bodySF (plainFor_of_name pn_com_example_casewright_casewright_formats_HashIndex) hisR ?_
  intro p e s m args below meth c s₁ Bd hml0 hP hK
  obtain ⟨rfl, hZ, hh⟩ := hP
  have hx := Bd.exec
  have hby := Bd.bytes
  have hlk := Bd.notSynchronized
  have hml : c.maxLocals = 3 := hml0
  have hown : s.vm.findClass "com/example/casewright/casewright/formats/HashIndex" = some m.cls := findClass_of_methodNamed Bd.named
  have hnm := (name_of_methodNamed Bd.named Bd.method).1
  have X0 : Stand p l e ({ frames := 2, cells := 0, slots := 0, locals := 25 } : Room) s m #[(.ref ob), (.ref a1), .null] below meth c s₁ [] 0 0 := Stand.of_body Bd
  have e0 : s₁.heap = h0 := by rw [← hh, Bd.state]; rfl
  have N0 := Fr.nil n0
  show Go p e below (Kq s (Q_hs Z a1 xx h0 n0) ({ frames := 2, cells := 0, slots := 0, locals := 25 } : Room).cells ({ frames := 2, cells := 0, slots := 0, locals := 25 } : Room).slots) _
  refine go (fun t kt => castTop (ef_rm_hs m ob a1) kt) ?_
  have HS0 := HS
  obtain ⟨S_cs, hcs, S_rd⟩ := HS0
  have E_a1 := S_a1.2.1
  have K0 := Keep.refl h0 [a1]
  have P0 := own_PS.refl Z n0 h0
  have ne_o_a1 := ne_exa E_ob E_a1 (by decide)
  show Go p e below _ (s₁.setTop (mkF m 0 #[.val (.ref ob), .val (.ref a1), .val .null] []))
  refine go (fun t kt' => by refine XS.aloadN X0.here hx rfl (hb hby d11_0) rfl rfl ?_; exact kt') ?_
  show Go p e below _ (s₁.setTop (mkF m 1 #[.val (.ref ob), .val (.ref a1), .val .null] [(.ref ob)]))
  obtain ⟨T1, X1, e1, st1⟩ := getF X0 hx hZ hown (host := "") (Or.inl (hw _ (List.mem_of_getElem? (i := 73) rfl))) Via.refl e0 F_hashedAtRandom_ob (g := (mkF m 1 #[.val (.ref ob), .val (.ref a1), .val .null] [(.ref ob)])) rfl rfl (hb hby d11_1)
  refine go st1 ?_
  show Go p e below _ (T1.setTop (mkF m 4 #[.val (.ref ob), .val (.ref a1), .val .null] [(.int (0 : Int32))]))
  have c4_2 : (0 : Int32) = (0 : Int32) := by decide
  refine go (fun t kt' => by refine XS.ifYes X1.here hx rfl (pc0 := 4) (pc' := 32) rfl (hb hby d11_4) rfl ((if0 _ _).trans (teq c4_2).1) (by decide) (by decide) ?_; exact kt') ?_
  show Go p e below _ (T1.setTop (mkF m 32 #[.val (.ref ob), .val (.ref a1), .val .null] []))
  refine go (fun t kt' => by refine XS.aloadN X1.here hx rfl (hb hby d11_32) rfl rfl ?_; exact kt') ?_
  show Go p e below _ (T1.setTop (mkF m 33 #[.val (.ref ob), .val (.ref a1), .val .null] [.null]))
  refine go (fun t kt' => by refine XS.ifnonnullNo X1.here hx rfl (hb hby d11_33) rfl ?_; exact kt') ?_
  show Go p e below _ (T1.setTop (mkF m 36 #[.val (.ref ob), .val (.ref a1), .val .null] []))
  refine go (fun t kt' => by refine XS.aloadN X1.here hx rfl (hb hby d11_36) rfl rfl ?_; exact kt') ?_
  show Go p e below _ (T1.setTop (mkF m 37 #[.val (.ref ob), .val (.ref a1), .val .null] [(.ref a1)]))
  obtain ⟨cq3, kq3, q3a, q3b, q3c⟩ := isOf hZ e1 E_a1
  obtain ⟨_, _, ⟨T3, L3, k3, n3⟩, -, X3, ⟨Lc3, hQ3, l3, y3, z3⟩, st3⟩ := X1.virtualBack hx (y := (⟨"java/lang/String", "hashCode", "()I"⟩ : MethodName)) (z := (⟨"java/lang/String", "hashCode", "()I"⟩ : MethodName)) hown (mvT hZ (hw _ (List.mem_of_getElem? (i := 75) rfl))) (mvT hZ (hw _ (List.mem_of_getElem? (i := 76) rfl))) (notFace_of_selects (args := #[]) (mvT hZ (hw _ (List.mem_of_getElem? (i := 78) rfl)))) (mvT hZ (hw _ (List.mem_of_getElem? (i := 78) rfl))) (mvT hZ (hw _ (List.mem_of_getElem? (i := 77) rfl))) (by decide) (backOf (W := 0) (rm_hc l Z a0 hw [] a1 cs rd xx h0 n0 Z0 HS OO S_a1) hZ (hw _ (List.mem_of_getElem? (i := 79) rfl)) (hw _ (List.mem_of_getElem? (i := 2) rfl)) (by decide) (by decide)) q3a q3c (g := (mkF m 37 #[.val (.ref ob), .val (.ref a1), .val .null] [(.ref a1)])) rfl (by rw [hml]; rfl) (Steps.refl _) (argsL := []) (rest := []) (lenOf pd_2 rfl) rfl (by show 2 * 0 + _ ≤ _; exact Nat.le_of_eq rfl) (hb hby d11_37) (fun _ _ => ⟨rfl, e1, (by decide : 0 + 0 ≤ _), (by decide : 0 + 0 ≤ _)⟩)
  dsimp only [Pt.U, Pt.locs, Pt.cells, Pt.slots] at X3 l3 y3 z3 st3 hQ3
  rw [l3, y3, z3] at X3
  obtain ⟨rfl, N3q, K3, PS3, OO3⟩ := hQ3
  have N3 := Fr.app N0 N3q
  have f4_Z := Nat.le_trans Z0 K3.1
  have f5_E_ob := E_ob.keep K3
  have f6_F_ob_hashedAtRandom := F_hashedAtRandom_ob.keep K3 (ninS ne_o_a1 nin0)
  have f7_T_a1 := PS3 _ _ S_a1
  have f8_E_a1 := E_a1.keep K3
  have f9_K := K0.trans K3 (allS (Or.inl (List.mem_of_getElem? (i := 0) rfl)) all0)
  have f10_P := own_PS.trans P0 PS3
  refine go (fun t kt => st3.trans kt) ?_
  show Go p e below _ (T3.setTop (mkF m 40 #[.val (.ref ob), .val (.ref a1), .val .null] [(.int (own_H xx))]))
  refine go (fun t kt' => by refine XS.goto X3.here hx rfl (pc0 := 40) (pc' := 55) rfl (hb hby d11_40) (by decide) (by decide) ?_; exact kt') ?_
  show Go p e below _ (T3.setTop (mkF m 55 #[.val (.ref ob), .val (.ref a1), .val .null] [(.int (own_H xx))]))
  refine goOut X3 (fun h => by rw [Bd.returns] at h; cases h) hlk (fun fs hr => retOut X3 hx Bd.returns rfl (Or.inl ⟨rfl, Or.inl rfl, _, rfl⟩) (hb hby d11_55) hr) (by decide) (by decide) ?_
  exact ⟨rfl, N3, f9_K, f10_P, OO3⟩
theorem d16_0 : decode jdk_33_method_47_code 0 = .ok (.iload_n 0, 1) := by decide +kernel
theorem d16_1 : decode jdk_33_method_47_code 1 = .ok (.ifCond .gt 14, 3) := by decide +kernel
theorem d16_15 : decode jdk_33_method_47_code 15 = .ok (.bipush 31, 2) := by decide +kernel
theorem d16_17 : decode jdk_33_method_47_code 17 = .ok (.istore_n 1, 1) := by decide +kernel
theorem d16_18 : decode jdk_33_method_47_code 18 = .ok (.iload_n 0, 1) := by decide +kernel
theorem d16_19 : decode jdk_33_method_47_code 19 = .ok (.ldc_w 264, 3) := by decide +kernel
theorem d16_22 : decode jdk_33_method_47_code 22 = .ok (.if_icmp .lt 11, 3) := by decide +kernel
theorem d16_33 : decode jdk_33_method_47_code 33 = .ok (.iload_n 0, 1) := by decide +kernel
theorem d16_34 : decode jdk_33_method_47_code 34 = .ok (.sipush 256, 3) := by decide +kernel
theorem d16_37 : decode jdk_33_method_47_code 37 = .ok (.if_icmp .lt 11, 3) := by decide +kernel
theorem d16_48 : decode jdk_33_method_47_code 48 = .ok (.iload_n 0, 1) := by decide +kernel
theorem d16_49 : decode jdk_33_method_47_code 49 = .ok (.bipush 16, 2) := by decide +kernel
theorem d16_51 : decode jdk_33_method_47_code 51 = .ok (.if_icmp .lt 10, 3) := by decide +kernel
theorem d16_61 : decode jdk_33_method_47_code 61 = .ok (.iload_n 0, 1) := by decide +kernel
theorem d16_62 : decode jdk_33_method_47_code 62 = .ok (.iconst 4, 1) := by decide +kernel
theorem d16_63 : decode jdk_33_method_47_code 63 = .ok (.if_icmp .lt 10, 3) := by decide +kernel
theorem d16_66 : decode jdk_33_method_47_code 66 = .ok (.iinc 1 (-2), 3) := by decide +kernel
theorem d16_69 : decode jdk_33_method_47_code 69 = .ok (.iload_n 0, 1) := by decide +kernel
theorem d16_70 : decode jdk_33_method_47_code 70 = .ok (.iconst 2, 1) := by decide +kernel
theorem d16_71 : decode jdk_33_method_47_code 71 = .ok (.iushr, 1) := by decide +kernel
theorem d16_72 : decode jdk_33_method_47_code 72 = .ok (.istore_n 0, 1) := by decide +kernel
theorem d16_73 : decode jdk_33_method_47_code 73 = .ok (.iload_n 1, 1) := by decide +kernel
theorem d16_74 : decode jdk_33_method_47_code 74 = .ok (.iload_n 0, 1) := by decide +kernel
theorem d16_75 : decode jdk_33_method_47_code 75 = .ok (.iconst 1, 1) := by decide +kernel
theorem d16_76 : decode jdk_33_method_47_code 76 = .ok (.iushr, 1) := by decide +kernel
theorem d16_77 : decode jdk_33_method_47_code 77 = .ok (.isub, 1) := by decide +kernel
theorem d16_78 : decode jdk_33_method_47_code 78 = .ok (.ireturn, 1) := by decide +kernel
theorem pn_java_lang_Integer : plainName "java/lang/Integer" = true := by first | (simp [plainName, overriddenIn]; done) | decide +kernel
theorem ef_rm_nz (m : MethodId)  : entryFrame m #[(.int (15 : Int32))] 2 = mkF m 0 #[.val (.int (15 : Int32)), .unset] [] := by first | (simp [entryFrame, mkF, argsToLocals, Value.category]; done) | rfl
def Q_nz (Z : State)  (h0 : Heap) (n0 : Nat) (v : Option Value) (h : Heap) (L : List Loc) : Prop := v = some (.int (28 : Int32)) ∧ Fr n0 L ∧ h = h0
set_option maxRecDepth 65536 in
set_option maxHeartbeats 40000000 in
theorem rm_nz (l : Launch) (Z : State) (a0 : Array Value) (hw : ∀ d ∈ tables_1, d.before a0 Z = true) (ws : List Jvm.Cond)  (cs : Int32) (rd : Addr)  (h0 : Heap) (n0 : Nat) (Z0 : n0 ≤ h0.size) (HS : own_sets Z cs rd) (OO : Old Z n0 h0)  :
    MetFree l (⟨"java/lang/Integer", "numberOfLeadingZeros", "(I)I"⟩ : MethodName) (head1 (Jvm.Cond.code (⟨"java/lang/Integer", "numberOfLeadingZeros", "(I)I"⟩ : MethodName) jdk_33_method_47_code 2 (some .int) :: ws) ({ frames := 0, cells := 0, slots := 0, locals := 0 } : Room)) (fun av' U => av' = #[(.int (15 : Int32))] ∧ Z.Warmed39 U.vm ∧ U.heap = h0) (fun _ _ _ _ _ => True) (fun _ U o U' => ∃ v L, o = .returned v ∧ Q_nz Z  h0 n0 v U'.heap L ∧ FrameEnd U o U' L ({ frames := 0, cells := 0, slots := 0, locals := 0 } : Room).cells ({ frames := 0, cells := 0, slots := 0, locals := 0 } : Room).slots) := by
  refine MetFree.of_bodySF (plainFor_of_name pn_java_lang_Integer) hisR ?_
  intro p e s m args below meth c s₁ Bd hml0 hP hK
  obtain ⟨rfl, hZ, hh⟩ := hP
  have hx := Bd.exec
  have hby := Bd.bytes
  have hlk := Bd.notSynchronized
  have hml : c.maxLocals = 2 := hml0
  have hown : s.vm.findClass "java/lang/Integer" = some m.cls := findClass_of_methodNamed Bd.named
  have hnm := (name_of_methodNamed Bd.named Bd.method).1
  have X0 : Stand p l e ({ frames := 0, cells := 0, slots := 0, locals := 0 } : Room) s m #[(.int (15 : Int32))] below meth c s₁ [] 0 0 := Stand.of_body Bd
  have e0 : s₁.heap = h0 := by rw [← hh, Bd.state]; rfl
  have N0 := Fr.nil n0
  show Go p e below (Kq s (Q_nz Z  h0 n0) ({ frames := 0, cells := 0, slots := 0, locals := 0 } : Room).cells ({ frames := 0, cells := 0, slots := 0, locals := 0 } : Room).slots) _
  refine go (fun t kt => castTop (ef_rm_nz m ) kt) ?_
  have HS0 := HS
  obtain ⟨S_cs, hcs, S_rd⟩ := HS0
  show Go p e below _ (s₁.setTop (mkF m 0 #[.val (.int (15 : Int32)), .unset] []))
  refine go (fun t kt' => by refine XS.iloadN X0.here hx rfl (hb hby d16_0) rfl ?_; exact kt') ?_
  show Go p e below _ (s₁.setTop (mkF m 1 #[.val (.int (15 : Int32)), .unset] [(.int (15 : Int32))]))
  have c1_1 : (0 : Int32) < (15 : Int32) := by decide
  refine go (fun t kt' => by refine XS.ifYes X0.here hx rfl (pc0 := 1) (pc' := 15) rfl (hb hby d16_1) rfl ((if0 _ _).trans (tlt c1_1).2.2.1) (by decide) (by decide) ?_; exact kt') ?_
  show Go p e below _ (s₁.setTop (mkF m 15 #[.val (.int (15 : Int32)), .unset] []))
  refine go (fun t kt' => by refine XS.bipush X0.here hx rfl (hb hby d16_15) ?_; exact kt') ?_
  show Go p e below _ (s₁.setTop (mkF m 17 #[.val (.int (15 : Int32)), .unset] [(.int (31 : Int32))]))
  refine go (fun t kt' => by refine XS.istoreN X0.here hx rfl (hb hby d16_17) rfl (l' := #[.val (.int (15 : Int32)), .val (.int (31 : Int32))]) rfl ?_; exact kt') ?_
  show Go p e below _ (s₁.setTop (mkF m 18 #[.val (.int (15 : Int32)), .val (.int (31 : Int32))] []))
  refine go (fun t kt' => by refine XS.iloadN X0.here hx rfl (hb hby d16_18) rfl ?_; exact kt') ?_
  show Go p e below _ (s₁.setTop (mkF m 19 #[.val (.int (15 : Int32)), .val (.int (31 : Int32))] [(.int (15 : Int32))]))
  refine go (fun t kt' => by refine X0.ldcWI hx hown (mvT hZ (hw _ (List.mem_of_getElem? (i := 100) rfl))) rfl (hb hby d16_19) ?_; exact kt') ?_
  show Go p e below _ (s₁.setTop (mkF m 22 #[.val (.int (15 : Int32)), .val (.int (31 : Int32))] [(.int (65536 : Int32)), (.int (15 : Int32))]))
  have c22_2 : (15 : Int32) < (65536 : Int32) := by decide
  refine go (fun t kt' => by refine XS.icmpYes X0.here hx rfl (pc0 := 22) (pc' := 33) rfl (hb hby d16_22) rfl (tlt c22_2).1 (by decide) (by decide) ?_; exact kt') ?_
  show Go p e below _ (s₁.setTop (mkF m 33 #[.val (.int (15 : Int32)), .val (.int (31 : Int32))] []))
  refine go (fun t kt' => by refine XS.iloadN X0.here hx rfl (hb hby d16_33) rfl ?_; exact kt') ?_
  show Go p e below _ (s₁.setTop (mkF m 34 #[.val (.int (15 : Int32)), .val (.int (31 : Int32))] [(.int (15 : Int32))]))
  refine go (fun t kt' => by refine XS.sipush X0.here hx rfl (hb hby d16_34) ?_; exact kt') ?_
  show Go p e below _ (s₁.setTop (mkF m 37 #[.val (.int (15 : Int32)), .val (.int (31 : Int32))] [(.int (256 : Int32)), (.int (15 : Int32))]))
  have c37_3 : (15 : Int32) < (256 : Int32) := by decide
  refine go (fun t kt' => by refine XS.icmpYes X0.here hx rfl (pc0 := 37) (pc' := 48) rfl (hb hby d16_37) rfl (tlt c37_3).1 (by decide) (by decide) ?_; exact kt') ?_
  show Go p e below _ (s₁.setTop (mkF m 48 #[.val (.int (15 : Int32)), .val (.int (31 : Int32))] []))
  refine go (fun t kt' => by refine XS.iloadN X0.here hx rfl (hb hby d16_48) rfl ?_; exact kt') ?_
  show Go p e below _ (s₁.setTop (mkF m 49 #[.val (.int (15 : Int32)), .val (.int (31 : Int32))] [(.int (15 : Int32))]))
  refine go (fun t kt' => by refine XS.bipush X0.here hx rfl (hb hby d16_49) ?_; exact kt') ?_
  show Go p e below _ (s₁.setTop (mkF m 51 #[.val (.int (15 : Int32)), .val (.int (31 : Int32))] [(.int (16 : Int32)), (.int (15 : Int32))]))
  have c51_4 : (15 : Int32) < (16 : Int32) := by decide
  refine go (fun t kt' => by refine XS.icmpYes X0.here hx rfl (pc0 := 51) (pc' := 61) rfl (hb hby d16_51) rfl (tlt c51_4).1 (by decide) (by decide) ?_; exact kt') ?_
  show Go p e below _ (s₁.setTop (mkF m 61 #[.val (.int (15 : Int32)), .val (.int (31 : Int32))] []))
  refine go (fun t kt' => by refine XS.iloadN X0.here hx rfl (hb hby d16_61) rfl ?_; exact kt') ?_
  show Go p e below _ (s₁.setTop (mkF m 62 #[.val (.int (15 : Int32)), .val (.int (31 : Int32))] [(.int (15 : Int32))]))
  refine go (fun t kt' => by refine XS.iconst X0.here hx rfl (hb hby d16_62) ?_; exact kt') ?_
  show Go p e below _ (s₁.setTop (mkF m 63 #[.val (.int (15 : Int32)), .val (.int (31 : Int32))] [(.int (4 : Int32)), (.int (15 : Int32))]))
  have c63_5 : ¬ ((15 : Int32) < (4 : Int32)) := by decide
  refine go (fun t kt' => by refine XS.icmpNo X0.here hx rfl (hb hby d16_63) rfl (flt c63_5).1 ?_; exact kt') ?_
  show Go p e below _ (s₁.setTop (mkF m 66 #[.val (.int (15 : Int32)), .val (.int (31 : Int32))] []))
  refine go (fun t kt' => by refine XS.iinc X0.here hx rfl (hb hby d16_66) rfl (l' := #[.val (.int (15 : Int32)), .val (.int ((31 : Int32) + (-2 : Int32)))]) rfl ?_; exact kt') ?_
  show Go p e below _ (s₁.setTop (mkF m 69 #[.val (.int (15 : Int32)), .val (.int ((31 : Int32) + (-2 : Int32)))] []))
  refine go (fun t kt' => by refine XS.iloadN X0.here hx rfl (hb hby d16_69) rfl ?_; exact kt') ?_
  show Go p e below _ (s₁.setTop (mkF m 70 #[.val (.int (15 : Int32)), .val (.int ((31 : Int32) + (-2 : Int32)))] [(.int (15 : Int32))]))
  refine go (fun t kt' => by refine XS.iconst X0.here hx rfl (hb hby d16_70) ?_; exact kt') ?_
  show Go p e below _ (s₁.setTop (mkF m 71 #[.val (.int (15 : Int32)), .val (.int ((31 : Int32) + (-2 : Int32)))] [(.int (2 : Int32)), (.int (15 : Int32))]))
  refine go (fun t kt' => by refine XS.iushr X0.here hx rfl (hb hby d16_71) rfl ?_; exact kt') ?_
  show Go p e below _ (s₁.setTop (mkF m 72 #[.val (.int (15 : Int32)), .val (.int ((31 : Int32) + (-2 : Int32)))] [(.int (((15 : Int32).toUInt32 >>> ((2 : Int32) &&& 31).toUInt32).toInt32))]))
  refine go (fun t kt' => by refine XS.istoreN X0.here hx rfl (hb hby d16_72) rfl (l' := #[.val (.int (((15 : Int32).toUInt32 >>> ((2 : Int32) &&& 31).toUInt32).toInt32)), .val (.int ((31 : Int32) + (-2 : Int32)))]) rfl ?_; exact kt') ?_
  show Go p e below _ (s₁.setTop (mkF m 73 #[.val (.int (((15 : Int32).toUInt32 >>> ((2 : Int32) &&& 31).toUInt32).toInt32)), .val (.int ((31 : Int32) + (-2 : Int32)))] []))
  refine go (fun t kt' => by refine XS.iloadN X0.here hx rfl (hb hby d16_73) rfl ?_; exact kt') ?_
  show Go p e below _ (s₁.setTop (mkF m 74 #[.val (.int (((15 : Int32).toUInt32 >>> ((2 : Int32) &&& 31).toUInt32).toInt32)), .val (.int ((31 : Int32) + (-2 : Int32)))] [(.int ((31 : Int32) + (-2 : Int32)))]))
  refine go (fun t kt' => by refine XS.iloadN X0.here hx rfl (hb hby d16_74) rfl ?_; exact kt') ?_
  show Go p e below _ (s₁.setTop (mkF m 75 #[.val (.int (((15 : Int32).toUInt32 >>> ((2 : Int32) &&& 31).toUInt32).toInt32)), .val (.int ((31 : Int32) + (-2 : Int32)))] [(.int (((15 : Int32).toUInt32 >>> ((2 : Int32) &&& 31).toUInt32).toInt32)), (.int ((31 : Int32) + (-2 : Int32)))]))
  refine go (fun t kt' => by refine XS.iconst X0.here hx rfl (hb hby d16_75) ?_; exact kt') ?_
  show Go p e below _ (s₁.setTop (mkF m 76 #[.val (.int (((15 : Int32).toUInt32 >>> ((2 : Int32) &&& 31).toUInt32).toInt32)), .val (.int ((31 : Int32) + (-2 : Int32)))] [(.int (1 : Int32)), (.int (((15 : Int32).toUInt32 >>> ((2 : Int32) &&& 31).toUInt32).toInt32)), (.int ((31 : Int32) + (-2 : Int32)))]))
  refine go (fun t kt' => by refine XS.iushr X0.here hx rfl (hb hby d16_76) rfl ?_; exact kt') ?_
  show Go p e below _ (s₁.setTop (mkF m 77 #[.val (.int (((15 : Int32).toUInt32 >>> ((2 : Int32) &&& 31).toUInt32).toInt32)), .val (.int ((31 : Int32) + (-2 : Int32)))] [(.int (((((15 : Int32).toUInt32 >>> ((2 : Int32) &&& 31).toUInt32).toInt32).toUInt32 >>> ((1 : Int32) &&& 31).toUInt32).toInt32)), (.int ((31 : Int32) + (-2 : Int32)))]))
  refine go (fun t kt' => by refine XS.isub X0.here hx rfl (hb hby d16_77) rfl ?_; exact kt') ?_
  show Go p e below _ (s₁.setTop (mkF m 78 #[.val (.int (((15 : Int32).toUInt32 >>> ((2 : Int32) &&& 31).toUInt32).toInt32)), .val (.int ((31 : Int32) + (-2 : Int32)))] [(.int (((31 : Int32) + (-2 : Int32)) - (((((15 : Int32).toUInt32 >>> ((2 : Int32) &&& 31).toUInt32).toInt32).toUInt32 >>> ((1 : Int32) &&& 31).toUInt32).toInt32)))]))
  refine goOut X0 (fun h => by rw [Bd.returns] at h; cases h) hlk (fun fs hr => retOut X0 hx Bd.returns rfl (Or.inl ⟨rfl, Or.inl rfl, _, rfl⟩) (hb hby d16_78) hr) (by decide) (by decide) ?_
  rw [e0]
  exact ⟨congrArg some (congrArg Value.int (by decide)), N0, rfl⟩
theorem d15_0 : decode prog_131_method_3_code 0 = .ok (.iload_n 0, 1) := by decide +kernel
theorem d15_1 : decode prog_131_method_3_code 1 = .ok (.ldc 17, 2) := by decide +kernel
theorem d15_3 : decode prog_131_method_3_code 3 = .ok (.imul, 1) := by decide +kernel
theorem d15_4 : decode prog_131_method_3_code 4 = .ok (.iload_n 1, 1) := by decide +kernel
theorem d15_5 : decode prog_131_method_3_code 5 = .ok (.iconst 1, 1) := by decide +kernel
theorem d15_6 : decode prog_131_method_3_code 6 = .ok (.isub, 1) := by decide +kernel
theorem d15_7 : decode prog_131_method_3_code 7 = .ok (.invokestatic 18, 3) := by decide +kernel
theorem pd_3 : parseMethodDescriptor "(I)I" = some ⟨[.int], some .int⟩ := by decide +kernel
theorem d15_10 : decode prog_131_method_3_code 10 = .ok (.iushr, 1) := by decide +kernel
theorem d15_11 : decode prog_131_method_3_code 11 = .ok (.ireturn, 1) := by decide +kernel
theorem pn_com_example_casewright_casewright_formats_StringHash : plainName "com/example/casewright/casewright/formats/StringHash" = true := by first | (simp [plainName, overriddenIn]; done) | decide +kernel
theorem ef_rm_hm (m : MethodId) (x0 : Int32) : entryFrame m #[(.int x0), (.int (16 : Int32))] 2 = mkF m 0 #[.val (.int x0), .val (.int (16 : Int32))] [] := by first | (simp [entryFrame, mkF, argsToLocals, Value.category]; done) | rfl
def Q_hm (Z : State) (p0 : Int32) (h0 : Heap) (n0 : Nat) (v : Option Value) (h : Heap) (L : List Loc) : Prop := v = some (.int (own_home p0)) ∧ Fr n0 L ∧ h = h0
set_option maxRecDepth 65536 in
set_option maxHeartbeats 40000000 in
theorem rm_hm (l : Launch) (Z : State) (a0 : Array Value) (hw : ∀ d ∈ tables_1, d.before a0 Z = true) (ws : List Jvm.Cond) (p0 : Int32) (cs : Int32) (rd : Addr)  (h0 : Heap) (n0 : Nat) (Z0 : n0 ≤ h0.size) (HS : own_sets Z cs rd) (OO : Old Z n0 h0)  :
    MetFree l (⟨"com/example/casewright/casewright/formats/StringHash", "home", "(II)I"⟩ : MethodName) (head1 (Jvm.Cond.code (⟨"com/example/casewright/casewright/formats/StringHash", "home", "(II)I"⟩ : MethodName) prog_131_method_3_code 2 (some .int) :: ws) ({ frames := 1, cells := 0, slots := 0, locals := 14 } : Room)) (fun av' U => av' = #[(.int p0), (.int (16 : Int32))] ∧ Z.Warmed39 U.vm ∧ U.heap = h0) (fun _ _ _ _ _ => True) (fun _ U o U' => ∃ v L, o = .returned v ∧ Q_hm Z p0 h0 n0 v U'.heap L ∧ FrameEnd U o U' L ({ frames := 1, cells := 0, slots := 0, locals := 14 } : Room).cells ({ frames := 1, cells := 0, slots := 0, locals := 14 } : Room).slots) := by
  refine MetFree.of_bodySF (plainFor_of_name pn_com_example_casewright_casewright_formats_StringHash) hisR ?_
  intro p e s m args below meth c s₁ Bd hml0 hP hK
  obtain ⟨rfl, hZ, hh⟩ := hP
  have hx := Bd.exec
  have hby := Bd.bytes
  have hlk := Bd.notSynchronized
  have hml : c.maxLocals = 2 := hml0
  have hown : s.vm.findClass "com/example/casewright/casewright/formats/StringHash" = some m.cls := findClass_of_methodNamed Bd.named
  have hnm := (name_of_methodNamed Bd.named Bd.method).1
  have X0 : Stand p l e ({ frames := 1, cells := 0, slots := 0, locals := 14 } : Room) s m #[(.int p0), (.int (16 : Int32))] below meth c s₁ [] 0 0 := Stand.of_body Bd
  have e0 : s₁.heap = h0 := by rw [← hh, Bd.state]; rfl
  have N0 := Fr.nil n0
  show Go p e below (Kq s (Q_hm Z p0 h0 n0) ({ frames := 1, cells := 0, slots := 0, locals := 14 } : Room).cells ({ frames := 1, cells := 0, slots := 0, locals := 14 } : Room).slots) _
  refine go (fun t kt => castTop (ef_rm_hm m p0) kt) ?_
  have HS0 := HS
  obtain ⟨S_cs, hcs, S_rd⟩ := HS0
  show Go p e below _ (s₁.setTop (mkF m 0 #[.val (.int p0), .val (.int (16 : Int32))] []))
  refine go (fun t kt' => by refine XS.iloadN X0.here hx rfl (hb hby d15_0) rfl ?_; exact kt') ?_
  show Go p e below _ (s₁.setTop (mkF m 1 #[.val (.int p0), .val (.int (16 : Int32))] [(.int p0)]))
  refine go (fun t kt' => by refine X0.ldcI hx hown (mvT hZ (hw _ (List.mem_of_getElem? (i := 95) rfl))) rfl (hb hby d15_1) ?_; exact kt') ?_
  show Go p e below _ (s₁.setTop (mkF m 3 #[.val (.int p0), .val (.int (16 : Int32))] [(.int (-1640531527 : Int32)), (.int p0)]))
  refine go (fun t kt' => by refine XS.imul X0.here hx rfl (hb hby d15_3) rfl ?_; exact kt') ?_
  show Go p e below _ (s₁.setTop (mkF m 4 #[.val (.int p0), .val (.int (16 : Int32))] [(.int (p0 * (-1640531527 : Int32)))]))
  refine go (fun t kt' => by refine XS.iloadN X0.here hx rfl (hb hby d15_4) rfl ?_; exact kt') ?_
  show Go p e below _ (s₁.setTop (mkF m 5 #[.val (.int p0), .val (.int (16 : Int32))] [(.int (16 : Int32)), (.int (p0 * (-1640531527 : Int32)))]))
  refine go (fun t kt' => by refine XS.iconst X0.here hx rfl (hb hby d15_5) ?_; exact kt') ?_
  show Go p e below _ (s₁.setTop (mkF m 6 #[.val (.int p0), .val (.int (16 : Int32))] [(.int (1 : Int32)), (.int (16 : Int32)), (.int (p0 * (-1640531527 : Int32)))]))
  refine go (fun t kt' => by refine XS.isub X0.here hx rfl (hb hby d15_6) rfl ?_; exact kt') ?_
  show Go p e below _ (s₁.setTop (mkF m 7 #[.val (.int p0), .val (.int (16 : Int32))] [(.int ((16 : Int32) - (1 : Int32))), (.int (p0 * (-1640531527 : Int32)))]))
  rw [show ((16 : Int32) - (1 : Int32)) = (15 : Int32) from by decide]
  show Go p e below _ (s₁.setTop (mkF m 7 #[.val (.int p0), .val (.int (16 : Int32))] [(.int (15 : Int32)), (.int (p0 * (-1640531527 : Int32)))]))
  obtain ⟨_, _, ⟨T1, L1, k1, n1⟩, -, X1, ⟨Lc1, hQ1, l1, y1, z1⟩, st1⟩ := Jvm.LawKit.callS X0 hx (y := (⟨"java/lang/Integer", "numberOfLeadingZeros", "(I)I"⟩ : MethodName)) hown (mvT hZ (hw _ (List.mem_of_getElem? (i := 96) rfl))) (mvT hZ (hw _ (List.mem_of_getElem? (i := 97) rfl))) (mvT hZ (hw _ (List.mem_of_getElem? (i := 98) rfl))) (mvT hZ (hw _ (List.mem_of_getElem? (i := 99) rfl))) (by decide) (backOf (W := 1) (rm_nz l Z a0 hw []  cs rd  h0 n0 Z0 HS OO ) hZ (hw _ (List.mem_of_getElem? (i := 99) rfl)) (hw _ (List.mem_of_getElem? (i := 98) rfl)) (by decide) (by decide)) (g := (mkF m 7 #[.val (.int p0), .val (.int (16 : Int32))] [(.int (15 : Int32)), (.int (p0 * (-1640531527 : Int32)))])) rfl (by rw [hml]; rfl) (argsL := [(.int (15 : Int32))]) (rest := [(.int (p0 * (-1640531527 : Int32)))]) (lenOf pd_3 rfl) rfl (by show 2 * 0 + _ ≤ _; exact Nat.le_of_eq rfl) (hb hby d15_7) (fun _ _ => ⟨rfl, e0, (by decide : 0 + 0 ≤ _), (by decide : 0 + 0 ≤ _)⟩)
  dsimp only [Pt.U, Pt.locs, Pt.cells, Pt.slots] at X1 l1 y1 z1 st1 hQ1
  rw [l1, y1, z1] at X1
  obtain ⟨rfl, N1q, e1⟩ := hQ1
  have N1 := Fr.app N0 N1q
  refine go st1 ?_
  show Go p e below _ (T1.setTop (mkF m 10 #[.val (.int p0), .val (.int (16 : Int32))] [(.int (28 : Int32)), (.int (p0 * (-1640531527 : Int32)))]))
  refine go (fun t kt' => by refine XS.iushr X1.here hx rfl (hb hby d15_10) rfl ?_; exact kt') ?_
  show Go p e below _ (T1.setTop (mkF m 11 #[.val (.int p0), .val (.int (16 : Int32))] [(.int (((p0 * (-1640531527 : Int32)).toUInt32 >>> ((28 : Int32) &&& 31).toUInt32).toInt32))]))
  refine goOut X1 (fun h => by rw [Bd.returns] at h; cases h) hlk (fun fs hr => retOut X1 hx Bd.returns rfl (Or.inl ⟨rfl, Or.inl rfl, _, rfl⟩) (hb hby d15_11) hr) (by decide) (by decide) ?_
  rw [e1]
  exact ⟨rfl, N1, rfl⟩
theorem d24_0 : decode jdk_43_method_13_code 0 = .ok (.aload_n 0, 1) := by decide +kernel
theorem d24_1 : decode jdk_43_method_13_code 1 = .ok (.arraylength, 1) := by decide +kernel
theorem d24_2 : decode jdk_43_method_13_code 2 = .ok (.aload_n 1, 1) := by decide +kernel
theorem d24_3 : decode jdk_43_method_13_code 3 = .ok (.arraylength, 1) := by decide +kernel
theorem d24_4 : decode jdk_43_method_13_code 4 = .ok (.if_icmp .ne 30, 3) := by decide +kernel
theorem d24_7 : decode jdk_43_method_13_code 7 = .ok (.iconst 0, 1) := by decide +kernel
theorem d24_8 : decode jdk_43_method_13_code 8 = .ok (.istore_n 2, 1) := by decide +kernel
theorem d24_9 : decode jdk_43_method_13_code 9 = .ok (.iload_n 2, 1) := by decide +kernel
theorem d24_10 : decode jdk_43_method_13_code 10 = .ok (.aload_n 0, 1) := by decide +kernel
theorem d24_11 : decode jdk_43_method_13_code 11 = .ok (.arraylength, 1) := by decide +kernel
theorem d24_12 : decode jdk_43_method_13_code 12 = .ok (.if_icmp .ge 20, 3) := by decide +kernel
theorem d24_15 : decode jdk_43_method_13_code 15 = .ok (.aload_n 0, 1) := by decide +kernel
theorem d24_16 : decode jdk_43_method_13_code 16 = .ok (.iload_n 2, 1) := by decide +kernel
theorem d24_17 : decode jdk_43_method_13_code 17 = .ok (.baload, 1) := by decide +kernel
theorem d24_18 : decode jdk_43_method_13_code 18 = .ok (.aload_n 1, 1) := by decide +kernel
theorem d24_19 : decode jdk_43_method_13_code 19 = .ok (.iload_n 2, 1) := by decide +kernel
theorem d24_20 : decode jdk_43_method_13_code 20 = .ok (.baload, 1) := by decide +kernel
theorem d24_21 : decode jdk_43_method_13_code 21 = .ok (.if_icmp .eq 5, 3) := by decide +kernel
theorem d24_26 : decode jdk_43_method_13_code 26 = .ok (.iinc 2 1, 3) := by decide +kernel
theorem d24_29 : decode jdk_43_method_13_code 29 = .ok (.goto (-20), 3) := by decide +kernel
theorem d24_32 : decode jdk_43_method_13_code 32 = .ok (.iconst 1, 1) := by decide +kernel
theorem d24_33 : decode jdk_43_method_13_code 33 = .ok (.ireturn, 1) := by decide +kernel
theorem d24_24 : decode jdk_43_method_13_code 24 = .ok (.iconst 0, 1) := by decide +kernel
theorem d24_25 : decode jdk_43_method_13_code 25 = .ok (.ireturn, 1) := by decide +kernel
theorem ef_rm_le (m : MethodId) (x0 : Addr) (x1 : Addr) : entryFrame m #[(.ref x0), (.ref x1)] 3 = mkF m 0 #[.val (.ref x0), .val (.ref x1), .unset] [] := by first | (simp [entryFrame, mkF, argsToLocals, Value.category]; done) | rfl
def Q_le (Z : State) (xx yy : Int32) (h0 : Heap) (n0 : Nat) (v : Option Value) (h : Heap) (L : List Loc) : Prop := v = some (.int (own_eq xx yy)) ∧ Fr n0 L ∧ h = h0
set_option maxRecDepth 65536 in
set_option maxHeartbeats 40000000 in
theorem rm_le (l : Launch) (Z : State) (a0 : Array Value) (hw : ∀ d ∈ tables_1, d.before a0 Z = true) (ws : List Jvm.Cond) (b1 : Addr) (b2 : Addr) (cs : Int32) (rd : Addr) (xx yy : Int32) (h0 : Heap) (n0 : Nat) (Z0 : n0 ≤ h0.size) (HS : own_sets Z cs rd) (OO : Old Z n0 h0) (V_b1 : IA Z h0 b1 .byte 1 (own_bt xx)) (V_b2 : IA Z h0 b2 .byte 1 (own_bt yy)) :
    MetFree l (⟨"java/lang/StringLatin1", "equals", "([B[B)Z"⟩ : MethodName) (head1 (Jvm.Cond.code (⟨"java/lang/StringLatin1", "equals", "([B[B)Z"⟩ : MethodName) jdk_43_method_13_code 3 (some .boolean) :: ws) ({ frames := 0, cells := 0, slots := 0, locals := 0 } : Room)) (fun av' U => av' = #[(.ref b1), (.ref b2)] ∧ Z.Warmed39 U.vm ∧ U.heap = h0) (fun _ _ _ _ _ => True) (fun _ U o U' => ∃ v L, o = .returned v ∧ Q_le Z xx yy h0 n0 v U'.heap L ∧ FrameEnd U o U' L ({ frames := 0, cells := 0, slots := 0, locals := 0 } : Room).cells ({ frames := 0, cells := 0, slots := 0, locals := 0 } : Room).slots) := by
  refine MetFree.of_bodySF (plainFor_of_name pn_java_lang_StringLatin1) hisR ?_
  intro p e s m args below meth c s₁ Bd hml0 hP hK
  obtain ⟨rfl, hZ, hh⟩ := hP
  have hx := Bd.exec
  have hby := Bd.bytes
  have hlk := Bd.notSynchronized
  have hml : c.maxLocals = 3 := hml0
  have hown : s.vm.findClass "java/lang/StringLatin1" = some m.cls := findClass_of_methodNamed Bd.named
  have hnm := (name_of_methodNamed Bd.named Bd.method).1
  have X0 : Stand p l e ({ frames := 0, cells := 0, slots := 0, locals := 0 } : Room) s m #[(.ref b1), (.ref b2)] below meth c s₁ [] 0 0 := Stand.of_body Bd
  have e0 : s₁.heap = h0 := by rw [← hh, Bd.state]; rfl
  have N0 := Fr.nil n0
  show Go p e below (Kq s (Q_le Z xx yy h0 n0) ({ frames := 0, cells := 0, slots := 0, locals := 0 } : Room).cells ({ frames := 0, cells := 0, slots := 0, locals := 0 } : Room).slots) _
  refine go (fun t kt => castTop (ef_rm_le m b1 b2) kt) ?_
  have HS0 := HS
  obtain ⟨S_cs, hcs, S_rd⟩ := HS0
  show Go p e below _ (s₁.setTop (mkF m 0 #[.val (.ref b1), .val (.ref b2), .unset] []))
  refine go (fun t kt' => by refine XS.aloadN X0.here hx rfl (hb hby d24_0) rfl rfl ?_; exact kt') ?_
  show Go p e below _ (s₁.setTop (mkF m 1 #[.val (.ref b1), .val (.ref b2), .unset] [(.ref b1)]))
  refine go (fun t kt' => by refine lenIA X0 hx hZ e0 V_b1 (g := (mkF m 1 #[.val (.ref b1), .val (.ref b2), .unset] [(.ref b1)])) rfl rfl (hb hby d24_1) t ?_; exact kt') ?_
  show Go p e below _ (s₁.setTop (mkF m 2 #[.val (.ref b1), .val (.ref b2), .unset] [(.int (1 : Int32))]))
  refine go (fun t kt' => by refine XS.aloadN X0.here hx rfl (hb hby d24_2) rfl rfl ?_; exact kt') ?_
  show Go p e below _ (s₁.setTop (mkF m 3 #[.val (.ref b1), .val (.ref b2), .unset] [(.ref b2), (.int (1 : Int32))]))
  refine go (fun t kt' => by refine lenIA X0 hx hZ e0 V_b2 (g := (mkF m 3 #[.val (.ref b1), .val (.ref b2), .unset] [(.ref b2), (.int (1 : Int32))])) rfl rfl (hb hby d24_3) t ?_; exact kt') ?_
  show Go p e below _ (s₁.setTop (mkF m 4 #[.val (.ref b1), .val (.ref b2), .unset] [(.int (1 : Int32)), (.int (1 : Int32))]))
  have c4_1 : ¬ (¬ (1 : Int32) = (1 : Int32)) := by decide
  refine go (fun t kt' => by refine XS.icmpNo X0.here hx rfl (hb hby d24_4) rfl (teq (Decidable.not_not.mp c4_1)).2 ?_; exact kt') ?_
  show Go p e below _ (s₁.setTop (mkF m 7 #[.val (.ref b1), .val (.ref b2), .unset] []))
  refine go (fun t kt' => by refine XS.iconst X0.here hx rfl (hb hby d24_7) ?_; exact kt') ?_
  show Go p e below _ (s₁.setTop (mkF m 8 #[.val (.ref b1), .val (.ref b2), .unset] [(.int (0 : Int32))]))
  refine go (fun t kt' => by refine XS.istoreN X0.here hx rfl (hb hby d24_8) rfl (l' := #[.val (.ref b1), .val (.ref b2), .val (.int (0 : Int32))]) rfl ?_; exact kt') ?_
  show Go p e below _ (s₁.setTop (mkF m 9 #[.val (.ref b1), .val (.ref b2), .val (.int (0 : Int32))] []))
  refine go (fun t kt' => by refine XS.iloadN X0.here hx rfl (hb hby d24_9) rfl ?_; exact kt') ?_
  show Go p e below _ (s₁.setTop (mkF m 10 #[.val (.ref b1), .val (.ref b2), .val (.int (0 : Int32))] [(.int (0 : Int32))]))
  refine go (fun t kt' => by refine XS.aloadN X0.here hx rfl (hb hby d24_10) rfl rfl ?_; exact kt') ?_
  show Go p e below _ (s₁.setTop (mkF m 11 #[.val (.ref b1), .val (.ref b2), .val (.int (0 : Int32))] [(.ref b1), (.int (0 : Int32))]))
  refine go (fun t kt' => by refine lenIA X0 hx hZ e0 V_b1 (g := (mkF m 11 #[.val (.ref b1), .val (.ref b2), .val (.int (0 : Int32))] [(.ref b1), (.int (0 : Int32))])) rfl rfl (hb hby d24_11) t ?_; exact kt') ?_
  show Go p e below _ (s₁.setTop (mkF m 12 #[.val (.ref b1), .val (.ref b2), .val (.int (0 : Int32))] [(.int (1 : Int32)), (.int (0 : Int32))]))
  have c12_2 : ¬ (¬ (0 : Int32) < (1 : Int32)) := by decide
  refine go (fun t kt' => by refine XS.icmpNo X0.here hx rfl (hb hby d24_12) rfl (tlt (Decidable.not_not.mp c12_2)).2.1 ?_; exact kt') ?_
  show Go p e below _ (s₁.setTop (mkF m 15 #[.val (.ref b1), .val (.ref b2), .val (.int (0 : Int32))] []))
  refine go (fun t kt' => by refine XS.aloadN X0.here hx rfl (hb hby d24_15) rfl rfl ?_; exact kt') ?_
  show Go p e below _ (s₁.setTop (mkF m 16 #[.val (.ref b1), .val (.ref b2), .val (.int (0 : Int32))] [(.ref b1)]))
  refine go (fun t kt' => by refine XS.iloadN X0.here hx rfl (hb hby d24_16) rfl ?_; exact kt') ?_
  show Go p e below _ (s₁.setTop (mkF m 17 #[.val (.ref b1), .val (.ref b2), .val (.int (0 : Int32))] [(.int (0 : Int32)), (.ref b1)]))
  refine go (fun t kt' => by refine ldBA X0 hx hZ e0 V_b1 (j := (0 : Int32)) ⟨by decide, by decide⟩ (g := (mkF m 17 #[.val (.ref b1), .val (.ref b2), .val (.int (0 : Int32))] [(.int (0 : Int32)), (.ref b1)])) rfl rfl (hb hby d24_17) t ?_; exact kt') ?_
  show Go p e below _ (s₁.setTop (mkF m 18 #[.val (.ref b1), .val (.ref b2), .val (.int (0 : Int32))] [(.int ((own_bt xx) 0))]))
  refine go (fun t kt' => by refine XS.aloadN X0.here hx rfl (hb hby d24_18) rfl rfl ?_; exact kt') ?_
  show Go p e below _ (s₁.setTop (mkF m 19 #[.val (.ref b1), .val (.ref b2), .val (.int (0 : Int32))] [(.ref b2), (.int ((own_bt xx) 0))]))
  refine go (fun t kt' => by refine XS.iloadN X0.here hx rfl (hb hby d24_19) rfl ?_; exact kt') ?_
  show Go p e below _ (s₁.setTop (mkF m 20 #[.val (.ref b1), .val (.ref b2), .val (.int (0 : Int32))] [(.int (0 : Int32)), (.ref b2), (.int ((own_bt xx) 0))]))
  refine go (fun t kt' => by refine ldBA X0 hx hZ e0 V_b2 (j := (0 : Int32)) ⟨by decide, by decide⟩ (g := (mkF m 20 #[.val (.ref b1), .val (.ref b2), .val (.int (0 : Int32))] [(.int (0 : Int32)), (.ref b2), (.int ((own_bt xx) 0))])) rfl rfl (hb hby d24_20) t ?_; exact kt') ?_
  show Go p e below _ (s₁.setTop (mkF m 21 #[.val (.ref b1), .val (.ref b2), .val (.int (0 : Int32))] [(.int ((own_bt yy) 0)), (.int ((own_bt xx) 0))]))
  by_cases c21_3 : ((own_bt xx) 0) = ((own_bt yy) 0)
  · skip
    refine go (fun t kt' => by refine XS.icmpYes X0.here hx rfl (pc0 := 21) (pc' := 26) rfl (hb hby d24_21) rfl (teq c21_3).1 (by decide) (by decide) ?_; exact kt') ?_
    show Go p e below _ (s₁.setTop (mkF m 26 #[.val (.ref b1), .val (.ref b2), .val (.int (0 : Int32))] []))
    refine go (fun t kt' => by refine XS.iinc X0.here hx rfl (hb hby d24_26) rfl (l' := #[.val (.ref b1), .val (.ref b2), .val (.int (1 : Int32))]) rfl ?_; exact kt') ?_
    show Go p e below _ (s₁.setTop (mkF m 29 #[.val (.ref b1), .val (.ref b2), .val (.int (1 : Int32))] []))
    refine go (fun t kt' => by refine XS.goto X0.here hx rfl (pc0 := 29) (pc' := 9) rfl (hb hby d24_29) (by decide) (by decide) ?_; exact kt') ?_
    show Go p e below _ (s₁.setTop (mkF m 9 #[.val (.ref b1), .val (.ref b2), .val (.int (1 : Int32))] []))
    refine go (fun t kt' => by refine XS.iloadN X0.here hx rfl (hb hby d24_9) rfl ?_; exact kt') ?_
    show Go p e below _ (s₁.setTop (mkF m 10 #[.val (.ref b1), .val (.ref b2), .val (.int (1 : Int32))] [(.int (1 : Int32))]))
    refine go (fun t kt' => by refine XS.aloadN X0.here hx rfl (hb hby d24_10) rfl rfl ?_; exact kt') ?_
    show Go p e below _ (s₁.setTop (mkF m 11 #[.val (.ref b1), .val (.ref b2), .val (.int (1 : Int32))] [(.ref b1), (.int (1 : Int32))]))
    refine go (fun t kt' => by refine lenIA X0 hx hZ e0 V_b1 (g := (mkF m 11 #[.val (.ref b1), .val (.ref b2), .val (.int (1 : Int32))] [(.ref b1), (.int (1 : Int32))])) rfl rfl (hb hby d24_11) t ?_; exact kt') ?_
    show Go p e below _ (s₁.setTop (mkF m 12 #[.val (.ref b1), .val (.ref b2), .val (.int (1 : Int32))] [(.int (1 : Int32)), (.int (1 : Int32))]))
    have c12_4 : ¬ (1 : Int32) < (1 : Int32) := by decide
    refine go (fun t kt' => by refine XS.icmpYes X0.here hx rfl (pc0 := 12) (pc' := 32) rfl (hb hby d24_12) rfl (flt c12_4).2.1 (by decide) (by decide) ?_; exact kt') ?_
    show Go p e below _ (s₁.setTop (mkF m 32 #[.val (.ref b1), .val (.ref b2), .val (.int (1 : Int32))] []))
    refine go (fun t kt' => by refine XS.iconst X0.here hx rfl (hb hby d24_32) ?_; exact kt') ?_
    show Go p e below _ (s₁.setTop (mkF m 33 #[.val (.ref b1), .val (.ref b2), .val (.int (1 : Int32))] [(.int (1 : Int32))]))
    refine goOut X0 (fun h => by rw [Bd.returns] at h; cases h) hlk (fun fs hr => retN X0 hx (t := .boolean) Bd.returns (by simp) (hb hby d24_33) hr) (by decide) (by decide) ?_
    rw [e0]
    exact ⟨by rw [own_eqt (x := xx) (y := yy) c21_3]; try rfl, N0, rfl⟩
  · skip
    refine go (fun t kt' => by refine XS.icmpNo X0.here hx rfl (hb hby d24_21) rfl (feq c21_3).1 ?_; exact kt') ?_
    show Go p e below _ (s₁.setTop (mkF m 24 #[.val (.ref b1), .val (.ref b2), .val (.int (0 : Int32))] []))
    refine go (fun t kt' => by refine XS.iconst X0.here hx rfl (hb hby d24_24) ?_; exact kt') ?_
    show Go p e below _ (s₁.setTop (mkF m 25 #[.val (.ref b1), .val (.ref b2), .val (.int (0 : Int32))] [(.int (0 : Int32))]))
    refine goOut X0 (fun h => by rw [Bd.returns] at h; cases h) hlk (fun fs hr => retN X0 hx (t := .boolean) Bd.returns (by simp) (hb hby d24_25) hr) (by decide) (by decide) ?_
    rw [e0]
    exact ⟨by rw [own_eqf (x := xx) (y := yy) c21_3]; try rfl, N0, rfl⟩
theorem d21_0 : decode jdk_42_method_66_code 0 = .ok (.aload_n 0, 1) := by decide +kernel
theorem d21_1 : decode jdk_42_method_66_code 1 = .ok (.aload_n 1, 1) := by decide +kernel
theorem d21_2 : decode jdk_42_method_66_code 2 = .ok (.if_acmp .ne 5, 3) := by decide +kernel
theorem d21_7 : decode jdk_42_method_66_code 7 = .ok (.aload_n 1, 1) := by decide +kernel
theorem d21_8 : decode jdk_42_method_66_code 8 = .ok (.instanceof 10, 3) := by decide +kernel
theorem d21_11 : decode jdk_42_method_66_code 11 = .ok (.ifCond .eq 43, 3) := by decide +kernel
theorem d21_14 : decode jdk_42_method_66_code 14 = .ok (.aload_n 1, 1) := by decide +kernel
theorem d21_15 : decode jdk_42_method_66_code 15 = .ok (.checkcast 10, 3) := by decide +kernel
theorem d21_18 : decode jdk_42_method_66_code 18 = .ok (.astore_n 2, 1) := by decide +kernel
theorem d21_19 : decode jdk_42_method_66_code 19 = .ok (.getstatic 38, 3) := by decide +kernel
theorem d21_22 : decode jdk_42_method_66_code 22 = .ok (.ifCond .eq 14, 3) := by decide +kernel
theorem d21_25 : decode jdk_42_method_66_code 25 = .ok (.aload_n 0, 1) := by decide +kernel
theorem d21_26 : decode jdk_42_method_66_code 26 = .ok (.getfield 15, 3) := by decide +kernel
theorem d21_29 : decode jdk_42_method_66_code 29 = .ok (.aload_n 2, 1) := by decide +kernel
theorem d21_30 : decode jdk_42_method_66_code 30 = .ok (.getfield 15, 3) := by decide +kernel
theorem d21_33 : decode jdk_42_method_66_code 33 = .ok (.if_icmp .ne 21, 3) := by decide +kernel
theorem d21_36 : decode jdk_42_method_66_code 36 = .ok (.aload_n 0, 1) := by decide +kernel
theorem d21_37 : decode jdk_42_method_66_code 37 = .ok (.getfield 9, 3) := by decide +kernel
theorem d21_40 : decode jdk_42_method_66_code 40 = .ok (.aload_n 2, 1) := by decide +kernel
theorem d21_41 : decode jdk_42_method_66_code 41 = .ok (.getfield 9, 3) := by decide +kernel
theorem d21_44 : decode jdk_42_method_66_code 44 = .ok (.invokestatic 541, 3) := by decide +kernel
theorem pd_4 : parseMethodDescriptor "([B[B)Z" = some ⟨[(.array .byte), (.array .byte)], some .boolean⟩ := by decide +kernel
theorem d21_47 : decode jdk_42_method_66_code 47 = .ok (.ifCond .eq 7, 3) := by decide +kernel
theorem d21_54 : decode jdk_42_method_66_code 54 = .ok (.iconst 0, 1) := by decide +kernel
theorem d21_55 : decode jdk_42_method_66_code 55 = .ok (.ireturn, 1) := by decide +kernel
theorem d21_50 : decode jdk_42_method_66_code 50 = .ok (.iconst 1, 1) := by decide +kernel
theorem d21_51 : decode jdk_42_method_66_code 51 = .ok (.goto 4, 3) := by decide +kernel
theorem d21_5 : decode jdk_42_method_66_code 5 = .ok (.iconst 1, 1) := by decide +kernel
theorem d21_6 : decode jdk_42_method_66_code 6 = .ok (.ireturn, 1) := by decide +kernel
theorem ef_rm_eq (m : MethodId) (x0 : Addr) (x1 : Addr) : entryFrame m #[(.ref x0), (.ref x1)] 3 = mkF m 0 #[.val (.ref x0), .val (.ref x1), .unset] [] := by first | (simp [entryFrame, mkF, argsToLocals, Value.category]; done) | rfl
def Q_eq (Z : State) (xx yy : Int32) (h0 : Heap) (n0 : Nat) (v : Option Value) (h : Heap) (L : List Loc) : Prop := v = some (.int (own_eq xx yy)) ∧ Fr n0 L ∧ h = h0
set_option maxRecDepth 65536 in
set_option maxHeartbeats 40000000 in
theorem rm_eq (l : Launch) (Z : State) (a0 : Array Value) (hw : ∀ d ∈ tables_1, d.before a0 Z = true) (ws : List Jvm.Cond) (a : Addr) (a1 : Addr) (cs : Int32) (rd : Addr) (xx yy : Int32) (h0 : Heap) (n0 : Nat) (Z0 : n0 ≤ h0.size) (HS : own_sets Z cs rd) (OO : Old Z n0 h0) (S_a : own_St Z n0 h0 a xx) (S_a1 : own_St Z n0 h0 a1 yy) :
    MetFree l (⟨"java/lang/String", "equals", "(Ljava/lang/Object;)Z"⟩ : MethodName) (head1 (Jvm.Cond.code (⟨"java/lang/String", "equals", "(Ljava/lang/Object;)Z"⟩ : MethodName) jdk_42_method_66_code 3 (some .boolean) :: ws) ({ frames := 1, cells := 0, slots := 0, locals := 14 } : Room)) (fun av' U => av' = #[(.ref a), (.ref a1)] ∧ Z.Warmed39 U.vm ∧ U.heap = h0) (fun _ _ _ _ _ => True) (fun _ U o U' => ∃ v L, o = .returned v ∧ Q_eq Z xx yy h0 n0 v U'.heap L ∧ FrameEnd U o U' L ({ frames := 1, cells := 0, slots := 0, locals := 14 } : Room).cells ({ frames := 1, cells := 0, slots := 0, locals := 14 } : Room).slots) := by
  refine MetFree.of_bodySF (plainFor_of_name pn_java_lang_String) hisR ?_
  intro p e s m args below meth c s₁ Bd hml0 hP hK
  obtain ⟨rfl, hZ, hh⟩ := hP
  have hx := Bd.exec
  have hby := Bd.bytes
  have hlk := Bd.notSynchronized
  have hml : c.maxLocals = 3 := hml0
  have hown : s.vm.findClass "java/lang/String" = some m.cls := findClass_of_methodNamed Bd.named
  have hnm := (name_of_methodNamed Bd.named Bd.method).1
  have X0 : Stand p l e ({ frames := 1, cells := 0, slots := 0, locals := 14 } : Room) s m #[(.ref a), (.ref a1)] below meth c s₁ [] 0 0 := Stand.of_body Bd
  have e0 : s₁.heap = h0 := by rw [← hh, Bd.state]; rfl
  have N0 := Fr.nil n0
  show Go p e below (Kq s (Q_eq Z xx yy h0 n0) ({ frames := 1, cells := 0, slots := 0, locals := 14 } : Room).cells ({ frames := 1, cells := 0, slots := 0, locals := 14 } : Room).slots) _
  refine go (fun t kt => castTop (ef_rm_eq m a a1) kt) ?_
  have HS0 := HS
  obtain ⟨S_cs, hcs, S_rd⟩ := HS0
  have S_a' := S_a
  obtain ⟨g_a, E_a, F_coder_a, k_a, bb, hvb, zvb, F_value_a, V_bb, F_hash_a, F_hashIsZero_a, hhvb, hzvb⟩ := S_a'
  have ne_bb_a := own_neb hw E_a V_bb
  have S_a1' := S_a1
  obtain ⟨g_a1, E_a1, F_coder_a1, k_a1, bd, hvd, zvd, F_value_a1, V_bd, F_hash_a1, F_hashIsZero_a1, hhvd, hzvd⟩ := S_a1'
  have ne_bd_a1 := own_neb hw E_a1 V_bd
  show Go p e below _ (s₁.setTop (mkF m 0 #[.val (.ref a), .val (.ref a1), .unset] []))
  refine go (fun t kt' => by refine XS.aloadN X0.here hx rfl (hb hby d21_0) rfl rfl ?_; exact kt') ?_
  show Go p e below _ (s₁.setTop (mkF m 1 #[.val (.ref a), .val (.ref a1), .unset] [(.ref a)]))
  refine go (fun t kt' => by refine XS.aloadN X0.here hx rfl (hb hby d21_1) rfl rfl ?_; exact kt') ?_
  show Go p e below _ (s₁.setTop (mkF m 2 #[.val (.ref a), .val (.ref a1), .unset] [(.ref a1), (.ref a)]))
  by_cases c2_1 : ¬ a = a1
  · skip
    refine go (fun t kt' => by refine XS.acmpYes X0.here hx rfl (pc0 := 2) (pc' := 7) rfl (hb hby d21_2) rfl (by simp [if_acmp.holds, c2_1]) (by decide) (by decide) ?_; exact kt') ?_
    show Go p e below _ (s₁.setTop (mkF m 7 #[.val (.ref a), .val (.ref a1), .unset] []))
    refine go (fun t kt' => by refine XS.aloadN X0.here hx rfl (hb hby d21_7) rfl rfl ?_; exact kt') ?_
    show Go p e below _ (s₁.setTop (mkF m 8 #[.val (.ref a), .val (.ref a1), .unset] [(.ref a1)]))
    obtain ⟨T2, X2, e2, st2⟩ := instY X0 hx hZ hown (hw _ (List.mem_of_getElem? (i := 9) rfl)) e0 (Ins.self E_a1) (g := (mkF m 8 #[.val (.ref a), .val (.ref a1), .unset] [(.ref a1)])) rfl rfl (hb hby d21_8)
    refine go st2 ?_
    show Go p e below _ (T2.setTop (mkF m 11 #[.val (.ref a), .val (.ref a1), .unset] [(.int (1 : Int32))]))
    have c11_3 : ¬ ((1 : Int32) = (0 : Int32)) := by decide
    refine go (fun t kt' => by refine XS.ifNo X2.here hx rfl (hb hby d21_11) rfl ((if0 _ _).trans (feq c11_3).1) ?_; exact kt') ?_
    show Go p e below _ (T2.setTop (mkF m 14 #[.val (.ref a), .val (.ref a1), .unset] []))
    refine go (fun t kt' => by refine XS.aloadN X2.here hx rfl (hb hby d21_14) rfl rfl ?_; exact kt') ?_
    show Go p e below _ (T2.setTop (mkF m 15 #[.val (.ref a), .val (.ref a1), .unset] [(.ref a1)]))
    obtain ⟨T4, X4, e4, st4⟩ := castY X2 hx hZ hown (hw _ (List.mem_of_getElem? (i := 9) rfl)) e2 (Ins.self E_a1) (g := (mkF m 15 #[.val (.ref a), .val (.ref a1), .unset] [(.ref a1)])) rfl rfl (hb hby d21_15)
    refine go st4 ?_
    show Go p e below _ (T4.setTop (mkF m 18 #[.val (.ref a), .val (.ref a1), .unset] [(.ref a1)]))
    refine go (fun t kt' => by refine XS.astoreN X4.here hx rfl (hb hby d21_18) rfl rfl (l' := #[.val (.ref a), .val (.ref a1), .val (.ref a1)]) rfl ?_; exact kt') ?_
    show Go p e below _ (T4.setTop (mkF m 19 #[.val (.ref a), .val (.ref a1), .val (.ref a1)] []))
    obtain ⟨T5, X5, e5, st5⟩ := getS2 X4 hx hZ hown (host := "") (Or.inl (hw _ (List.mem_of_getElem? (i := 4) rfl))) Via.refl e4 (Sta.ext OO.2 S_cs) (g := (mkF m 19 #[.val (.ref a), .val (.ref a1), .val (.ref a1)] [])) rfl (hb hby d21_19)
    refine go st5 ?_
    show Go p e below _ (T5.setTop (mkF m 22 #[.val (.ref a), .val (.ref a1), .val (.ref a1)] [(.int cs)]))
    have c22_6 : ¬ (cs = (0 : Int32)) := hcs
    refine go (fun t kt' => by refine XS.ifNo X5.here hx rfl (hb hby d21_22) rfl ((if0 _ _).trans (feq c22_6).1) ?_; exact kt') ?_
    show Go p e below _ (T5.setTop (mkF m 25 #[.val (.ref a), .val (.ref a1), .val (.ref a1)] []))
    refine go (fun t kt' => by refine XS.aloadN X5.here hx rfl (hb hby d21_25) rfl rfl ?_; exact kt') ?_
    show Go p e below _ (T5.setTop (mkF m 26 #[.val (.ref a), .val (.ref a1), .val (.ref a1)] [(.ref a)]))
    obtain ⟨T7, X7, e7, st7⟩ := getF X5 hx hZ hown (host := "") (Or.inl (hw _ (List.mem_of_getElem? (i := 24) rfl))) Via.refl e5 F_coder_a (g := (mkF m 26 #[.val (.ref a), .val (.ref a1), .val (.ref a1)] [(.ref a)])) rfl rfl (hb hby d21_26)
    refine go st7 ?_
    show Go p e below _ (T7.setTop (mkF m 29 #[.val (.ref a), .val (.ref a1), .val (.ref a1)] [(.int (0 : Int32))]))
    refine go (fun t kt' => by refine XS.aloadN X7.here hx rfl (hb hby d21_29) rfl rfl ?_; exact kt') ?_
    show Go p e below _ (T7.setTop (mkF m 30 #[.val (.ref a), .val (.ref a1), .val (.ref a1)] [(.ref a1), (.int (0 : Int32))]))
    obtain ⟨T8, X8, e8, st8⟩ := getF X7 hx hZ hown (host := "") (Or.inl (hw _ (List.mem_of_getElem? (i := 24) rfl))) Via.refl e7 F_coder_a1 (g := (mkF m 30 #[.val (.ref a), .val (.ref a1), .val (.ref a1)] [(.ref a1), (.int (0 : Int32))])) rfl rfl (hb hby d21_30)
    refine go st8 ?_
    show Go p e below _ (T8.setTop (mkF m 33 #[.val (.ref a), .val (.ref a1), .val (.ref a1)] [(.int (0 : Int32)), (.int (0 : Int32))]))
    have c33_9 : ¬ (¬ (0 : Int32) = (0 : Int32)) := by decide
    refine go (fun t kt' => by refine XS.icmpNo X8.here hx rfl (hb hby d21_33) rfl (teq (Decidable.not_not.mp c33_9)).2 ?_; exact kt') ?_
    show Go p e below _ (T8.setTop (mkF m 36 #[.val (.ref a), .val (.ref a1), .val (.ref a1)] []))
    refine go (fun t kt' => by refine XS.aloadN X8.here hx rfl (hb hby d21_36) rfl rfl ?_; exact kt') ?_
    show Go p e below _ (T8.setTop (mkF m 37 #[.val (.ref a), .val (.ref a1), .val (.ref a1)] [(.ref a)]))
    obtain ⟨T10, X10, e10, st10⟩ := getF X8 hx hZ hown (host := "") (Or.inl (hw _ (List.mem_of_getElem? (i := 22) rfl))) Via.refl e8 F_value_a (g := (mkF m 37 #[.val (.ref a), .val (.ref a1), .val (.ref a1)] [(.ref a)])) rfl rfl (hb hby d21_37)
    refine go st10 ?_
    show Go p e below _ (T10.setTop (mkF m 40 #[.val (.ref a), .val (.ref a1), .val (.ref a1)] [(.ref bb)]))
    refine go (fun t kt' => by refine XS.aloadN X10.here hx rfl (hb hby d21_40) rfl rfl ?_; exact kt') ?_
    show Go p e below _ (T10.setTop (mkF m 41 #[.val (.ref a), .val (.ref a1), .val (.ref a1)] [(.ref a1), (.ref bb)]))
    obtain ⟨T11, X11, e11, st11⟩ := getF X10 hx hZ hown (host := "") (Or.inl (hw _ (List.mem_of_getElem? (i := 22) rfl))) Via.refl e10 F_value_a1 (g := (mkF m 41 #[.val (.ref a), .val (.ref a1), .val (.ref a1)] [(.ref a1), (.ref bb)])) rfl rfl (hb hby d21_41)
    refine go st11 ?_
    show Go p e below _ (T11.setTop (mkF m 44 #[.val (.ref a), .val (.ref a1), .val (.ref a1)] [(.ref bd), (.ref bb)]))
    obtain ⟨_, _, ⟨T12, L12, k12, n12⟩, -, X12, ⟨Lc12, hQ12, l12, y12, z12⟩, st12⟩ := Jvm.LawKit.callS X11 hx (y := (⟨"java/lang/StringLatin1", "equals", "([B[B)Z"⟩ : MethodName)) hown (mvT hZ (hw _ (List.mem_of_getElem? (i := 133) rfl))) (mvT hZ (hw _ (List.mem_of_getElem? (i := 134) rfl))) (mvT hZ (hw _ (List.mem_of_getElem? (i := 7) rfl))) (mvT hZ (hw _ (List.mem_of_getElem? (i := 135) rfl))) (by decide) (backOf (W := 0) (rm_le l Z a0 hw [] bb bd cs rd xx yy h0 n0 Z0 HS OO V_bb V_bd) hZ (hw _ (List.mem_of_getElem? (i := 135) rfl)) (hw _ (List.mem_of_getElem? (i := 7) rfl)) (by decide) (by decide)) (g := (mkF m 44 #[.val (.ref a), .val (.ref a1), .val (.ref a1)] [(.ref bd), (.ref bb)])) rfl (by rw [hml]; rfl) (argsL := [(.ref bb), (.ref bd)]) (rest := []) (lenOf pd_4 rfl) rfl (by show 2 * 0 + _ ≤ _; exact Nat.le_of_eq rfl) (hb hby d21_44) (fun _ _ => ⟨rfl, e11, (by decide : 0 + 0 ≤ _), (by decide : 0 + 0 ≤ _)⟩)
    dsimp only [Pt.U, Pt.locs, Pt.cells, Pt.slots] at X12 l12 y12 z12 st12 hQ12
    rw [l12, y12, z12] at X12
    obtain ⟨rfl, N12q, e12⟩ := hQ12
    have N12 := Fr.app N0 N12q
    refine go st12 ?_
    show Go p e below _ (T12.setTop (mkF m 47 #[.val (.ref a), .val (.ref a1), .val (.ref a1)] [(.int (own_eq xx yy))]))
    by_cases c47_13 : (own_eq xx yy) = (0 : Int32)
    · skip
      refine go (fun t kt' => by refine XS.ifYes X12.here hx rfl (pc0 := 47) (pc' := 54) rfl (hb hby d21_47) rfl ((if0 _ _).trans (teq c47_13).1) (by decide) (by decide) ?_; exact kt') ?_
      show Go p e below _ (T12.setTop (mkF m 54 #[.val (.ref a), .val (.ref a1), .val (.ref a1)] []))
      refine go (fun t kt' => by refine XS.iconst X12.here hx rfl (hb hby d21_54) ?_; exact kt') ?_
      show Go p e below _ (T12.setTop (mkF m 55 #[.val (.ref a), .val (.ref a1), .val (.ref a1)] [(.int (0 : Int32))]))
      refine goOut X12 (fun h => by rw [Bd.returns] at h; cases h) hlk (fun fs hr => retN X12 hx (t := .boolean) Bd.returns (by simp) (hb hby d21_55) hr) (by decide) (by decide) ?_
      rw [e12]
      exact ⟨by rw [c47_13]; try rfl, N12, rfl⟩
    · skip
      refine go (fun t kt' => by refine XS.ifNo X12.here hx rfl (hb hby d21_47) rfl ((if0 _ _).trans (feq c47_13).1) ?_; exact kt') ?_
      show Go p e below _ (T12.setTop (mkF m 50 #[.val (.ref a), .val (.ref a1), .val (.ref a1)] []))
      refine go (fun t kt' => by refine XS.iconst X12.here hx rfl (hb hby d21_50) ?_; exact kt') ?_
      show Go p e below _ (T12.setTop (mkF m 51 #[.val (.ref a), .val (.ref a1), .val (.ref a1)] [(.int (1 : Int32))]))
      refine go (fun t kt' => by refine XS.goto X12.here hx rfl (pc0 := 51) (pc' := 55) rfl (hb hby d21_51) (by decide) (by decide) ?_; exact kt') ?_
      show Go p e below _ (T12.setTop (mkF m 55 #[.val (.ref a), .val (.ref a1), .val (.ref a1)] [(.int (1 : Int32))]))
      refine goOut X12 (fun h => by rw [Bd.returns] at h; cases h) hlk (fun fs hr => retN X12 hx (t := .boolean) Bd.returns (by simp) (hb hby d21_55) hr) (by decide) (by decide) ?_
      rw [e12]
      exact ⟨by rw [own_eq1 c47_13]; try rfl, N12, rfl⟩
  · skip
    refine go (fun t kt' => by refine XS.acmpNo X0.here hx rfl (hb hby d21_2) rfl (by simp [if_acmp.holds, Decidable.not_not.mp c2_1]) ?_; exact kt') ?_
    show Go p e below _ (s₁.setTop (mkF m 5 #[.val (.ref a), .val (.ref a1), .unset] []))
    refine go (fun t kt' => by refine XS.iconst X0.here hx rfl (hb hby d21_5) ?_; exact kt') ?_
    show Go p e below _ (s₁.setTop (mkF m 6 #[.val (.ref a), .val (.ref a1), .unset] [(.int (1 : Int32))]))
    refine goOut X0 (fun h => by rw [Bd.returns] at h; cases h) hlk (fun fs hr => retN X0 hx (t := .boolean) Bd.returns (by simp) (hb hby d21_6) hr) (by decide) (by decide) ?_
    rw [e0]
    exact ⟨by rw [own_eqt (own_St.inj (Decidable.not_not.mp c2_1 ▸ S_a) S_a1)]; try rfl, N0, rfl⟩
theorem d22_0 : decode jdk_31_method_2_code 0 = .ok (.aload_n 0, 1) := by decide +kernel
theorem d22_1 : decode jdk_31_method_2_code 1 = .ok (.aload_n 1, 1) := by decide +kernel
theorem d22_2 : decode jdk_31_method_2_code 2 = .ok (.if_acmp .eq 15, 3) := by decide +kernel
theorem d22_17 : decode jdk_31_method_2_code 17 = .ok (.iconst 1, 1) := by decide +kernel
theorem d22_18 : decode jdk_31_method_2_code 18 = .ok (.goto 4, 3) := by decide +kernel
theorem d22_22 : decode jdk_31_method_2_code 22 = .ok (.ireturn, 1) := by decide +kernel
theorem pn_java_util_Objects : plainName "java/util/Objects" = true := by first | (simp [plainName, overriddenIn]; done) | decide +kernel
theorem ef_rm_oe (m : MethodId)  : entryFrame m #[.null, .null] 2 = mkF m 0 #[.val .null, .val .null] [] := by first | (simp [entryFrame, mkF, argsToLocals, Value.category]; done) | rfl
def Q_oe (Z : State)  (h0 : Heap) (n0 : Nat) (v : Option Value) (h : Heap) (L : List Loc) : Prop := v = some (.int (1 : Int32)) ∧ Fr n0 L ∧ h = h0
set_option maxRecDepth 65536 in
set_option maxHeartbeats 40000000 in
theorem rm_oe (l : Launch) (Z : State) (a0 : Array Value) (hw : ∀ d ∈ tables_1, d.before a0 Z = true) (ws : List Jvm.Cond)  (cs : Int32) (rd : Addr)  (h0 : Heap) (n0 : Nat) (Z0 : n0 ≤ h0.size) (HS : own_sets Z cs rd) (OO : Old Z n0 h0)  :
    MetFree l (⟨"java/util/Objects", "equals", "(Ljava/lang/Object;Ljava/lang/Object;)Z"⟩ : MethodName) (head1 (Jvm.Cond.code (⟨"java/util/Objects", "equals", "(Ljava/lang/Object;Ljava/lang/Object;)Z"⟩ : MethodName) jdk_31_method_2_code 2 (some .boolean) :: ws) ({ frames := 0, cells := 0, slots := 0, locals := 0 } : Room)) (fun av' U => av' = #[.null, .null] ∧ Z.Warmed39 U.vm ∧ U.heap = h0) (fun _ _ _ _ _ => True) (fun _ U o U' => ∃ v L, o = .returned v ∧ Q_oe Z  h0 n0 v U'.heap L ∧ FrameEnd U o U' L ({ frames := 0, cells := 0, slots := 0, locals := 0 } : Room).cells ({ frames := 0, cells := 0, slots := 0, locals := 0 } : Room).slots) := by
  refine MetFree.of_bodySF (plainFor_of_name pn_java_util_Objects) hisR ?_
  intro p e s m args below meth c s₁ Bd hml0 hP hK
  obtain ⟨rfl, hZ, hh⟩ := hP
  have hx := Bd.exec
  have hby := Bd.bytes
  have hlk := Bd.notSynchronized
  have hml : c.maxLocals = 2 := hml0
  have hown : s.vm.findClass "java/util/Objects" = some m.cls := findClass_of_methodNamed Bd.named
  have hnm := (name_of_methodNamed Bd.named Bd.method).1
  have X0 : Stand p l e ({ frames := 0, cells := 0, slots := 0, locals := 0 } : Room) s m #[.null, .null] below meth c s₁ [] 0 0 := Stand.of_body Bd
  have e0 : s₁.heap = h0 := by rw [← hh, Bd.state]; rfl
  have N0 := Fr.nil n0
  show Go p e below (Kq s (Q_oe Z  h0 n0) ({ frames := 0, cells := 0, slots := 0, locals := 0 } : Room).cells ({ frames := 0, cells := 0, slots := 0, locals := 0 } : Room).slots) _
  refine go (fun t kt => castTop (ef_rm_oe m ) kt) ?_
  have HS0 := HS
  obtain ⟨S_cs, hcs, S_rd⟩ := HS0
  show Go p e below _ (s₁.setTop (mkF m 0 #[.val .null, .val .null] []))
  refine go (fun t kt' => by refine XS.aloadN X0.here hx rfl (hb hby d22_0) rfl rfl ?_; exact kt') ?_
  show Go p e below _ (s₁.setTop (mkF m 1 #[.val .null, .val .null] [.null]))
  refine go (fun t kt' => by refine XS.aloadN X0.here hx rfl (hb hby d22_1) rfl rfl ?_; exact kt') ?_
  show Go p e below _ (s₁.setTop (mkF m 2 #[.val .null, .val .null] [.null, .null]))
  refine go (fun t kt' => by refine Jvm.Free.XT.acmpYes X0.here hx rfl (pc0 := 2) (pc' := 17) rfl (hb hby d22_2) rfl rfl rfl (by simp [Jvm.Free.XT.acmp]) (by decide) (by decide) ?_; exact kt') ?_
  show Go p e below _ (s₁.setTop (mkF m 17 #[.val .null, .val .null] []))
  refine go (fun t kt' => by refine XS.iconst X0.here hx rfl (hb hby d22_17) ?_; exact kt') ?_
  show Go p e below _ (s₁.setTop (mkF m 18 #[.val .null, .val .null] [(.int (1 : Int32))]))
  refine go (fun t kt' => by refine XS.goto X0.here hx rfl (pc0 := 18) (pc' := 22) rfl (hb hby d22_18) (by decide) (by decide) ?_; exact kt') ?_
  show Go p e below _ (s₁.setTop (mkF m 22 #[.val .null, .val .null] [(.int (1 : Int32))]))
  refine goOut X0 (fun h => by rw [Bd.returns] at h; cases h) hlk (fun fs hr => retN X0 hx (t := .boolean) Bd.returns (by simp) (hb hby d22_22) hr) (by decide) (by decide) ?_
  rw [e0]
  exact ⟨rfl, N0, rfl⟩
theorem d10_0 : decode prog_120_method_11_code 0 = .ok (.aload_n 0, 1) := by decide +kernel
theorem d10_1 : decode prog_120_method_11_code 1 = .ok (.aload_n 1, 1) := by decide +kernel
theorem d10_2 : decode prog_120_method_11_code 2 = .ok (.aload_n 2, 1) := by decide +kernel
theorem d10_3 : decode prog_120_method_11_code 3 = .ok (.invokevirtual 78, 3) := by decide +kernel
theorem pd_5 : parseMethodDescriptor "(Ljava/lang/String;Ljava/lang/String;)I" = some ⟨[(.object "java/lang/String"), (.object "java/lang/String")], some .int⟩ := by decide +kernel
theorem d10_6 : decode prog_120_method_11_code 6 = .ok (.istore_n 3, 1) := by decide +kernel
theorem d10_7 : decode prog_120_method_11_code 7 = .ok (.aload_n 0, 1) := by decide +kernel
theorem d10_8 : decode prog_120_method_11_code 8 = .ok (.getfield 18, 3) := by decide +kernel
theorem d10_11 : decode prog_120_method_11_code 11 = .ok (.arraylength, 1) := by decide +kernel
theorem d10_12 : decode prog_120_method_11_code 12 = .ok (.iconst 1, 1) := by decide +kernel
theorem d10_13 : decode prog_120_method_11_code 13 = .ok (.isub, 1) := by decide +kernel
theorem d10_14 : decode prog_120_method_11_code 14 = .ok (.istore 4, 2) := by decide +kernel
theorem d10_16 : decode prog_120_method_11_code 16 = .ok (.iload_n 3, 1) := by decide +kernel
theorem d10_17 : decode prog_120_method_11_code 17 = .ok (.aload_n 0, 1) := by decide +kernel
theorem d10_18 : decode prog_120_method_11_code 18 = .ok (.getfield 18, 3) := by decide +kernel
theorem d10_21 : decode prog_120_method_11_code 21 = .ok (.arraylength, 1) := by decide +kernel
theorem d10_22 : decode prog_120_method_11_code 22 = .ok (.invokestatic 81, 3) := by decide +kernel
theorem pd_6 : parseMethodDescriptor "(II)I" = some ⟨[.int, .int], some .int⟩ := by decide +kernel
theorem d10_25 : decode prog_120_method_11_code 25 = .ok (.istore 5, 2) := by decide +kernel
theorem d10_27 : decode prog_120_method_11_code 27 = .ok (.iconst 0, 1) := by decide +kernel
theorem d10_28 : decode prog_120_method_11_code 28 = .ok (.istore 6, 2) := by decide +kernel
theorem d10_30 : decode prog_120_method_11_code 30 = .ok (.aload_n 0, 1) := by decide +kernel
theorem d10_31 : decode prog_120_method_11_code 31 = .ok (.getfield 18, 3) := by decide +kernel
theorem d10_34 : decode prog_120_method_11_code 34 = .ok (.iload 5, 2) := by decide +kernel
theorem d10_36 : decode prog_120_method_11_code 36 = .ok (.iaload, 1) := by decide +kernel
theorem d10_37 : decode prog_120_method_11_code 37 = .ok (.ifCond .eq 101, 3) := by decide +kernel
theorem d10_138 : decode prog_120_method_11_code 138 = .ok (.aload_n 0, 1) := by decide +kernel
theorem d10_139 : decode prog_120_method_11_code 139 = .ok (.iload_n 3, 1) := by decide +kernel
theorem d10_140 : decode prog_120_method_11_code 140 = .ok (.putfield 65, 3) := by decide +kernel
theorem d10_143 : decode prog_120_method_11_code 143 = .ok (.iload 5, 2) := by decide +kernel
theorem d10_145 : decode prog_120_method_11_code 145 = .ok (.iconst (-1), 1) := by decide +kernel
theorem d10_146 : decode prog_120_method_11_code 146 = .ok (.ixor, 1) := by decide +kernel
theorem d10_147 : decode prog_120_method_11_code 147 = .ok (.ireturn, 1) := by decide +kernel
theorem d10_40 : decode prog_120_method_11_code 40 = .ok (.iload 6, 2) := by decide +kernel
theorem d10_42 : decode prog_120_method_11_code 42 = .ok (.sipush 128, 3) := by decide +kernel
theorem d10_45 : decode prog_120_method_11_code 45 = .ok (.if_icmp .ne 31, 3) := by decide +kernel
theorem d10_76 : decode prog_120_method_11_code 76 = .ok (.aload_n 0, 1) := by decide +kernel
theorem d10_77 : decode prog_120_method_11_code 77 = .ok (.getfield 22, 3) := by decide +kernel
theorem d10_80 : decode prog_120_method_11_code 80 = .ok (.iload 5, 2) := by decide +kernel
theorem d10_82 : decode prog_120_method_11_code 82 = .ok (.iaload, 1) := by decide +kernel
theorem d10_83 : decode prog_120_method_11_code 83 = .ok (.iload_n 3, 1) := by decide +kernel
theorem d10_84 : decode prog_120_method_11_code 84 = .ok (.if_icmp .ne 39, 3) := by decide +kernel
theorem d10_123 : decode prog_120_method_11_code 123 = .ok (.iload 5, 2) := by decide +kernel
theorem d10_125 : decode prog_120_method_11_code 125 = .ok (.iconst 1, 1) := by decide +kernel
theorem d10_126 : decode prog_120_method_11_code 126 = .ok (.iadd, 1) := by decide +kernel
theorem d10_127 : decode prog_120_method_11_code 127 = .ok (.iload 4, 2) := by decide +kernel
theorem d10_129 : decode prog_120_method_11_code 129 = .ok (.iand, 1) := by decide +kernel
theorem d10_130 : decode prog_120_method_11_code 130 = .ok (.istore 5, 2) := by decide +kernel
theorem d10_132 : decode prog_120_method_11_code 132 = .ok (.iinc 6 1, 3) := by decide +kernel
theorem d10_135 : decode prog_120_method_11_code 135 = .ok (.goto (-105), 3) := by decide +kernel
theorem d10_87 : decode prog_120_method_11_code 87 = .ok (.aload_n 0, 1) := by decide +kernel
theorem d10_88 : decode prog_120_method_11_code 88 = .ok (.getfield 27, 3) := by decide +kernel
theorem d10_91 : decode prog_120_method_11_code 91 = .ok (.iload 5, 2) := by decide +kernel
theorem d10_93 : decode prog_120_method_11_code 93 = .ok (.aaload, 1) := by decide +kernel
theorem d10_94 : decode prog_120_method_11_code 94 = .ok (.aload_n 1, 1) := by decide +kernel
theorem d10_95 : decode prog_120_method_11_code 95 = .ok (.invokevirtual 85, 3) := by decide +kernel
theorem pd_7 : parseMethodDescriptor "(Ljava/lang/Object;)Z" = some ⟨[(.object "java/lang/Object")], some .boolean⟩ := by decide +kernel
theorem d10_98 : decode prog_120_method_11_code 98 = .ok (.ifCond .eq 25, 3) := by decide +kernel
theorem d10_101 : decode prog_120_method_11_code 101 = .ok (.aload_n 0, 1) := by decide +kernel
theorem d10_102 : decode prog_120_method_11_code 102 = .ok (.getfield 31, 3) := by decide +kernel
theorem d10_105 : decode prog_120_method_11_code 105 = .ok (.iload 5, 2) := by decide +kernel
theorem d10_107 : decode prog_120_method_11_code 107 = .ok (.aaload, 1) := by decide +kernel
theorem d10_108 : decode prog_120_method_11_code 108 = .ok (.aload_n 2, 1) := by decide +kernel
theorem d10_109 : decode prog_120_method_11_code 109 = .ok (.invokestatic 89, 3) := by decide +kernel
theorem pd_8 : parseMethodDescriptor "(Ljava/lang/Object;Ljava/lang/Object;)Z" = some ⟨[(.object "java/lang/Object"), (.object "java/lang/Object")], some .boolean⟩ := by decide +kernel
theorem d10_112 : decode prog_120_method_11_code 112 = .ok (.ifCond .eq 11, 3) := by decide +kernel
theorem d10_115 : decode prog_120_method_11_code 115 = .ok (.aload_n 0, 1) := by decide +kernel
theorem d10_116 : decode prog_120_method_11_code 116 = .ok (.iload_n 3, 1) := by decide +kernel
theorem d10_117 : decode prog_120_method_11_code 117 = .ok (.putfield 65, 3) := by decide +kernel
theorem d10_120 : decode prog_120_method_11_code 120 = .ok (.iload 5, 2) := by decide +kernel
theorem d10_122 : decode prog_120_method_11_code 122 = .ok (.ireturn, 1) := by decide +kernel
theorem ef_rm_fi (m : MethodId) (x0 : Addr) (x1 : Addr) : entryFrame m #[(.ref x0), (.ref x1), .null] 7 = mkF m 0 #[.val (.ref x0), .val (.ref x1), .val .null, .unset, .unset, .unset, .unset] [] := by first | (simp [entryFrame, mkF, argsToLocals, Value.category]; done) | rfl
def Q_fi (Z : State) (ob : Addr) (pl hs tk : Nat → Int32) (sz xx : Int32) (h0 : Heap) (n0 : Nat) (v : Option Value) (h : Heap) (L : List Loc) : Prop := ∃ r : Int32, v = some (.int r) ∧ own_Fnd pl hs (own_H xx) r ∧ own_Cm Z n0 h0 h ob L ∧ own_HX Z n0 h ob pl hs tk sz (own_H xx)
set_option maxRecDepth 65536 in
set_option maxHeartbeats 40000000 in
theorem rm_fi (l : Launch) (Z : State) (a0 : Array Value) (hw : ∀ d ∈ tables_1, d.before a0 Z = true) (ws : List Jvm.Cond) (ob : Addr) (a1 : Addr) (cs : Int32) (rd : Addr) (pl hs tk : Nat → Int32) (sz fh : Int32) (xx : Int32) (h0 : Heap) (n0 : Nat) (Z0 : n0 ≤ h0.size) (HS : own_sets Z cs rd) (OO : Old Z n0 h0) (HXo : own_HX Z n0 h0 ob pl hs tk sz fh) (S_a1 : own_St Z n0 h0 a1 xx) (hfree : own_Free pl (own_H xx)) :
    MetFree l (⟨"com/example/casewright/casewright/formats/HashIndex", "find", "(Ljava/lang/String;Ljava/lang/String;)I"⟩ : MethodName) (head1 (Jvm.Cond.code (⟨"com/example/casewright/casewright/formats/HashIndex", "find", "(Ljava/lang/String;Ljava/lang/String;)I"⟩ : MethodName) prog_120_method_11_code 7 (some .int) :: ws) ({ frames := 3, cells := 0, slots := 0, locals := 39 } : Room)) (fun av' U => av' = #[(.ref ob), (.ref a1), .null] ∧ Z.Warmed39 U.vm ∧ U.heap = h0) (fun _ _ _ _ _ => True) (fun _ U o U' => ∃ v L, o = .returned v ∧ Q_fi Z ob pl hs tk sz xx h0 n0 v U'.heap L ∧ FrameEnd U o U' L ({ frames := 3, cells := 0, slots := 0, locals := 39 } : Room).cells ({ frames := 3, cells := 0, slots := 0, locals := 39 } : Room).slots) := by
  refine MetFree.of_bodySF (plainFor_of_name pn_com_example_casewright_casewright_formats_HashIndex) hisR ?_
  intro p e s m args below meth c s₁ Bd hml0 hP hK
  obtain ⟨rfl, hZ, hh⟩ := hP
  have hx := Bd.exec
  have hby := Bd.bytes
  have hlk := Bd.notSynchronized
  have hml : c.maxLocals = 7 := hml0
  have hown : s.vm.findClass "com/example/casewright/casewright/formats/HashIndex" = some m.cls := findClass_of_methodNamed Bd.named
  have hnm := (name_of_methodNamed Bd.named Bd.method).1
  have X0 : Stand p l e ({ frames := 3, cells := 0, slots := 0, locals := 39 } : Room) s m #[(.ref ob), (.ref a1), .null] below meth c s₁ [] 0 0 := Stand.of_body Bd
  have e0 : s₁.heap = h0 := by rw [← hh, Bd.state]; rfl
  have N0 := Fr.nil n0
  show Go p e below (Kq s (Q_fi Z ob pl hs tk sz xx h0 n0) ({ frames := 3, cells := 0, slots := 0, locals := 39 } : Room).cells ({ frames := 3, cells := 0, slots := 0, locals := 39 } : Room).slots) _
  refine go (fun t kt => castTop (ef_rm_fi m ob a1) kt) ?_
  have HS0 := HS
  obtain ⟨S_cs, hcs, S_rd⟩ := HS0
  obtain ⟨g_o, E_o, zA1, zA2, zA3, zA4, zA5, kf, ⟨zl1, zl2, zl3, zl4, zl5⟩, ⟨zn12, zn15, zn25, zn34⟩, zF1, zF2, zF3, zF4, zF5, zF6, zF7, zF8, zV1, zV2, zV3, zV4, zV5, HK⟩ := HXo
  have zm02 := own_neIR zV1 zV3 (by intro q; cases q)
  have zm03 := own_neIR zV1 zV4 (by intro q; cases q)
  have zm12 := own_neIR zV2 zV3 (by intro q; cases q)
  have zm13 := own_neIR zV2 zV4 (by intro q; cases q)
  have zm42 := own_neIR zV5 zV3 (by intro q; cases q)
  have zm43 := own_neIR zV5 zV4 (by intro q; cases q)
  have P0 := own_PS.refl Z n0 h0
  have L0 := own_KA.refl Z h0 ob
  have E_a1 := S_a1.2.1
  have ne_o_a1 := ne_exa E_o E_a1 (by decide)
  have nA0_a1 := own_neb hw E_a1 zV1
  have nA1_a1 := own_neb hw E_a1 zV2
  have nA2_a1 := own_neR hw E_a1 zV3
  have nA3_a1 := own_neR hw E_a1 zV4
  have nA4_a1 := own_neb hw E_a1 zV5
  show Go p e below _ (s₁.setTop (mkF m 0 #[.val (.ref ob), .val (.ref a1), .val .null, .unset, .unset, .unset, .unset] []))
  refine go (fun t kt' => by refine XS.aloadN X0.here hx rfl (hb hby d10_0) rfl rfl ?_; exact kt') ?_
  show Go p e below _ (s₁.setTop (mkF m 1 #[.val (.ref ob), .val (.ref a1), .val .null, .unset, .unset, .unset, .unset] [(.ref ob)]))
  refine go (fun t kt' => by refine XS.aloadN X0.here hx rfl (hb hby d10_1) rfl rfl ?_; exact kt') ?_
  show Go p e below _ (s₁.setTop (mkF m 2 #[.val (.ref ob), .val (.ref a1), .val .null, .unset, .unset, .unset, .unset] [(.ref a1), (.ref ob)]))
  refine go (fun t kt' => by refine XS.aloadN X0.here hx rfl (hb hby d10_2) rfl rfl ?_; exact kt') ?_
  show Go p e below _ (s₁.setTop (mkF m 3 #[.val (.ref ob), .val (.ref a1), .val .null, .unset, .unset, .unset, .unset] [.null, (.ref a1), (.ref ob)]))
  obtain ⟨cq1, q1, q1'⟩ := E_o.cell
  obtain ⟨_, _, ⟨T1, L1, k1, n1⟩, -, X1, ⟨Lc1, hQ1, l1, y1, z1⟩, st1⟩ := X0.privateBack hx (y := (⟨"com/example/casewright/casewright/formats/HashIndex", "hash", "(Ljava/lang/String;Ljava/lang/String;)I"⟩ : MethodName)) hown (mvT hZ (hw _ (List.mem_of_getElem? (i := 69) rfl))) (mvT hZ (hw _ (List.mem_of_getElem? (i := 70) rfl))) (mvT hZ (own_selp hw (y := (⟨"com/example/casewright/casewright/formats/HashIndex", "hash", "(Ljava/lang/String;Ljava/lang/String;)I"⟩ : MethodName)) rfl (hw _ (List.mem_of_getElem? (i := 71) rfl)) (hw _ (List.mem_of_getElem? (i := 70) rfl)))) (Cond.privateMethod_at (mvP hZ (hw _ (List.mem_of_getElem? (i := 71) rfl)) (args := #[]))) (mvT hZ (hw _ (List.mem_of_getElem? (i := 72) rfl))) (by decide) (backOf (W := 0) (rm_hs l Z a0 hw [] ob a1 cs rd xx h0 n0 Z0 HS OO E_o zF7 S_a1) hZ (hw _ (List.mem_of_getElem? (i := 72) rfl)) (hw _ (List.mem_of_getElem? (i := 30) rfl)) (by decide) (by decide)) (g := (mkF m 3 #[.val (.ref ob), .val (.ref a1), .val .null, .unset, .unset, .unset, .unset] [.null, (.ref a1), (.ref ob)])) rfl (by rw [hml]; rfl) (Steps.refl _) (a := ob) (by rw [e0]; exact q1) q1' (argsL := [(.ref a1), .null]) (rest := []) (lenOf pd_5 rfl) rfl (by show 2 * 0 + _ ≤ _; exact Nat.le_of_eq rfl) (hb hby d10_3) (fun _ _ => ⟨rfl, e0, (by decide : 0 + 0 ≤ _), (by decide : 0 + 0 ≤ _)⟩)
  dsimp only [Pt.U, Pt.locs, Pt.cells, Pt.slots] at X1 l1 y1 z1 st1 hQ1
  rw [l1, y1, z1] at X1
  obtain ⟨rfl, N1q, K1, PS1, OO1⟩ := hQ1
  have N1 := Fr.app N0 N1q
  have f2_Z := Nat.le_trans Z0 K1.1
  have f3_E_ob := E_o.keep K1
  have f4_F_ob_places := zF1.keep K1 (ninS ne_o_a1 nin0)
  have f5_F_ob_hashes := zF2.keep K1 (ninS ne_o_a1 nin0)
  have f6_F_ob_keys := zF3.keep K1 (ninS ne_o_a1 nin0)
  have f7_F_ob_seconds := zF4.keep K1 (ninS ne_o_a1 nin0)
  have f8_F_ob_taken := zF5.keep K1 (ninS ne_o_a1 nin0)
  have f9_F_ob_size := zF6.keep K1 (ninS ne_o_a1 nin0)
  have f10_F_ob_hashedAtRandom := zF7.keep K1 (ninS ne_o_a1 nin0)
  have f11_F_ob_foundHash := zF8.keep K1 (ninS ne_o_a1 nin0)
  have f12_A_zA1 := zV1.keep K1 (ninS nA0_a1 nin0)
  have f13_A_zA2 := zV2.keep K1 (ninS nA1_a1 nin0)
  have f14_A_zA3 := zV3.keep K1 (ninS nA2_a1 nin0)
  have f15_A_zA4 := zV4.keep K1 (ninS nA3_a1 nin0)
  have f16_A_zA5 := zV5.keep K1 (ninS nA4_a1 nin0)
  have f17_HK_ob := own_HK.ps HK PS1
  have f18_P := own_PS.trans P0 PS1
  have f19_L := own_KA.kp hw L0 K1 E_a1
  have f20_T_a1 := PS1 _ _ S_a1
  have f21_E_a1 := E_a1.keep K1
  refine go (fun t kt => st1.trans kt) ?_
  show Go p e below _ (T1.setTop (mkF m 6 #[.val (.ref ob), .val (.ref a1), .val .null, .unset, .unset, .unset, .unset] [(.int (own_H xx))]))
  refine go (fun t kt' => by refine XS.istoreN X1.here hx rfl (hb hby d10_6) rfl (l' := #[.val (.ref ob), .val (.ref a1), .val .null, .val (.int (own_H xx)), .unset, .unset, .unset]) rfl ?_; exact kt') ?_
  show Go p e below _ (T1.setTop (mkF m 7 #[.val (.ref ob), .val (.ref a1), .val .null, .val (.int (own_H xx)), .unset, .unset, .unset] []))
  refine go (fun t kt' => by refine XS.aloadN X1.here hx rfl (hb hby d10_7) rfl rfl ?_; exact kt') ?_
  show Go p e below _ (T1.setTop (mkF m 8 #[.val (.ref ob), .val (.ref a1), .val .null, .val (.int (own_H xx)), .unset, .unset, .unset] [(.ref ob)]))
  obtain ⟨T22, X22, e22, st22⟩ := getF X1 hx hZ hown (host := "") (Or.inl (hw _ (List.mem_of_getElem? (i := 44) rfl))) Via.refl rfl f4_F_ob_places (g := (mkF m 8 #[.val (.ref ob), .val (.ref a1), .val .null, .val (.int (own_H xx)), .unset, .unset, .unset] [(.ref ob)])) rfl rfl (hb hby d10_8)
  refine go st22 ?_
  show Go p e below _ (T22.setTop (mkF m 11 #[.val (.ref ob), .val (.ref a1), .val .null, .val (.int (own_H xx)), .unset, .unset, .unset] [(.ref zA1)]))
  refine go (fun t kt' => by refine lenIA X22 hx hZ e22 f12_A_zA1 (g := (mkF m 11 #[.val (.ref ob), .val (.ref a1), .val .null, .val (.int (own_H xx)), .unset, .unset, .unset] [(.ref zA1)])) rfl rfl (hb hby d10_11) t ?_; exact kt') ?_
  show Go p e below _ (T22.setTop (mkF m 12 #[.val (.ref ob), .val (.ref a1), .val .null, .val (.int (own_H xx)), .unset, .unset, .unset] [(.int (16 : Int32))]))
  refine go (fun t kt' => by refine XS.iconst X22.here hx rfl (hb hby d10_12) ?_; exact kt') ?_
  show Go p e below _ (T22.setTop (mkF m 13 #[.val (.ref ob), .val (.ref a1), .val .null, .val (.int (own_H xx)), .unset, .unset, .unset] [(.int (1 : Int32)), (.int (16 : Int32))]))
  refine go (fun t kt' => by refine XS.isub X22.here hx rfl (hb hby d10_13) rfl ?_; exact kt') ?_
  show Go p e below _ (T22.setTop (mkF m 14 #[.val (.ref ob), .val (.ref a1), .val .null, .val (.int (own_H xx)), .unset, .unset, .unset] [(.int ((16 : Int32) - (1 : Int32)))]))
  rw [show ((16 : Int32) - (1 : Int32)) = (15 : Int32) from by decide]
  show Go p e below _ (T22.setTop (mkF m 14 #[.val (.ref ob), .val (.ref a1), .val .null, .val (.int (own_H xx)), .unset, .unset, .unset] [(.int (15 : Int32))]))
  refine go (fun t kt' => by refine XS.istore X22.here hx rfl (hb hby d10_14) rfl (l' := #[.val (.ref ob), .val (.ref a1), .val .null, .val (.int (own_H xx)), .val (.int (15 : Int32)), .unset, .unset]) rfl ?_; exact kt') ?_
  show Go p e below _ (T22.setTop (mkF m 16 #[.val (.ref ob), .val (.ref a1), .val .null, .val (.int (own_H xx)), .val (.int (15 : Int32)), .unset, .unset] []))
  refine go (fun t kt' => by refine XS.iloadN X22.here hx rfl (hb hby d10_16) rfl ?_; exact kt') ?_
  show Go p e below _ (T22.setTop (mkF m 17 #[.val (.ref ob), .val (.ref a1), .val .null, .val (.int (own_H xx)), .val (.int (15 : Int32)), .unset, .unset] [(.int (own_H xx))]))
  refine go (fun t kt' => by refine XS.aloadN X22.here hx rfl (hb hby d10_17) rfl rfl ?_; exact kt') ?_
  show Go p e below _ (T22.setTop (mkF m 18 #[.val (.ref ob), .val (.ref a1), .val .null, .val (.int (own_H xx)), .val (.int (15 : Int32)), .unset, .unset] [(.ref ob), (.int (own_H xx))]))
  obtain ⟨T23, X23, e23, st23⟩ := getF X22 hx hZ hown (host := "") (Or.inl (hw _ (List.mem_of_getElem? (i := 44) rfl))) Via.refl e22 f4_F_ob_places (g := (mkF m 18 #[.val (.ref ob), .val (.ref a1), .val .null, .val (.int (own_H xx)), .val (.int (15 : Int32)), .unset, .unset] [(.ref ob), (.int (own_H xx))])) rfl rfl (hb hby d10_18)
  refine go st23 ?_
  show Go p e below _ (T23.setTop (mkF m 21 #[.val (.ref ob), .val (.ref a1), .val .null, .val (.int (own_H xx)), .val (.int (15 : Int32)), .unset, .unset] [(.ref zA1), (.int (own_H xx))]))
  refine go (fun t kt' => by refine lenIA X23 hx hZ e23 f12_A_zA1 (g := (mkF m 21 #[.val (.ref ob), .val (.ref a1), .val .null, .val (.int (own_H xx)), .val (.int (15 : Int32)), .unset, .unset] [(.ref zA1), (.int (own_H xx))])) rfl rfl (hb hby d10_21) t ?_; exact kt') ?_
  show Go p e below _ (T23.setTop (mkF m 22 #[.val (.ref ob), .val (.ref a1), .val .null, .val (.int (own_H xx)), .val (.int (15 : Int32)), .unset, .unset] [(.int (16 : Int32)), (.int (own_H xx))]))
  obtain ⟨_, _, ⟨T24, L24, k24, n24⟩, -, X24, ⟨Lc24, hQ24, l24, y24, z24⟩, st24⟩ := Jvm.LawKit.callS X23 hx (y := (⟨"com/example/casewright/casewright/formats/StringHash", "home", "(II)I"⟩ : MethodName)) hown (mvT hZ (hw _ (List.mem_of_getElem? (i := 92) rfl))) (mvT hZ (hw _ (List.mem_of_getElem? (i := 93) rfl))) (mvT hZ (hw _ (List.mem_of_getElem? (i := 36) rfl))) (mvT hZ (hw _ (List.mem_of_getElem? (i := 94) rfl))) (by decide) (backOf (W := 0) (rm_hm l Z a0 hw [] (own_H xx) cs rd  T1.heap n0 f2_Z HS OO1 ) hZ (hw _ (List.mem_of_getElem? (i := 94) rfl)) (hw _ (List.mem_of_getElem? (i := 36) rfl)) (by decide) (by decide)) (g := (mkF m 22 #[.val (.ref ob), .val (.ref a1), .val .null, .val (.int (own_H xx)), .val (.int (15 : Int32)), .unset, .unset] [(.int (16 : Int32)), (.int (own_H xx))])) rfl (by rw [hml]; rfl) (argsL := [(.int (own_H xx)), (.int (16 : Int32))]) (rest := []) (lenOf pd_6 rfl) rfl (by show 2 * 0 + _ ≤ _; exact Nat.le_of_eq rfl) (hb hby d10_22) (fun _ _ => ⟨rfl, e23, (by decide : 0 + 0 ≤ _), (by decide : 0 + 0 ≤ _)⟩)
  dsimp only [Pt.U, Pt.locs, Pt.cells, Pt.slots] at X24 l24 y24 z24 st24 hQ24
  rw [l24, y24, z24] at X24
  obtain ⟨rfl, N24q, e24⟩ := hQ24
  have N24 := Fr.app N1 N24q
  refine go st24 ?_
  show Go p e below _ (T24.setTop (mkF m 25 #[.val (.ref ob), .val (.ref a1), .val .null, .val (.int (own_H xx)), .val (.int (15 : Int32)), .unset, .unset] [(.int (own_home (own_H xx)))]))
  refine go (fun t kt' => by refine XS.istore X24.here hx rfl (hb hby d10_25) rfl (l' := #[.val (.ref ob), .val (.ref a1), .val .null, .val (.int (own_H xx)), .val (.int (15 : Int32)), .val (.int (own_home (own_H xx))), .unset]) rfl ?_; exact kt') ?_
  show Go p e below _ (T24.setTop (mkF m 27 #[.val (.ref ob), .val (.ref a1), .val .null, .val (.int (own_H xx)), .val (.int (15 : Int32)), .val (.int (own_home (own_H xx))), .unset] []))
  refine go (fun t kt' => by refine XS.iconst X24.here hx rfl (hb hby d10_27) ?_; exact kt') ?_
  show Go p e below _ (T24.setTop (mkF m 28 #[.val (.ref ob), .val (.ref a1), .val .null, .val (.int (own_H xx)), .val (.int (15 : Int32)), .val (.int (own_home (own_H xx))), .unset] [(.int (0 : Int32))]))
  refine go (fun t kt' => by refine XS.istore X24.here hx rfl (hb hby d10_28) rfl (l' := #[.val (.ref ob), .val (.ref a1), .val .null, .val (.int (own_H xx)), .val (.int (15 : Int32)), .val (.int (own_home (own_H xx))), .val (.int (0 : Int32))]) rfl ?_; exact kt') ?_
  show Go p e below _ (T24.setTop (mkF m 30 #[.val (.ref ob), .val (.ref a1), .val .null, .val (.int (own_H xx)), .val (.int (15 : Int32)), .val (.int (own_home (own_H xx))), .val (.int (0 : Int32))] []))
  obtain ⟨D, hD, hDz⟩ := hfree
  have LP : ∀ (k d : Nat) (i pr : Int32) (T : State) (locs : List Loc) (hk : d + k = D) (hi : i.toInt = own_sl (own_H xx) d) (hpr : pr.toInt = d) (hbf : ∀ e, e < d → pl (own_sl (own_H xx) e) ≠ 0 ∧ hs (own_sl (own_H xx) e) ≠ own_H xx) (X : Stand p l e ({ frames := 3, cells := 0, slots := 0, locals := 39 } : Room) s m #[(.ref ob), (.ref a1), .null] below meth c T locs 0 0) (eT : T.heap = T1.heap) (NN : Fr n0 locs), Go p e below (Kq s (Q_fi Z ob pl hs tk sz xx h0 n0) ({ frames := 3, cells := 0, slots := 0, locals := 39 } : Room).cells ({ frames := 3, cells := 0, slots := 0, locals := 39 } : Room).slots) (T.setTop (mkF m 30 #[.val (.ref ob), .val (.ref a1), .val .null, .val (.int (own_H xx)), .val (.int (15 : Int32)), .val (.int i), .val (.int pr)] [])) := by
    intro k
    induction k with
    | zero =>
      intro d i pr T locs hk hi hpr hbf X eT NN
      have hin : 0 ≤ i.toInt ∧ i.toInt < (16 : Nat) := by have := own_sl_lt (own_H xx) d; omega
      show Go p e below _ (T.setTop (mkF m 30 #[.val (.ref ob), .val (.ref a1), .val .null, .val (.int (own_H xx)), .val (.int (15 : Int32)), .val (.int i), .val (.int pr)] []))
      refine go (fun t kt' => by refine XS.aloadN X.here hx rfl (hb hby d10_30) rfl rfl ?_; exact kt') ?_
      show Go p e below _ (T.setTop (mkF m 31 #[.val (.ref ob), .val (.ref a1), .val .null, .val (.int (own_H xx)), .val (.int (15 : Int32)), .val (.int i), .val (.int pr)] [(.ref ob)]))
      obtain ⟨T25, X25, e25, st25⟩ := getF X hx hZ hown (host := "") (Or.inl (hw _ (List.mem_of_getElem? (i := 44) rfl))) Via.refl eT f4_F_ob_places (g := (mkF m 31 #[.val (.ref ob), .val (.ref a1), .val .null, .val (.int (own_H xx)), .val (.int (15 : Int32)), .val (.int i), .val (.int pr)] [(.ref ob)])) rfl rfl (hb hby d10_31)
      refine go st25 ?_
      show Go p e below _ (T25.setTop (mkF m 34 #[.val (.ref ob), .val (.ref a1), .val .null, .val (.int (own_H xx)), .val (.int (15 : Int32)), .val (.int i), .val (.int pr)] [(.ref zA1)]))
      refine go (fun t kt' => by refine XS.iload X25.here hx rfl (hb hby d10_34) rfl ?_; exact kt') ?_
      show Go p e below _ (T25.setTop (mkF m 36 #[.val (.ref ob), .val (.ref a1), .val .null, .val (.int (own_H xx)), .val (.int (15 : Int32)), .val (.int i), .val (.int pr)] [(.int i), (.ref zA1)]))
      refine go (fun t kt' => by refine ldIA X25 hx hZ e25 f12_A_zA1 (j := i) hin (g := (mkF m 36 #[.val (.ref ob), .val (.ref a1), .val .null, .val (.int (own_H xx)), .val (.int (15 : Int32)), .val (.int i), .val (.int pr)] [(.int i), (.ref zA1)])) rfl rfl (hb hby d10_36) t ?_; exact kt') ?_
      show Go p e below _ (T25.setTop (mkF m 37 #[.val (.ref ob), .val (.ref a1), .val .null, .val (.int (own_H xx)), .val (.int (15 : Int32)), .val (.int i), .val (.int pr)] [(.int (pl (i).toNatClampNeg))]))
      have c37_26 : (pl (i).toNatClampNeg) = (0 : Int32) := by rw [own_cl hi]; have q : d = D := hk; rw [q]; exact hDz
      refine go (fun t kt' => by refine XS.ifYes X25.here hx rfl (pc0 := 37) (pc' := 138) rfl (hb hby d10_37) rfl ((if0 _ _).trans (teq c37_26).1) (by decide) (by decide) ?_; exact kt') ?_
      show Go p e below _ (T25.setTop (mkF m 138 #[.val (.ref ob), .val (.ref a1), .val .null, .val (.int (own_H xx)), .val (.int (15 : Int32)), .val (.int i), .val (.int pr)] []))
      refine go (fun t kt' => by refine XS.aloadN X25.here hx rfl (hb hby d10_138) rfl rfl ?_; exact kt') ?_
      show Go p e below _ (T25.setTop (mkF m 139 #[.val (.ref ob), .val (.ref a1), .val .null, .val (.int (own_H xx)), .val (.int (15 : Int32)), .val (.int i), .val (.int pr)] [(.ref ob)]))
      refine go (fun t kt' => by refine XS.iloadN X25.here hx rfl (hb hby d10_139) rfl ?_; exact kt') ?_
      show Go p e below _ (T25.setTop (mkF m 140 #[.val (.ref ob), .val (.ref a1), .val .null, .val (.int (own_H xx)), .val (.int (15 : Int32)), .val (.int i), .val (.int pr)] [(.int (own_H xx)), (.ref ob)]))
      obtain ⟨T27, h27, X27, e27, W27, st27⟩ := putF X25 hx hZ hown (host := "") (Or.inl (hw _ (List.mem_of_getElem? (i := 101) rfl))) Via.refl e25 f11_F_ob_foundHash f3_E_ob (Or.inl (hw _ (List.mem_of_getElem? (i := 102) rfl))) (hw _ (List.mem_of_getElem? (i := 29) rfl)) (ty := .int) (by decide) rfl rfl (g := (mkF m 140 #[.val (.ref ob), .val (.ref a1), .val .null, .val (.int (own_H xx)), .val (.int (15 : Int32)), .val (.int i), .val (.int pr)] [(.int (own_H xx)), (.ref ob)])) rfl rfl (hb hby d10_140)
      have N27 := Fr.snoc X27 NN g_o
      have f28_Z := Nat.le_trans f2_Z (Keep.of_wr W27).1
      have f29_E_ob := f3_E_ob.wr W27
      have f30_F_ob_places := f4_F_ob_places.other W27 (Or.inr (slot_ne (Or.inl (hw _ (List.mem_of_getElem? (i := 45) rfl))) (Or.inl (hw _ (List.mem_of_getElem? (i := 102) rfl))) (by decide) (t := (.array .int)) (t' := .int) (by decide) (by decide)))
      have f31_F_ob_hashes := f5_F_ob_hashes.other W27 (Or.inr (slot_ne (Or.inl (hw _ (List.mem_of_getElem? (i := 47) rfl))) (Or.inl (hw _ (List.mem_of_getElem? (i := 102) rfl))) (by decide) (t := (.array .int)) (t' := .int) (by decide) (by decide)))
      have f32_F_ob_keys := f6_F_ob_keys.other W27 (Or.inr (slot_ne (Or.inl (hw _ (List.mem_of_getElem? (i := 51) rfl))) (Or.inl (hw _ (List.mem_of_getElem? (i := 102) rfl))) (by decide) (t := (.array (.object "java/lang/String"))) (t' := .int) (by decide) (by decide)))
      have f33_F_ob_seconds := f7_F_ob_seconds.other W27 (Or.inr (slot_ne (Or.inl (hw _ (List.mem_of_getElem? (i := 53) rfl))) (Or.inl (hw _ (List.mem_of_getElem? (i := 102) rfl))) (by decide) (t := (.array (.object "java/lang/String"))) (t' := .int) (by decide) (by decide)))
      have f34_F_ob_taken := f8_F_ob_taken.other W27 (Or.inr (slot_ne (Or.inl (hw _ (List.mem_of_getElem? (i := 55) rfl))) (Or.inl (hw _ (List.mem_of_getElem? (i := 102) rfl))) (by decide) (t := (.array .int)) (t' := .int) (by decide) (by decide)))
      have f35_F_ob_size := f9_F_ob_size.other W27 (Or.inr (slot_ne (Or.inl (hw _ (List.mem_of_getElem? (i := 64) rfl))) (Or.inl (hw _ (List.mem_of_getElem? (i := 102) rfl))) (by decide) (t := .int) (t' := .int) (by decide) (by decide)))
      have f36_F_ob_hashedAtRandom := f10_F_ob_hashedAtRandom.other W27 (Or.inr (slot_ne (Or.inl (hw _ (List.mem_of_getElem? (i := 74) rfl))) (Or.inl (hw _ (List.mem_of_getElem? (i := 102) rfl))) (by decide) (t := .boolean) (t' := .int) (by decide) (by decide)))
      have f37_F_ob_foundHash := f11_F_ob_foundHash.same W27
      have f38_A_zA1 := f12_A_zA1.other W27 (Ne.symm (Nat.ne_of_lt zl1))
      have f39_A_zA2 := f13_A_zA2.other W27 (Ne.symm (Nat.ne_of_lt zl2))
      have f40_A_zA3 := f14_A_zA3.other W27 (Ne.symm (Nat.ne_of_lt zl3))
      have f41_A_zA4 := f15_A_zA4.other W27 (Ne.symm (Nat.ne_of_lt zl4))
      have f42_A_zA5 := f16_A_zA5.other W27 (Ne.symm (Nat.ne_of_lt zl5))
      have f43_HK_ob := own_HK.ps f17_HK_ob (own_PS.wr (own_PS.refl _ _ _) W27 (own_okO hw f3_E_ob))
      have f44_P := own_PS.wr f18_P W27 (own_okO hw f3_E_ob)
      have f45_L := own_KA.wr f19_L W27 (Nat.le_refl _)
      have f46_T_a1 := own_St.wr f20_T_a1 W27 (own_okO hw f3_E_ob)
      have f47_E_a1 := f21_E_a1.wr W27
      have f48_O := OO1.wr W27 g_o
      refine go st27 ?_
      show Go p e below _ (T27.setTop (mkF m 143 #[.val (.ref ob), .val (.ref a1), .val .null, .val (.int (own_H xx)), .val (.int (15 : Int32)), .val (.int i), .val (.int pr)] []))
      refine go (fun t kt' => by refine XS.iload X27.here hx rfl (hb hby d10_143) rfl ?_; exact kt') ?_
      show Go p e below _ (T27.setTop (mkF m 145 #[.val (.ref ob), .val (.ref a1), .val .null, .val (.int (own_H xx)), .val (.int (15 : Int32)), .val (.int i), .val (.int pr)] [(.int i)]))
      refine go (fun t kt' => by refine XS.iconst X27.here hx rfl (hb hby d10_145) ?_; exact kt') ?_
      show Go p e below _ (T27.setTop (mkF m 146 #[.val (.ref ob), .val (.ref a1), .val .null, .val (.int (own_H xx)), .val (.int (15 : Int32)), .val (.int i), .val (.int pr)] [(.int (-1 : Int32)), (.int i)]))
      refine go (fun t kt' => by refine XS.ixor X27.here hx rfl (hb hby d10_146) rfl ?_; exact kt') ?_
      show Go p e below _ (T27.setTop (mkF m 147 #[.val (.ref ob), .val (.ref a1), .val .null, .val (.int (own_H xx)), .val (.int (15 : Int32)), .val (.int i), .val (.int pr)] [(.int (i ^^^ (-1 : Int32)))]))
      refine goOut X27 (fun h => by rw [Bd.returns] at h; cases h) hlk (fun fs hr => retOut X27 hx Bd.returns rfl (Or.inl ⟨rfl, Or.inl rfl, _, rfl⟩) (hb hby d10_147) hr) (by decide) (by decide) ?_
      rw [e27]
      exact ⟨_, rfl, ⟨d, i, by omega, hi, hbf, Or.inr ⟨(by rw [← own_cl hi]; exact c37_26), rfl⟩⟩, ⟨N27, f48_O, f44_P, f45_L⟩, ⟨g_o, f29_E_ob, zA1, zA2, zA3, zA4, zA5, _, ⟨zl1, zl2, zl3, zl4, zl5⟩, ⟨zn12, zn15, zn25, zn34⟩, f30_F_ob_places, f31_F_ob_hashes, f32_F_ob_keys, f33_F_ob_seconds, f34_F_ob_taken, f35_F_ob_size, f36_F_ob_hashedAtRandom, f37_F_ob_foundHash, f38_A_zA1, f39_A_zA2, f40_A_zA3, f41_A_zA4, f42_A_zA5, f43_HK_ob⟩⟩
    | succ k ih =>
      intro d i pr T locs hk hi hpr hbf X eT NN
      have hin : 0 ≤ i.toInt ∧ i.toInt < (16 : Nat) := by have := own_sl_lt (own_H xx) d; omega
      show Go p e below _ (T.setTop (mkF m 30 #[.val (.ref ob), .val (.ref a1), .val .null, .val (.int (own_H xx)), .val (.int (15 : Int32)), .val (.int i), .val (.int pr)] []))
      refine go (fun t kt' => by refine XS.aloadN X.here hx rfl (hb hby d10_30) rfl rfl ?_; exact kt') ?_
      show Go p e below _ (T.setTop (mkF m 31 #[.val (.ref ob), .val (.ref a1), .val .null, .val (.int (own_H xx)), .val (.int (15 : Int32)), .val (.int i), .val (.int pr)] [(.ref ob)]))
      obtain ⟨T49, X49, e49, st49⟩ := getF X hx hZ hown (host := "") (Or.inl (hw _ (List.mem_of_getElem? (i := 44) rfl))) Via.refl eT f4_F_ob_places (g := (mkF m 31 #[.val (.ref ob), .val (.ref a1), .val .null, .val (.int (own_H xx)), .val (.int (15 : Int32)), .val (.int i), .val (.int pr)] [(.ref ob)])) rfl rfl (hb hby d10_31)
      refine go st49 ?_
      show Go p e below _ (T49.setTop (mkF m 34 #[.val (.ref ob), .val (.ref a1), .val .null, .val (.int (own_H xx)), .val (.int (15 : Int32)), .val (.int i), .val (.int pr)] [(.ref zA1)]))
      refine go (fun t kt' => by refine XS.iload X49.here hx rfl (hb hby d10_34) rfl ?_; exact kt') ?_
      show Go p e below _ (T49.setTop (mkF m 36 #[.val (.ref ob), .val (.ref a1), .val .null, .val (.int (own_H xx)), .val (.int (15 : Int32)), .val (.int i), .val (.int pr)] [(.int i), (.ref zA1)]))
      refine go (fun t kt' => by refine ldIA X49 hx hZ e49 f12_A_zA1 (j := i) hin (g := (mkF m 36 #[.val (.ref ob), .val (.ref a1), .val .null, .val (.int (own_H xx)), .val (.int (15 : Int32)), .val (.int i), .val (.int pr)] [(.int i), (.ref zA1)])) rfl rfl (hb hby d10_36) t ?_; exact kt') ?_
      show Go p e below _ (T49.setTop (mkF m 37 #[.val (.ref ob), .val (.ref a1), .val .null, .val (.int (own_H xx)), .val (.int (15 : Int32)), .val (.int i), .val (.int pr)] [(.int (pl (i).toNatClampNeg))]))
      by_cases c37_50 : (pl (i).toNatClampNeg) = (0 : Int32)
      · skip
        refine go (fun t kt' => by refine XS.ifYes X49.here hx rfl (pc0 := 37) (pc' := 138) rfl (hb hby d10_37) rfl ((if0 _ _).trans (teq c37_50).1) (by decide) (by decide) ?_; exact kt') ?_
        show Go p e below _ (T49.setTop (mkF m 138 #[.val (.ref ob), .val (.ref a1), .val .null, .val (.int (own_H xx)), .val (.int (15 : Int32)), .val (.int i), .val (.int pr)] []))
        refine go (fun t kt' => by refine XS.aloadN X49.here hx rfl (hb hby d10_138) rfl rfl ?_; exact kt') ?_
        show Go p e below _ (T49.setTop (mkF m 139 #[.val (.ref ob), .val (.ref a1), .val .null, .val (.int (own_H xx)), .val (.int (15 : Int32)), .val (.int i), .val (.int pr)] [(.ref ob)]))
        refine go (fun t kt' => by refine XS.iloadN X49.here hx rfl (hb hby d10_139) rfl ?_; exact kt') ?_
        show Go p e below _ (T49.setTop (mkF m 140 #[.val (.ref ob), .val (.ref a1), .val .null, .val (.int (own_H xx)), .val (.int (15 : Int32)), .val (.int i), .val (.int pr)] [(.int (own_H xx)), (.ref ob)]))
        obtain ⟨T51, h51, X51, e51, W51, st51⟩ := putF X49 hx hZ hown (host := "") (Or.inl (hw _ (List.mem_of_getElem? (i := 101) rfl))) Via.refl e49 f11_F_ob_foundHash f3_E_ob (Or.inl (hw _ (List.mem_of_getElem? (i := 102) rfl))) (hw _ (List.mem_of_getElem? (i := 29) rfl)) (ty := .int) (by decide) rfl rfl (g := (mkF m 140 #[.val (.ref ob), .val (.ref a1), .val .null, .val (.int (own_H xx)), .val (.int (15 : Int32)), .val (.int i), .val (.int pr)] [(.int (own_H xx)), (.ref ob)])) rfl rfl (hb hby d10_140)
        have N51 := Fr.snoc X51 NN g_o
        have f52_Z := Nat.le_trans f2_Z (Keep.of_wr W51).1
        have f53_E_ob := f3_E_ob.wr W51
        have f54_F_ob_places := f4_F_ob_places.other W51 (Or.inr (slot_ne (Or.inl (hw _ (List.mem_of_getElem? (i := 45) rfl))) (Or.inl (hw _ (List.mem_of_getElem? (i := 102) rfl))) (by decide) (t := (.array .int)) (t' := .int) (by decide) (by decide)))
        have f55_F_ob_hashes := f5_F_ob_hashes.other W51 (Or.inr (slot_ne (Or.inl (hw _ (List.mem_of_getElem? (i := 47) rfl))) (Or.inl (hw _ (List.mem_of_getElem? (i := 102) rfl))) (by decide) (t := (.array .int)) (t' := .int) (by decide) (by decide)))
        have f56_F_ob_keys := f6_F_ob_keys.other W51 (Or.inr (slot_ne (Or.inl (hw _ (List.mem_of_getElem? (i := 51) rfl))) (Or.inl (hw _ (List.mem_of_getElem? (i := 102) rfl))) (by decide) (t := (.array (.object "java/lang/String"))) (t' := .int) (by decide) (by decide)))
        have f57_F_ob_seconds := f7_F_ob_seconds.other W51 (Or.inr (slot_ne (Or.inl (hw _ (List.mem_of_getElem? (i := 53) rfl))) (Or.inl (hw _ (List.mem_of_getElem? (i := 102) rfl))) (by decide) (t := (.array (.object "java/lang/String"))) (t' := .int) (by decide) (by decide)))
        have f58_F_ob_taken := f8_F_ob_taken.other W51 (Or.inr (slot_ne (Or.inl (hw _ (List.mem_of_getElem? (i := 55) rfl))) (Or.inl (hw _ (List.mem_of_getElem? (i := 102) rfl))) (by decide) (t := (.array .int)) (t' := .int) (by decide) (by decide)))
        have f59_F_ob_size := f9_F_ob_size.other W51 (Or.inr (slot_ne (Or.inl (hw _ (List.mem_of_getElem? (i := 64) rfl))) (Or.inl (hw _ (List.mem_of_getElem? (i := 102) rfl))) (by decide) (t := .int) (t' := .int) (by decide) (by decide)))
        have f60_F_ob_hashedAtRandom := f10_F_ob_hashedAtRandom.other W51 (Or.inr (slot_ne (Or.inl (hw _ (List.mem_of_getElem? (i := 74) rfl))) (Or.inl (hw _ (List.mem_of_getElem? (i := 102) rfl))) (by decide) (t := .boolean) (t' := .int) (by decide) (by decide)))
        have f61_F_ob_foundHash := f11_F_ob_foundHash.same W51
        have f62_A_zA1 := f12_A_zA1.other W51 (Ne.symm (Nat.ne_of_lt zl1))
        have f63_A_zA2 := f13_A_zA2.other W51 (Ne.symm (Nat.ne_of_lt zl2))
        have f64_A_zA3 := f14_A_zA3.other W51 (Ne.symm (Nat.ne_of_lt zl3))
        have f65_A_zA4 := f15_A_zA4.other W51 (Ne.symm (Nat.ne_of_lt zl4))
        have f66_A_zA5 := f16_A_zA5.other W51 (Ne.symm (Nat.ne_of_lt zl5))
        have f67_HK_ob := own_HK.ps f17_HK_ob (own_PS.wr (own_PS.refl _ _ _) W51 (own_okO hw f3_E_ob))
        have f68_P := own_PS.wr f18_P W51 (own_okO hw f3_E_ob)
        have f69_L := own_KA.wr f19_L W51 (Nat.le_refl _)
        have f70_T_a1 := own_St.wr f20_T_a1 W51 (own_okO hw f3_E_ob)
        have f71_E_a1 := f21_E_a1.wr W51
        have f72_O := OO1.wr W51 g_o
        refine go st51 ?_
        show Go p e below _ (T51.setTop (mkF m 143 #[.val (.ref ob), .val (.ref a1), .val .null, .val (.int (own_H xx)), .val (.int (15 : Int32)), .val (.int i), .val (.int pr)] []))
        refine go (fun t kt' => by refine XS.iload X51.here hx rfl (hb hby d10_143) rfl ?_; exact kt') ?_
        show Go p e below _ (T51.setTop (mkF m 145 #[.val (.ref ob), .val (.ref a1), .val .null, .val (.int (own_H xx)), .val (.int (15 : Int32)), .val (.int i), .val (.int pr)] [(.int i)]))
        refine go (fun t kt' => by refine XS.iconst X51.here hx rfl (hb hby d10_145) ?_; exact kt') ?_
        show Go p e below _ (T51.setTop (mkF m 146 #[.val (.ref ob), .val (.ref a1), .val .null, .val (.int (own_H xx)), .val (.int (15 : Int32)), .val (.int i), .val (.int pr)] [(.int (-1 : Int32)), (.int i)]))
        refine go (fun t kt' => by refine XS.ixor X51.here hx rfl (hb hby d10_146) rfl ?_; exact kt') ?_
        show Go p e below _ (T51.setTop (mkF m 147 #[.val (.ref ob), .val (.ref a1), .val .null, .val (.int (own_H xx)), .val (.int (15 : Int32)), .val (.int i), .val (.int pr)] [(.int (i ^^^ (-1 : Int32)))]))
        refine goOut X51 (fun h => by rw [Bd.returns] at h; cases h) hlk (fun fs hr => retOut X51 hx Bd.returns rfl (Or.inl ⟨rfl, Or.inl rfl, _, rfl⟩) (hb hby d10_147) hr) (by decide) (by decide) ?_
        rw [e51]
        exact ⟨_, rfl, ⟨d, i, by omega, hi, hbf, Or.inr ⟨(by rw [← own_cl hi]; exact c37_50), rfl⟩⟩, ⟨N51, f72_O, f68_P, f69_L⟩, ⟨g_o, f53_E_ob, zA1, zA2, zA3, zA4, zA5, _, ⟨zl1, zl2, zl3, zl4, zl5⟩, ⟨zn12, zn15, zn25, zn34⟩, f54_F_ob_places, f55_F_ob_hashes, f56_F_ob_keys, f57_F_ob_seconds, f58_F_ob_taken, f59_F_ob_size, f60_F_ob_hashedAtRandom, f61_F_ob_foundHash, f62_A_zA1, f63_A_zA2, f64_A_zA3, f65_A_zA4, f66_A_zA5, f67_HK_ob⟩⟩
      · skip
        refine go (fun t kt' => by refine XS.ifNo X49.here hx rfl (hb hby d10_37) rfl ((if0 _ _).trans (feq c37_50).1) ?_; exact kt') ?_
        show Go p e below _ (T49.setTop (mkF m 40 #[.val (.ref ob), .val (.ref a1), .val .null, .val (.int (own_H xx)), .val (.int (15 : Int32)), .val (.int i), .val (.int pr)] []))
        refine go (fun t kt' => by refine XS.iload X49.here hx rfl (hb hby d10_40) rfl ?_; exact kt') ?_
        show Go p e below _ (T49.setTop (mkF m 42 #[.val (.ref ob), .val (.ref a1), .val .null, .val (.int (own_H xx)), .val (.int (15 : Int32)), .val (.int i), .val (.int pr)] [(.int pr)]))
        refine go (fun t kt' => by refine XS.sipush X49.here hx rfl (hb hby d10_42) ?_; exact kt') ?_
        show Go p e below _ (T49.setTop (mkF m 45 #[.val (.ref ob), .val (.ref a1), .val .null, .val (.int (own_H xx)), .val (.int (15 : Int32)), .val (.int i), .val (.int pr)] [(.int (128 : Int32)), (.int pr)]))
        have c45_73 : ¬ pr = (128 : Int32) := own_n128 hpr (by omega)
        refine go (fun t kt' => by refine XS.icmpYes X49.here hx rfl (pc0 := 45) (pc' := 76) rfl (hb hby d10_45) rfl (feq c45_73).2 (by decide) (by decide) ?_; exact kt') ?_
        show Go p e below _ (T49.setTop (mkF m 76 #[.val (.ref ob), .val (.ref a1), .val .null, .val (.int (own_H xx)), .val (.int (15 : Int32)), .val (.int i), .val (.int pr)] []))
        refine go (fun t kt' => by refine XS.aloadN X49.here hx rfl (hb hby d10_76) rfl rfl ?_; exact kt') ?_
        show Go p e below _ (T49.setTop (mkF m 77 #[.val (.ref ob), .val (.ref a1), .val .null, .val (.int (own_H xx)), .val (.int (15 : Int32)), .val (.int i), .val (.int pr)] [(.ref ob)]))
        obtain ⟨T74, X74, e74, st74⟩ := getF X49 hx hZ hown (host := "") (Or.inl (hw _ (List.mem_of_getElem? (i := 46) rfl))) Via.refl e49 f5_F_ob_hashes (g := (mkF m 77 #[.val (.ref ob), .val (.ref a1), .val .null, .val (.int (own_H xx)), .val (.int (15 : Int32)), .val (.int i), .val (.int pr)] [(.ref ob)])) rfl rfl (hb hby d10_77)
        refine go st74 ?_
        show Go p e below _ (T74.setTop (mkF m 80 #[.val (.ref ob), .val (.ref a1), .val .null, .val (.int (own_H xx)), .val (.int (15 : Int32)), .val (.int i), .val (.int pr)] [(.ref zA2)]))
        refine go (fun t kt' => by refine XS.iload X74.here hx rfl (hb hby d10_80) rfl ?_; exact kt') ?_
        show Go p e below _ (T74.setTop (mkF m 82 #[.val (.ref ob), .val (.ref a1), .val .null, .val (.int (own_H xx)), .val (.int (15 : Int32)), .val (.int i), .val (.int pr)] [(.int i), (.ref zA2)]))
        refine go (fun t kt' => by refine ldIA X74 hx hZ e74 f13_A_zA2 (j := i) hin (g := (mkF m 82 #[.val (.ref ob), .val (.ref a1), .val .null, .val (.int (own_H xx)), .val (.int (15 : Int32)), .val (.int i), .val (.int pr)] [(.int i), (.ref zA2)])) rfl rfl (hb hby d10_82) t ?_; exact kt') ?_
        show Go p e below _ (T74.setTop (mkF m 83 #[.val (.ref ob), .val (.ref a1), .val .null, .val (.int (own_H xx)), .val (.int (15 : Int32)), .val (.int i), .val (.int pr)] [(.int (hs (i).toNatClampNeg))]))
        refine go (fun t kt' => by refine XS.iloadN X74.here hx rfl (hb hby d10_83) rfl ?_; exact kt') ?_
        show Go p e below _ (T74.setTop (mkF m 84 #[.val (.ref ob), .val (.ref a1), .val .null, .val (.int (own_H xx)), .val (.int (15 : Int32)), .val (.int i), .val (.int pr)] [(.int (own_H xx)), (.int (hs (i).toNatClampNeg))]))
        by_cases c84_75 : ¬ (hs (i).toNatClampNeg) = (own_H xx)
        · skip
          refine go (fun t kt' => by refine XS.icmpYes X74.here hx rfl (pc0 := 84) (pc' := 123) rfl (hb hby d10_84) rfl (feq c84_75).2 (by decide) (by decide) ?_; exact kt') ?_
          show Go p e below _ (T74.setTop (mkF m 123 #[.val (.ref ob), .val (.ref a1), .val .null, .val (.int (own_H xx)), .val (.int (15 : Int32)), .val (.int i), .val (.int pr)] []))
          refine go (fun t kt' => by refine XS.iload X74.here hx rfl (hb hby d10_123) rfl ?_; exact kt') ?_
          show Go p e below _ (T74.setTop (mkF m 125 #[.val (.ref ob), .val (.ref a1), .val .null, .val (.int (own_H xx)), .val (.int (15 : Int32)), .val (.int i), .val (.int pr)] [(.int i)]))
          refine go (fun t kt' => by refine XS.iconst X74.here hx rfl (hb hby d10_125) ?_; exact kt') ?_
          show Go p e below _ (T74.setTop (mkF m 126 #[.val (.ref ob), .val (.ref a1), .val .null, .val (.int (own_H xx)), .val (.int (15 : Int32)), .val (.int i), .val (.int pr)] [(.int (1 : Int32)), (.int i)]))
          refine go (fun t kt' => by refine XS.iadd X74.here hx rfl (hb hby d10_126) rfl ?_; exact kt') ?_
          show Go p e below _ (T74.setTop (mkF m 127 #[.val (.ref ob), .val (.ref a1), .val .null, .val (.int (own_H xx)), .val (.int (15 : Int32)), .val (.int i), .val (.int pr)] [(.int (i + (1 : Int32)))]))
          refine go (fun t kt' => by refine XS.iload X74.here hx rfl (hb hby d10_127) rfl ?_; exact kt') ?_
          show Go p e below _ (T74.setTop (mkF m 129 #[.val (.ref ob), .val (.ref a1), .val .null, .val (.int (own_H xx)), .val (.int (15 : Int32)), .val (.int i), .val (.int pr)] [(.int (15 : Int32)), (.int (i + (1 : Int32)))]))
          refine go (fun t kt' => by refine XS.iand X74.here hx rfl (hb hby d10_129) rfl ?_; exact kt') ?_
          show Go p e below _ (T74.setTop (mkF m 130 #[.val (.ref ob), .val (.ref a1), .val .null, .val (.int (own_H xx)), .val (.int (15 : Int32)), .val (.int i), .val (.int pr)] [(.int ((i + (1 : Int32)) &&& (15 : Int32)))]))
          refine go (fun t kt' => by refine XS.istore X74.here hx rfl (hb hby d10_130) rfl (l' := #[.val (.ref ob), .val (.ref a1), .val .null, .val (.int (own_H xx)), .val (.int (15 : Int32)), .val (.int ((i + (1 : Int32)) &&& (15 : Int32))), .val (.int pr)]) rfl ?_; exact kt') ?_
          show Go p e below _ (T74.setTop (mkF m 132 #[.val (.ref ob), .val (.ref a1), .val .null, .val (.int (own_H xx)), .val (.int (15 : Int32)), .val (.int ((i + (1 : Int32)) &&& (15 : Int32))), .val (.int pr)] []))
          refine go (fun t kt' => by refine XS.iinc X74.here hx rfl (hb hby d10_132) rfl (l' := #[.val (.ref ob), .val (.ref a1), .val .null, .val (.int (own_H xx)), .val (.int (15 : Int32)), .val (.int ((i + (1 : Int32)) &&& (15 : Int32))), .val (.int (pr + (1 : Int32)))]) rfl ?_; exact kt') ?_
          show Go p e below _ (T74.setTop (mkF m 135 #[.val (.ref ob), .val (.ref a1), .val .null, .val (.int (own_H xx)), .val (.int (15 : Int32)), .val (.int ((i + (1 : Int32)) &&& (15 : Int32))), .val (.int (pr + (1 : Int32)))] []))
          refine go (fun t kt' => by refine XS.goto X74.here hx rfl (pc0 := 135) (pc' := 30) rfl (hb hby d10_135) (by decide) (by decide) ?_; exact kt') ?_
          show Go p e below _ (T74.setTop (mkF m 30 #[.val (.ref ob), .val (.ref a1), .val .null, .val (.int (own_H xx)), .val (.int (15 : Int32)), .val (.int ((i + (1 : Int32)) &&& (15 : Int32))), .val (.int (pr + (1 : Int32)))] []))
          exact ih (d + 1) _ _ T74 _ (by omega) (own_next hi) (own_inc hpr (by omega)) (own_hb hbf (by rw [← own_cl hi]; exact c37_50) (by rw [← own_cl hi]; exact c84_75)) X74 e74 NN
        · skip
          refine go (fun t kt' => by refine XS.icmpNo X74.here hx rfl (hb hby d10_84) rfl (teq (Decidable.not_not.mp c84_75)).2 ?_; exact kt') ?_
          show Go p e below _ (T74.setTop (mkF m 87 #[.val (.ref ob), .val (.ref a1), .val .null, .val (.int (own_H xx)), .val (.int (15 : Int32)), .val (.int i), .val (.int pr)] []))
          refine go (fun t kt' => by refine XS.aloadN X74.here hx rfl (hb hby d10_87) rfl rfl ?_; exact kt') ?_
          show Go p e below _ (T74.setTop (mkF m 88 #[.val (.ref ob), .val (.ref a1), .val .null, .val (.int (own_H xx)), .val (.int (15 : Int32)), .val (.int i), .val (.int pr)] [(.ref ob)]))
          obtain ⟨T76, X76, e76, st76⟩ := getF X74 hx hZ hown (host := "") (Or.inl (hw _ (List.mem_of_getElem? (i := 50) rfl))) Via.refl e74 f6_F_ob_keys (g := (mkF m 88 #[.val (.ref ob), .val (.ref a1), .val .null, .val (.int (own_H xx)), .val (.int (15 : Int32)), .val (.int i), .val (.int pr)] [(.ref ob)])) rfl rfl (hb hby d10_88)
          refine go st76 ?_
          show Go p e below _ (T76.setTop (mkF m 91 #[.val (.ref ob), .val (.ref a1), .val .null, .val (.int (own_H xx)), .val (.int (15 : Int32)), .val (.int i), .val (.int pr)] [(.ref zA3)]))
          refine go (fun t kt' => by refine XS.iload X76.here hx rfl (hb hby d10_91) rfl ?_; exact kt') ?_
          show Go p e below _ (T76.setTop (mkF m 93 #[.val (.ref ob), .val (.ref a1), .val .null, .val (.int (own_H xx)), .val (.int (15 : Int32)), .val (.int i), .val (.int pr)] [(.int i), (.ref zA3)]))
          refine go (fun t kt' => by refine ldRA X76 hx hZ e76 f14_A_zA3 (j := i) hin (g := (mkF m 93 #[.val (.ref ob), .val (.ref a1), .val .null, .val (.int (own_H xx)), .val (.int (15 : Int32)), .val (.int i), .val (.int pr)] [(.int i), (.ref zA3)])) rfl rfl (hb hby d10_93) t ?_; exact kt') ?_
          show Go p e below _ (T76.setTop (mkF m 94 #[.val (.ref ob), .val (.ref a1), .val .null, .val (.int (own_H xx)), .val (.int (15 : Int32)), .val (.int i), .val (.int pr)] [(kf (i).toNatClampNeg)]))
          obtain ⟨ak, xk, ek, Sk, hHk⟩ := f17_HK_ob (i).toNatClampNeg (by rw [own_cl hi]; exact own_sl_lt _ _) c37_50
          have hxx : xk = xx := own_Hinj Sk.2.2.2.1 S_a1.2.2.2.1 (hHk.trans (Decidable.not_not.mp c84_75))
          have Ek := Sk.2.1
          rw [ek]
          show Go p e below _ (T76.setTop (mkF m 94 #[.val (.ref ob), .val (.ref a1), .val .null, .val (.int (own_H xx)), .val (.int (15 : Int32)), .val (.int i), .val (.int pr)] [(.ref ak)]))
          refine go (fun t kt' => by refine XS.aloadN X76.here hx rfl (hb hby d10_94) rfl rfl ?_; exact kt') ?_
          show Go p e below _ (T76.setTop (mkF m 95 #[.val (.ref ob), .val (.ref a1), .val .null, .val (.int (own_H xx)), .val (.int (15 : Int32)), .val (.int i), .val (.int pr)] [(.ref a1), (.ref ak)]))
          obtain ⟨cq77, kq77, q77a, q77b, q77c⟩ := isOf hZ e76 Ek
          obtain ⟨_, _, ⟨T77, L77, k77, n77⟩, -, X77, ⟨Lc77, hQ77, l77, y77, z77⟩, st77⟩ := X76.virtualBack hx (y := (⟨"java/lang/String", "equals", "(Ljava/lang/Object;)Z"⟩ : MethodName)) (z := (⟨"java/lang/String", "equals", "(Ljava/lang/Object;)Z"⟩ : MethodName)) hown (mvT hZ (hw _ (List.mem_of_getElem? (i := 121) rfl))) (mvT hZ (hw _ (List.mem_of_getElem? (i := 122) rfl))) (notFace_of_selects (args := #[]) (mvT hZ (hw _ (List.mem_of_getElem? (i := 124) rfl)))) (mvT hZ (hw _ (List.mem_of_getElem? (i := 124) rfl))) (mvT hZ (hw _ (List.mem_of_getElem? (i := 123) rfl))) (by decide) (backOf (W := 0) (rm_eq l Z a0 hw [] ak a1 cs rd xk xx T1.heap n0 f2_Z HS OO1 Sk f20_T_a1) hZ (hw _ (List.mem_of_getElem? (i := 125) rfl)) (hw _ (List.mem_of_getElem? (i := 2) rfl)) (by decide) (by decide)) q77a q77c (g := (mkF m 95 #[.val (.ref ob), .val (.ref a1), .val .null, .val (.int (own_H xx)), .val (.int (15 : Int32)), .val (.int i), .val (.int pr)] [(.ref a1), (.ref ak)])) rfl (by rw [hml]; rfl) (Steps.refl _) (argsL := [(.ref a1)]) (rest := []) (lenOf pd_7 rfl) rfl (by show 2 * 0 + _ ≤ _; exact Nat.le_of_eq rfl) (hb hby d10_95) (fun _ _ => ⟨rfl, e76, (by decide : 0 + 0 ≤ _), (by decide : 0 + 0 ≤ _)⟩)
          dsimp only [Pt.U, Pt.locs, Pt.cells, Pt.slots] at X77 l77 y77 z77 st77 hQ77
          rw [l77, y77, z77] at X77
          obtain ⟨rfl, N77q, e77⟩ := hQ77
          have N77 := Fr.app NN N77q
          refine go (fun t kt => st77.trans kt) ?_
          show Go p e below _ (T77.setTop (mkF m 98 #[.val (.ref ob), .val (.ref a1), .val .null, .val (.int (own_H xx)), .val (.int (15 : Int32)), .val (.int i), .val (.int pr)] [(.int (own_eq xk xx))]))
          rw [own_eqt hxx]
          show Go p e below _ (T77.setTop (mkF m 98 #[.val (.ref ob), .val (.ref a1), .val .null, .val (.int (own_H xx)), .val (.int (15 : Int32)), .val (.int i), .val (.int pr)] [(.int (1 : Int32))]))
          have c98_78 : ¬ ((1 : Int32) = (0 : Int32)) := by decide
          refine go (fun t kt' => by refine XS.ifNo X77.here hx rfl (hb hby d10_98) rfl ((if0 _ _).trans (feq c98_78).1) ?_; exact kt') ?_
          show Go p e below _ (T77.setTop (mkF m 101 #[.val (.ref ob), .val (.ref a1), .val .null, .val (.int (own_H xx)), .val (.int (15 : Int32)), .val (.int i), .val (.int pr)] []))
          refine go (fun t kt' => by refine XS.aloadN X77.here hx rfl (hb hby d10_101) rfl rfl ?_; exact kt') ?_
          show Go p e below _ (T77.setTop (mkF m 102 #[.val (.ref ob), .val (.ref a1), .val .null, .val (.int (own_H xx)), .val (.int (15 : Int32)), .val (.int i), .val (.int pr)] [(.ref ob)]))
          obtain ⟨T79, X79, e79, st79⟩ := getF X77 hx hZ hown (host := "") (Or.inl (hw _ (List.mem_of_getElem? (i := 52) rfl))) Via.refl e77 f7_F_ob_seconds (g := (mkF m 102 #[.val (.ref ob), .val (.ref a1), .val .null, .val (.int (own_H xx)), .val (.int (15 : Int32)), .val (.int i), .val (.int pr)] [(.ref ob)])) rfl rfl (hb hby d10_102)
          refine go st79 ?_
          show Go p e below _ (T79.setTop (mkF m 105 #[.val (.ref ob), .val (.ref a1), .val .null, .val (.int (own_H xx)), .val (.int (15 : Int32)), .val (.int i), .val (.int pr)] [(.ref zA4)]))
          refine go (fun t kt' => by refine XS.iload X79.here hx rfl (hb hby d10_105) rfl ?_; exact kt') ?_
          show Go p e below _ (T79.setTop (mkF m 107 #[.val (.ref ob), .val (.ref a1), .val .null, .val (.int (own_H xx)), .val (.int (15 : Int32)), .val (.int i), .val (.int pr)] [(.int i), (.ref zA4)]))
          refine go (fun t kt' => by refine ldRA X79 hx hZ e79 f15_A_zA4 (j := i) hin (g := (mkF m 107 #[.val (.ref ob), .val (.ref a1), .val .null, .val (.int (own_H xx)), .val (.int (15 : Int32)), .val (.int i), .val (.int pr)] [(.int i), (.ref zA4)])) rfl rfl (hb hby d10_107) t ?_; exact kt') ?_
          show Go p e below _ (T79.setTop (mkF m 108 #[.val (.ref ob), .val (.ref a1), .val .null, .val (.int (own_H xx)), .val (.int (15 : Int32)), .val (.int i), .val (.int pr)] [((fun _ => (.null : Value)) (i).toNatClampNeg)]))
          show Go p e below _ (T79.setTop (mkF m 108 #[.val (.ref ob), .val (.ref a1), .val .null, .val (.int (own_H xx)), .val (.int (15 : Int32)), .val (.int i), .val (.int pr)] [.null]))
          refine go (fun t kt' => by refine XS.aloadN X79.here hx rfl (hb hby d10_108) rfl rfl ?_; exact kt') ?_
          show Go p e below _ (T79.setTop (mkF m 109 #[.val (.ref ob), .val (.ref a1), .val .null, .val (.int (own_H xx)), .val (.int (15 : Int32)), .val (.int i), .val (.int pr)] [.null, .null]))
          obtain ⟨_, _, ⟨T80, L80, k80, n80⟩, -, X80, ⟨Lc80, hQ80, l80, y80, z80⟩, st80⟩ := Jvm.LawKit.callS X79 hx (y := (⟨"java/util/Objects", "equals", "(Ljava/lang/Object;Ljava/lang/Object;)Z"⟩ : MethodName)) hown (mvT hZ (hw _ (List.mem_of_getElem? (i := 126) rfl))) (mvT hZ (hw _ (List.mem_of_getElem? (i := 127) rfl))) (mvT hZ (hw _ (List.mem_of_getElem? (i := 128) rfl))) (mvT hZ (hw _ (List.mem_of_getElem? (i := 129) rfl))) (by decide) (backOf (W := 0) (rm_oe l Z a0 hw []  cs rd  T1.heap n0 f2_Z HS OO1 ) hZ (hw _ (List.mem_of_getElem? (i := 129) rfl)) (hw _ (List.mem_of_getElem? (i := 128) rfl)) (by decide) (by decide)) (g := (mkF m 109 #[.val (.ref ob), .val (.ref a1), .val .null, .val (.int (own_H xx)), .val (.int (15 : Int32)), .val (.int i), .val (.int pr)] [.null, .null])) rfl (by rw [hml]; rfl) (argsL := [.null, .null]) (rest := []) (lenOf pd_8 rfl) rfl (by show 2 * 0 + _ ≤ _; exact Nat.le_of_eq rfl) (hb hby d10_109) (fun _ _ => ⟨rfl, e79, (by decide : 0 + 0 ≤ _), (by decide : 0 + 0 ≤ _)⟩)
          dsimp only [Pt.U, Pt.locs, Pt.cells, Pt.slots] at X80 l80 y80 z80 st80 hQ80
          rw [l80, y80, z80] at X80
          obtain ⟨rfl, N80q, e80⟩ := hQ80
          have N80 := Fr.app N77 N80q
          refine go st80 ?_
          show Go p e below _ (T80.setTop (mkF m 112 #[.val (.ref ob), .val (.ref a1), .val .null, .val (.int (own_H xx)), .val (.int (15 : Int32)), .val (.int i), .val (.int pr)] [(.int (1 : Int32))]))
          have c112_81 : ¬ ((1 : Int32) = (0 : Int32)) := by decide
          refine go (fun t kt' => by refine XS.ifNo X80.here hx rfl (hb hby d10_112) rfl ((if0 _ _).trans (feq c112_81).1) ?_; exact kt') ?_
          show Go p e below _ (T80.setTop (mkF m 115 #[.val (.ref ob), .val (.ref a1), .val .null, .val (.int (own_H xx)), .val (.int (15 : Int32)), .val (.int i), .val (.int pr)] []))
          refine go (fun t kt' => by refine XS.aloadN X80.here hx rfl (hb hby d10_115) rfl rfl ?_; exact kt') ?_
          show Go p e below _ (T80.setTop (mkF m 116 #[.val (.ref ob), .val (.ref a1), .val .null, .val (.int (own_H xx)), .val (.int (15 : Int32)), .val (.int i), .val (.int pr)] [(.ref ob)]))
          refine go (fun t kt' => by refine XS.iloadN X80.here hx rfl (hb hby d10_116) rfl ?_; exact kt') ?_
          show Go p e below _ (T80.setTop (mkF m 117 #[.val (.ref ob), .val (.ref a1), .val .null, .val (.int (own_H xx)), .val (.int (15 : Int32)), .val (.int i), .val (.int pr)] [(.int (own_H xx)), (.ref ob)]))
          obtain ⟨T82, h82, X82, e82, W82, st82⟩ := putF X80 hx hZ hown (host := "") (Or.inl (hw _ (List.mem_of_getElem? (i := 101) rfl))) Via.refl e80 f11_F_ob_foundHash f3_E_ob (Or.inl (hw _ (List.mem_of_getElem? (i := 102) rfl))) (hw _ (List.mem_of_getElem? (i := 29) rfl)) (ty := .int) (by decide) rfl rfl (g := (mkF m 117 #[.val (.ref ob), .val (.ref a1), .val .null, .val (.int (own_H xx)), .val (.int (15 : Int32)), .val (.int i), .val (.int pr)] [(.int (own_H xx)), (.ref ob)])) rfl rfl (hb hby d10_117)
          have N82 := Fr.snoc X82 N80 g_o
          have f83_Z := Nat.le_trans f2_Z (Keep.of_wr W82).1
          have f84_E_ob := f3_E_ob.wr W82
          have f85_F_ob_places := f4_F_ob_places.other W82 (Or.inr (slot_ne (Or.inl (hw _ (List.mem_of_getElem? (i := 45) rfl))) (Or.inl (hw _ (List.mem_of_getElem? (i := 102) rfl))) (by decide) (t := (.array .int)) (t' := .int) (by decide) (by decide)))
          have f86_F_ob_hashes := f5_F_ob_hashes.other W82 (Or.inr (slot_ne (Or.inl (hw _ (List.mem_of_getElem? (i := 47) rfl))) (Or.inl (hw _ (List.mem_of_getElem? (i := 102) rfl))) (by decide) (t := (.array .int)) (t' := .int) (by decide) (by decide)))
          have f87_F_ob_keys := f6_F_ob_keys.other W82 (Or.inr (slot_ne (Or.inl (hw _ (List.mem_of_getElem? (i := 51) rfl))) (Or.inl (hw _ (List.mem_of_getElem? (i := 102) rfl))) (by decide) (t := (.array (.object "java/lang/String"))) (t' := .int) (by decide) (by decide)))
          have f88_F_ob_seconds := f7_F_ob_seconds.other W82 (Or.inr (slot_ne (Or.inl (hw _ (List.mem_of_getElem? (i := 53) rfl))) (Or.inl (hw _ (List.mem_of_getElem? (i := 102) rfl))) (by decide) (t := (.array (.object "java/lang/String"))) (t' := .int) (by decide) (by decide)))
          have f89_F_ob_taken := f8_F_ob_taken.other W82 (Or.inr (slot_ne (Or.inl (hw _ (List.mem_of_getElem? (i := 55) rfl))) (Or.inl (hw _ (List.mem_of_getElem? (i := 102) rfl))) (by decide) (t := (.array .int)) (t' := .int) (by decide) (by decide)))
          have f90_F_ob_size := f9_F_ob_size.other W82 (Or.inr (slot_ne (Or.inl (hw _ (List.mem_of_getElem? (i := 64) rfl))) (Or.inl (hw _ (List.mem_of_getElem? (i := 102) rfl))) (by decide) (t := .int) (t' := .int) (by decide) (by decide)))
          have f91_F_ob_hashedAtRandom := f10_F_ob_hashedAtRandom.other W82 (Or.inr (slot_ne (Or.inl (hw _ (List.mem_of_getElem? (i := 74) rfl))) (Or.inl (hw _ (List.mem_of_getElem? (i := 102) rfl))) (by decide) (t := .boolean) (t' := .int) (by decide) (by decide)))
          have f92_F_ob_foundHash := f11_F_ob_foundHash.same W82
          have f93_A_zA1 := f12_A_zA1.other W82 (Ne.symm (Nat.ne_of_lt zl1))
          have f94_A_zA2 := f13_A_zA2.other W82 (Ne.symm (Nat.ne_of_lt zl2))
          have f95_A_zA3 := f14_A_zA3.other W82 (Ne.symm (Nat.ne_of_lt zl3))
          have f96_A_zA4 := f15_A_zA4.other W82 (Ne.symm (Nat.ne_of_lt zl4))
          have f97_A_zA5 := f16_A_zA5.other W82 (Ne.symm (Nat.ne_of_lt zl5))
          have f98_HK_ob := own_HK.ps f17_HK_ob (own_PS.wr (own_PS.refl _ _ _) W82 (own_okO hw f3_E_ob))
          have f99_P := own_PS.wr f18_P W82 (own_okO hw f3_E_ob)
          have f100_L := own_KA.wr f19_L W82 (Nat.le_refl _)
          have f101_T_a1 := own_St.wr f20_T_a1 W82 (own_okO hw f3_E_ob)
          have f102_E_a1 := f21_E_a1.wr W82
          have f103_O := OO1.wr W82 g_o
          have f104_E_ak := Ek.wr W82
          have f105_T_ak := own_St.wr Sk W82 (own_okO hw f3_E_ob)
          refine go st82 ?_
          show Go p e below _ (T82.setTop (mkF m 120 #[.val (.ref ob), .val (.ref a1), .val .null, .val (.int (own_H xx)), .val (.int (15 : Int32)), .val (.int i), .val (.int pr)] []))
          refine go (fun t kt' => by refine XS.iload X82.here hx rfl (hb hby d10_120) rfl ?_; exact kt') ?_
          show Go p e below _ (T82.setTop (mkF m 122 #[.val (.ref ob), .val (.ref a1), .val .null, .val (.int (own_H xx)), .val (.int (15 : Int32)), .val (.int i), .val (.int pr)] [(.int i)]))
          refine goOut X82 (fun h => by rw [Bd.returns] at h; cases h) hlk (fun fs hr => retOut X82 hx Bd.returns rfl (Or.inl ⟨rfl, Or.inl rfl, _, rfl⟩) (hb hby d10_122) hr) (by decide) (by decide) ?_
          rw [e82]
          exact ⟨_, rfl, ⟨d, i, by omega, hi, hbf, Or.inl ⟨(by rw [← own_cl hi]; exact c37_50), (by rw [← own_cl hi]; exact Decidable.not_not.mp c84_75), rfl⟩⟩, ⟨N82, f103_O, f99_P, f100_L⟩, ⟨g_o, f84_E_ob, zA1, zA2, zA3, zA4, zA5, _, ⟨zl1, zl2, zl3, zl4, zl5⟩, ⟨zn12, zn15, zn25, zn34⟩, f85_F_ob_places, f86_F_ob_hashes, f87_F_ob_keys, f88_F_ob_seconds, f89_F_ob_taken, f90_F_ob_size, f91_F_ob_hashedAtRandom, f92_F_ob_foundHash, f93_A_zA1, f94_A_zA2, f95_A_zA3, f96_A_zA4, f97_A_zA5, f98_HK_ob⟩⟩
  exact LP D 0 _ _ T24 _ (Nat.zero_add _) (by rw [own_sl0]; exact own_hm_eq _) rfl (fun e he => absurd he (Nat.not_lt_zero _)) X24 e24 N24
theorem d20_0 : decode prog_120_method_4_code 0 = .ok (.aload_n 0, 1) := by decide +kernel
theorem d20_1 : decode prog_120_method_4_code 1 = .ok (.aload_n 1, 1) := by decide +kernel
theorem d20_2 : decode prog_120_method_4_code 2 = .ok (.aconst_null, 1) := by decide +kernel
theorem d20_3 : decode prog_120_method_4_code 3 = .ok (.invokevirtual 49, 3) := by decide +kernel
theorem d20_6 : decode prog_120_method_4_code 6 = .ok (.istore_n 2, 1) := by decide +kernel
theorem d20_7 : decode prog_120_method_4_code 7 = .ok (.iload_n 2, 1) := by decide +kernel
theorem d20_8 : decode prog_120_method_4_code 8 = .ok (.ifCond .ge 7, 3) := by decide +kernel
theorem d20_15 : decode prog_120_method_4_code 15 = .ok (.aload_n 0, 1) := by decide +kernel
theorem d20_16 : decode prog_120_method_4_code 16 = .ok (.getfield 18, 3) := by decide +kernel
theorem d20_19 : decode prog_120_method_4_code 19 = .ok (.iload_n 2, 1) := by decide +kernel
theorem d20_20 : decode prog_120_method_4_code 20 = .ok (.iaload, 1) := by decide +kernel
theorem d20_21 : decode prog_120_method_4_code 21 = .ok (.iconst 1, 1) := by decide +kernel
theorem d20_22 : decode prog_120_method_4_code 22 = .ok (.isub, 1) := by decide +kernel
theorem d20_23 : decode prog_120_method_4_code 23 = .ok (.ireturn, 1) := by decide +kernel
theorem d20_11 : decode prog_120_method_4_code 11 = .ok (.iconst (-1), 1) := by decide +kernel
theorem d20_12 : decode prog_120_method_4_code 12 = .ok (.goto 11, 3) := by decide +kernel
theorem ef_rm_ge (m : MethodId) (x0 : Addr) (x1 : Addr) : entryFrame m #[(.ref x0), (.ref x1)] 3 = mkF m 0 #[.val (.ref x0), .val (.ref x1), .unset] [] := by first | (simp [entryFrame, mkF, argsToLocals, Value.category]; done) | rfl
def Q_ge (Z : State) (ob : Addr) (pl hs tk : Nat → Int32) (sz xx : Int32) (h0 : Heap) (n0 : Nat) (v : Option Value) (h : Heap) (L : List Loc) : Prop := ∃ r : Int32, v = some (.int r) ∧ own_Gt pl hs (own_H xx) r ∧ own_Cm Z n0 h0 h ob L ∧ own_HX Z n0 h ob pl hs tk sz (own_H xx)
set_option maxRecDepth 65536 in
set_option maxHeartbeats 40000000 in
theorem rm_ge (l : Launch) (Z : State) (a0 : Array Value) (hw : ∀ d ∈ tables_1, d.before a0 Z = true) (ws : List Jvm.Cond) (ob : Addr) (a1 : Addr) (cs : Int32) (rd : Addr) (pl hs tk : Nat → Int32) (sz fh : Int32) (xx : Int32) (h0 : Heap) (n0 : Nat) (Z0 : n0 ≤ h0.size) (HS : own_sets Z cs rd) (OO : Old Z n0 h0) (HXo : own_HX Z n0 h0 ob pl hs tk sz fh) (S_a1 : own_St Z n0 h0 a1 xx) (hfree : own_Free pl (own_H xx)) :
    MetFree l (⟨"com/example/casewright/casewright/formats/HashIndex", "get", "(Ljava/lang/String;)I"⟩ : MethodName) (head1 (Jvm.Cond.code (⟨"com/example/casewright/casewright/formats/HashIndex", "get", "(Ljava/lang/String;)I"⟩ : MethodName) prog_120_method_4_code 3 (some .int) :: ws) ({ frames := 4, cells := 0, slots := 0, locals := 57 } : Room)) (fun av' U => av' = #[(.ref ob), (.ref a1)] ∧ Z.Warmed39 U.vm ∧ U.heap = h0) (fun _ _ _ _ _ => True) (fun _ U o U' => ∃ v L, o = .returned v ∧ Q_ge Z ob pl hs tk sz xx h0 n0 v U'.heap L ∧ FrameEnd U o U' L ({ frames := 4, cells := 0, slots := 0, locals := 57 } : Room).cells ({ frames := 4, cells := 0, slots := 0, locals := 57 } : Room).slots) := by
  refine MetFree.of_bodySF (plainFor_of_name pn_com_example_casewright_casewright_formats_HashIndex) hisR ?_
  intro p e s m args below meth c s₁ Bd hml0 hP hK
  obtain ⟨rfl, hZ, hh⟩ := hP
  have hx := Bd.exec
  have hby := Bd.bytes
  have hlk := Bd.notSynchronized
  have hml : c.maxLocals = 3 := hml0
  have hown : s.vm.findClass "com/example/casewright/casewright/formats/HashIndex" = some m.cls := findClass_of_methodNamed Bd.named
  have hnm := (name_of_methodNamed Bd.named Bd.method).1
  have X0 : Stand p l e ({ frames := 4, cells := 0, slots := 0, locals := 57 } : Room) s m #[(.ref ob), (.ref a1)] below meth c s₁ [] 0 0 := Stand.of_body Bd
  have e0 : s₁.heap = h0 := by rw [← hh, Bd.state]; rfl
  have N0 := Fr.nil n0
  show Go p e below (Kq s (Q_ge Z ob pl hs tk sz xx h0 n0) ({ frames := 4, cells := 0, slots := 0, locals := 57 } : Room).cells ({ frames := 4, cells := 0, slots := 0, locals := 57 } : Room).slots) _
  refine go (fun t kt => castTop (ef_rm_ge m ob a1) kt) ?_
  have HS0 := HS
  obtain ⟨S_cs, hcs, S_rd⟩ := HS0
  obtain ⟨g_o, E_o, zA1, zA2, zA3, zA4, zA5, kf, ⟨zl1, zl2, zl3, zl4, zl5⟩, ⟨zn12, zn15, zn25, zn34⟩, zF1, zF2, zF3, zF4, zF5, zF6, zF7, zF8, zV1, zV2, zV3, zV4, zV5, HK⟩ := HXo
  have zm02 := own_neIR zV1 zV3 (by intro q; cases q)
  have zm03 := own_neIR zV1 zV4 (by intro q; cases q)
  have zm12 := own_neIR zV2 zV3 (by intro q; cases q)
  have zm13 := own_neIR zV2 zV4 (by intro q; cases q)
  have zm42 := own_neIR zV5 zV3 (by intro q; cases q)
  have zm43 := own_neIR zV5 zV4 (by intro q; cases q)
  have P0 := own_PS.refl Z n0 h0
  have L0 := own_KA.refl Z h0 ob
  have E_a1 := S_a1.2.1
  have ne_o_a1 := ne_exa E_o E_a1 (by decide)
  have nA0_a1 := own_neb hw E_a1 zV1
  have nA1_a1 := own_neb hw E_a1 zV2
  have nA2_a1 := own_neR hw E_a1 zV3
  have nA3_a1 := own_neR hw E_a1 zV4
  have nA4_a1 := own_neb hw E_a1 zV5
  show Go p e below _ (s₁.setTop (mkF m 0 #[.val (.ref ob), .val (.ref a1), .unset] []))
  refine go (fun t kt' => by refine XS.aloadN X0.here hx rfl (hb hby d20_0) rfl rfl ?_; exact kt') ?_
  show Go p e below _ (s₁.setTop (mkF m 1 #[.val (.ref ob), .val (.ref a1), .unset] [(.ref ob)]))
  refine go (fun t kt' => by refine XS.aloadN X0.here hx rfl (hb hby d20_1) rfl rfl ?_; exact kt') ?_
  show Go p e below _ (s₁.setTop (mkF m 2 #[.val (.ref ob), .val (.ref a1), .unset] [(.ref a1), (.ref ob)]))
  refine go (fun t kt' => by refine XS.aconstNull X0.here hx rfl (hb hby d20_2) ?_; exact kt') ?_
  show Go p e below _ (s₁.setTop (mkF m 3 #[.val (.ref ob), .val (.ref a1), .unset] [.null, (.ref a1), (.ref ob)]))
  obtain ⟨cq1, q1, q1'⟩ := E_o.cell
  obtain ⟨_, _, ⟨T1, L1, k1, n1⟩, -, X1, ⟨Lc1, hQ1, l1, y1, z1⟩, st1⟩ := X0.privateBack hx (y := (⟨"com/example/casewright/casewright/formats/HashIndex", "find", "(Ljava/lang/String;Ljava/lang/String;)I"⟩ : MethodName)) hown (mvT hZ (hw _ (List.mem_of_getElem? (i := 65) rfl))) (mvT hZ (hw _ (List.mem_of_getElem? (i := 66) rfl))) (mvT hZ (own_selp hw (y := (⟨"com/example/casewright/casewright/formats/HashIndex", "find", "(Ljava/lang/String;Ljava/lang/String;)I"⟩ : MethodName)) rfl (hw _ (List.mem_of_getElem? (i := 67) rfl)) (hw _ (List.mem_of_getElem? (i := 66) rfl)))) (Cond.privateMethod_at (mvP hZ (hw _ (List.mem_of_getElem? (i := 67) rfl)) (args := #[]))) (mvT hZ (hw _ (List.mem_of_getElem? (i := 68) rfl))) (by decide) (backOf (W := 0) (rm_fi l Z a0 hw [] ob a1 cs rd pl hs tk sz fh xx h0 n0 Z0 HS OO ⟨g_o, E_o, zA1, zA2, zA3, zA4, zA5, _, ⟨zl1, zl2, zl3, zl4, zl5⟩, ⟨zn12, zn15, zn25, zn34⟩, zF1, zF2, zF3, zF4, zF5, zF6, zF7, zF8, zV1, zV2, zV3, zV4, zV5, HK⟩ S_a1 hfree) hZ (hw _ (List.mem_of_getElem? (i := 68) rfl)) (hw _ (List.mem_of_getElem? (i := 30) rfl)) (by decide) (by decide)) (g := (mkF m 3 #[.val (.ref ob), .val (.ref a1), .unset] [.null, (.ref a1), (.ref ob)])) rfl (by rw [hml]; rfl) (Steps.refl _) (a := ob) (by rw [e0]; exact q1) q1' (argsL := [(.ref a1), .null]) (rest := []) (lenOf pd_5 rfl) rfl (by show 2 * 0 + _ ≤ _; exact Nat.le_of_eq rfl) (hb hby d20_3) (fun _ _ => ⟨rfl, e0, (by decide : 0 + 0 ≤ _), (by decide : 0 + 0 ≤ _)⟩)
  dsimp only [Pt.U, Pt.locs, Pt.cells, Pt.slots] at X1 l1 y1 z1 st1 hQ1
  rw [l1, y1, z1] at X1
  obtain ⟨r1, rfl, hF1, ⟨N1q, OO1, PS1, KA1⟩, HX1⟩ := hQ1
  have N1 := Fr.app N0 N1q
  have f2_P := own_PS.trans P0 PS1
  have f3_L := own_KA.trans L0 KA1
  have f4_T_a1 := PS1 _ _ S_a1
  have Z1 := own_z OO1
  have E1_a1 := f4_T_a1.2.1
  obtain ⟨g_o_1, E_o_1, zA1_1, zA2_1, zA3_1, zA4_1, zA5_1, kf_1, ⟨zl1_1, zl2_1, zl3_1, zl4_1, zl5_1⟩, ⟨zn12_1, zn15_1, zn25_1, zn34_1⟩, zF1_1, zF2_1, zF3_1, zF4_1, zF5_1, zF6_1, zF7_1, zF8_1, zV1_1, zV2_1, zV3_1, zV4_1, zV5_1, HK_1⟩ := HX1
  have zm02_1 := own_neIR zV1_1 zV3_1 (by intro q; cases q)
  have zm03_1 := own_neIR zV1_1 zV4_1 (by intro q; cases q)
  have zm12_1 := own_neIR zV2_1 zV3_1 (by intro q; cases q)
  have zm13_1 := own_neIR zV2_1 zV4_1 (by intro q; cases q)
  have zm42_1 := own_neIR zV5_1 zV3_1 (by intro q; cases q)
  have zm43_1 := own_neIR zV5_1 zV4_1 (by intro q; cases q)
  refine go (fun t kt => st1.trans kt) ?_
  show Go p e below _ (T1.setTop (mkF m 6 #[.val (.ref ob), .val (.ref a1), .unset] [(.int r1)]))
  refine go (fun t kt' => by refine XS.istoreN X1.here hx rfl (hb hby d20_6) rfl (l' := #[.val (.ref ob), .val (.ref a1), .val (.int r1)]) rfl ?_; exact kt') ?_
  show Go p e below _ (T1.setTop (mkF m 7 #[.val (.ref ob), .val (.ref a1), .val (.int r1)] []))
  refine go (fun t kt' => by refine XS.iloadN X1.here hx rfl (hb hby d20_7) rfl ?_; exact kt') ?_
  show Go p e below _ (T1.setTop (mkF m 8 #[.val (.ref ob), .val (.ref a1), .val (.int r1)] [(.int r1)]))
  by_cases c8_5 : ¬ r1 < (0 : Int32)
  · skip
    refine go (fun t kt' => by refine XS.ifYes X1.here hx rfl (pc0 := 8) (pc' := 15) rfl (hb hby d20_8) rfl ((if0 _ _).trans (flt c8_5).2.1) (by decide) (by decide) ?_; exact kt') ?_
    show Go p e below _ (T1.setTop (mkF m 15 #[.val (.ref ob), .val (.ref a1), .val (.int r1)] []))
    refine go (fun t kt' => by refine XS.aloadN X1.here hx rfl (hb hby d20_15) rfl rfl ?_; exact kt') ?_
    show Go p e below _ (T1.setTop (mkF m 16 #[.val (.ref ob), .val (.ref a1), .val (.int r1)] [(.ref ob)]))
    obtain ⟨T6, X6, e6, st6⟩ := getF X1 hx hZ hown (host := "") (Or.inl (hw _ (List.mem_of_getElem? (i := 44) rfl))) Via.refl rfl zF1_1 (g := (mkF m 16 #[.val (.ref ob), .val (.ref a1), .val (.int r1)] [(.ref ob)])) rfl rfl (hb hby d20_16)
    refine go st6 ?_
    show Go p e below _ (T6.setTop (mkF m 19 #[.val (.ref ob), .val (.ref a1), .val (.int r1)] [(.ref zA1_1)]))
    refine go (fun t kt' => by refine XS.iloadN X6.here hx rfl (hb hby d20_19) rfl ?_; exact kt') ?_
    show Go p e below _ (T6.setTop (mkF m 20 #[.val (.ref ob), .val (.ref a1), .val (.int r1)] [(.int r1), (.ref zA1_1)]))
    refine go (fun t kt' => by refine ldIA X6 hx hZ e6 zV1_1 (j := r1) (own_fin hF1 c8_5).1 (g := (mkF m 20 #[.val (.ref ob), .val (.ref a1), .val (.int r1)] [(.int r1), (.ref zA1_1)])) rfl rfl (hb hby d20_20) t ?_; exact kt') ?_
    show Go p e below _ (T6.setTop (mkF m 21 #[.val (.ref ob), .val (.ref a1), .val (.int r1)] [(.int (pl (r1).toNatClampNeg))]))
    refine go (fun t kt' => by refine XS.iconst X6.here hx rfl (hb hby d20_21) ?_; exact kt') ?_
    show Go p e below _ (T6.setTop (mkF m 22 #[.val (.ref ob), .val (.ref a1), .val (.int r1)] [(.int (1 : Int32)), (.int (pl (r1).toNatClampNeg))]))
    refine go (fun t kt' => by refine XS.isub X6.here hx rfl (hb hby d20_22) rfl ?_; exact kt') ?_
    show Go p e below _ (T6.setTop (mkF m 23 #[.val (.ref ob), .val (.ref a1), .val (.int r1)] [(.int ((pl (r1).toNatClampNeg) - (1 : Int32)))]))
    refine goOut X6 (fun h => by rw [Bd.returns] at h; cases h) hlk (fun fs hr => retOut X6 hx Bd.returns rfl (Or.inl ⟨rfl, Or.inl rfl, _, rfl⟩) (hb hby d20_23) hr) (by decide) (by decide) ?_
    rw [e6]
    exact ⟨_, rfl, ⟨_, hF1, Or.inl ⟨c8_5, rfl⟩⟩, ⟨N1, OO1, f2_P, f3_L⟩, ⟨g_o_1, E_o_1, zA1_1, zA2_1, zA3_1, zA4_1, zA5_1, _, ⟨zl1_1, zl2_1, zl3_1, zl4_1, zl5_1⟩, ⟨zn12_1, zn15_1, zn25_1, zn34_1⟩, zF1_1, zF2_1, zF3_1, zF4_1, zF5_1, zF6_1, zF7_1, zF8_1, zV1_1, zV2_1, zV3_1, zV4_1, zV5_1, HK_1⟩⟩
  · skip
    refine go (fun t kt' => by refine XS.ifNo X1.here hx rfl (hb hby d20_8) rfl ((if0 _ _).trans (tlt (Decidable.not_not.mp c8_5)).2.1) ?_; exact kt') ?_
    show Go p e below _ (T1.setTop (mkF m 11 #[.val (.ref ob), .val (.ref a1), .val (.int r1)] []))
    refine go (fun t kt' => by refine XS.iconst X1.here hx rfl (hb hby d20_11) ?_; exact kt') ?_
    show Go p e below _ (T1.setTop (mkF m 12 #[.val (.ref ob), .val (.ref a1), .val (.int r1)] [(.int (-1 : Int32))]))
    refine go (fun t kt' => by refine XS.goto X1.here hx rfl (pc0 := 12) (pc' := 23) rfl (hb hby d20_12) (by decide) (by decide) ?_; exact kt') ?_
    show Go p e below _ (T1.setTop (mkF m 23 #[.val (.ref ob), .val (.ref a1), .val (.int r1)] [(.int (-1 : Int32))]))
    refine goOut X1 (fun h => by rw [Bd.returns] at h; cases h) hlk (fun fs hr => retOut X1 hx Bd.returns rfl (Or.inl ⟨rfl, Or.inl rfl, _, rfl⟩) (hb hby d20_23) hr) (by decide) (by decide) ?_
    exact ⟨_, rfl, ⟨_, hF1, Or.inr ⟨Decidable.not_not.mp c8_5, rfl⟩⟩, ⟨N1, OO1, f2_P, f3_L⟩, ⟨g_o_1, E_o_1, zA1_1, zA2_1, zA3_1, zA4_1, zA5_1, _, ⟨zl1_1, zl2_1, zl3_1, zl4_1, zl5_1⟩, ⟨zn12_1, zn15_1, zn25_1, zn34_1⟩, zF1_1, zF2_1, zF3_1, zF4_1, zF5_1, zF6_1, zF7_1, zF8_1, zV1_1, zV2_1, zV3_1, zV4_1, zV5_1, HK_1⟩⟩
theorem d17_0 : decode prog_120_method_9_code 0 = .ok (.aload_n 0, 1) := by decide +kernel
theorem d17_1 : decode prog_120_method_9_code 1 = .ok (.getfield 18, 3) := by decide +kernel
theorem d17_4 : decode prog_120_method_9_code 4 = .ok (.iload_n 1, 1) := by decide +kernel
theorem d17_5 : decode prog_120_method_9_code 5 = .ok (.iload_n 2, 1) := by decide +kernel
theorem d17_6 : decode prog_120_method_9_code 6 = .ok (.iconst 1, 1) := by decide +kernel
theorem d17_7 : decode prog_120_method_9_code 7 = .ok (.iadd, 1) := by decide +kernel
theorem d17_8 : decode prog_120_method_9_code 8 = .ok (.iastore, 1) := by decide +kernel
theorem d17_9 : decode prog_120_method_9_code 9 = .ok (.aload_n 0, 1) := by decide +kernel
theorem d17_10 : decode prog_120_method_9_code 10 = .ok (.getfield 22, 3) := by decide +kernel
theorem d17_13 : decode prog_120_method_9_code 13 = .ok (.iload_n 1, 1) := by decide +kernel
theorem d17_14 : decode prog_120_method_9_code 14 = .ok (.aload_n 0, 1) := by decide +kernel
theorem d17_15 : decode prog_120_method_9_code 15 = .ok (.getfield 65, 3) := by decide +kernel
theorem d17_18 : decode prog_120_method_9_code 18 = .ok (.iastore, 1) := by decide +kernel
theorem d17_19 : decode prog_120_method_9_code 19 = .ok (.aload_n 0, 1) := by decide +kernel
theorem d17_20 : decode prog_120_method_9_code 20 = .ok (.getfield 27, 3) := by decide +kernel
theorem d17_23 : decode prog_120_method_9_code 23 = .ok (.iload_n 1, 1) := by decide +kernel
theorem d17_24 : decode prog_120_method_9_code 24 = .ok (.aload_n 3, 1) := by decide +kernel
theorem d17_25 : decode prog_120_method_9_code 25 = .ok (.aastore, 1) := by decide +kernel
theorem d17_26 : decode prog_120_method_9_code 26 = .ok (.aload_n 0, 1) := by decide +kernel
theorem d17_27 : decode prog_120_method_9_code 27 = .ok (.getfield 31, 3) := by decide +kernel
theorem d17_30 : decode prog_120_method_9_code 30 = .ok (.iload_n 1, 1) := by decide +kernel
theorem d17_31 : decode prog_120_method_9_code 31 = .ok (.aload 4, 2) := by decide +kernel
theorem d17_33 : decode prog_120_method_9_code 33 = .ok (.aastore, 1) := by decide +kernel
theorem d17_34 : decode prog_120_method_9_code 34 = .ok (.aload_n 0, 1) := by decide +kernel
theorem d17_35 : decode prog_120_method_9_code 35 = .ok (.getfield 34, 3) := by decide +kernel
theorem d17_38 : decode prog_120_method_9_code 38 = .ok (.aload_n 0, 1) := by decide +kernel
theorem d17_39 : decode prog_120_method_9_code 39 = .ok (.getfield 41, 3) := by decide +kernel
theorem d17_42 : decode prog_120_method_9_code 42 = .ok (.iload_n 1, 1) := by decide +kernel
theorem d17_43 : decode prog_120_method_9_code 43 = .ok (.iastore, 1) := by decide +kernel
theorem d17_44 : decode prog_120_method_9_code 44 = .ok (.aload_n 0, 1) := by decide +kernel
theorem d17_45 : decode prog_120_method_9_code 45 = .ok (.dup, 1) := by decide +kernel
theorem d17_46 : decode prog_120_method_9_code 46 = .ok (.getfield 41, 3) := by decide +kernel
theorem d17_49 : decode prog_120_method_9_code 49 = .ok (.iconst 1, 1) := by decide +kernel
theorem d17_50 : decode prog_120_method_9_code 50 = .ok (.iadd, 1) := by decide +kernel
theorem d17_51 : decode prog_120_method_9_code 51 = .ok (.putfield 41, 3) := by decide +kernel
theorem d17_54 : decode prog_120_method_9_code 54 = .ok (.return_, 1) := by decide +kernel
theorem ef_rm_ad (m : MethodId) (x0 : Addr) (x1 : Int32) (x2 : Int32) (x3 : Addr) : entryFrame m #[(.ref x0), (.int x1), (.int x2), (.ref x3), .null] 5 = mkF m 0 #[.val (.ref x0), .val (.int x1), .val (.int x2), .val (.ref x3), .val .null] [] := by first | (simp [entryFrame, mkF, argsToLocals, Value.category]; done) | rfl
def Q_ad (Z : State) (ob : Addr) (p1 p2 : Int32) (pl hs tk : Nat → Int32) (sz fh : Int32) (h0 : Heap) (n0 : Nat) (v : Option Value) (h : Heap) (L : List Loc) : Prop := v = none ∧ own_Cm Z n0 h0 h ob L ∧ own_HX Z n0 h ob (upI pl p1.toNatClampNeg (p2 + (1 : Int32))) (upI hs p1.toNatClampNeg fh) (upI tk sz.toNatClampNeg p1) (sz + (1 : Int32)) fh
set_option maxRecDepth 65536 in
set_option maxHeartbeats 40000000 in
theorem rm_ad (l : Launch) (Z : State) (a0 : Array Value) (hw : ∀ d ∈ tables_1, d.before a0 Z = true) (ws : List Jvm.Cond) (ob : Addr) (p1 : Int32) (p2 : Int32) (a3 : Addr) (cs : Int32) (rd : Addr) (pl hs tk : Nat → Int32) (sz fh : Int32) (xx : Int32) (h0 : Heap) (n0 : Nat) (Z0 : n0 ≤ h0.size) (HS : own_sets Z cs rd) (OO : Old Z n0 h0) (HXo : own_HX Z n0 h0 ob pl hs tk sz fh) (S_a3 : own_St Z n0 h0 a3 xx) (hp1 : 0 ≤ p1.toInt ∧ p1.toInt < (16 : Nat)) (hsz : 0 ≤ sz.toInt ∧ sz.toInt ≤ 7) (hfh : own_H xx = fh) :
    MetFree l (⟨"com/example/casewright/casewright/formats/HashIndex", "add", "(IILjava/lang/String;Ljava/lang/String;)V"⟩ : MethodName) (head1 (Jvm.Cond.code (⟨"com/example/casewright/casewright/formats/HashIndex", "add", "(IILjava/lang/String;Ljava/lang/String;)V"⟩ : MethodName) prog_120_method_9_code 5 none :: ws) ({ frames := 0, cells := 0, slots := 0, locals := 0 } : Room)) (fun av' U => av' = #[(.ref ob), (.int p1), (.int p2), (.ref a3), .null] ∧ Z.Warmed39 U.vm ∧ U.heap = h0) (fun _ _ _ _ _ => True) (fun _ U o U' => ∃ v L, o = .returned v ∧ Q_ad Z ob p1 p2 pl hs tk sz fh h0 n0 v U'.heap L ∧ FrameEnd U o U' L ({ frames := 0, cells := 0, slots := 0, locals := 0 } : Room).cells ({ frames := 0, cells := 0, slots := 0, locals := 0 } : Room).slots) := by
  refine MetFree.of_bodySF (plainFor_of_name pn_com_example_casewright_casewright_formats_HashIndex) hisR ?_
  intro p e s m args below meth c s₁ Bd hml0 hP hK
  obtain ⟨rfl, hZ, hh⟩ := hP
  have hx := Bd.exec
  have hby := Bd.bytes
  have hlk := Bd.notSynchronized
  have hml : c.maxLocals = 5 := hml0
  have hown : s.vm.findClass "com/example/casewright/casewright/formats/HashIndex" = some m.cls := findClass_of_methodNamed Bd.named
  have hnm := (name_of_methodNamed Bd.named Bd.method).1
  have X0 : Stand p l e ({ frames := 0, cells := 0, slots := 0, locals := 0 } : Room) s m #[(.ref ob), (.int p1), (.int p2), (.ref a3), .null] below meth c s₁ [] 0 0 := Stand.of_body Bd
  have e0 : s₁.heap = h0 := by rw [← hh, Bd.state]; rfl
  have N0 := Fr.nil n0
  show Go p e below (Kq s (Q_ad Z ob p1 p2 pl hs tk sz fh h0 n0) ({ frames := 0, cells := 0, slots := 0, locals := 0 } : Room).cells ({ frames := 0, cells := 0, slots := 0, locals := 0 } : Room).slots) _
  refine go (fun t kt => castTop (ef_rm_ad m ob p1 p2 a3) kt) ?_
  have HS0 := HS
  obtain ⟨S_cs, hcs, S_rd⟩ := HS0
  obtain ⟨g_o, E_o, zA1, zA2, zA3, zA4, zA5, kf, ⟨zl1, zl2, zl3, zl4, zl5⟩, ⟨zn12, zn15, zn25, zn34⟩, zF1, zF2, zF3, zF4, zF5, zF6, zF7, zF8, zV1, zV2, zV3, zV4, zV5, HK⟩ := HXo
  have zm02 := own_neIR zV1 zV3 (by intro q; cases q)
  have zm03 := own_neIR zV1 zV4 (by intro q; cases q)
  have zm12 := own_neIR zV2 zV3 (by intro q; cases q)
  have zm13 := own_neIR zV2 zV4 (by intro q; cases q)
  have zm42 := own_neIR zV5 zV3 (by intro q; cases q)
  have zm43 := own_neIR zV5 zV4 (by intro q; cases q)
  have P0 := own_PS.refl Z n0 h0
  have L0 := own_KA.refl Z h0 ob
  have E_a3 := S_a3.2.1
  have ne_o_a3 := ne_exa E_o E_a3 (by decide)
  have nA0_a3 := own_neb hw E_a3 zV1
  have nA1_a3 := own_neb hw E_a3 zV2
  have nA2_a3 := own_neR hw E_a3 zV3
  have nA3_a3 := own_neR hw E_a3 zV4
  have nA4_a3 := own_neb hw E_a3 zV5
  show Go p e below _ (s₁.setTop (mkF m 0 #[.val (.ref ob), .val (.int p1), .val (.int p2), .val (.ref a3), .val .null] []))
  refine go (fun t kt' => by refine XS.aloadN X0.here hx rfl (hb hby d17_0) rfl rfl ?_; exact kt') ?_
  show Go p e below _ (s₁.setTop (mkF m 1 #[.val (.ref ob), .val (.int p1), .val (.int p2), .val (.ref a3), .val .null] [(.ref ob)]))
  obtain ⟨T1, X1, e1, st1⟩ := getF X0 hx hZ hown (host := "") (Or.inl (hw _ (List.mem_of_getElem? (i := 44) rfl))) Via.refl e0 zF1 (g := (mkF m 1 #[.val (.ref ob), .val (.int p1), .val (.int p2), .val (.ref a3), .val .null] [(.ref ob)])) rfl rfl (hb hby d17_1)
  refine go st1 ?_
  show Go p e below _ (T1.setTop (mkF m 4 #[.val (.ref ob), .val (.int p1), .val (.int p2), .val (.ref a3), .val .null] [(.ref zA1)]))
  refine go (fun t kt' => by refine XS.iloadN X1.here hx rfl (hb hby d17_4) rfl ?_; exact kt') ?_
  show Go p e below _ (T1.setTop (mkF m 5 #[.val (.ref ob), .val (.int p1), .val (.int p2), .val (.ref a3), .val .null] [(.int p1), (.ref zA1)]))
  refine go (fun t kt' => by refine XS.iloadN X1.here hx rfl (hb hby d17_5) rfl ?_; exact kt') ?_
  show Go p e below _ (T1.setTop (mkF m 6 #[.val (.ref ob), .val (.int p1), .val (.int p2), .val (.ref a3), .val .null] [(.int p2), (.int p1), (.ref zA1)]))
  refine go (fun t kt' => by refine XS.iconst X1.here hx rfl (hb hby d17_6) ?_; exact kt') ?_
  show Go p e below _ (T1.setTop (mkF m 7 #[.val (.ref ob), .val (.int p1), .val (.int p2), .val (.ref a3), .val .null] [(.int (1 : Int32)), (.int p2), (.int p1), (.ref zA1)]))
  refine go (fun t kt' => by refine XS.iadd X1.here hx rfl (hb hby d17_7) rfl ?_; exact kt') ?_
  show Go p e below _ (T1.setTop (mkF m 8 #[.val (.ref ob), .val (.int p1), .val (.int p2), .val (.ref a3), .val .null] [(.int (p2 + (1 : Int32))), (.int p1), (.ref zA1)]))
  obtain ⟨T2, h2, X2, e2, W2, V2, st2⟩ := stIA X1 hx hZ e1 zV1 (j := p1) (x := (p2 + (1 : Int32))) hp1 (g := (mkF m 8 #[.val (.ref ob), .val (.int p1), .val (.int p2), .val (.ref a3), .val .null] [(.int (p2 + (1 : Int32))), (.int p1), (.ref zA1)])) rfl rfl (hb hby d17_8)
  have N2 := Fr.snoc X2 N0 (Nat.le_trans g_o (Nat.le_of_lt zl1))
  have f3_Z := Nat.le_trans Z0 (Keep.of_wr W2).1
  have f4_O := OO.wr W2 (Nat.le_trans g_o (Nat.le_of_lt zl1))
  have f5_E_ob := E_o.wr W2
  have f6_F_ob_places := zF1.other W2 (Or.inl (Nat.ne_of_lt zl1))
  have f7_F_ob_hashes := zF2.other W2 (Or.inl (Nat.ne_of_lt zl1))
  have f8_F_ob_keys := zF3.other W2 (Or.inl (Nat.ne_of_lt zl1))
  have f9_F_ob_seconds := zF4.other W2 (Or.inl (Nat.ne_of_lt zl1))
  have f10_F_ob_taken := zF5.other W2 (Or.inl (Nat.ne_of_lt zl1))
  have f11_F_ob_size := zF6.other W2 (Or.inl (Nat.ne_of_lt zl1))
  have f12_F_ob_hashedAtRandom := zF7.other W2 (Or.inl (Nat.ne_of_lt zl1))
  have f13_F_ob_foundHash := zF8.other W2 (Or.inl (Nat.ne_of_lt zl1))
  have f14_A_zA1 := V2
  have f15_A_zA2 := zV2.other W2 (Ne.symm zn12)
  have f16_A_zA3 := zV3.other W2 (Ne.symm zm02)
  have f17_A_zA4 := zV4.other W2 (Ne.symm zm03)
  have f18_A_zA5 := zV5.other W2 (Ne.symm zn15)
  have f19_HK_ob := own_HK.ps HK (own_PS.wr (own_PS.refl _ _ _) W2 (own_okI hw zV1 (by intro q; cases q)))
  have f20_P := own_PS.wr P0 W2 (own_okI hw zV1 (by intro q; cases q))
  have f21_L := own_KA.wr L0 W2 (Nat.le_of_lt zl1)
  have f22_T_a3 := own_St.wr S_a3 W2 (own_okI hw zV1 (by intro q; cases q))
  have f23_E_a3 := E_a3.wr W2
  refine go st2 ?_
  show Go p e below _ (T2.setTop (mkF m 9 #[.val (.ref ob), .val (.int p1), .val (.int p2), .val (.ref a3), .val .null] []))
  refine go (fun t kt' => by refine XS.aloadN X2.here hx rfl (hb hby d17_9) rfl rfl ?_; exact kt') ?_
  show Go p e below _ (T2.setTop (mkF m 10 #[.val (.ref ob), .val (.int p1), .val (.int p2), .val (.ref a3), .val .null] [(.ref ob)]))
  obtain ⟨T24, X24, e24, st24⟩ := getF X2 hx hZ hown (host := "") (Or.inl (hw _ (List.mem_of_getElem? (i := 46) rfl))) Via.refl e2 f7_F_ob_hashes (g := (mkF m 10 #[.val (.ref ob), .val (.int p1), .val (.int p2), .val (.ref a3), .val .null] [(.ref ob)])) rfl rfl (hb hby d17_10)
  refine go st24 ?_
  show Go p e below _ (T24.setTop (mkF m 13 #[.val (.ref ob), .val (.int p1), .val (.int p2), .val (.ref a3), .val .null] [(.ref zA2)]))
  refine go (fun t kt' => by refine XS.iloadN X24.here hx rfl (hb hby d17_13) rfl ?_; exact kt') ?_
  show Go p e below _ (T24.setTop (mkF m 14 #[.val (.ref ob), .val (.int p1), .val (.int p2), .val (.ref a3), .val .null] [(.int p1), (.ref zA2)]))
  refine go (fun t kt' => by refine XS.aloadN X24.here hx rfl (hb hby d17_14) rfl rfl ?_; exact kt') ?_
  show Go p e below _ (T24.setTop (mkF m 15 #[.val (.ref ob), .val (.int p1), .val (.int p2), .val (.ref a3), .val .null] [(.ref ob), (.int p1), (.ref zA2)]))
  obtain ⟨T25, X25, e25, st25⟩ := getF X24 hx hZ hown (host := "") (Or.inl (hw _ (List.mem_of_getElem? (i := 101) rfl))) Via.refl e24 f13_F_ob_foundHash (g := (mkF m 15 #[.val (.ref ob), .val (.int p1), .val (.int p2), .val (.ref a3), .val .null] [(.ref ob), (.int p1), (.ref zA2)])) rfl rfl (hb hby d17_15)
  refine go st25 ?_
  show Go p e below _ (T25.setTop (mkF m 18 #[.val (.ref ob), .val (.int p1), .val (.int p2), .val (.ref a3), .val .null] [(.int fh), (.int p1), (.ref zA2)]))
  obtain ⟨T26, h26, X26, e26, W26, V26, st26⟩ := stIA X25 hx hZ e25 f15_A_zA2 (j := p1) (x := fh) hp1 (g := (mkF m 18 #[.val (.ref ob), .val (.int p1), .val (.int p2), .val (.ref a3), .val .null] [(.int fh), (.int p1), (.ref zA2)])) rfl rfl (hb hby d17_18)
  have N26 := Fr.snoc X26 N2 (Nat.le_trans g_o (Nat.le_of_lt zl2))
  have f27_Z := Nat.le_trans f3_Z (Keep.of_wr W26).1
  have f28_O := f4_O.wr W26 (Nat.le_trans g_o (Nat.le_of_lt zl2))
  have f29_E_ob := f5_E_ob.wr W26
  have f30_F_ob_places := f6_F_ob_places.other W26 (Or.inl (Nat.ne_of_lt zl2))
  have f31_F_ob_hashes := f7_F_ob_hashes.other W26 (Or.inl (Nat.ne_of_lt zl2))
  have f32_F_ob_keys := f8_F_ob_keys.other W26 (Or.inl (Nat.ne_of_lt zl2))
  have f33_F_ob_seconds := f9_F_ob_seconds.other W26 (Or.inl (Nat.ne_of_lt zl2))
  have f34_F_ob_taken := f10_F_ob_taken.other W26 (Or.inl (Nat.ne_of_lt zl2))
  have f35_F_ob_size := f11_F_ob_size.other W26 (Or.inl (Nat.ne_of_lt zl2))
  have f36_F_ob_hashedAtRandom := f12_F_ob_hashedAtRandom.other W26 (Or.inl (Nat.ne_of_lt zl2))
  have f37_F_ob_foundHash := f13_F_ob_foundHash.other W26 (Or.inl (Nat.ne_of_lt zl2))
  have f38_A_zA1 := f14_A_zA1.other W26 zn12
  have f39_A_zA2 := V26
  have f40_A_zA3 := f16_A_zA3.other W26 (Ne.symm zm12)
  have f41_A_zA4 := f17_A_zA4.other W26 (Ne.symm zm13)
  have f42_A_zA5 := f18_A_zA5.other W26 (Ne.symm zn25)
  have f43_HK_ob := own_HK.ps f19_HK_ob (own_PS.wr (own_PS.refl _ _ _) W26 (own_okI hw f15_A_zA2 (by intro q; cases q)))
  have f44_P := own_PS.wr f20_P W26 (own_okI hw f15_A_zA2 (by intro q; cases q))
  have f45_L := own_KA.wr f21_L W26 (Nat.le_of_lt zl2)
  have f46_T_a3 := own_St.wr f22_T_a3 W26 (own_okI hw f15_A_zA2 (by intro q; cases q))
  have f47_E_a3 := f23_E_a3.wr W26
  refine go st26 ?_
  show Go p e below _ (T26.setTop (mkF m 19 #[.val (.ref ob), .val (.int p1), .val (.int p2), .val (.ref a3), .val .null] []))
  refine go (fun t kt' => by refine XS.aloadN X26.here hx rfl (hb hby d17_19) rfl rfl ?_; exact kt') ?_
  show Go p e below _ (T26.setTop (mkF m 20 #[.val (.ref ob), .val (.int p1), .val (.int p2), .val (.ref a3), .val .null] [(.ref ob)]))
  obtain ⟨T48, X48, e48, st48⟩ := getF X26 hx hZ hown (host := "") (Or.inl (hw _ (List.mem_of_getElem? (i := 50) rfl))) Via.refl e26 f32_F_ob_keys (g := (mkF m 20 #[.val (.ref ob), .val (.int p1), .val (.int p2), .val (.ref a3), .val .null] [(.ref ob)])) rfl rfl (hb hby d17_20)
  refine go st48 ?_
  show Go p e below _ (T48.setTop (mkF m 23 #[.val (.ref ob), .val (.int p1), .val (.int p2), .val (.ref a3), .val .null] [(.ref zA3)]))
  refine go (fun t kt' => by refine XS.iloadN X48.here hx rfl (hb hby d17_23) rfl ?_; exact kt') ?_
  show Go p e below _ (T48.setTop (mkF m 24 #[.val (.ref ob), .val (.int p1), .val (.int p2), .val (.ref a3), .val .null] [(.int p1), (.ref zA3)]))
  refine go (fun t kt' => by refine XS.aloadN X48.here hx rfl (hb hby d17_24) rfl rfl ?_; exact kt') ?_
  show Go p e below _ (T48.setTop (mkF m 25 #[.val (.ref ob), .val (.int p1), .val (.int p2), .val (.ref a3), .val .null] [(.ref a3), (.int p1), (.ref zA3)]))
  obtain ⟨T49, h49, X49, e49, W49, V49, st49⟩ := stRA X48 hx hZ e48 f40_A_zA3 (v := (.ref a3)) (Or.inr ⟨_, rfl, (Ins.self f47_E_a3)⟩) (j := p1) hp1 (g := (mkF m 25 #[.val (.ref ob), .val (.int p1), .val (.int p2), .val (.ref a3), .val .null] [(.ref a3), (.int p1), (.ref zA3)])) rfl rfl (hb hby d17_25)
  have N49 := Fr.snoc X49 N26 (Nat.le_trans g_o (Nat.le_of_lt zl3))
  have f50_Z := Nat.le_trans f27_Z (Keep.of_wr W49).1
  have f51_O := f28_O.wr W49 (Nat.le_trans g_o (Nat.le_of_lt zl3))
  have f52_E_ob := f29_E_ob.wr W49
  have f53_F_ob_places := f30_F_ob_places.other W49 (Or.inl (Nat.ne_of_lt zl3))
  have f54_F_ob_hashes := f31_F_ob_hashes.other W49 (Or.inl (Nat.ne_of_lt zl3))
  have f55_F_ob_keys := f32_F_ob_keys.other W49 (Or.inl (Nat.ne_of_lt zl3))
  have f56_F_ob_seconds := f33_F_ob_seconds.other W49 (Or.inl (Nat.ne_of_lt zl3))
  have f57_F_ob_taken := f34_F_ob_taken.other W49 (Or.inl (Nat.ne_of_lt zl3))
  have f58_F_ob_size := f35_F_ob_size.other W49 (Or.inl (Nat.ne_of_lt zl3))
  have f59_F_ob_hashedAtRandom := f36_F_ob_hashedAtRandom.other W49 (Or.inl (Nat.ne_of_lt zl3))
  have f60_F_ob_foundHash := f37_F_ob_foundHash.other W49 (Or.inl (Nat.ne_of_lt zl3))
  have f61_A_zA1 := f38_A_zA1.other W49 zm02
  have f62_A_zA2 := f39_A_zA2.other W49 zm12
  have f63_A_zA3 := V49
  have f64_A_zA4 := f41_A_zA4.other W49 (Ne.symm zn34)
  have f65_A_zA5 := f42_A_zA5.other W49 zm42
  have f66_HK_ob := own_HK.ps f43_HK_ob (own_PS.wr (own_PS.refl _ _ _) W49 (own_okR hw f40_A_zA3))
  have f67_P := own_PS.wr f44_P W49 (own_okR hw f40_A_zA3)
  have f68_L := own_KA.wr f45_L W49 (Nat.le_of_lt zl3)
  have f69_T_a3 := own_St.wr f46_T_a3 W49 (own_okR hw f40_A_zA3)
  have f70_E_a3 := f47_E_a3.wr W49
  refine go st49 ?_
  show Go p e below _ (T49.setTop (mkF m 26 #[.val (.ref ob), .val (.int p1), .val (.int p2), .val (.ref a3), .val .null] []))
  refine go (fun t kt' => by refine XS.aloadN X49.here hx rfl (hb hby d17_26) rfl rfl ?_; exact kt') ?_
  show Go p e below _ (T49.setTop (mkF m 27 #[.val (.ref ob), .val (.int p1), .val (.int p2), .val (.ref a3), .val .null] [(.ref ob)]))
  obtain ⟨T71, X71, e71, st71⟩ := getF X49 hx hZ hown (host := "") (Or.inl (hw _ (List.mem_of_getElem? (i := 52) rfl))) Via.refl e49 f56_F_ob_seconds (g := (mkF m 27 #[.val (.ref ob), .val (.int p1), .val (.int p2), .val (.ref a3), .val .null] [(.ref ob)])) rfl rfl (hb hby d17_27)
  refine go st71 ?_
  show Go p e below _ (T71.setTop (mkF m 30 #[.val (.ref ob), .val (.int p1), .val (.int p2), .val (.ref a3), .val .null] [(.ref zA4)]))
  refine go (fun t kt' => by refine XS.iloadN X71.here hx rfl (hb hby d17_30) rfl ?_; exact kt') ?_
  show Go p e below _ (T71.setTop (mkF m 31 #[.val (.ref ob), .val (.int p1), .val (.int p2), .val (.ref a3), .val .null] [(.int p1), (.ref zA4)]))
  refine go (fun t kt' => by refine XS.aload X71.here hx rfl (hb hby d17_31) rfl rfl ?_; exact kt') ?_
  show Go p e below _ (T71.setTop (mkF m 33 #[.val (.ref ob), .val (.int p1), .val (.int p2), .val (.ref a3), .val .null] [.null, (.int p1), (.ref zA4)]))
  obtain ⟨T72, h72, X72, e72, W72, V72, st72⟩ := stRA X71 hx hZ e71 f64_A_zA4 (v := .null) (Or.inl rfl) (j := p1) hp1 (g := (mkF m 33 #[.val (.ref ob), .val (.int p1), .val (.int p2), .val (.ref a3), .val .null] [.null, (.int p1), (.ref zA4)])) rfl rfl (hb hby d17_33)
  have N72 := Fr.snoc X72 N49 (Nat.le_trans g_o (Nat.le_of_lt zl4))
  have f73_Z := Nat.le_trans f50_Z (Keep.of_wr W72).1
  have f74_O := f51_O.wr W72 (Nat.le_trans g_o (Nat.le_of_lt zl4))
  have f75_E_ob := f52_E_ob.wr W72
  have f76_F_ob_places := f53_F_ob_places.other W72 (Or.inl (Nat.ne_of_lt zl4))
  have f77_F_ob_hashes := f54_F_ob_hashes.other W72 (Or.inl (Nat.ne_of_lt zl4))
  have f78_F_ob_keys := f55_F_ob_keys.other W72 (Or.inl (Nat.ne_of_lt zl4))
  have f79_F_ob_seconds := f56_F_ob_seconds.other W72 (Or.inl (Nat.ne_of_lt zl4))
  have f80_F_ob_taken := f57_F_ob_taken.other W72 (Or.inl (Nat.ne_of_lt zl4))
  have f81_F_ob_size := f58_F_ob_size.other W72 (Or.inl (Nat.ne_of_lt zl4))
  have f82_F_ob_hashedAtRandom := f59_F_ob_hashedAtRandom.other W72 (Or.inl (Nat.ne_of_lt zl4))
  have f83_F_ob_foundHash := f60_F_ob_foundHash.other W72 (Or.inl (Nat.ne_of_lt zl4))
  have f84_A_zA1 := f61_A_zA1.other W72 zm03
  have f85_A_zA2 := f62_A_zA2.other W72 zm13
  have f86_A_zA3 := f63_A_zA3.other W72 zn34
  have f87_A_zA4 := V72
  have f88_A_zA5 := f65_A_zA5.other W72 zm43
  have f89_HK_ob := own_HK.ps f66_HK_ob (own_PS.wr (own_PS.refl _ _ _) W72 (own_okR hw f64_A_zA4))
  have f90_P := own_PS.wr f67_P W72 (own_okR hw f64_A_zA4)
  have f91_L := own_KA.wr f68_L W72 (Nat.le_of_lt zl4)
  have f92_T_a3 := own_St.wr f69_T_a3 W72 (own_okR hw f64_A_zA4)
  have f93_E_a3 := f70_E_a3.wr W72
  refine go st72 ?_
  show Go p e below _ (T72.setTop (mkF m 34 #[.val (.ref ob), .val (.int p1), .val (.int p2), .val (.ref a3), .val .null] []))
  refine go (fun t kt' => by refine XS.aloadN X72.here hx rfl (hb hby d17_34) rfl rfl ?_; exact kt') ?_
  show Go p e below _ (T72.setTop (mkF m 35 #[.val (.ref ob), .val (.int p1), .val (.int p2), .val (.ref a3), .val .null] [(.ref ob)]))
  obtain ⟨T94, X94, e94, st94⟩ := getF X72 hx hZ hown (host := "") (Or.inl (hw _ (List.mem_of_getElem? (i := 54) rfl))) Via.refl e72 f80_F_ob_taken (g := (mkF m 35 #[.val (.ref ob), .val (.int p1), .val (.int p2), .val (.ref a3), .val .null] [(.ref ob)])) rfl rfl (hb hby d17_35)
  refine go st94 ?_
  show Go p e below _ (T94.setTop (mkF m 38 #[.val (.ref ob), .val (.int p1), .val (.int p2), .val (.ref a3), .val .null] [(.ref zA5)]))
  refine go (fun t kt' => by refine XS.aloadN X94.here hx rfl (hb hby d17_38) rfl rfl ?_; exact kt') ?_
  show Go p e below _ (T94.setTop (mkF m 39 #[.val (.ref ob), .val (.int p1), .val (.int p2), .val (.ref a3), .val .null] [(.ref ob), (.ref zA5)]))
  obtain ⟨T95, X95, e95, st95⟩ := getF X94 hx hZ hown (host := "") (Or.inl (hw _ (List.mem_of_getElem? (i := 63) rfl))) Via.refl e94 f81_F_ob_size (g := (mkF m 39 #[.val (.ref ob), .val (.int p1), .val (.int p2), .val (.ref a3), .val .null] [(.ref ob), (.ref zA5)])) rfl rfl (hb hby d17_39)
  refine go st95 ?_
  show Go p e below _ (T95.setTop (mkF m 42 #[.val (.ref ob), .val (.int p1), .val (.int p2), .val (.ref a3), .val .null] [(.int sz), (.ref zA5)]))
  refine go (fun t kt' => by refine XS.iloadN X95.here hx rfl (hb hby d17_42) rfl ?_; exact kt') ?_
  show Go p e below _ (T95.setTop (mkF m 43 #[.val (.ref ob), .val (.int p1), .val (.int p2), .val (.ref a3), .val .null] [(.int p1), (.int sz), (.ref zA5)]))
  obtain ⟨T96, h96, X96, e96, W96, V96, st96⟩ := stIA X95 hx hZ e95 f88_A_zA5 (j := sz) (x := p1) (own_szi hsz) (g := (mkF m 43 #[.val (.ref ob), .val (.int p1), .val (.int p2), .val (.ref a3), .val .null] [(.int p1), (.int sz), (.ref zA5)])) rfl rfl (hb hby d17_43)
  have N96 := Fr.snoc X96 N72 (Nat.le_trans g_o (Nat.le_of_lt zl5))
  have f97_Z := Nat.le_trans f73_Z (Keep.of_wr W96).1
  have f98_O := f74_O.wr W96 (Nat.le_trans g_o (Nat.le_of_lt zl5))
  have f99_E_ob := f75_E_ob.wr W96
  have f100_F_ob_places := f76_F_ob_places.other W96 (Or.inl (Nat.ne_of_lt zl5))
  have f101_F_ob_hashes := f77_F_ob_hashes.other W96 (Or.inl (Nat.ne_of_lt zl5))
  have f102_F_ob_keys := f78_F_ob_keys.other W96 (Or.inl (Nat.ne_of_lt zl5))
  have f103_F_ob_seconds := f79_F_ob_seconds.other W96 (Or.inl (Nat.ne_of_lt zl5))
  have f104_F_ob_taken := f80_F_ob_taken.other W96 (Or.inl (Nat.ne_of_lt zl5))
  have f105_F_ob_size := f81_F_ob_size.other W96 (Or.inl (Nat.ne_of_lt zl5))
  have f106_F_ob_hashedAtRandom := f82_F_ob_hashedAtRandom.other W96 (Or.inl (Nat.ne_of_lt zl5))
  have f107_F_ob_foundHash := f83_F_ob_foundHash.other W96 (Or.inl (Nat.ne_of_lt zl5))
  have f108_A_zA1 := f84_A_zA1.other W96 zn15
  have f109_A_zA2 := f85_A_zA2.other W96 zn25
  have f110_A_zA3 := f86_A_zA3.other W96 (Ne.symm zm42)
  have f111_A_zA4 := f87_A_zA4.other W96 (Ne.symm zm43)
  have f112_A_zA5 := V96
  have f113_HK_ob := own_HK.ps f89_HK_ob (own_PS.wr (own_PS.refl _ _ _) W96 (own_okI hw f88_A_zA5 (by intro q; cases q)))
  have f114_P := own_PS.wr f90_P W96 (own_okI hw f88_A_zA5 (by intro q; cases q))
  have f115_L := own_KA.wr f91_L W96 (Nat.le_of_lt zl5)
  have f116_T_a3 := own_St.wr f92_T_a3 W96 (own_okI hw f88_A_zA5 (by intro q; cases q))
  have f117_E_a3 := f93_E_a3.wr W96
  refine go st96 ?_
  show Go p e below _ (T96.setTop (mkF m 44 #[.val (.ref ob), .val (.int p1), .val (.int p2), .val (.ref a3), .val .null] []))
  refine go (fun t kt' => by refine XS.aloadN X96.here hx rfl (hb hby d17_44) rfl rfl ?_; exact kt') ?_
  show Go p e below _ (T96.setTop (mkF m 45 #[.val (.ref ob), .val (.int p1), .val (.int p2), .val (.ref a3), .val .null] [(.ref ob)]))
  refine go (fun t kt' => by refine XS.dup X96.here hx rfl (hb hby d17_45) rfl rfl ?_; exact kt') ?_
  show Go p e below _ (T96.setTop (mkF m 46 #[.val (.ref ob), .val (.int p1), .val (.int p2), .val (.ref a3), .val .null] [(.ref ob), (.ref ob)]))
  obtain ⟨T118, X118, e118, st118⟩ := getF X96 hx hZ hown (host := "") (Or.inl (hw _ (List.mem_of_getElem? (i := 63) rfl))) Via.refl e96 f105_F_ob_size (g := (mkF m 46 #[.val (.ref ob), .val (.int p1), .val (.int p2), .val (.ref a3), .val .null] [(.ref ob), (.ref ob)])) rfl rfl (hb hby d17_46)
  refine go st118 ?_
  show Go p e below _ (T118.setTop (mkF m 49 #[.val (.ref ob), .val (.int p1), .val (.int p2), .val (.ref a3), .val .null] [(.int sz), (.ref ob)]))
  refine go (fun t kt' => by refine XS.iconst X118.here hx rfl (hb hby d17_49) ?_; exact kt') ?_
  show Go p e below _ (T118.setTop (mkF m 50 #[.val (.ref ob), .val (.int p1), .val (.int p2), .val (.ref a3), .val .null] [(.int (1 : Int32)), (.int sz), (.ref ob)]))
  refine go (fun t kt' => by refine XS.iadd X118.here hx rfl (hb hby d17_50) rfl ?_; exact kt') ?_
  show Go p e below _ (T118.setTop (mkF m 51 #[.val (.ref ob), .val (.int p1), .val (.int p2), .val (.ref a3), .val .null] [(.int (sz + (1 : Int32))), (.ref ob)]))
  obtain ⟨T119, h119, X119, e119, W119, st119⟩ := putF X118 hx hZ hown (host := "") (Or.inl (hw _ (List.mem_of_getElem? (i := 63) rfl))) Via.refl e118 f105_F_ob_size f99_E_ob (Or.inl (hw _ (List.mem_of_getElem? (i := 64) rfl))) (hw _ (List.mem_of_getElem? (i := 29) rfl)) (ty := .int) (by decide) rfl rfl (g := (mkF m 51 #[.val (.ref ob), .val (.int p1), .val (.int p2), .val (.ref a3), .val .null] [(.int (sz + (1 : Int32))), (.ref ob)])) rfl rfl (hb hby d17_51)
  have N119 := Fr.snoc X119 N96 g_o
  have f120_Z := Nat.le_trans f97_Z (Keep.of_wr W119).1
  have f121_O := f98_O.wr W119 g_o
  have f122_E_ob := f99_E_ob.wr W119
  have f123_F_ob_places := f100_F_ob_places.other W119 (Or.inr (slot_ne (Or.inl (hw _ (List.mem_of_getElem? (i := 45) rfl))) (Or.inl (hw _ (List.mem_of_getElem? (i := 64) rfl))) (by decide) (t := (.array .int)) (t' := .int) (by decide) (by decide)))
  have f124_F_ob_hashes := f101_F_ob_hashes.other W119 (Or.inr (slot_ne (Or.inl (hw _ (List.mem_of_getElem? (i := 47) rfl))) (Or.inl (hw _ (List.mem_of_getElem? (i := 64) rfl))) (by decide) (t := (.array .int)) (t' := .int) (by decide) (by decide)))
  have f125_F_ob_keys := f102_F_ob_keys.other W119 (Or.inr (slot_ne (Or.inl (hw _ (List.mem_of_getElem? (i := 51) rfl))) (Or.inl (hw _ (List.mem_of_getElem? (i := 64) rfl))) (by decide) (t := (.array (.object "java/lang/String"))) (t' := .int) (by decide) (by decide)))
  have f126_F_ob_seconds := f103_F_ob_seconds.other W119 (Or.inr (slot_ne (Or.inl (hw _ (List.mem_of_getElem? (i := 53) rfl))) (Or.inl (hw _ (List.mem_of_getElem? (i := 64) rfl))) (by decide) (t := (.array (.object "java/lang/String"))) (t' := .int) (by decide) (by decide)))
  have f127_F_ob_taken := f104_F_ob_taken.other W119 (Or.inr (slot_ne (Or.inl (hw _ (List.mem_of_getElem? (i := 55) rfl))) (Or.inl (hw _ (List.mem_of_getElem? (i := 64) rfl))) (by decide) (t := (.array .int)) (t' := .int) (by decide) (by decide)))
  have f128_F_ob_size := f105_F_ob_size.same W119
  have f129_F_ob_hashedAtRandom := f106_F_ob_hashedAtRandom.other W119 (Or.inr (slot_ne (Or.inl (hw _ (List.mem_of_getElem? (i := 74) rfl))) (Or.inl (hw _ (List.mem_of_getElem? (i := 64) rfl))) (by decide) (t := .boolean) (t' := .int) (by decide) (by decide)))
  have f130_F_ob_foundHash := f107_F_ob_foundHash.other W119 (Or.inr (slot_ne (Or.inl (hw _ (List.mem_of_getElem? (i := 102) rfl))) (Or.inl (hw _ (List.mem_of_getElem? (i := 64) rfl))) (by decide) (t := .int) (t' := .int) (by decide) (by decide)))
  have f131_A_zA1 := f108_A_zA1.other W119 (Ne.symm (Nat.ne_of_lt zl1))
  have f132_A_zA2 := f109_A_zA2.other W119 (Ne.symm (Nat.ne_of_lt zl2))
  have f133_A_zA3 := f110_A_zA3.other W119 (Ne.symm (Nat.ne_of_lt zl3))
  have f134_A_zA4 := f111_A_zA4.other W119 (Ne.symm (Nat.ne_of_lt zl4))
  have f135_A_zA5 := f112_A_zA5.other W119 (Ne.symm (Nat.ne_of_lt zl5))
  have f136_HK_ob := own_HK.ps f113_HK_ob (own_PS.wr (own_PS.refl _ _ _) W119 (own_okO hw f99_E_ob))
  have f137_P := own_PS.wr f114_P W119 (own_okO hw f99_E_ob)
  have f138_L := own_KA.wr f115_L W119 (Nat.le_refl _)
  have f139_T_a3 := own_St.wr f116_T_a3 W119 (own_okO hw f99_E_ob)
  have f140_E_a3 := f117_E_a3.wr W119
  refine go st119 ?_
  show Go p e below _ (T119.setTop (mkF m 54 #[.val (.ref ob), .val (.int p1), .val (.int p2), .val (.ref a3), .val .null] []))
  refine goOut X119 (fun _ => rfl) hlk (fun fs hr => X119.returnOut hx Bd.returns (hb hby d17_54) hr) (by decide) (by decide) ?_
  rw [e119]
  rw [own_upn _ _ (fun _ => rfl)] at f134_A_zA4
  exact ⟨rfl, ⟨N119, f121_O, f137_P, f138_L⟩, ⟨g_o, f122_E_ob, zA1, zA2, zA3, zA4, zA5, _, ⟨zl1, zl2, zl3, zl4, zl5⟩, ⟨zn12, zn15, zn25, zn34⟩, f123_F_ob_places, f124_F_ob_hashes, f125_F_ob_keys, f126_F_ob_seconds, f127_F_ob_taken, f128_F_ob_size, f129_F_ob_hashedAtRandom, f130_F_ob_foundHash, f131_A_zA1, f132_A_zA2, f133_A_zA3, f134_A_zA4, f135_A_zA5, own_HK.upd f136_HK_ob f139_T_a3 hfh _⟩⟩
theorem d9_0 : decode prog_120_method_7_code 0 = .ok (.iconst 2, 1) := by decide +kernel
theorem d9_1 : decode prog_120_method_7_code 1 = .ok (.aload_n 0, 1) := by decide +kernel
theorem d9_2 : decode prog_120_method_7_code 2 = .ok (.getfield 41, 3) := by decide +kernel
theorem d9_5 : decode prog_120_method_7_code 5 = .ok (.iconst 1, 1) := by decide +kernel
theorem d9_6 : decode prog_120_method_7_code 6 = .ok (.iadd, 1) := by decide +kernel
theorem d9_7 : decode prog_120_method_7_code 7 = .ok (.imul, 1) := by decide +kernel
theorem d9_8 : decode prog_120_method_7_code 8 = .ok (.aload_n 0, 1) := by decide +kernel
theorem d9_9 : decode prog_120_method_7_code 9 = .ok (.getfield 18, 3) := by decide +kernel
theorem d9_12 : decode prog_120_method_7_code 12 = .ok (.arraylength, 1) := by decide +kernel
theorem d9_13 : decode prog_120_method_7_code 13 = .ok (.if_icmp .le 14, 3) := by decide +kernel
theorem d9_27 : decode prog_120_method_7_code 27 = .ok (.aload_n 0, 1) := by decide +kernel
theorem d9_28 : decode prog_120_method_7_code 28 = .ok (.aload_n 2, 1) := by decide +kernel
theorem d9_29 : decode prog_120_method_7_code 29 = .ok (.aconst_null, 1) := by decide +kernel
theorem d9_30 : decode prog_120_method_7_code 30 = .ok (.invokevirtual 49, 3) := by decide +kernel
theorem d9_33 : decode prog_120_method_7_code 33 = .ok (.istore_n 3, 1) := by decide +kernel
theorem d9_34 : decode prog_120_method_7_code 34 = .ok (.iload_n 3, 1) := by decide +kernel
theorem d9_35 : decode prog_120_method_7_code 35 = .ok (.ifCond .lt 25, 3) := by decide +kernel
theorem d9_60 : decode prog_120_method_7_code 60 = .ok (.aload_n 0, 1) := by decide +kernel
theorem d9_61 : decode prog_120_method_7_code 61 = .ok (.iload_n 3, 1) := by decide +kernel
theorem d9_62 : decode prog_120_method_7_code 62 = .ok (.iconst (-1), 1) := by decide +kernel
theorem d9_63 : decode prog_120_method_7_code 63 = .ok (.ixor, 1) := by decide +kernel
theorem d9_64 : decode prog_120_method_7_code 64 = .ok (.iload_n 1, 1) := by decide +kernel
theorem d9_65 : decode prog_120_method_7_code 65 = .ok (.aload_n 2, 1) := by decide +kernel
theorem d9_66 : decode prog_120_method_7_code 66 = .ok (.aconst_null, 1) := by decide +kernel
theorem d9_67 : decode prog_120_method_7_code 67 = .ok (.invokevirtual 61, 3) := by decide +kernel
theorem pd_9 : parseMethodDescriptor "(IILjava/lang/String;Ljava/lang/String;)V" = some ⟨[.int, .int, (.object "java/lang/String"), (.object "java/lang/String")], none⟩ := by decide +kernel
theorem d9_70 : decode prog_120_method_7_code 70 = .ok (.iconst (-1), 1) := by decide +kernel
theorem d9_71 : decode prog_120_method_7_code 71 = .ok (.ireturn, 1) := by decide +kernel
theorem d9_38 : decode prog_120_method_7_code 38 = .ok (.aload_n 0, 1) := by decide +kernel
theorem d9_39 : decode prog_120_method_7_code 39 = .ok (.getfield 18, 3) := by decide +kernel
theorem d9_42 : decode prog_120_method_7_code 42 = .ok (.iload_n 3, 1) := by decide +kernel
theorem d9_43 : decode prog_120_method_7_code 43 = .ok (.iaload, 1) := by decide +kernel
theorem d9_44 : decode prog_120_method_7_code 44 = .ok (.iconst 1, 1) := by decide +kernel
theorem d9_45 : decode prog_120_method_7_code 45 = .ok (.isub, 1) := by decide +kernel
theorem d9_46 : decode prog_120_method_7_code 46 = .ok (.istore 4, 2) := by decide +kernel
theorem d9_48 : decode prog_120_method_7_code 48 = .ok (.aload_n 0, 1) := by decide +kernel
theorem d9_49 : decode prog_120_method_7_code 49 = .ok (.getfield 18, 3) := by decide +kernel
theorem d9_52 : decode prog_120_method_7_code 52 = .ok (.iload_n 3, 1) := by decide +kernel
theorem d9_53 : decode prog_120_method_7_code 53 = .ok (.iload_n 1, 1) := by decide +kernel
theorem d9_54 : decode prog_120_method_7_code 54 = .ok (.iconst 1, 1) := by decide +kernel
theorem d9_55 : decode prog_120_method_7_code 55 = .ok (.iadd, 1) := by decide +kernel
theorem d9_56 : decode prog_120_method_7_code 56 = .ok (.iastore, 1) := by decide +kernel
theorem d9_57 : decode prog_120_method_7_code 57 = .ok (.iload 4, 2) := by decide +kernel
theorem d9_59 : decode prog_120_method_7_code 59 = .ok (.ireturn, 1) := by decide +kernel
theorem ef_rm_pu (m : MethodId) (x0 : Addr) (x1 : Int32) (x2 : Addr) : entryFrame m #[(.ref x0), (.int x1), (.ref x2)] 5 = mkF m 0 #[.val (.ref x0), .val (.int x1), .val (.ref x2), .unset, .unset] [] := by first | (simp [entryFrame, mkF, argsToLocals, Value.category]; done) | rfl
def Q_pu (Z : State) (ob : Addr) (p1 : Int32) (pl hs tk : Nat → Int32) (sz xx : Int32) (h0 : Heap) (n0 : Nat) (v : Option Value) (h : Heap) (L : List Loc) : Prop := ∃ (r : Int32) (pl' hs' tk' : Nat → Int32) (sz' fh' : Int32), v = some (.int r) ∧ own_Pt pl hs tk sz (own_H xx) p1 r pl' hs' tk' sz' ∧ own_Cm Z n0 h0 h ob L ∧ own_HX Z n0 h ob pl' hs' tk' sz' fh'
set_option maxRecDepth 65536 in
set_option maxHeartbeats 40000000 in
theorem rm_pu (l : Launch) (Z : State) (a0 : Array Value) (hw : ∀ d ∈ tables_1, d.before a0 Z = true) (ws : List Jvm.Cond) (ob : Addr) (p1 : Int32) (a2 : Addr) (cs : Int32) (rd : Addr) (pl hs tk : Nat → Int32) (sz fh : Int32) (xx : Int32) (h0 : Heap) (n0 : Nat) (Z0 : n0 ≤ h0.size) (HS : own_sets Z cs rd) (OO : Old Z n0 h0) (HXo : own_HX Z n0 h0 ob pl hs tk sz fh) (S_a2 : own_St Z n0 h0 a2 xx) (hfree : own_Free pl (own_H xx)) (hsz : 0 ≤ sz.toInt ∧ sz.toInt ≤ 7) :
    MetFree l (⟨"com/example/casewright/casewright/formats/HashIndex", "put", "(ILjava/lang/String;)I"⟩ : MethodName) (head1 (Jvm.Cond.code (⟨"com/example/casewright/casewright/formats/HashIndex", "put", "(ILjava/lang/String;)I"⟩ : MethodName) prog_120_method_7_code 5 (some .int) :: ws) ({ frames := 4, cells := 0, slots := 0, locals := 57 } : Room)) (fun av' U => av' = #[(.ref ob), (.int p1), (.ref a2)] ∧ Z.Warmed39 U.vm ∧ U.heap = h0) (fun _ _ _ _ _ => True) (fun _ U o U' => ∃ v L, o = .returned v ∧ Q_pu Z ob p1 pl hs tk sz xx h0 n0 v U'.heap L ∧ FrameEnd U o U' L ({ frames := 4, cells := 0, slots := 0, locals := 57 } : Room).cells ({ frames := 4, cells := 0, slots := 0, locals := 57 } : Room).slots) := by
  refine MetFree.of_bodySF (plainFor_of_name pn_com_example_casewright_casewright_formats_HashIndex) hisR ?_
  intro p e s m args below meth c s₁ Bd hml0 hP hK
  obtain ⟨rfl, hZ, hh⟩ := hP
  have hx := Bd.exec
  have hby := Bd.bytes
  have hlk := Bd.notSynchronized
  have hml : c.maxLocals = 5 := hml0
  have hown : s.vm.findClass "com/example/casewright/casewright/formats/HashIndex" = some m.cls := findClass_of_methodNamed Bd.named
  have hnm := (name_of_methodNamed Bd.named Bd.method).1
  have X0 : Stand p l e ({ frames := 4, cells := 0, slots := 0, locals := 57 } : Room) s m #[(.ref ob), (.int p1), (.ref a2)] below meth c s₁ [] 0 0 := Stand.of_body Bd
  have e0 : s₁.heap = h0 := by rw [← hh, Bd.state]; rfl
  have N0 := Fr.nil n0
  show Go p e below (Kq s (Q_pu Z ob p1 pl hs tk sz xx h0 n0) ({ frames := 4, cells := 0, slots := 0, locals := 57 } : Room).cells ({ frames := 4, cells := 0, slots := 0, locals := 57 } : Room).slots) _
  refine go (fun t kt => castTop (ef_rm_pu m ob p1 a2) kt) ?_
  have HS0 := HS
  obtain ⟨S_cs, hcs, S_rd⟩ := HS0
  obtain ⟨g_o, E_o, zA1, zA2, zA3, zA4, zA5, kf, ⟨zl1, zl2, zl3, zl4, zl5⟩, ⟨zn12, zn15, zn25, zn34⟩, zF1, zF2, zF3, zF4, zF5, zF6, zF7, zF8, zV1, zV2, zV3, zV4, zV5, HK⟩ := HXo
  have zm02 := own_neIR zV1 zV3 (by intro q; cases q)
  have zm03 := own_neIR zV1 zV4 (by intro q; cases q)
  have zm12 := own_neIR zV2 zV3 (by intro q; cases q)
  have zm13 := own_neIR zV2 zV4 (by intro q; cases q)
  have zm42 := own_neIR zV5 zV3 (by intro q; cases q)
  have zm43 := own_neIR zV5 zV4 (by intro q; cases q)
  have P0 := own_PS.refl Z n0 h0
  have L0 := own_KA.refl Z h0 ob
  have E_a2 := S_a2.2.1
  have ne_o_a2 := ne_exa E_o E_a2 (by decide)
  have nA0_a2 := own_neb hw E_a2 zV1
  have nA1_a2 := own_neb hw E_a2 zV2
  have nA2_a2 := own_neR hw E_a2 zV3
  have nA3_a2 := own_neR hw E_a2 zV4
  have nA4_a2 := own_neb hw E_a2 zV5
  show Go p e below _ (s₁.setTop (mkF m 0 #[.val (.ref ob), .val (.int p1), .val (.ref a2), .unset, .unset] []))
  refine go (fun t kt' => by refine XS.iconst X0.here hx rfl (hb hby d9_0) ?_; exact kt') ?_
  show Go p e below _ (s₁.setTop (mkF m 1 #[.val (.ref ob), .val (.int p1), .val (.ref a2), .unset, .unset] [(.int (2 : Int32))]))
  refine go (fun t kt' => by refine XS.aloadN X0.here hx rfl (hb hby d9_1) rfl rfl ?_; exact kt') ?_
  show Go p e below _ (s₁.setTop (mkF m 2 #[.val (.ref ob), .val (.int p1), .val (.ref a2), .unset, .unset] [(.ref ob), (.int (2 : Int32))]))
  obtain ⟨T1, X1, e1, st1⟩ := getF X0 hx hZ hown (host := "") (Or.inl (hw _ (List.mem_of_getElem? (i := 63) rfl))) Via.refl e0 zF6 (g := (mkF m 2 #[.val (.ref ob), .val (.int p1), .val (.ref a2), .unset, .unset] [(.ref ob), (.int (2 : Int32))])) rfl rfl (hb hby d9_2)
  refine go st1 ?_
  show Go p e below _ (T1.setTop (mkF m 5 #[.val (.ref ob), .val (.int p1), .val (.ref a2), .unset, .unset] [(.int sz), (.int (2 : Int32))]))
  refine go (fun t kt' => by refine XS.iconst X1.here hx rfl (hb hby d9_5) ?_; exact kt') ?_
  show Go p e below _ (T1.setTop (mkF m 6 #[.val (.ref ob), .val (.int p1), .val (.ref a2), .unset, .unset] [(.int (1 : Int32)), (.int sz), (.int (2 : Int32))]))
  refine go (fun t kt' => by refine XS.iadd X1.here hx rfl (hb hby d9_6) rfl ?_; exact kt') ?_
  show Go p e below _ (T1.setTop (mkF m 7 #[.val (.ref ob), .val (.int p1), .val (.ref a2), .unset, .unset] [(.int (sz + (1 : Int32))), (.int (2 : Int32))]))
  refine go (fun t kt' => by refine XS.imul X1.here hx rfl (hb hby d9_7) rfl ?_; exact kt') ?_
  show Go p e below _ (T1.setTop (mkF m 8 #[.val (.ref ob), .val (.int p1), .val (.ref a2), .unset, .unset] [(.int ((2 : Int32) * (sz + (1 : Int32))))]))
  refine go (fun t kt' => by refine XS.aloadN X1.here hx rfl (hb hby d9_8) rfl rfl ?_; exact kt') ?_
  show Go p e below _ (T1.setTop (mkF m 9 #[.val (.ref ob), .val (.int p1), .val (.ref a2), .unset, .unset] [(.ref ob), (.int ((2 : Int32) * (sz + (1 : Int32))))]))
  obtain ⟨T2, X2, e2, st2⟩ := getF X1 hx hZ hown (host := "") (Or.inl (hw _ (List.mem_of_getElem? (i := 44) rfl))) Via.refl e1 zF1 (g := (mkF m 9 #[.val (.ref ob), .val (.int p1), .val (.ref a2), .unset, .unset] [(.ref ob), (.int ((2 : Int32) * (sz + (1 : Int32))))])) rfl rfl (hb hby d9_9)
  refine go st2 ?_
  show Go p e below _ (T2.setTop (mkF m 12 #[.val (.ref ob), .val (.int p1), .val (.ref a2), .unset, .unset] [(.ref zA1), (.int ((2 : Int32) * (sz + (1 : Int32))))]))
  refine go (fun t kt' => by refine lenIA X2 hx hZ e2 zV1 (g := (mkF m 12 #[.val (.ref ob), .val (.int p1), .val (.ref a2), .unset, .unset] [(.ref zA1), (.int ((2 : Int32) * (sz + (1 : Int32))))])) rfl rfl (hb hby d9_12) t ?_; exact kt') ?_
  show Go p e below _ (T2.setTop (mkF m 13 #[.val (.ref ob), .val (.int p1), .val (.ref a2), .unset, .unset] [(.int (16 : Int32)), (.int ((2 : Int32) * (sz + (1 : Int32))))]))
  have c13_3 : ¬ (16 : Int32) < ((2 : Int32) * (sz + (1 : Int32))) := own_load hsz
  refine go (fun t kt' => by refine XS.icmpYes X2.here hx rfl (pc0 := 13) (pc' := 27) rfl (hb hby d9_13) rfl (flt c13_3).2.2.2 (by decide) (by decide) ?_; exact kt') ?_
  show Go p e below _ (T2.setTop (mkF m 27 #[.val (.ref ob), .val (.int p1), .val (.ref a2), .unset, .unset] []))
  refine go (fun t kt' => by refine XS.aloadN X2.here hx rfl (hb hby d9_27) rfl rfl ?_; exact kt') ?_
  show Go p e below _ (T2.setTop (mkF m 28 #[.val (.ref ob), .val (.int p1), .val (.ref a2), .unset, .unset] [(.ref ob)]))
  refine go (fun t kt' => by refine XS.aloadN X2.here hx rfl (hb hby d9_28) rfl rfl ?_; exact kt') ?_
  show Go p e below _ (T2.setTop (mkF m 29 #[.val (.ref ob), .val (.int p1), .val (.ref a2), .unset, .unset] [(.ref a2), (.ref ob)]))
  refine go (fun t kt' => by refine XS.aconstNull X2.here hx rfl (hb hby d9_29) ?_; exact kt') ?_
  show Go p e below _ (T2.setTop (mkF m 30 #[.val (.ref ob), .val (.int p1), .val (.ref a2), .unset, .unset] [.null, (.ref a2), (.ref ob)]))
  obtain ⟨cq4, q4, q4'⟩ := E_o.cell
  obtain ⟨_, _, ⟨T4, L4, k4, n4⟩, -, X4, ⟨Lc4, hQ4, l4, y4, z4⟩, st4⟩ := X2.privateBack hx (y := (⟨"com/example/casewright/casewright/formats/HashIndex", "find", "(Ljava/lang/String;Ljava/lang/String;)I"⟩ : MethodName)) hown (mvT hZ (hw _ (List.mem_of_getElem? (i := 65) rfl))) (mvT hZ (hw _ (List.mem_of_getElem? (i := 66) rfl))) (mvT hZ (own_selp hw (y := (⟨"com/example/casewright/casewright/formats/HashIndex", "find", "(Ljava/lang/String;Ljava/lang/String;)I"⟩ : MethodName)) rfl (hw _ (List.mem_of_getElem? (i := 67) rfl)) (hw _ (List.mem_of_getElem? (i := 66) rfl)))) (Cond.privateMethod_at (mvP hZ (hw _ (List.mem_of_getElem? (i := 67) rfl)) (args := #[]))) (mvT hZ (hw _ (List.mem_of_getElem? (i := 68) rfl))) (by decide) (backOf (W := 0) (rm_fi l Z a0 hw [] ob a2 cs rd pl hs tk sz fh xx h0 n0 Z0 HS OO ⟨g_o, E_o, zA1, zA2, zA3, zA4, zA5, _, ⟨zl1, zl2, zl3, zl4, zl5⟩, ⟨zn12, zn15, zn25, zn34⟩, zF1, zF2, zF3, zF4, zF5, zF6, zF7, zF8, zV1, zV2, zV3, zV4, zV5, HK⟩ S_a2 hfree) hZ (hw _ (List.mem_of_getElem? (i := 68) rfl)) (hw _ (List.mem_of_getElem? (i := 30) rfl)) (by decide) (by decide)) (g := (mkF m 30 #[.val (.ref ob), .val (.int p1), .val (.ref a2), .unset, .unset] [.null, (.ref a2), (.ref ob)])) rfl (by rw [hml]; rfl) (Steps.refl _) (a := ob) (by rw [e2]; exact q4) q4' (argsL := [(.ref a2), .null]) (rest := []) (lenOf pd_5 rfl) rfl (by show 2 * 0 + _ ≤ _; exact Nat.le_of_eq rfl) (hb hby d9_30) (fun _ _ => ⟨rfl, e2, (by decide : 0 + 0 ≤ _), (by decide : 0 + 0 ≤ _)⟩)
  dsimp only [Pt.U, Pt.locs, Pt.cells, Pt.slots] at X4 l4 y4 z4 st4 hQ4
  rw [l4, y4, z4] at X4
  obtain ⟨r4, rfl, hF4, ⟨N4q, OO4, PS4, KA4⟩, HX4⟩ := hQ4
  have N4 := Fr.app N0 N4q
  have f5_P := own_PS.trans P0 PS4
  have f6_L := own_KA.trans L0 KA4
  have f7_T_a2 := PS4 _ _ S_a2
  have Z4 := own_z OO4
  have E4_a2 := f7_T_a2.2.1
  obtain ⟨g_o_4, E_o_4, zA1_4, zA2_4, zA3_4, zA4_4, zA5_4, kf_4, ⟨zl1_4, zl2_4, zl3_4, zl4_4, zl5_4⟩, ⟨zn12_4, zn15_4, zn25_4, zn34_4⟩, zF1_4, zF2_4, zF3_4, zF4_4, zF5_4, zF6_4, zF7_4, zF8_4, zV1_4, zV2_4, zV3_4, zV4_4, zV5_4, HK_4⟩ := HX4
  have zm02_4 := own_neIR zV1_4 zV3_4 (by intro q; cases q)
  have zm03_4 := own_neIR zV1_4 zV4_4 (by intro q; cases q)
  have zm12_4 := own_neIR zV2_4 zV3_4 (by intro q; cases q)
  have zm13_4 := own_neIR zV2_4 zV4_4 (by intro q; cases q)
  have zm42_4 := own_neIR zV5_4 zV3_4 (by intro q; cases q)
  have zm43_4 := own_neIR zV5_4 zV4_4 (by intro q; cases q)
  refine go (fun t kt => st4.trans kt) ?_
  show Go p e below _ (T4.setTop (mkF m 33 #[.val (.ref ob), .val (.int p1), .val (.ref a2), .unset, .unset] [(.int r4)]))
  refine go (fun t kt' => by refine XS.istoreN X4.here hx rfl (hb hby d9_33) rfl (l' := #[.val (.ref ob), .val (.int p1), .val (.ref a2), .val (.int r4), .unset]) rfl ?_; exact kt') ?_
  show Go p e below _ (T4.setTop (mkF m 34 #[.val (.ref ob), .val (.int p1), .val (.ref a2), .val (.int r4), .unset] []))
  refine go (fun t kt' => by refine XS.iloadN X4.here hx rfl (hb hby d9_34) rfl ?_; exact kt') ?_
  show Go p e below _ (T4.setTop (mkF m 35 #[.val (.ref ob), .val (.int p1), .val (.ref a2), .val (.int r4), .unset] [(.int r4)]))
  by_cases c35_8 : r4 < (0 : Int32)
  · skip
    refine go (fun t kt' => by refine XS.ifYes X4.here hx rfl (pc0 := 35) (pc' := 60) rfl (hb hby d9_35) rfl ((if0 _ _).trans (tlt c35_8).1) (by decide) (by decide) ?_; exact kt') ?_
    show Go p e below _ (T4.setTop (mkF m 60 #[.val (.ref ob), .val (.int p1), .val (.ref a2), .val (.int r4), .unset] []))
    refine go (fun t kt' => by refine XS.aloadN X4.here hx rfl (hb hby d9_60) rfl rfl ?_; exact kt') ?_
    show Go p e below _ (T4.setTop (mkF m 61 #[.val (.ref ob), .val (.int p1), .val (.ref a2), .val (.int r4), .unset] [(.ref ob)]))
    refine go (fun t kt' => by refine XS.iloadN X4.here hx rfl (hb hby d9_61) rfl ?_; exact kt') ?_
    show Go p e below _ (T4.setTop (mkF m 62 #[.val (.ref ob), .val (.int p1), .val (.ref a2), .val (.int r4), .unset] [(.int r4), (.ref ob)]))
    refine go (fun t kt' => by refine XS.iconst X4.here hx rfl (hb hby d9_62) ?_; exact kt') ?_
    show Go p e below _ (T4.setTop (mkF m 63 #[.val (.ref ob), .val (.int p1), .val (.ref a2), .val (.int r4), .unset] [(.int (-1 : Int32)), (.int r4), (.ref ob)]))
    refine go (fun t kt' => by refine XS.ixor X4.here hx rfl (hb hby d9_63) rfl ?_; exact kt') ?_
    show Go p e below _ (T4.setTop (mkF m 64 #[.val (.ref ob), .val (.int p1), .val (.ref a2), .val (.int r4), .unset] [(.int (r4 ^^^ (-1 : Int32))), (.ref ob)]))
    refine go (fun t kt' => by refine XS.iloadN X4.here hx rfl (hb hby d9_64) rfl ?_; exact kt') ?_
    show Go p e below _ (T4.setTop (mkF m 65 #[.val (.ref ob), .val (.int p1), .val (.ref a2), .val (.int r4), .unset] [(.int p1), (.int (r4 ^^^ (-1 : Int32))), (.ref ob)]))
    refine go (fun t kt' => by refine XS.aloadN X4.here hx rfl (hb hby d9_65) rfl rfl ?_; exact kt') ?_
    show Go p e below _ (T4.setTop (mkF m 66 #[.val (.ref ob), .val (.int p1), .val (.ref a2), .val (.int r4), .unset] [(.ref a2), (.int p1), (.int (r4 ^^^ (-1 : Int32))), (.ref ob)]))
    refine go (fun t kt' => by refine XS.aconstNull X4.here hx rfl (hb hby d9_66) ?_; exact kt') ?_
    show Go p e below _ (T4.setTop (mkF m 67 #[.val (.ref ob), .val (.int p1), .val (.ref a2), .val (.int r4), .unset] [.null, (.ref a2), (.int p1), (.int (r4 ^^^ (-1 : Int32))), (.ref ob)]))
    obtain ⟨cq9, q9, q9'⟩ := E_o_4.cell
    obtain ⟨_, _, ⟨T9, L9, k9, n9⟩, -, X9, ⟨Lc9, hQ9, l9, y9, z9⟩, st9⟩ := X4.privateBack hx (y := (⟨"com/example/casewright/casewright/formats/HashIndex", "add", "(IILjava/lang/String;Ljava/lang/String;)V"⟩ : MethodName)) hown (mvT hZ (hw _ (List.mem_of_getElem? (i := 103) rfl))) (mvT hZ (hw _ (List.mem_of_getElem? (i := 104) rfl))) (mvT hZ (own_selp hw (y := (⟨"com/example/casewright/casewright/formats/HashIndex", "add", "(IILjava/lang/String;Ljava/lang/String;)V"⟩ : MethodName)) rfl (hw _ (List.mem_of_getElem? (i := 105) rfl)) (hw _ (List.mem_of_getElem? (i := 104) rfl)))) (Cond.privateMethod_at (mvP hZ (hw _ (List.mem_of_getElem? (i := 105) rfl)) (args := #[]))) (mvT hZ (hw _ (List.mem_of_getElem? (i := 106) rfl))) (by decide) (backOf (W := 0) (rm_ad l Z a0 hw [] ob (r4 ^^^ (-1 : Int32)) p1 a2 cs rd pl hs tk sz (own_H xx) xx T4.heap n0 Z4 HS OO4 ⟨g_o_4, E_o_4, zA1_4, zA2_4, zA3_4, zA4_4, zA5_4, _, ⟨zl1_4, zl2_4, zl3_4, zl4_4, zl5_4⟩, ⟨zn12_4, zn15_4, zn25_4, zn34_4⟩, zF1_4, zF2_4, zF3_4, zF4_4, zF5_4, zF6_4, zF7_4, zF8_4, zV1_4, zV2_4, zV3_4, zV4_4, zV5_4, HK_4⟩ f7_T_a2 (own_fin' hF4 c35_8) hsz rfl) hZ (hw _ (List.mem_of_getElem? (i := 106) rfl)) (hw _ (List.mem_of_getElem? (i := 30) rfl)) (by decide) (by decide)) (g := (mkF m 67 #[.val (.ref ob), .val (.int p1), .val (.ref a2), .val (.int r4), .unset] [.null, (.ref a2), (.int p1), (.int (r4 ^^^ (-1 : Int32))), (.ref ob)])) rfl (by rw [hml]; rfl) (Steps.refl _) (a := ob) q9 q9' (argsL := [(.int (r4 ^^^ (-1 : Int32))), (.int p1), (.ref a2), .null]) (rest := []) (lenOf pd_9 rfl) rfl (by show 2 * 0 + _ ≤ _; exact Nat.le_of_eq rfl) (hb hby d9_67) (fun _ _ => ⟨rfl, rfl, (by decide : 0 + 0 ≤ _), (by decide : 0 + 0 ≤ _)⟩)
    dsimp only [Pt.U, Pt.locs, Pt.cells, Pt.slots] at X9 l9 y9 z9 st9 hQ9
    rw [l9, y9, z9] at X9
    obtain ⟨rfl, ⟨N9q, OO9, PS9, KA9⟩, HX9⟩ := hQ9
    have N9 := Fr.app N4 N9q
    have f10_P := own_PS.trans f5_P PS9
    have f11_L := own_KA.trans f6_L KA9
    have f12_T_a2 := PS9 _ _ f7_T_a2
    have Z9 := own_z OO9
    have E9_a2 := f12_T_a2.2.1
    obtain ⟨g_o_9, E_o_9, zA1_9, zA2_9, zA3_9, zA4_9, zA5_9, kf_9, ⟨zl1_9, zl2_9, zl3_9, zl4_9, zl5_9⟩, ⟨zn12_9, zn15_9, zn25_9, zn34_9⟩, zF1_9, zF2_9, zF3_9, zF4_9, zF5_9, zF6_9, zF7_9, zF8_9, zV1_9, zV2_9, zV3_9, zV4_9, zV5_9, HK_9⟩ := HX9
    have zm02_9 := own_neIR zV1_9 zV3_9 (by intro q; cases q)
    have zm03_9 := own_neIR zV1_9 zV4_9 (by intro q; cases q)
    have zm12_9 := own_neIR zV2_9 zV3_9 (by intro q; cases q)
    have zm13_9 := own_neIR zV2_9 zV4_9 (by intro q; cases q)
    have zm42_9 := own_neIR zV5_9 zV3_9 (by intro q; cases q)
    have zm43_9 := own_neIR zV5_9 zV4_9 (by intro q; cases q)
    refine go (fun t kt => st9.trans kt) ?_
    show Go p e below _ (T9.setTop (mkF m 70 #[.val (.ref ob), .val (.int p1), .val (.ref a2), .val (.int r4), .unset] []))
    refine go (fun t kt' => by refine XS.iconst X9.here hx rfl (hb hby d9_70) ?_; exact kt') ?_
    show Go p e below _ (T9.setTop (mkF m 71 #[.val (.ref ob), .val (.int p1), .val (.ref a2), .val (.int r4), .unset] [(.int (-1 : Int32))]))
    refine goOut X9 (fun h => by rw [Bd.returns] at h; cases h) hlk (fun fs hr => retOut X9 hx Bd.returns rfl (Or.inl ⟨rfl, Or.inl rfl, _, rfl⟩) (hb hby d9_71) hr) (by decide) (by decide) ?_
    exact ⟨_, _, _, _, _, _, rfl, ⟨_, hF4, Or.inr ⟨c35_8, rfl, rfl, rfl, rfl, rfl⟩⟩, ⟨N9, OO9, f10_P, f11_L⟩, ⟨g_o_9, E_o_9, zA1_9, zA2_9, zA3_9, zA4_9, zA5_9, _, ⟨zl1_9, zl2_9, zl3_9, zl4_9, zl5_9⟩, ⟨zn12_9, zn15_9, zn25_9, zn34_9⟩, zF1_9, zF2_9, zF3_9, zF4_9, zF5_9, zF6_9, zF7_9, zF8_9, zV1_9, zV2_9, zV3_9, zV4_9, zV5_9, HK_9⟩⟩
  · skip
    refine go (fun t kt' => by refine XS.ifNo X4.here hx rfl (hb hby d9_35) rfl ((if0 _ _).trans (flt c35_8).1) ?_; exact kt') ?_
    show Go p e below _ (T4.setTop (mkF m 38 #[.val (.ref ob), .val (.int p1), .val (.ref a2), .val (.int r4), .unset] []))
    refine go (fun t kt' => by refine XS.aloadN X4.here hx rfl (hb hby d9_38) rfl rfl ?_; exact kt') ?_
    show Go p e below _ (T4.setTop (mkF m 39 #[.val (.ref ob), .val (.int p1), .val (.ref a2), .val (.int r4), .unset] [(.ref ob)]))
    obtain ⟨T13, X13, e13, st13⟩ := getF X4 hx hZ hown (host := "") (Or.inl (hw _ (List.mem_of_getElem? (i := 44) rfl))) Via.refl rfl zF1_4 (g := (mkF m 39 #[.val (.ref ob), .val (.int p1), .val (.ref a2), .val (.int r4), .unset] [(.ref ob)])) rfl rfl (hb hby d9_39)
    refine go st13 ?_
    show Go p e below _ (T13.setTop (mkF m 42 #[.val (.ref ob), .val (.int p1), .val (.ref a2), .val (.int r4), .unset] [(.ref zA1_4)]))
    refine go (fun t kt' => by refine XS.iloadN X13.here hx rfl (hb hby d9_42) rfl ?_; exact kt') ?_
    show Go p e below _ (T13.setTop (mkF m 43 #[.val (.ref ob), .val (.int p1), .val (.ref a2), .val (.int r4), .unset] [(.int r4), (.ref zA1_4)]))
    refine go (fun t kt' => by refine ldIA X13 hx hZ e13 zV1_4 (j := r4) (own_fin hF4 c35_8).1 (g := (mkF m 43 #[.val (.ref ob), .val (.int p1), .val (.ref a2), .val (.int r4), .unset] [(.int r4), (.ref zA1_4)])) rfl rfl (hb hby d9_43) t ?_; exact kt') ?_
    show Go p e below _ (T13.setTop (mkF m 44 #[.val (.ref ob), .val (.int p1), .val (.ref a2), .val (.int r4), .unset] [(.int (pl (r4).toNatClampNeg))]))
    refine go (fun t kt' => by refine XS.iconst X13.here hx rfl (hb hby d9_44) ?_; exact kt') ?_
    show Go p e below _ (T13.setTop (mkF m 45 #[.val (.ref ob), .val (.int p1), .val (.ref a2), .val (.int r4), .unset] [(.int (1 : Int32)), (.int (pl (r4).toNatClampNeg))]))
    refine go (fun t kt' => by refine XS.isub X13.here hx rfl (hb hby d9_45) rfl ?_; exact kt') ?_
    show Go p e below _ (T13.setTop (mkF m 46 #[.val (.ref ob), .val (.int p1), .val (.ref a2), .val (.int r4), .unset] [(.int ((pl (r4).toNatClampNeg) - (1 : Int32)))]))
    refine go (fun t kt' => by refine XS.istore X13.here hx rfl (hb hby d9_46) rfl (l' := #[.val (.ref ob), .val (.int p1), .val (.ref a2), .val (.int r4), .val (.int ((pl (r4).toNatClampNeg) - (1 : Int32)))]) rfl ?_; exact kt') ?_
    show Go p e below _ (T13.setTop (mkF m 48 #[.val (.ref ob), .val (.int p1), .val (.ref a2), .val (.int r4), .val (.int ((pl (r4).toNatClampNeg) - (1 : Int32)))] []))
    refine go (fun t kt' => by refine XS.aloadN X13.here hx rfl (hb hby d9_48) rfl rfl ?_; exact kt') ?_
    show Go p e below _ (T13.setTop (mkF m 49 #[.val (.ref ob), .val (.int p1), .val (.ref a2), .val (.int r4), .val (.int ((pl (r4).toNatClampNeg) - (1 : Int32)))] [(.ref ob)]))
    obtain ⟨T14, X14, e14, st14⟩ := getF X13 hx hZ hown (host := "") (Or.inl (hw _ (List.mem_of_getElem? (i := 44) rfl))) Via.refl e13 zF1_4 (g := (mkF m 49 #[.val (.ref ob), .val (.int p1), .val (.ref a2), .val (.int r4), .val (.int ((pl (r4).toNatClampNeg) - (1 : Int32)))] [(.ref ob)])) rfl rfl (hb hby d9_49)
    refine go st14 ?_
    show Go p e below _ (T14.setTop (mkF m 52 #[.val (.ref ob), .val (.int p1), .val (.ref a2), .val (.int r4), .val (.int ((pl (r4).toNatClampNeg) - (1 : Int32)))] [(.ref zA1_4)]))
    refine go (fun t kt' => by refine XS.iloadN X14.here hx rfl (hb hby d9_52) rfl ?_; exact kt') ?_
    show Go p e below _ (T14.setTop (mkF m 53 #[.val (.ref ob), .val (.int p1), .val (.ref a2), .val (.int r4), .val (.int ((pl (r4).toNatClampNeg) - (1 : Int32)))] [(.int r4), (.ref zA1_4)]))
    refine go (fun t kt' => by refine XS.iloadN X14.here hx rfl (hb hby d9_53) rfl ?_; exact kt') ?_
    show Go p e below _ (T14.setTop (mkF m 54 #[.val (.ref ob), .val (.int p1), .val (.ref a2), .val (.int r4), .val (.int ((pl (r4).toNatClampNeg) - (1 : Int32)))] [(.int p1), (.int r4), (.ref zA1_4)]))
    refine go (fun t kt' => by refine XS.iconst X14.here hx rfl (hb hby d9_54) ?_; exact kt') ?_
    show Go p e below _ (T14.setTop (mkF m 55 #[.val (.ref ob), .val (.int p1), .val (.ref a2), .val (.int r4), .val (.int ((pl (r4).toNatClampNeg) - (1 : Int32)))] [(.int (1 : Int32)), (.int p1), (.int r4), (.ref zA1_4)]))
    refine go (fun t kt' => by refine XS.iadd X14.here hx rfl (hb hby d9_55) rfl ?_; exact kt') ?_
    show Go p e below _ (T14.setTop (mkF m 56 #[.val (.ref ob), .val (.int p1), .val (.ref a2), .val (.int r4), .val (.int ((pl (r4).toNatClampNeg) - (1 : Int32)))] [(.int (p1 + (1 : Int32))), (.int r4), (.ref zA1_4)]))
    obtain ⟨T15, h15, X15, e15, W15, V15, st15⟩ := stIA X14 hx hZ e14 zV1_4 (j := r4) (x := (p1 + (1 : Int32))) (own_fin hF4 c35_8).1 (g := (mkF m 56 #[.val (.ref ob), .val (.int p1), .val (.ref a2), .val (.int r4), .val (.int ((pl (r4).toNatClampNeg) - (1 : Int32)))] [(.int (p1 + (1 : Int32))), (.int r4), (.ref zA1_4)])) rfl rfl (hb hby d9_56)
    have N15 := Fr.snoc X15 N4 (Nat.le_trans g_o_4 (Nat.le_of_lt zl1_4))
    have f16_P := own_PS.wr f5_P W15 (own_okI hw zV1_4 (by intro q; cases q))
    have f17_L := own_KA.wr f6_L W15 (Nat.le_of_lt zl1_4)
    have f18_T_a2 := own_St.wr f7_T_a2 W15 (own_okI hw zV1_4 (by intro q; cases q))
    have f19_O := OO4.wr W15 (Nat.le_trans g_o_4 (Nat.le_of_lt zl1_4))
    have f20_Z := Nat.le_trans Z4 (Keep.of_wr W15).1
    have f21_E_a2 := E4_a2.wr W15
    have f22_E_ob := E_o_4.wr W15
    have f23_F_ob_places := zF1_4.other W15 (Or.inl (Nat.ne_of_lt zl1_4))
    have f24_F_ob_hashes := zF2_4.other W15 (Or.inl (Nat.ne_of_lt zl1_4))
    have f25_F_ob_keys := zF3_4.other W15 (Or.inl (Nat.ne_of_lt zl1_4))
    have f26_F_ob_seconds := zF4_4.other W15 (Or.inl (Nat.ne_of_lt zl1_4))
    have f27_F_ob_taken := zF5_4.other W15 (Or.inl (Nat.ne_of_lt zl1_4))
    have f28_F_ob_size := zF6_4.other W15 (Or.inl (Nat.ne_of_lt zl1_4))
    have f29_F_ob_hashedAtRandom := zF7_4.other W15 (Or.inl (Nat.ne_of_lt zl1_4))
    have f30_F_ob_foundHash := zF8_4.other W15 (Or.inl (Nat.ne_of_lt zl1_4))
    have f31_A_zA1_4 := V15
    have f32_A_zA2_4 := zV2_4.other W15 (Ne.symm zn12_4)
    have f33_A_zA3_4 := zV3_4.other W15 (Ne.symm zm02_4)
    have f34_A_zA4_4 := zV4_4.other W15 (Ne.symm zm03_4)
    have f35_A_zA5_4 := zV5_4.other W15 (Ne.symm zn15_4)
    have f36_HK_ob := own_HK.ps HK_4 (own_PS.wr (own_PS.refl _ _ _) W15 (own_okI hw zV1_4 (by intro q; cases q)))
    refine go st15 ?_
    show Go p e below _ (T15.setTop (mkF m 57 #[.val (.ref ob), .val (.int p1), .val (.ref a2), .val (.int r4), .val (.int ((pl (r4).toNatClampNeg) - (1 : Int32)))] []))
    refine go (fun t kt' => by refine XS.iload X15.here hx rfl (hb hby d9_57) rfl ?_; exact kt') ?_
    show Go p e below _ (T15.setTop (mkF m 59 #[.val (.ref ob), .val (.int p1), .val (.ref a2), .val (.int r4), .val (.int ((pl (r4).toNatClampNeg) - (1 : Int32)))] [(.int ((pl (r4).toNatClampNeg) - (1 : Int32)))]))
    refine goOut X15 (fun h => by rw [Bd.returns] at h; cases h) hlk (fun fs hr => retOut X15 hx Bd.returns rfl (Or.inl ⟨rfl, Or.inl rfl, _, rfl⟩) (hb hby d9_59) hr) (by decide) (by decide) ?_
    rw [e15]
    exact ⟨_, _, _, _, _, _, rfl, ⟨_, hF4, Or.inl ⟨c35_8, rfl, rfl, rfl, rfl, rfl⟩⟩, ⟨N15, f19_O, f16_P, f17_L⟩, ⟨g_o_4, f22_E_ob, zA1_4, zA2_4, zA3_4, zA4_4, zA5_4, _, ⟨zl1_4, zl2_4, zl3_4, zl4_4, zl5_4⟩, ⟨zn12_4, zn15_4, zn25_4, zn34_4⟩, f23_F_ob_places, f24_F_ob_hashes, f25_F_ob_keys, f26_F_ob_seconds, f27_F_ob_taken, f28_F_ob_size, f29_F_ob_hashedAtRandom, f30_F_ob_foundHash, f31_A_zA1_4, f32_A_zA2_4, f33_A_zA3_4, f34_A_zA4_4, f35_A_zA5_4, own_HK.set f36_HK_ob (own_fin hF4 c35_8).2 _⟩⟩
theorem d19_0 : decode prog_120_method_8_code 0 = .ok (.aload_n 0, 1) := by decide +kernel
theorem d19_1 : decode prog_120_method_8_code 1 = .ok (.dup, 1) := by decide +kernel
theorem d19_2 : decode prog_120_method_8_code 2 = .ok (.getfield 41, 3) := by decide +kernel
theorem d19_5 : decode prog_120_method_8_code 5 = .ok (.iconst 1, 1) := by decide +kernel
theorem d19_6 : decode prog_120_method_8_code 6 = .ok (.isub, 1) := by decide +kernel
theorem d19_7 : decode prog_120_method_8_code 7 = .ok (.putfield 41, 3) := by decide +kernel
theorem d19_10 : decode prog_120_method_8_code 10 = .ok (.aload_n 0, 1) := by decide +kernel
theorem d19_11 : decode prog_120_method_8_code 11 = .ok (.getfield 34, 3) := by decide +kernel
theorem d19_14 : decode prog_120_method_8_code 14 = .ok (.aload_n 0, 1) := by decide +kernel
theorem d19_15 : decode prog_120_method_8_code 15 = .ok (.getfield 41, 3) := by decide +kernel
theorem d19_18 : decode prog_120_method_8_code 18 = .ok (.iaload, 1) := by decide +kernel
theorem d19_19 : decode prog_120_method_8_code 19 = .ok (.istore_n 1, 1) := by decide +kernel
theorem d19_20 : decode prog_120_method_8_code 20 = .ok (.aload_n 0, 1) := by decide +kernel
theorem d19_21 : decode prog_120_method_8_code 21 = .ok (.getfield 18, 3) := by decide +kernel
theorem d19_24 : decode prog_120_method_8_code 24 = .ok (.iload_n 1, 1) := by decide +kernel
theorem d19_25 : decode prog_120_method_8_code 25 = .ok (.iconst 0, 1) := by decide +kernel
theorem d19_26 : decode prog_120_method_8_code 26 = .ok (.iastore, 1) := by decide +kernel
theorem d19_27 : decode prog_120_method_8_code 27 = .ok (.aload_n 0, 1) := by decide +kernel
theorem d19_28 : decode prog_120_method_8_code 28 = .ok (.getfield 27, 3) := by decide +kernel
theorem d19_31 : decode prog_120_method_8_code 31 = .ok (.iload_n 1, 1) := by decide +kernel
theorem d19_32 : decode prog_120_method_8_code 32 = .ok (.aconst_null, 1) := by decide +kernel
theorem d19_33 : decode prog_120_method_8_code 33 = .ok (.aastore, 1) := by decide +kernel
theorem d19_34 : decode prog_120_method_8_code 34 = .ok (.aload_n 0, 1) := by decide +kernel
theorem d19_35 : decode prog_120_method_8_code 35 = .ok (.getfield 31, 3) := by decide +kernel
theorem d19_38 : decode prog_120_method_8_code 38 = .ok (.iload_n 1, 1) := by decide +kernel
theorem d19_39 : decode prog_120_method_8_code 39 = .ok (.aconst_null, 1) := by decide +kernel
theorem d19_40 : decode prog_120_method_8_code 40 = .ok (.aastore, 1) := by decide +kernel
theorem d19_41 : decode prog_120_method_8_code 41 = .ok (.return_, 1) := by decide +kernel
theorem ef_rm_rl (m : MethodId) (x0 : Addr) : entryFrame m #[(.ref x0)] 2 = mkF m 0 #[.val (.ref x0), .unset] [] := by first | (simp [entryFrame, mkF, argsToLocals, Value.category]; done) | rfl
def Q_rl (Z : State) (ob : Addr) (pl hs tk : Nat → Int32) (sz : Int32) (sn : Nat) (h0 : Heap) (n0 : Nat) (v : Option Value) (h : Heap) (L : List Loc) : Prop := v = none ∧ own_Cm Z n0 h0 h ob L ∧ ∃ fh' : Int32, own_HX Z n0 h ob (upI pl sn 0) hs tk (sz - (1 : Int32)) fh'
set_option maxRecDepth 65536 in
set_option maxHeartbeats 40000000 in
theorem rm_rl (l : Launch) (Z : State) (a0 : Array Value) (hw : ∀ d ∈ tables_1, d.before a0 Z = true) (ws : List Jvm.Cond) (ob : Addr) (cs : Int32) (rd : Addr) (pl hs tk : Nat → Int32) (sz fh : Int32) (N sn : Nat) (h0 : Heap) (n0 : Nat) (Z0 : n0 ≤ h0.size) (HS : own_sets Z cs rd) (OO : Old Z n0 h0) (HXo : own_HX Z n0 h0 ob pl hs tk sz fh) (hsz : sz.toInt = ((N + 1 : Nat) : Int)) (hN : N ≤ 7) (htk : (tk N).toInt = sn) (hsn : sn < 16) :
    MetFree l (⟨"com/example/casewright/casewright/formats/HashIndex", "removeLast", "()V"⟩ : MethodName) (head1 (Jvm.Cond.code (⟨"com/example/casewright/casewright/formats/HashIndex", "removeLast", "()V"⟩ : MethodName) prog_120_method_8_code 2 none :: ws) ({ frames := 0, cells := 0, slots := 0, locals := 0 } : Room)) (fun av' U => av' = #[(.ref ob)] ∧ Z.Warmed39 U.vm ∧ U.heap = h0) (fun _ _ _ _ _ => True) (fun _ U o U' => ∃ v L, o = .returned v ∧ Q_rl Z ob pl hs tk sz sn h0 n0 v U'.heap L ∧ FrameEnd U o U' L ({ frames := 0, cells := 0, slots := 0, locals := 0 } : Room).cells ({ frames := 0, cells := 0, slots := 0, locals := 0 } : Room).slots) := by
  refine MetFree.of_bodySF (plainFor_of_name pn_com_example_casewright_casewright_formats_HashIndex) hisR ?_
  intro p e s m args below meth c s₁ Bd hml0 hP hK
  obtain ⟨rfl, hZ, hh⟩ := hP
  have hx := Bd.exec
  have hby := Bd.bytes
  have hlk := Bd.notSynchronized
  have hml : c.maxLocals = 2 := hml0
  have hown : s.vm.findClass "com/example/casewright/casewright/formats/HashIndex" = some m.cls := findClass_of_methodNamed Bd.named
  have hnm := (name_of_methodNamed Bd.named Bd.method).1
  have X0 : Stand p l e ({ frames := 0, cells := 0, slots := 0, locals := 0 } : Room) s m #[(.ref ob)] below meth c s₁ [] 0 0 := Stand.of_body Bd
  have e0 : s₁.heap = h0 := by rw [← hh, Bd.state]; rfl
  have N0 := Fr.nil n0
  show Go p e below (Kq s (Q_rl Z ob pl hs tk sz sn h0 n0) ({ frames := 0, cells := 0, slots := 0, locals := 0 } : Room).cells ({ frames := 0, cells := 0, slots := 0, locals := 0 } : Room).slots) _
  refine go (fun t kt => castTop (ef_rm_rl m ob) kt) ?_
  have HS0 := HS
  obtain ⟨S_cs, hcs, S_rd⟩ := HS0
  obtain ⟨g_o, E_o, zA1, zA2, zA3, zA4, zA5, kf, ⟨zl1, zl2, zl3, zl4, zl5⟩, ⟨zn12, zn15, zn25, zn34⟩, zF1, zF2, zF3, zF4, zF5, zF6, zF7, zF8, zV1, zV2, zV3, zV4, zV5, HK⟩ := HXo
  have zm02 := own_neIR zV1 zV3 (by intro q; cases q)
  have zm03 := own_neIR zV1 zV4 (by intro q; cases q)
  have zm12 := own_neIR zV2 zV3 (by intro q; cases q)
  have zm13 := own_neIR zV2 zV4 (by intro q; cases q)
  have zm42 := own_neIR zV5 zV3 (by intro q; cases q)
  have zm43 := own_neIR zV5 zV4 (by intro q; cases q)
  have P0 := own_PS.refl Z n0 h0
  have L0 := own_KA.refl Z h0 ob
  have hd := own_dec hsz
  show Go p e below _ (s₁.setTop (mkF m 0 #[.val (.ref ob), .unset] []))
  refine go (fun t kt' => by refine XS.aloadN X0.here hx rfl (hb hby d19_0) rfl rfl ?_; exact kt') ?_
  show Go p e below _ (s₁.setTop (mkF m 1 #[.val (.ref ob), .unset] [(.ref ob)]))
  refine go (fun t kt' => by refine XS.dup X0.here hx rfl (hb hby d19_1) rfl rfl ?_; exact kt') ?_
  show Go p e below _ (s₁.setTop (mkF m 2 #[.val (.ref ob), .unset] [(.ref ob), (.ref ob)]))
  obtain ⟨T1, X1, e1, st1⟩ := getF X0 hx hZ hown (host := "") (Or.inl (hw _ (List.mem_of_getElem? (i := 63) rfl))) Via.refl e0 zF6 (g := (mkF m 2 #[.val (.ref ob), .unset] [(.ref ob), (.ref ob)])) rfl rfl (hb hby d19_2)
  refine go st1 ?_
  show Go p e below _ (T1.setTop (mkF m 5 #[.val (.ref ob), .unset] [(.int sz), (.ref ob)]))
  refine go (fun t kt' => by refine XS.iconst X1.here hx rfl (hb hby d19_5) ?_; exact kt') ?_
  show Go p e below _ (T1.setTop (mkF m 6 #[.val (.ref ob), .unset] [(.int (1 : Int32)), (.int sz), (.ref ob)]))
  refine go (fun t kt' => by refine XS.isub X1.here hx rfl (hb hby d19_6) rfl ?_; exact kt') ?_
  show Go p e below _ (T1.setTop (mkF m 7 #[.val (.ref ob), .unset] [(.int (sz - (1 : Int32))), (.ref ob)]))
  obtain ⟨T2, h2, X2, e2, W2, st2⟩ := putF X1 hx hZ hown (host := "") (Or.inl (hw _ (List.mem_of_getElem? (i := 63) rfl))) Via.refl e1 zF6 E_o (Or.inl (hw _ (List.mem_of_getElem? (i := 64) rfl))) (hw _ (List.mem_of_getElem? (i := 29) rfl)) (ty := .int) (by decide) rfl rfl (g := (mkF m 7 #[.val (.ref ob), .unset] [(.int (sz - (1 : Int32))), (.ref ob)])) rfl rfl (hb hby d19_7)
  have N2 := Fr.snoc X2 N0 g_o
  have f3_Z := Nat.le_trans Z0 (Keep.of_wr W2).1
  have f4_O := OO.wr W2 g_o
  have f5_E_ob := E_o.wr W2
  have f6_F_ob_places := zF1.other W2 (Or.inr (slot_ne (Or.inl (hw _ (List.mem_of_getElem? (i := 45) rfl))) (Or.inl (hw _ (List.mem_of_getElem? (i := 64) rfl))) (by decide) (t := (.array .int)) (t' := .int) (by decide) (by decide)))
  have f7_F_ob_hashes := zF2.other W2 (Or.inr (slot_ne (Or.inl (hw _ (List.mem_of_getElem? (i := 47) rfl))) (Or.inl (hw _ (List.mem_of_getElem? (i := 64) rfl))) (by decide) (t := (.array .int)) (t' := .int) (by decide) (by decide)))
  have f8_F_ob_keys := zF3.other W2 (Or.inr (slot_ne (Or.inl (hw _ (List.mem_of_getElem? (i := 51) rfl))) (Or.inl (hw _ (List.mem_of_getElem? (i := 64) rfl))) (by decide) (t := (.array (.object "java/lang/String"))) (t' := .int) (by decide) (by decide)))
  have f9_F_ob_seconds := zF4.other W2 (Or.inr (slot_ne (Or.inl (hw _ (List.mem_of_getElem? (i := 53) rfl))) (Or.inl (hw _ (List.mem_of_getElem? (i := 64) rfl))) (by decide) (t := (.array (.object "java/lang/String"))) (t' := .int) (by decide) (by decide)))
  have f10_F_ob_taken := zF5.other W2 (Or.inr (slot_ne (Or.inl (hw _ (List.mem_of_getElem? (i := 55) rfl))) (Or.inl (hw _ (List.mem_of_getElem? (i := 64) rfl))) (by decide) (t := (.array .int)) (t' := .int) (by decide) (by decide)))
  have f11_F_ob_size := zF6.same W2
  have f12_F_ob_hashedAtRandom := zF7.other W2 (Or.inr (slot_ne (Or.inl (hw _ (List.mem_of_getElem? (i := 74) rfl))) (Or.inl (hw _ (List.mem_of_getElem? (i := 64) rfl))) (by decide) (t := .boolean) (t' := .int) (by decide) (by decide)))
  have f13_F_ob_foundHash := zF8.other W2 (Or.inr (slot_ne (Or.inl (hw _ (List.mem_of_getElem? (i := 102) rfl))) (Or.inl (hw _ (List.mem_of_getElem? (i := 64) rfl))) (by decide) (t := .int) (t' := .int) (by decide) (by decide)))
  have f14_A_zA1 := zV1.other W2 (Ne.symm (Nat.ne_of_lt zl1))
  have f15_A_zA2 := zV2.other W2 (Ne.symm (Nat.ne_of_lt zl2))
  have f16_A_zA3 := zV3.other W2 (Ne.symm (Nat.ne_of_lt zl3))
  have f17_A_zA4 := zV4.other W2 (Ne.symm (Nat.ne_of_lt zl4))
  have f18_A_zA5 := zV5.other W2 (Ne.symm (Nat.ne_of_lt zl5))
  have f19_HK_ob := own_HK.ps HK (own_PS.wr (own_PS.refl _ _ _) W2 (own_okO hw E_o))
  have f20_P := own_PS.wr P0 W2 (own_okO hw E_o)
  have f21_L := own_KA.wr L0 W2 (Nat.le_refl _)
  refine go st2 ?_
  show Go p e below _ (T2.setTop (mkF m 10 #[.val (.ref ob), .unset] []))
  refine go (fun t kt' => by refine XS.aloadN X2.here hx rfl (hb hby d19_10) rfl rfl ?_; exact kt') ?_
  show Go p e below _ (T2.setTop (mkF m 11 #[.val (.ref ob), .unset] [(.ref ob)]))
  obtain ⟨T22, X22, e22, st22⟩ := getF X2 hx hZ hown (host := "") (Or.inl (hw _ (List.mem_of_getElem? (i := 54) rfl))) Via.refl e2 f10_F_ob_taken (g := (mkF m 11 #[.val (.ref ob), .unset] [(.ref ob)])) rfl rfl (hb hby d19_11)
  refine go st22 ?_
  show Go p e below _ (T22.setTop (mkF m 14 #[.val (.ref ob), .unset] [(.ref zA5)]))
  refine go (fun t kt' => by refine XS.aloadN X22.here hx rfl (hb hby d19_14) rfl rfl ?_; exact kt') ?_
  show Go p e below _ (T22.setTop (mkF m 15 #[.val (.ref ob), .unset] [(.ref ob), (.ref zA5)]))
  obtain ⟨T23, X23, e23, st23⟩ := getF X22 hx hZ hown (host := "") (Or.inl (hw _ (List.mem_of_getElem? (i := 63) rfl))) Via.refl e22 f11_F_ob_size (g := (mkF m 15 #[.val (.ref ob), .unset] [(.ref ob), (.ref zA5)])) rfl rfl (hb hby d19_15)
  refine go st23 ?_
  show Go p e below _ (T23.setTop (mkF m 18 #[.val (.ref ob), .unset] [(.int (sz - (1 : Int32))), (.ref zA5)]))
  refine go (fun t kt' => by refine ldIA X23 hx hZ e23 f18_A_zA5 (j := (sz - (1 : Int32))) (show 0 ≤ (sz - (1 : Int32)).toInt ∧ (sz - (1 : Int32)).toInt < (8 : Nat) from by omega) (g := (mkF m 18 #[.val (.ref ob), .unset] [(.int (sz - (1 : Int32))), (.ref zA5)])) rfl rfl (hb hby d19_18) t ?_; exact kt') ?_
  show Go p e below _ (T23.setTop (mkF m 19 #[.val (.ref ob), .unset] [(.int (tk ((sz - (1 : Int32))).toNatClampNeg))]))
  refine go (fun t kt' => by refine XS.istoreN X23.here hx rfl (hb hby d19_19) rfl (l' := #[.val (.ref ob), .val (.int (tk ((sz - (1 : Int32))).toNatClampNeg))]) rfl ?_; exact kt') ?_
  show Go p e below _ (T23.setTop (mkF m 20 #[.val (.ref ob), .val (.int (tk ((sz - (1 : Int32))).toNatClampNeg))] []))
  generalize hsl : (tk ((sz - (1 : Int32))).toNatClampNeg) = sl
  show Go p e below _ (T23.setTop (mkF m 20 #[.val (.ref ob), .val (.int sl)] []))
  have hs1 : sl.toInt = sn := by rw [← hsl, own_cl hd]; exact htk
  have hin : 0 ≤ sl.toInt ∧ sl.toInt < (16 : Nat) := by omega
  refine go (fun t kt' => by refine XS.aloadN X23.here hx rfl (hb hby d19_20) rfl rfl ?_; exact kt') ?_
  show Go p e below _ (T23.setTop (mkF m 21 #[.val (.ref ob), .val (.int sl)] [(.ref ob)]))
  obtain ⟨T24, X24, e24, st24⟩ := getF X23 hx hZ hown (host := "") (Or.inl (hw _ (List.mem_of_getElem? (i := 44) rfl))) Via.refl e23 f6_F_ob_places (g := (mkF m 21 #[.val (.ref ob), .val (.int sl)] [(.ref ob)])) rfl rfl (hb hby d19_21)
  refine go st24 ?_
  show Go p e below _ (T24.setTop (mkF m 24 #[.val (.ref ob), .val (.int sl)] [(.ref zA1)]))
  refine go (fun t kt' => by refine XS.iloadN X24.here hx rfl (hb hby d19_24) rfl ?_; exact kt') ?_
  show Go p e below _ (T24.setTop (mkF m 25 #[.val (.ref ob), .val (.int sl)] [(.int sl), (.ref zA1)]))
  refine go (fun t kt' => by refine XS.iconst X24.here hx rfl (hb hby d19_25) ?_; exact kt') ?_
  show Go p e below _ (T24.setTop (mkF m 26 #[.val (.ref ob), .val (.int sl)] [(.int (0 : Int32)), (.int sl), (.ref zA1)]))
  obtain ⟨T25, h25, X25, e25, W25, V25, st25⟩ := stIA X24 hx hZ e24 f14_A_zA1 (j := sl) (x := (0 : Int32)) hin (g := (mkF m 26 #[.val (.ref ob), .val (.int sl)] [(.int (0 : Int32)), (.int sl), (.ref zA1)])) rfl rfl (hb hby d19_26)
  have N25 := Fr.snoc X25 N2 (Nat.le_trans g_o (Nat.le_of_lt zl1))
  have f26_Z := Nat.le_trans f3_Z (Keep.of_wr W25).1
  have f27_O := f4_O.wr W25 (Nat.le_trans g_o (Nat.le_of_lt zl1))
  have f28_E_ob := f5_E_ob.wr W25
  have f29_F_ob_places := f6_F_ob_places.other W25 (Or.inl (Nat.ne_of_lt zl1))
  have f30_F_ob_hashes := f7_F_ob_hashes.other W25 (Or.inl (Nat.ne_of_lt zl1))
  have f31_F_ob_keys := f8_F_ob_keys.other W25 (Or.inl (Nat.ne_of_lt zl1))
  have f32_F_ob_seconds := f9_F_ob_seconds.other W25 (Or.inl (Nat.ne_of_lt zl1))
  have f33_F_ob_taken := f10_F_ob_taken.other W25 (Or.inl (Nat.ne_of_lt zl1))
  have f34_F_ob_size := f11_F_ob_size.other W25 (Or.inl (Nat.ne_of_lt zl1))
  have f35_F_ob_hashedAtRandom := f12_F_ob_hashedAtRandom.other W25 (Or.inl (Nat.ne_of_lt zl1))
  have f36_F_ob_foundHash := f13_F_ob_foundHash.other W25 (Or.inl (Nat.ne_of_lt zl1))
  have f37_A_zA1 := V25
  have f38_A_zA2 := f15_A_zA2.other W25 (Ne.symm zn12)
  have f39_A_zA3 := f16_A_zA3.other W25 (Ne.symm zm02)
  have f40_A_zA4 := f17_A_zA4.other W25 (Ne.symm zm03)
  have f41_A_zA5 := f18_A_zA5.other W25 (Ne.symm zn15)
  have f42_HK_ob := own_HK.ps f19_HK_ob (own_PS.wr (own_PS.refl _ _ _) W25 (own_okI hw f14_A_zA1 (by intro q; cases q)))
  have f43_P := own_PS.wr f20_P W25 (own_okI hw f14_A_zA1 (by intro q; cases q))
  have f44_L := own_KA.wr f21_L W25 (Nat.le_of_lt zl1)
  refine go st25 ?_
  show Go p e below _ (T25.setTop (mkF m 27 #[.val (.ref ob), .val (.int sl)] []))
  refine go (fun t kt' => by refine XS.aloadN X25.here hx rfl (hb hby d19_27) rfl rfl ?_; exact kt') ?_
  show Go p e below _ (T25.setTop (mkF m 28 #[.val (.ref ob), .val (.int sl)] [(.ref ob)]))
  obtain ⟨T45, X45, e45, st45⟩ := getF X25 hx hZ hown (host := "") (Or.inl (hw _ (List.mem_of_getElem? (i := 50) rfl))) Via.refl e25 f31_F_ob_keys (g := (mkF m 28 #[.val (.ref ob), .val (.int sl)] [(.ref ob)])) rfl rfl (hb hby d19_28)
  refine go st45 ?_
  show Go p e below _ (T45.setTop (mkF m 31 #[.val (.ref ob), .val (.int sl)] [(.ref zA3)]))
  refine go (fun t kt' => by refine XS.iloadN X45.here hx rfl (hb hby d19_31) rfl ?_; exact kt') ?_
  show Go p e below _ (T45.setTop (mkF m 32 #[.val (.ref ob), .val (.int sl)] [(.int sl), (.ref zA3)]))
  refine go (fun t kt' => by refine XS.aconstNull X45.here hx rfl (hb hby d19_32) ?_; exact kt') ?_
  show Go p e below _ (T45.setTop (mkF m 33 #[.val (.ref ob), .val (.int sl)] [.null, (.int sl), (.ref zA3)]))
  obtain ⟨T46, h46, X46, e46, W46, V46, st46⟩ := stRA X45 hx hZ e45 f39_A_zA3 (v := .null) (Or.inl rfl) (j := sl) hin (g := (mkF m 33 #[.val (.ref ob), .val (.int sl)] [.null, (.int sl), (.ref zA3)])) rfl rfl (hb hby d19_33)
  have N46 := Fr.snoc X46 N25 (Nat.le_trans g_o (Nat.le_of_lt zl3))
  have f47_Z := Nat.le_trans f26_Z (Keep.of_wr W46).1
  have f48_O := f27_O.wr W46 (Nat.le_trans g_o (Nat.le_of_lt zl3))
  have f49_E_ob := f28_E_ob.wr W46
  have f50_F_ob_places := f29_F_ob_places.other W46 (Or.inl (Nat.ne_of_lt zl3))
  have f51_F_ob_hashes := f30_F_ob_hashes.other W46 (Or.inl (Nat.ne_of_lt zl3))
  have f52_F_ob_keys := f31_F_ob_keys.other W46 (Or.inl (Nat.ne_of_lt zl3))
  have f53_F_ob_seconds := f32_F_ob_seconds.other W46 (Or.inl (Nat.ne_of_lt zl3))
  have f54_F_ob_taken := f33_F_ob_taken.other W46 (Or.inl (Nat.ne_of_lt zl3))
  have f55_F_ob_size := f34_F_ob_size.other W46 (Or.inl (Nat.ne_of_lt zl3))
  have f56_F_ob_hashedAtRandom := f35_F_ob_hashedAtRandom.other W46 (Or.inl (Nat.ne_of_lt zl3))
  have f57_F_ob_foundHash := f36_F_ob_foundHash.other W46 (Or.inl (Nat.ne_of_lt zl3))
  have f58_A_zA1 := f37_A_zA1.other W46 zm02
  have f59_A_zA2 := f38_A_zA2.other W46 zm12
  have f60_A_zA3 := V46
  have f61_A_zA4 := f40_A_zA4.other W46 (Ne.symm zn34)
  have f62_A_zA5 := f41_A_zA5.other W46 zm42
  have f63_HK_ob := own_HK.ps f42_HK_ob (own_PS.wr (own_PS.refl _ _ _) W46 (own_okR hw f39_A_zA3))
  have f64_P := own_PS.wr f43_P W46 (own_okR hw f39_A_zA3)
  have f65_L := own_KA.wr f44_L W46 (Nat.le_of_lt zl3)
  refine go st46 ?_
  show Go p e below _ (T46.setTop (mkF m 34 #[.val (.ref ob), .val (.int sl)] []))
  refine go (fun t kt' => by refine XS.aloadN X46.here hx rfl (hb hby d19_34) rfl rfl ?_; exact kt') ?_
  show Go p e below _ (T46.setTop (mkF m 35 #[.val (.ref ob), .val (.int sl)] [(.ref ob)]))
  obtain ⟨T66, X66, e66, st66⟩ := getF X46 hx hZ hown (host := "") (Or.inl (hw _ (List.mem_of_getElem? (i := 52) rfl))) Via.refl e46 f53_F_ob_seconds (g := (mkF m 35 #[.val (.ref ob), .val (.int sl)] [(.ref ob)])) rfl rfl (hb hby d19_35)
  refine go st66 ?_
  show Go p e below _ (T66.setTop (mkF m 38 #[.val (.ref ob), .val (.int sl)] [(.ref zA4)]))
  refine go (fun t kt' => by refine XS.iloadN X66.here hx rfl (hb hby d19_38) rfl ?_; exact kt') ?_
  show Go p e below _ (T66.setTop (mkF m 39 #[.val (.ref ob), .val (.int sl)] [(.int sl), (.ref zA4)]))
  refine go (fun t kt' => by refine XS.aconstNull X66.here hx rfl (hb hby d19_39) ?_; exact kt') ?_
  show Go p e below _ (T66.setTop (mkF m 40 #[.val (.ref ob), .val (.int sl)] [.null, (.int sl), (.ref zA4)]))
  obtain ⟨T67, h67, X67, e67, W67, V67, st67⟩ := stRA X66 hx hZ e66 f61_A_zA4 (v := .null) (Or.inl rfl) (j := sl) hin (g := (mkF m 40 #[.val (.ref ob), .val (.int sl)] [.null, (.int sl), (.ref zA4)])) rfl rfl (hb hby d19_40)
  have N67 := Fr.snoc X67 N46 (Nat.le_trans g_o (Nat.le_of_lt zl4))
  have f68_Z := Nat.le_trans f47_Z (Keep.of_wr W67).1
  have f69_O := f48_O.wr W67 (Nat.le_trans g_o (Nat.le_of_lt zl4))
  have f70_E_ob := f49_E_ob.wr W67
  have f71_F_ob_places := f50_F_ob_places.other W67 (Or.inl (Nat.ne_of_lt zl4))
  have f72_F_ob_hashes := f51_F_ob_hashes.other W67 (Or.inl (Nat.ne_of_lt zl4))
  have f73_F_ob_keys := f52_F_ob_keys.other W67 (Or.inl (Nat.ne_of_lt zl4))
  have f74_F_ob_seconds := f53_F_ob_seconds.other W67 (Or.inl (Nat.ne_of_lt zl4))
  have f75_F_ob_taken := f54_F_ob_taken.other W67 (Or.inl (Nat.ne_of_lt zl4))
  have f76_F_ob_size := f55_F_ob_size.other W67 (Or.inl (Nat.ne_of_lt zl4))
  have f77_F_ob_hashedAtRandom := f56_F_ob_hashedAtRandom.other W67 (Or.inl (Nat.ne_of_lt zl4))
  have f78_F_ob_foundHash := f57_F_ob_foundHash.other W67 (Or.inl (Nat.ne_of_lt zl4))
  have f79_A_zA1 := f58_A_zA1.other W67 zm03
  have f80_A_zA2 := f59_A_zA2.other W67 zm13
  have f81_A_zA3 := f60_A_zA3.other W67 zn34
  have f82_A_zA4 := V67
  have f83_A_zA5 := f62_A_zA5.other W67 zm43
  have f84_HK_ob := own_HK.ps f63_HK_ob (own_PS.wr (own_PS.refl _ _ _) W67 (own_okR hw f61_A_zA4))
  have f85_P := own_PS.wr f64_P W67 (own_okR hw f61_A_zA4)
  have f86_L := own_KA.wr f65_L W67 (Nat.le_of_lt zl4)
  refine go st67 ?_
  show Go p e below _ (T67.setTop (mkF m 41 #[.val (.ref ob), .val (.int sl)] []))
  refine goOut X67 (fun _ => rfl) hlk (fun fs hr => X67.returnOut hx Bd.returns (hb hby d19_41) hr) (by decide) (by decide) ?_
  rw [e67]
  rw [own_upn _ _ (fun _ => rfl)] at f82_A_zA4
  rw [own_cl hs1] at f79_A_zA1 f81_A_zA3
  exact ⟨rfl, ⟨N67, f69_O, f85_P, f86_L⟩, _, ⟨g_o, f70_E_ob, zA1, zA2, zA3, zA4, zA5, _, ⟨zl1, zl2, zl3, zl4, zl5⟩, ⟨zn12, zn15, zn25, zn34⟩, f71_F_ob_places, f72_F_ob_hashes, f73_F_ob_keys, f74_F_ob_seconds, f75_F_ob_taken, f76_F_ob_size, f77_F_ob_hashedAtRandom, f78_F_ob_foundHash, f79_A_zA1, f80_A_zA2, f81_A_zA3, f82_A_zA4, f83_A_zA5, own_HK.rem f84_HK_ob⟩⟩
theorem d8_0 : decode prog_120_method_2_code 0 = .ok (.aload_n 0, 1) := by decide +kernel
theorem d8_1 : decode prog_120_method_2_code 1 = .ok (.invokespecial 13, 3) := by decide +kernel
theorem d8_4 : decode prog_120_method_2_code 4 = .ok (.aload_n 0, 1) := by decide +kernel
theorem d8_5 : decode prog_120_method_2_code 5 = .ok (.bipush 16, 2) := by decide +kernel
theorem d8_7 : decode prog_120_method_2_code 7 = .ok (.newarray .int, 2) := by decide +kernel
theorem d8_9 : decode prog_120_method_2_code 9 = .ok (.putfield 18, 3) := by decide +kernel
theorem d8_12 : decode prog_120_method_2_code 12 = .ok (.aload_n 0, 1) := by decide +kernel
theorem d8_13 : decode prog_120_method_2_code 13 = .ok (.bipush 16, 2) := by decide +kernel
theorem d8_15 : decode prog_120_method_2_code 15 = .ok (.newarray .int, 2) := by decide +kernel
theorem d8_17 : decode prog_120_method_2_code 17 = .ok (.putfield 22, 3) := by decide +kernel
theorem d8_20 : decode prog_120_method_2_code 20 = .ok (.aload_n 0, 1) := by decide +kernel
theorem d8_21 : decode prog_120_method_2_code 21 = .ok (.bipush 16, 2) := by decide +kernel
theorem d8_23 : decode prog_120_method_2_code 23 = .ok (.anewarray 25, 3) := by decide +kernel
theorem d8_26 : decode prog_120_method_2_code 26 = .ok (.putfield 27, 3) := by decide +kernel
theorem d8_29 : decode prog_120_method_2_code 29 = .ok (.aload_n 0, 1) := by decide +kernel
theorem d8_30 : decode prog_120_method_2_code 30 = .ok (.bipush 16, 2) := by decide +kernel
theorem d8_32 : decode prog_120_method_2_code 32 = .ok (.anewarray 25, 3) := by decide +kernel
theorem d8_35 : decode prog_120_method_2_code 35 = .ok (.putfield 31, 3) := by decide +kernel
theorem d8_38 : decode prog_120_method_2_code 38 = .ok (.aload_n 0, 1) := by decide +kernel
theorem d8_39 : decode prog_120_method_2_code 39 = .ok (.bipush 8, 2) := by decide +kernel
theorem d8_41 : decode prog_120_method_2_code 41 = .ok (.newarray .int, 2) := by decide +kernel
theorem d8_43 : decode prog_120_method_2_code 43 = .ok (.putfield 34, 3) := by decide +kernel
theorem d8_46 : decode prog_120_method_2_code 46 = .ok (.aload_n 0, 1) := by decide +kernel
theorem d8_47 : decode prog_120_method_2_code 47 = .ok (.aload_n 1, 1) := by decide +kernel
theorem d8_48 : decode prog_120_method_2_code 48 = .ok (.putfield 37, 3) := by decide +kernel
theorem d8_51 : decode prog_120_method_2_code 51 = .ok (.return_, 1) := by decide +kernel
theorem ef_rm_i2 (m : MethodId) (x0 : Addr) (x1 : Addr) : entryFrame m #[(.ref x0), (.ref x1)] 2 = mkF m 0 #[.val (.ref x0), .val (.ref x1)] [] := by first | (simp [entryFrame, mkF, argsToLocals, Value.category]; done) | rfl
def Q_i2 (Z : State) (a : Addr) (h0 : Heap) (n0 : Nat) (v : Option Value) (h : Heap) (L : List Loc) : Prop := v = none ∧ Fr n0 L ∧ Keep h0 h [a] ∧ own_HX Z n0 h a (fun _ => 0) (fun _ => 0) (fun _ => 0) 0 0
set_option maxRecDepth 65536 in
set_option maxHeartbeats 40000000 in
theorem rm_i2 (l : Launch) (Z : State) (a0 : Array Value) (hw : ∀ d ∈ tables_1, d.before a0 Z = true) (ws : List Jvm.Cond) (a : Addr) (a1 : Addr) (cs : Int32) (rd : Addr)  (h0 : Heap) (n0 : Nat) (Z0 : n0 ≤ h0.size) (HS : own_sets Z cs rd) (OO : Old Z n0 h0) (E_a : Exa Z h0 a "com/example/casewright/casewright/formats/HashIndex") (g_a : n0 ≤ a) (F_places_a : Fld Z h0 a "com/example/casewright/casewright/formats/HashIndex" "places" "[I" .null) (F_hashes_a : Fld Z h0 a "com/example/casewright/casewright/formats/HashIndex" "hashes" "[I" .null) (F_keys_a : Fld Z h0 a "com/example/casewright/casewright/formats/HashIndex" "keys" "[Ljava/lang/String;" .null) (F_seconds_a : Fld Z h0 a "com/example/casewright/casewright/formats/HashIndex" "seconds" "[Ljava/lang/String;" .null) (F_taken_a : Fld Z h0 a "com/example/casewright/casewright/formats/HashIndex" "taken" "[I" .null) (F_size_a : Fld Z h0 a "com/example/casewright/casewright/formats/HashIndex" "size" "I" (.int (0 : Int32))) (F_hashedAtRandom_a : Fld Z h0 a "com/example/casewright/casewright/formats/HashIndex" "hashedAtRandom" "Z" (.int (0 : Int32))) (F_foundHash_a : Fld Z h0 a "com/example/casewright/casewright/formats/HashIndex" "foundHash" "I" (.int (0 : Int32))) (F_randomHash_a : Fld Z h0 a "com/example/casewright/casewright/formats/HashIndex" "randomHash" "Lcom/example/casewright/casewright/formats/StringHash;" .null) :
    MetFree l (⟨"com/example/casewright/casewright/formats/HashIndex", "<init>", "(Lcom/example/casewright/casewright/formats/StringHash;)V"⟩ : MethodName) (head1 (Jvm.Cond.code (⟨"com/example/casewright/casewright/formats/HashIndex", "<init>", "(Lcom/example/casewright/casewright/formats/StringHash;)V"⟩ : MethodName) prog_120_method_2_code 2 none :: ws) ({ frames := 1, cells := 5, slots := 72, locals := 12 } : Room)) (fun av' U => av' = #[(.ref a), (.ref a1)] ∧ Z.Warmed39 U.vm ∧ U.heap = h0) (fun _ _ _ _ _ => True) (fun _ U o U' => ∃ v L, o = .returned v ∧ Q_i2 Z a h0 n0 v U'.heap L ∧ FrameEnd U o U' L ({ frames := 1, cells := 5, slots := 72, locals := 12 } : Room).cells ({ frames := 1, cells := 5, slots := 72, locals := 12 } : Room).slots) := by
  refine MetFree.of_bodySF (plainFor_of_name pn_com_example_casewright_casewright_formats_HashIndex) hisR ?_
  intro p e s m args below meth c s₁ Bd hml0 hP hK
  obtain ⟨rfl, hZ, hh⟩ := hP
  have hx := Bd.exec
  have hby := Bd.bytes
  have hlk := Bd.notSynchronized
  have hml : c.maxLocals = 2 := hml0
  have hown : s.vm.findClass "com/example/casewright/casewright/formats/HashIndex" = some m.cls := findClass_of_methodNamed Bd.named
  have hnm := (name_of_methodNamed Bd.named Bd.method).1
  have X0 : Stand p l e ({ frames := 1, cells := 5, slots := 72, locals := 12 } : Room) s m #[(.ref a), (.ref a1)] below meth c s₁ [] 0 0 := Stand.of_body Bd
  have e0 : s₁.heap = h0 := by rw [← hh, Bd.state]; rfl
  have N0 := Fr.nil n0
  show Go p e below (Kq s (Q_i2 Z a h0 n0) ({ frames := 1, cells := 5, slots := 72, locals := 12 } : Room).cells ({ frames := 1, cells := 5, slots := 72, locals := 12 } : Room).slots) _
  refine go (fun t kt => castTop (ef_rm_i2 m a a1) kt) ?_
  have HS0 := HS
  obtain ⟨S_cs, hcs, S_rd⟩ := HS0
  have K0 := Keep.refl h0 [a]
  show Go p e below _ (s₁.setTop (mkF m 0 #[.val (.ref a), .val (.ref a1)] []))
  refine go (fun t kt' => by refine XS.aloadN X0.here hx rfl (hb hby d8_0) rfl rfl ?_; exact kt') ?_
  show Go p e below _ (s₁.setTop (mkF m 1 #[.val (.ref a), .val (.ref a1)] [(.ref a)]))
  obtain ⟨T1, X1, e1, st1⟩ := initO X0 hx hZ hown (hw _ (List.mem_of_getElem? (i := 43) rfl)) (hw _ (List.mem_of_getElem? (i := 20) rfl)) (hw _ (List.mem_of_getElem? (i := 21) rfl)) e0 (g := (mkF m 1 #[.val (.ref a), .val (.ref a1)] [(.ref a)])) rfl (by rw [hml]; rfl) rfl (hb hby d8_1) (by decide) (W := 0) (by show 2 * 0 + _ ≤ _; exact Nat.le_of_eq rfl) (by decide)
  refine go st1 ?_
  show Go p e below _ (T1.setTop (mkF m 4 #[.val (.ref a), .val (.ref a1)] []))
  refine go (fun t kt' => by refine XS.aloadN X1.here hx rfl (hb hby d8_4) rfl rfl ?_; exact kt') ?_
  show Go p e below _ (T1.setTop (mkF m 5 #[.val (.ref a), .val (.ref a1)] [(.ref a)]))
  refine go (fun t kt' => by refine XS.bipush X1.here hx rfl (hb hby d8_5) ?_; exact kt') ?_
  show Go p e below _ (T1.setTop (mkF m 7 #[.val (.ref a), .val (.ref a1)] [(.int (16 : Int32)), (.ref a)]))
  obtain ⟨T2, h2, k2, X2, e2, E2, A2, st2⟩ := newP X1 hx hZ (hw _ (List.mem_of_getElem? (i := 27) rfl)) e1 (g := (mkF m 7 #[.val (.ref a), .val (.ref a1)] [(.int (16 : Int32)), (.ref a)])) rfl (hb hby d8_7) rfl (by decide) (cap := 16) (by decide) (by decide) (by decide) (by decide)
  obtain ⟨b2, g2⟩ : ∃ z, z = h0.size := ⟨_, rfl⟩
  have n0_b2 : n0 ≤ b2 := Nat.le_trans Z0 (Nat.le_of_eq g2.symm)
  have sz_b2 : h0.size ≤ b2 := Nat.le_trans K0.1 (Nat.le_of_eq g2.symm)
  have ne2_a_b2 : a ≠ b2 := Nat.ne_of_lt (Nat.lt_of_lt_of_le E_a.lt (Nat.le_of_eq g2.symm))
  rw [← g2] at A2 st2
  have f3_Z := Nat.le_trans Z0 E2.1
  have f4_O := OO.ext E2
  have f5_K := K0.ext E2
  have f6_E_a := E_a.ext E2
  have f7_F_a_places := F_places_a.ext E2
  have f8_F_a_hashes := F_hashes_a.ext E2
  have f9_F_a_keys := F_keys_a.ext E2
  have f10_F_a_seconds := F_seconds_a.ext E2
  have f11_F_a_taken := F_taken_a.ext E2
  have f12_F_a_size := F_size_a.ext E2
  have f13_F_a_hashedAtRandom := F_hashedAtRandom_a.ext E2
  have f14_F_a_foundHash := F_foundHash_a.ext E2
  have f15_F_a_randomHash := F_randomHash_a.ext E2
  have V2 : IA Z h2 b2 .int 16 (fun _ => 0) := IA.new A2 rfl rfl
  refine go st2 ?_
  show Go p e below _ (T2.setTop (mkF m 9 #[.val (.ref a), .val (.ref a1)] [(.ref b2), (.ref a)]))
  obtain ⟨T16, h16, X16, e16, W16, st16⟩ := putF X2 hx hZ hown (host := "") (Or.inl (hw _ (List.mem_of_getElem? (i := 44) rfl))) Via.refl e2 f7_F_a_places f6_E_a (Or.inl (hw _ (List.mem_of_getElem? (i := 45) rfl))) (hw _ (List.mem_of_getElem? (i := 29) rfl)) (ty := (.array .int)) (by decide) rfl rfl (g := (mkF m 9 #[.val (.ref a), .val (.ref a1)] [(.ref b2), (.ref a)])) rfl rfl (hb hby d8_9)
  have N16 := Fr.snoc X16 N0 g_a
  have f17_Z := Nat.le_trans f3_Z (Keep.of_wr W16).1
  have f18_O := f4_O.wr W16 g_a
  have f19_K := f5_K.wr W16 (Or.inl (List.mem_of_getElem? (i := 0) rfl))
  have f20_E_a := f6_E_a.wr W16
  have f21_F_a_places := f7_F_a_places.same W16
  have f22_F_a_hashes := f8_F_a_hashes.other W16 (Or.inr (slot_ne (Or.inl (hw _ (List.mem_of_getElem? (i := 47) rfl))) (Or.inl (hw _ (List.mem_of_getElem? (i := 45) rfl))) (by decide) (t := (.array .int)) (t' := (.array .int)) (by decide) (by decide)))
  have f23_F_a_keys := f9_F_a_keys.other W16 (Or.inr (slot_ne (Or.inl (hw _ (List.mem_of_getElem? (i := 51) rfl))) (Or.inl (hw _ (List.mem_of_getElem? (i := 45) rfl))) (by decide) (t := (.array (.object "java/lang/String"))) (t' := (.array .int)) (by decide) (by decide)))
  have f24_F_a_seconds := f10_F_a_seconds.other W16 (Or.inr (slot_ne (Or.inl (hw _ (List.mem_of_getElem? (i := 53) rfl))) (Or.inl (hw _ (List.mem_of_getElem? (i := 45) rfl))) (by decide) (t := (.array (.object "java/lang/String"))) (t' := (.array .int)) (by decide) (by decide)))
  have f25_F_a_taken := f11_F_a_taken.other W16 (Or.inr (slot_ne (Or.inl (hw _ (List.mem_of_getElem? (i := 55) rfl))) (Or.inl (hw _ (List.mem_of_getElem? (i := 45) rfl))) (by decide) (t := (.array .int)) (t' := (.array .int)) (by decide) (by decide)))
  have f26_F_a_size := f12_F_a_size.other W16 (Or.inr (slot_ne (Or.inl (hw _ (List.mem_of_getElem? (i := 64) rfl))) (Or.inl (hw _ (List.mem_of_getElem? (i := 45) rfl))) (by decide) (t := .int) (t' := (.array .int)) (by decide) (by decide)))
  have f27_F_a_hashedAtRandom := f13_F_a_hashedAtRandom.other W16 (Or.inr (slot_ne (Or.inl (hw _ (List.mem_of_getElem? (i := 74) rfl))) (Or.inl (hw _ (List.mem_of_getElem? (i := 45) rfl))) (by decide) (t := .boolean) (t' := (.array .int)) (by decide) (by decide)))
  have f28_F_a_foundHash := f14_F_a_foundHash.other W16 (Or.inr (slot_ne (Or.inl (hw _ (List.mem_of_getElem? (i := 102) rfl))) (Or.inl (hw _ (List.mem_of_getElem? (i := 45) rfl))) (by decide) (t := .int) (t' := (.array .int)) (by decide) (by decide)))
  have f29_F_a_randomHash := f15_F_a_randomHash.other W16 (Or.inr (slot_ne (Or.inr (hw _ (List.mem_of_getElem? (i := 57) rfl))) (Or.inl (hw _ (List.mem_of_getElem? (i := 45) rfl))) (by decide) (t := (.object "com/example/casewright/casewright/formats/StringHash")) (t' := (.array .int)) (by decide) (by decide)))
  have f30_A_b2 := V2.other W16 (Ne.symm ne2_a_b2)
  refine go st16 ?_
  show Go p e below _ (T16.setTop (mkF m 12 #[.val (.ref a), .val (.ref a1)] []))
  refine go (fun t kt' => by refine XS.aloadN X16.here hx rfl (hb hby d8_12) rfl rfl ?_; exact kt') ?_
  show Go p e below _ (T16.setTop (mkF m 13 #[.val (.ref a), .val (.ref a1)] [(.ref a)]))
  refine go (fun t kt' => by refine XS.bipush X16.here hx rfl (hb hby d8_13) ?_; exact kt') ?_
  show Go p e below _ (T16.setTop (mkF m 15 #[.val (.ref a), .val (.ref a1)] [(.int (16 : Int32)), (.ref a)]))
  obtain ⟨T31, h31, k31, X31, e31, E31, A31, st31⟩ := newP X16 hx hZ (hw _ (List.mem_of_getElem? (i := 27) rfl)) e16 (g := (mkF m 15 #[.val (.ref a), .val (.ref a1)] [(.int (16 : Int32)), (.ref a)])) rfl (hb hby d8_15) rfl (by decide) (cap := 16) (by decide) (by decide) (by decide) (by decide)
  obtain ⟨b31, g31⟩ : ∃ z, z = h16.size := ⟨_, rfl⟩
  have n0_b31 : n0 ≤ b31 := Nat.le_trans f17_Z (Nat.le_of_eq g31.symm)
  have sz_b31 : h0.size ≤ b31 := Nat.le_trans f19_K.1 (Nat.le_of_eq g31.symm)
  have ne31_a_b31 : a ≠ b31 := Nat.ne_of_lt (Nat.lt_of_lt_of_le f20_E_a.lt (Nat.le_of_eq g31.symm))
  have ne31_b2_b31 : b2 ≠ b31 := Nat.ne_of_lt (Nat.lt_of_lt_of_le f30_A_b2.lt (Nat.le_of_eq g31.symm))
  rw [← g31] at A31 st31
  have f32_Z := Nat.le_trans f17_Z E31.1
  have f33_O := f18_O.ext E31
  have f34_K := f19_K.ext E31
  have f35_E_a := f20_E_a.ext E31
  have f36_F_a_places := f21_F_a_places.ext E31
  have f37_F_a_hashes := f22_F_a_hashes.ext E31
  have f38_F_a_keys := f23_F_a_keys.ext E31
  have f39_F_a_seconds := f24_F_a_seconds.ext E31
  have f40_F_a_taken := f25_F_a_taken.ext E31
  have f41_F_a_size := f26_F_a_size.ext E31
  have f42_F_a_hashedAtRandom := f27_F_a_hashedAtRandom.ext E31
  have f43_F_a_foundHash := f28_F_a_foundHash.ext E31
  have f44_F_a_randomHash := f29_F_a_randomHash.ext E31
  have f45_A_b2 := f30_A_b2.ext E31
  have V31 : IA Z h31 b31 .int 16 (fun _ => 0) := IA.new A31 rfl rfl
  refine go st31 ?_
  show Go p e below _ (T31.setTop (mkF m 17 #[.val (.ref a), .val (.ref a1)] [(.ref b31), (.ref a)]))
  obtain ⟨T46, h46, X46, e46, W46, st46⟩ := putF X31 hx hZ hown (host := "") (Or.inl (hw _ (List.mem_of_getElem? (i := 46) rfl))) Via.refl e31 f37_F_a_hashes f35_E_a (Or.inl (hw _ (List.mem_of_getElem? (i := 47) rfl))) (hw _ (List.mem_of_getElem? (i := 29) rfl)) (ty := (.array .int)) (by decide) rfl rfl (g := (mkF m 17 #[.val (.ref a), .val (.ref a1)] [(.ref b31), (.ref a)])) rfl rfl (hb hby d8_17)
  have N46 := Fr.snoc X46 N16 g_a
  have f47_Z := Nat.le_trans f32_Z (Keep.of_wr W46).1
  have f48_O := f33_O.wr W46 g_a
  have f49_K := f34_K.wr W46 (Or.inl (List.mem_of_getElem? (i := 0) rfl))
  have f50_E_a := f35_E_a.wr W46
  have f51_F_a_places := f36_F_a_places.other W46 (Or.inr (slot_ne (Or.inl (hw _ (List.mem_of_getElem? (i := 45) rfl))) (Or.inl (hw _ (List.mem_of_getElem? (i := 47) rfl))) (by decide) (t := (.array .int)) (t' := (.array .int)) (by decide) (by decide)))
  have f52_F_a_hashes := f37_F_a_hashes.same W46
  have f53_F_a_keys := f38_F_a_keys.other W46 (Or.inr (slot_ne (Or.inl (hw _ (List.mem_of_getElem? (i := 51) rfl))) (Or.inl (hw _ (List.mem_of_getElem? (i := 47) rfl))) (by decide) (t := (.array (.object "java/lang/String"))) (t' := (.array .int)) (by decide) (by decide)))
  have f54_F_a_seconds := f39_F_a_seconds.other W46 (Or.inr (slot_ne (Or.inl (hw _ (List.mem_of_getElem? (i := 53) rfl))) (Or.inl (hw _ (List.mem_of_getElem? (i := 47) rfl))) (by decide) (t := (.array (.object "java/lang/String"))) (t' := (.array .int)) (by decide) (by decide)))
  have f55_F_a_taken := f40_F_a_taken.other W46 (Or.inr (slot_ne (Or.inl (hw _ (List.mem_of_getElem? (i := 55) rfl))) (Or.inl (hw _ (List.mem_of_getElem? (i := 47) rfl))) (by decide) (t := (.array .int)) (t' := (.array .int)) (by decide) (by decide)))
  have f56_F_a_size := f41_F_a_size.other W46 (Or.inr (slot_ne (Or.inl (hw _ (List.mem_of_getElem? (i := 64) rfl))) (Or.inl (hw _ (List.mem_of_getElem? (i := 47) rfl))) (by decide) (t := .int) (t' := (.array .int)) (by decide) (by decide)))
  have f57_F_a_hashedAtRandom := f42_F_a_hashedAtRandom.other W46 (Or.inr (slot_ne (Or.inl (hw _ (List.mem_of_getElem? (i := 74) rfl))) (Or.inl (hw _ (List.mem_of_getElem? (i := 47) rfl))) (by decide) (t := .boolean) (t' := (.array .int)) (by decide) (by decide)))
  have f58_F_a_foundHash := f43_F_a_foundHash.other W46 (Or.inr (slot_ne (Or.inl (hw _ (List.mem_of_getElem? (i := 102) rfl))) (Or.inl (hw _ (List.mem_of_getElem? (i := 47) rfl))) (by decide) (t := .int) (t' := (.array .int)) (by decide) (by decide)))
  have f59_F_a_randomHash := f44_F_a_randomHash.other W46 (Or.inr (slot_ne (Or.inr (hw _ (List.mem_of_getElem? (i := 57) rfl))) (Or.inl (hw _ (List.mem_of_getElem? (i := 47) rfl))) (by decide) (t := (.object "com/example/casewright/casewright/formats/StringHash")) (t' := (.array .int)) (by decide) (by decide)))
  have f60_A_b2 := f45_A_b2.other W46 (Ne.symm ne2_a_b2)
  have f61_A_b31 := V31.other W46 (Ne.symm ne31_a_b31)
  refine go st46 ?_
  show Go p e below _ (T46.setTop (mkF m 20 #[.val (.ref a), .val (.ref a1)] []))
  refine go (fun t kt' => by refine XS.aloadN X46.here hx rfl (hb hby d8_20) rfl rfl ?_; exact kt') ?_
  show Go p e below _ (T46.setTop (mkF m 21 #[.val (.ref a), .val (.ref a1)] [(.ref a)]))
  refine go (fun t kt' => by refine XS.bipush X46.here hx rfl (hb hby d8_21) ?_; exact kt') ?_
  show Go p e below _ (T46.setTop (mkF m 23 #[.val (.ref a), .val (.ref a1)] [(.int (16 : Int32)), (.ref a)]))
  obtain ⟨T62, h62, k62, X62, e62, E62, A62, O62, st62⟩ := newR X46 hx hZ hown (hw _ (List.mem_of_getElem? (i := 48) rfl)) (hw _ (List.mem_of_getElem? (i := 49) rfl)) e46 (g := (mkF m 23 #[.val (.ref a), .val (.ref a1)] [(.int (16 : Int32)), (.ref a)])) rfl (hb hby d8_23) rfl (by decide) (cap := 16) (by decide) (by decide) (by decide) (by decide)
  obtain ⟨b62, g62⟩ : ∃ z, z = h46.size := ⟨_, rfl⟩
  have n0_b62 : n0 ≤ b62 := Nat.le_trans f47_Z (Nat.le_of_eq g62.symm)
  have sz_b62 : h0.size ≤ b62 := Nat.le_trans f49_K.1 (Nat.le_of_eq g62.symm)
  have ne62_a_b62 : a ≠ b62 := Nat.ne_of_lt (Nat.lt_of_lt_of_le f50_E_a.lt (Nat.le_of_eq g62.symm))
  have ne62_b2_b62 : b2 ≠ b62 := Nat.ne_of_lt (Nat.lt_of_lt_of_le f60_A_b2.lt (Nat.le_of_eq g62.symm))
  have ne62_b31_b62 : b31 ≠ b62 := Nat.ne_of_lt (Nat.lt_of_lt_of_le f61_A_b31.lt (Nat.le_of_eq g62.symm))
  rw [← g62] at A62 st62
  have f63_Z := Nat.le_trans f47_Z E62.1
  have f64_O := f48_O.ext E62
  have f65_K := f49_K.ext E62
  have f66_E_a := f50_E_a.ext E62
  have f67_F_a_places := f51_F_a_places.ext E62
  have f68_F_a_hashes := f52_F_a_hashes.ext E62
  have f69_F_a_keys := f53_F_a_keys.ext E62
  have f70_F_a_seconds := f54_F_a_seconds.ext E62
  have f71_F_a_taken := f55_F_a_taken.ext E62
  have f72_F_a_size := f56_F_a_size.ext E62
  have f73_F_a_hashedAtRandom := f57_F_a_hashedAtRandom.ext E62
  have f74_F_a_foundHash := f58_F_a_foundHash.ext E62
  have f75_F_a_randomHash := f59_F_a_randomHash.ext E62
  have f76_A_b2 := f60_A_b2.ext E62
  have f77_A_b31 := f61_A_b31.ext E62
  have V62 : RA Z h62 b62 "java/lang/String" 16 (fun _ => .null) := RA.new A62 O62 rfl
  refine go st62 ?_
  show Go p e below _ (T62.setTop (mkF m 26 #[.val (.ref a), .val (.ref a1)] [(.ref b62), (.ref a)]))
  obtain ⟨T78, h78, X78, e78, W78, st78⟩ := putF X62 hx hZ hown (host := "") (Or.inl (hw _ (List.mem_of_getElem? (i := 50) rfl))) Via.refl e62 f69_F_a_keys f66_E_a (Or.inl (hw _ (List.mem_of_getElem? (i := 51) rfl))) (hw _ (List.mem_of_getElem? (i := 29) rfl)) (ty := (.array (.object "java/lang/String"))) (by decide) rfl rfl (g := (mkF m 26 #[.val (.ref a), .val (.ref a1)] [(.ref b62), (.ref a)])) rfl rfl (hb hby d8_26)
  have N78 := Fr.snoc X78 N46 g_a
  have f79_Z := Nat.le_trans f63_Z (Keep.of_wr W78).1
  have f80_O := f64_O.wr W78 g_a
  have f81_K := f65_K.wr W78 (Or.inl (List.mem_of_getElem? (i := 0) rfl))
  have f82_E_a := f66_E_a.wr W78
  have f83_F_a_places := f67_F_a_places.other W78 (Or.inr (slot_ne (Or.inl (hw _ (List.mem_of_getElem? (i := 45) rfl))) (Or.inl (hw _ (List.mem_of_getElem? (i := 51) rfl))) (by decide) (t := (.array .int)) (t' := (.array (.object "java/lang/String"))) (by decide) (by decide)))
  have f84_F_a_hashes := f68_F_a_hashes.other W78 (Or.inr (slot_ne (Or.inl (hw _ (List.mem_of_getElem? (i := 47) rfl))) (Or.inl (hw _ (List.mem_of_getElem? (i := 51) rfl))) (by decide) (t := (.array .int)) (t' := (.array (.object "java/lang/String"))) (by decide) (by decide)))
  have f85_F_a_keys := f69_F_a_keys.same W78
  have f86_F_a_seconds := f70_F_a_seconds.other W78 (Or.inr (slot_ne (Or.inl (hw _ (List.mem_of_getElem? (i := 53) rfl))) (Or.inl (hw _ (List.mem_of_getElem? (i := 51) rfl))) (by decide) (t := (.array (.object "java/lang/String"))) (t' := (.array (.object "java/lang/String"))) (by decide) (by decide)))
  have f87_F_a_taken := f71_F_a_taken.other W78 (Or.inr (slot_ne (Or.inl (hw _ (List.mem_of_getElem? (i := 55) rfl))) (Or.inl (hw _ (List.mem_of_getElem? (i := 51) rfl))) (by decide) (t := (.array .int)) (t' := (.array (.object "java/lang/String"))) (by decide) (by decide)))
  have f88_F_a_size := f72_F_a_size.other W78 (Or.inr (slot_ne (Or.inl (hw _ (List.mem_of_getElem? (i := 64) rfl))) (Or.inl (hw _ (List.mem_of_getElem? (i := 51) rfl))) (by decide) (t := .int) (t' := (.array (.object "java/lang/String"))) (by decide) (by decide)))
  have f89_F_a_hashedAtRandom := f73_F_a_hashedAtRandom.other W78 (Or.inr (slot_ne (Or.inl (hw _ (List.mem_of_getElem? (i := 74) rfl))) (Or.inl (hw _ (List.mem_of_getElem? (i := 51) rfl))) (by decide) (t := .boolean) (t' := (.array (.object "java/lang/String"))) (by decide) (by decide)))
  have f90_F_a_foundHash := f74_F_a_foundHash.other W78 (Or.inr (slot_ne (Or.inl (hw _ (List.mem_of_getElem? (i := 102) rfl))) (Or.inl (hw _ (List.mem_of_getElem? (i := 51) rfl))) (by decide) (t := .int) (t' := (.array (.object "java/lang/String"))) (by decide) (by decide)))
  have f91_F_a_randomHash := f75_F_a_randomHash.other W78 (Or.inr (slot_ne (Or.inr (hw _ (List.mem_of_getElem? (i := 57) rfl))) (Or.inl (hw _ (List.mem_of_getElem? (i := 51) rfl))) (by decide) (t := (.object "com/example/casewright/casewright/formats/StringHash")) (t' := (.array (.object "java/lang/String"))) (by decide) (by decide)))
  have f92_A_b2 := f76_A_b2.other W78 (Ne.symm ne2_a_b2)
  have f93_A_b31 := f77_A_b31.other W78 (Ne.symm ne31_a_b31)
  have f94_A_b62 := V62.other W78 (Ne.symm ne62_a_b62)
  refine go st78 ?_
  show Go p e below _ (T78.setTop (mkF m 29 #[.val (.ref a), .val (.ref a1)] []))
  refine go (fun t kt' => by refine XS.aloadN X78.here hx rfl (hb hby d8_29) rfl rfl ?_; exact kt') ?_
  show Go p e below _ (T78.setTop (mkF m 30 #[.val (.ref a), .val (.ref a1)] [(.ref a)]))
  refine go (fun t kt' => by refine XS.bipush X78.here hx rfl (hb hby d8_30) ?_; exact kt') ?_
  show Go p e below _ (T78.setTop (mkF m 32 #[.val (.ref a), .val (.ref a1)] [(.int (16 : Int32)), (.ref a)]))
  obtain ⟨T95, h95, k95, X95, e95, E95, A95, O95, st95⟩ := newR X78 hx hZ hown (hw _ (List.mem_of_getElem? (i := 48) rfl)) (hw _ (List.mem_of_getElem? (i := 49) rfl)) e78 (g := (mkF m 32 #[.val (.ref a), .val (.ref a1)] [(.int (16 : Int32)), (.ref a)])) rfl (hb hby d8_32) rfl (by decide) (cap := 16) (by decide) (by decide) (by decide) (by decide)
  obtain ⟨b95, g95⟩ : ∃ z, z = h78.size := ⟨_, rfl⟩
  have n0_b95 : n0 ≤ b95 := Nat.le_trans f79_Z (Nat.le_of_eq g95.symm)
  have sz_b95 : h0.size ≤ b95 := Nat.le_trans f81_K.1 (Nat.le_of_eq g95.symm)
  have ne95_a_b95 : a ≠ b95 := Nat.ne_of_lt (Nat.lt_of_lt_of_le f82_E_a.lt (Nat.le_of_eq g95.symm))
  have ne95_b2_b95 : b2 ≠ b95 := Nat.ne_of_lt (Nat.lt_of_lt_of_le f92_A_b2.lt (Nat.le_of_eq g95.symm))
  have ne95_b31_b95 : b31 ≠ b95 := Nat.ne_of_lt (Nat.lt_of_lt_of_le f93_A_b31.lt (Nat.le_of_eq g95.symm))
  have ne95_b62_b95 : b62 ≠ b95 := Nat.ne_of_lt (Nat.lt_of_lt_of_le f94_A_b62.lt (Nat.le_of_eq g95.symm))
  rw [← g95] at A95 st95
  have f96_Z := Nat.le_trans f79_Z E95.1
  have f97_O := f80_O.ext E95
  have f98_K := f81_K.ext E95
  have f99_E_a := f82_E_a.ext E95
  have f100_F_a_places := f83_F_a_places.ext E95
  have f101_F_a_hashes := f84_F_a_hashes.ext E95
  have f102_F_a_keys := f85_F_a_keys.ext E95
  have f103_F_a_seconds := f86_F_a_seconds.ext E95
  have f104_F_a_taken := f87_F_a_taken.ext E95
  have f105_F_a_size := f88_F_a_size.ext E95
  have f106_F_a_hashedAtRandom := f89_F_a_hashedAtRandom.ext E95
  have f107_F_a_foundHash := f90_F_a_foundHash.ext E95
  have f108_F_a_randomHash := f91_F_a_randomHash.ext E95
  have f109_A_b2 := f92_A_b2.ext E95
  have f110_A_b31 := f93_A_b31.ext E95
  have f111_A_b62 := f94_A_b62.ext E95
  have V95 : RA Z h95 b95 "java/lang/String" 16 (fun _ => .null) := RA.new A95 O95 rfl
  refine go st95 ?_
  show Go p e below _ (T95.setTop (mkF m 35 #[.val (.ref a), .val (.ref a1)] [(.ref b95), (.ref a)]))
  obtain ⟨T112, h112, X112, e112, W112, st112⟩ := putF X95 hx hZ hown (host := "") (Or.inl (hw _ (List.mem_of_getElem? (i := 52) rfl))) Via.refl e95 f103_F_a_seconds f99_E_a (Or.inl (hw _ (List.mem_of_getElem? (i := 53) rfl))) (hw _ (List.mem_of_getElem? (i := 29) rfl)) (ty := (.array (.object "java/lang/String"))) (by decide) rfl rfl (g := (mkF m 35 #[.val (.ref a), .val (.ref a1)] [(.ref b95), (.ref a)])) rfl rfl (hb hby d8_35)
  have N112 := Fr.snoc X112 N78 g_a
  have f113_Z := Nat.le_trans f96_Z (Keep.of_wr W112).1
  have f114_O := f97_O.wr W112 g_a
  have f115_K := f98_K.wr W112 (Or.inl (List.mem_of_getElem? (i := 0) rfl))
  have f116_E_a := f99_E_a.wr W112
  have f117_F_a_places := f100_F_a_places.other W112 (Or.inr (slot_ne (Or.inl (hw _ (List.mem_of_getElem? (i := 45) rfl))) (Or.inl (hw _ (List.mem_of_getElem? (i := 53) rfl))) (by decide) (t := (.array .int)) (t' := (.array (.object "java/lang/String"))) (by decide) (by decide)))
  have f118_F_a_hashes := f101_F_a_hashes.other W112 (Or.inr (slot_ne (Or.inl (hw _ (List.mem_of_getElem? (i := 47) rfl))) (Or.inl (hw _ (List.mem_of_getElem? (i := 53) rfl))) (by decide) (t := (.array .int)) (t' := (.array (.object "java/lang/String"))) (by decide) (by decide)))
  have f119_F_a_keys := f102_F_a_keys.other W112 (Or.inr (slot_ne (Or.inl (hw _ (List.mem_of_getElem? (i := 51) rfl))) (Or.inl (hw _ (List.mem_of_getElem? (i := 53) rfl))) (by decide) (t := (.array (.object "java/lang/String"))) (t' := (.array (.object "java/lang/String"))) (by decide) (by decide)))
  have f120_F_a_seconds := f103_F_a_seconds.same W112
  have f121_F_a_taken := f104_F_a_taken.other W112 (Or.inr (slot_ne (Or.inl (hw _ (List.mem_of_getElem? (i := 55) rfl))) (Or.inl (hw _ (List.mem_of_getElem? (i := 53) rfl))) (by decide) (t := (.array .int)) (t' := (.array (.object "java/lang/String"))) (by decide) (by decide)))
  have f122_F_a_size := f105_F_a_size.other W112 (Or.inr (slot_ne (Or.inl (hw _ (List.mem_of_getElem? (i := 64) rfl))) (Or.inl (hw _ (List.mem_of_getElem? (i := 53) rfl))) (by decide) (t := .int) (t' := (.array (.object "java/lang/String"))) (by decide) (by decide)))
  have f123_F_a_hashedAtRandom := f106_F_a_hashedAtRandom.other W112 (Or.inr (slot_ne (Or.inl (hw _ (List.mem_of_getElem? (i := 74) rfl))) (Or.inl (hw _ (List.mem_of_getElem? (i := 53) rfl))) (by decide) (t := .boolean) (t' := (.array (.object "java/lang/String"))) (by decide) (by decide)))
  have f124_F_a_foundHash := f107_F_a_foundHash.other W112 (Or.inr (slot_ne (Or.inl (hw _ (List.mem_of_getElem? (i := 102) rfl))) (Or.inl (hw _ (List.mem_of_getElem? (i := 53) rfl))) (by decide) (t := .int) (t' := (.array (.object "java/lang/String"))) (by decide) (by decide)))
  have f125_F_a_randomHash := f108_F_a_randomHash.other W112 (Or.inr (slot_ne (Or.inr (hw _ (List.mem_of_getElem? (i := 57) rfl))) (Or.inl (hw _ (List.mem_of_getElem? (i := 53) rfl))) (by decide) (t := (.object "com/example/casewright/casewright/formats/StringHash")) (t' := (.array (.object "java/lang/String"))) (by decide) (by decide)))
  have f126_A_b2 := f109_A_b2.other W112 (Ne.symm ne2_a_b2)
  have f127_A_b31 := f110_A_b31.other W112 (Ne.symm ne31_a_b31)
  have f128_A_b62 := f111_A_b62.other W112 (Ne.symm ne62_a_b62)
  have f129_A_b95 := V95.other W112 (Ne.symm ne95_a_b95)
  refine go st112 ?_
  show Go p e below _ (T112.setTop (mkF m 38 #[.val (.ref a), .val (.ref a1)] []))
  refine go (fun t kt' => by refine XS.aloadN X112.here hx rfl (hb hby d8_38) rfl rfl ?_; exact kt') ?_
  show Go p e below _ (T112.setTop (mkF m 39 #[.val (.ref a), .val (.ref a1)] [(.ref a)]))
  refine go (fun t kt' => by refine XS.bipush X112.here hx rfl (hb hby d8_39) ?_; exact kt') ?_
  show Go p e below _ (T112.setTop (mkF m 41 #[.val (.ref a), .val (.ref a1)] [(.int (8 : Int32)), (.ref a)]))
  obtain ⟨T130, h130, k130, X130, e130, E130, A130, st130⟩ := newP X112 hx hZ (hw _ (List.mem_of_getElem? (i := 27) rfl)) e112 (g := (mkF m 41 #[.val (.ref a), .val (.ref a1)] [(.int (8 : Int32)), (.ref a)])) rfl (hb hby d8_41) rfl (by decide) (cap := 8) (by decide) (by decide) (by decide) (by decide)
  obtain ⟨b130, g130⟩ : ∃ z, z = h112.size := ⟨_, rfl⟩
  have n0_b130 : n0 ≤ b130 := Nat.le_trans f113_Z (Nat.le_of_eq g130.symm)
  have sz_b130 : h0.size ≤ b130 := Nat.le_trans f115_K.1 (Nat.le_of_eq g130.symm)
  have ne130_a_b130 : a ≠ b130 := Nat.ne_of_lt (Nat.lt_of_lt_of_le f116_E_a.lt (Nat.le_of_eq g130.symm))
  have ne130_b2_b130 : b2 ≠ b130 := Nat.ne_of_lt (Nat.lt_of_lt_of_le f126_A_b2.lt (Nat.le_of_eq g130.symm))
  have ne130_b31_b130 : b31 ≠ b130 := Nat.ne_of_lt (Nat.lt_of_lt_of_le f127_A_b31.lt (Nat.le_of_eq g130.symm))
  have ne130_b62_b130 : b62 ≠ b130 := Nat.ne_of_lt (Nat.lt_of_lt_of_le f128_A_b62.lt (Nat.le_of_eq g130.symm))
  have ne130_b95_b130 : b95 ≠ b130 := Nat.ne_of_lt (Nat.lt_of_lt_of_le f129_A_b95.lt (Nat.le_of_eq g130.symm))
  rw [← g130] at A130 st130
  have f131_Z := Nat.le_trans f113_Z E130.1
  have f132_O := f114_O.ext E130
  have f133_K := f115_K.ext E130
  have f134_E_a := f116_E_a.ext E130
  have f135_F_a_places := f117_F_a_places.ext E130
  have f136_F_a_hashes := f118_F_a_hashes.ext E130
  have f137_F_a_keys := f119_F_a_keys.ext E130
  have f138_F_a_seconds := f120_F_a_seconds.ext E130
  have f139_F_a_taken := f121_F_a_taken.ext E130
  have f140_F_a_size := f122_F_a_size.ext E130
  have f141_F_a_hashedAtRandom := f123_F_a_hashedAtRandom.ext E130
  have f142_F_a_foundHash := f124_F_a_foundHash.ext E130
  have f143_F_a_randomHash := f125_F_a_randomHash.ext E130
  have f144_A_b2 := f126_A_b2.ext E130
  have f145_A_b31 := f127_A_b31.ext E130
  have f146_A_b62 := f128_A_b62.ext E130
  have f147_A_b95 := f129_A_b95.ext E130
  have V130 : IA Z h130 b130 .int 8 (fun _ => 0) := IA.new A130 rfl rfl
  refine go st130 ?_
  show Go p e below _ (T130.setTop (mkF m 43 #[.val (.ref a), .val (.ref a1)] [(.ref b130), (.ref a)]))
  obtain ⟨T148, h148, X148, e148, W148, st148⟩ := putF X130 hx hZ hown (host := "") (Or.inl (hw _ (List.mem_of_getElem? (i := 54) rfl))) Via.refl e130 f139_F_a_taken f134_E_a (Or.inl (hw _ (List.mem_of_getElem? (i := 55) rfl))) (hw _ (List.mem_of_getElem? (i := 29) rfl)) (ty := (.array .int)) (by decide) rfl rfl (g := (mkF m 43 #[.val (.ref a), .val (.ref a1)] [(.ref b130), (.ref a)])) rfl rfl (hb hby d8_43)
  have N148 := Fr.snoc X148 N112 g_a
  have f149_Z := Nat.le_trans f131_Z (Keep.of_wr W148).1
  have f150_O := f132_O.wr W148 g_a
  have f151_K := f133_K.wr W148 (Or.inl (List.mem_of_getElem? (i := 0) rfl))
  have f152_E_a := f134_E_a.wr W148
  have f153_F_a_places := f135_F_a_places.other W148 (Or.inr (slot_ne (Or.inl (hw _ (List.mem_of_getElem? (i := 45) rfl))) (Or.inl (hw _ (List.mem_of_getElem? (i := 55) rfl))) (by decide) (t := (.array .int)) (t' := (.array .int)) (by decide) (by decide)))
  have f154_F_a_hashes := f136_F_a_hashes.other W148 (Or.inr (slot_ne (Or.inl (hw _ (List.mem_of_getElem? (i := 47) rfl))) (Or.inl (hw _ (List.mem_of_getElem? (i := 55) rfl))) (by decide) (t := (.array .int)) (t' := (.array .int)) (by decide) (by decide)))
  have f155_F_a_keys := f137_F_a_keys.other W148 (Or.inr (slot_ne (Or.inl (hw _ (List.mem_of_getElem? (i := 51) rfl))) (Or.inl (hw _ (List.mem_of_getElem? (i := 55) rfl))) (by decide) (t := (.array (.object "java/lang/String"))) (t' := (.array .int)) (by decide) (by decide)))
  have f156_F_a_seconds := f138_F_a_seconds.other W148 (Or.inr (slot_ne (Or.inl (hw _ (List.mem_of_getElem? (i := 53) rfl))) (Or.inl (hw _ (List.mem_of_getElem? (i := 55) rfl))) (by decide) (t := (.array (.object "java/lang/String"))) (t' := (.array .int)) (by decide) (by decide)))
  have f157_F_a_taken := f139_F_a_taken.same W148
  have f158_F_a_size := f140_F_a_size.other W148 (Or.inr (slot_ne (Or.inl (hw _ (List.mem_of_getElem? (i := 64) rfl))) (Or.inl (hw _ (List.mem_of_getElem? (i := 55) rfl))) (by decide) (t := .int) (t' := (.array .int)) (by decide) (by decide)))
  have f159_F_a_hashedAtRandom := f141_F_a_hashedAtRandom.other W148 (Or.inr (slot_ne (Or.inl (hw _ (List.mem_of_getElem? (i := 74) rfl))) (Or.inl (hw _ (List.mem_of_getElem? (i := 55) rfl))) (by decide) (t := .boolean) (t' := (.array .int)) (by decide) (by decide)))
  have f160_F_a_foundHash := f142_F_a_foundHash.other W148 (Or.inr (slot_ne (Or.inl (hw _ (List.mem_of_getElem? (i := 102) rfl))) (Or.inl (hw _ (List.mem_of_getElem? (i := 55) rfl))) (by decide) (t := .int) (t' := (.array .int)) (by decide) (by decide)))
  have f161_F_a_randomHash := f143_F_a_randomHash.other W148 (Or.inr (slot_ne (Or.inr (hw _ (List.mem_of_getElem? (i := 57) rfl))) (Or.inl (hw _ (List.mem_of_getElem? (i := 55) rfl))) (by decide) (t := (.object "com/example/casewright/casewright/formats/StringHash")) (t' := (.array .int)) (by decide) (by decide)))
  have f162_A_b2 := f144_A_b2.other W148 (Ne.symm ne2_a_b2)
  have f163_A_b31 := f145_A_b31.other W148 (Ne.symm ne31_a_b31)
  have f164_A_b62 := f146_A_b62.other W148 (Ne.symm ne62_a_b62)
  have f165_A_b95 := f147_A_b95.other W148 (Ne.symm ne95_a_b95)
  have f166_A_b130 := V130.other W148 (Ne.symm ne130_a_b130)
  refine go st148 ?_
  show Go p e below _ (T148.setTop (mkF m 46 #[.val (.ref a), .val (.ref a1)] []))
  refine go (fun t kt' => by refine XS.aloadN X148.here hx rfl (hb hby d8_46) rfl rfl ?_; exact kt') ?_
  show Go p e below _ (T148.setTop (mkF m 47 #[.val (.ref a), .val (.ref a1)] [(.ref a)]))
  refine go (fun t kt' => by refine XS.aloadN X148.here hx rfl (hb hby d8_47) rfl rfl ?_; exact kt') ?_
  show Go p e below _ (T148.setTop (mkF m 48 #[.val (.ref a), .val (.ref a1)] [(.ref a1), (.ref a)]))
  obtain ⟨T167, h167, X167, e167, W167, st167⟩ := putF X148 hx hZ hown (host := "") (Or.inl (hw _ (List.mem_of_getElem? (i := 56) rfl))) Via.refl e148 f161_F_a_randomHash f152_E_a (Or.inr ⟨(hw _ (List.mem_of_getElem? (i := 57) rfl)), rfl, hnm⟩) (hw _ (List.mem_of_getElem? (i := 29) rfl)) (ty := (.object "com/example/casewright/casewright/formats/StringHash")) (by decide) rfl rfl (g := (mkF m 48 #[.val (.ref a), .val (.ref a1)] [(.ref a1), (.ref a)])) rfl rfl (hb hby d8_48)
  have N167 := Fr.snoc X167 N148 g_a
  have f168_Z := Nat.le_trans f149_Z (Keep.of_wr W167).1
  have f169_O := f150_O.wr W167 g_a
  have f170_K := f151_K.wr W167 (Or.inl (List.mem_of_getElem? (i := 0) rfl))
  have f171_E_a := f152_E_a.wr W167
  have f172_F_a_places := f153_F_a_places.other W167 (Or.inr (slot_ne (Or.inl (hw _ (List.mem_of_getElem? (i := 45) rfl))) (Or.inr (hw _ (List.mem_of_getElem? (i := 57) rfl))) (by decide) (t := (.array .int)) (t' := (.object "com/example/casewright/casewright/formats/StringHash")) (by decide) (by decide)))
  have f173_F_a_hashes := f154_F_a_hashes.other W167 (Or.inr (slot_ne (Or.inl (hw _ (List.mem_of_getElem? (i := 47) rfl))) (Or.inr (hw _ (List.mem_of_getElem? (i := 57) rfl))) (by decide) (t := (.array .int)) (t' := (.object "com/example/casewright/casewright/formats/StringHash")) (by decide) (by decide)))
  have f174_F_a_keys := f155_F_a_keys.other W167 (Or.inr (slot_ne (Or.inl (hw _ (List.mem_of_getElem? (i := 51) rfl))) (Or.inr (hw _ (List.mem_of_getElem? (i := 57) rfl))) (by decide) (t := (.array (.object "java/lang/String"))) (t' := (.object "com/example/casewright/casewright/formats/StringHash")) (by decide) (by decide)))
  have f175_F_a_seconds := f156_F_a_seconds.other W167 (Or.inr (slot_ne (Or.inl (hw _ (List.mem_of_getElem? (i := 53) rfl))) (Or.inr (hw _ (List.mem_of_getElem? (i := 57) rfl))) (by decide) (t := (.array (.object "java/lang/String"))) (t' := (.object "com/example/casewright/casewright/formats/StringHash")) (by decide) (by decide)))
  have f176_F_a_taken := f157_F_a_taken.other W167 (Or.inr (slot_ne (Or.inl (hw _ (List.mem_of_getElem? (i := 55) rfl))) (Or.inr (hw _ (List.mem_of_getElem? (i := 57) rfl))) (by decide) (t := (.array .int)) (t' := (.object "com/example/casewright/casewright/formats/StringHash")) (by decide) (by decide)))
  have f177_F_a_size := f158_F_a_size.other W167 (Or.inr (slot_ne (Or.inl (hw _ (List.mem_of_getElem? (i := 64) rfl))) (Or.inr (hw _ (List.mem_of_getElem? (i := 57) rfl))) (by decide) (t := .int) (t' := (.object "com/example/casewright/casewright/formats/StringHash")) (by decide) (by decide)))
  have f178_F_a_hashedAtRandom := f159_F_a_hashedAtRandom.other W167 (Or.inr (slot_ne (Or.inl (hw _ (List.mem_of_getElem? (i := 74) rfl))) (Or.inr (hw _ (List.mem_of_getElem? (i := 57) rfl))) (by decide) (t := .boolean) (t' := (.object "com/example/casewright/casewright/formats/StringHash")) (by decide) (by decide)))
  have f179_F_a_foundHash := f160_F_a_foundHash.other W167 (Or.inr (slot_ne (Or.inl (hw _ (List.mem_of_getElem? (i := 102) rfl))) (Or.inr (hw _ (List.mem_of_getElem? (i := 57) rfl))) (by decide) (t := .int) (t' := (.object "com/example/casewright/casewright/formats/StringHash")) (by decide) (by decide)))
  have f180_F_a_randomHash := f161_F_a_randomHash.same W167
  have f181_A_b2 := f162_A_b2.other W167 (Ne.symm ne2_a_b2)
  have f182_A_b31 := f163_A_b31.other W167 (Ne.symm ne31_a_b31)
  have f183_A_b62 := f164_A_b62.other W167 (Ne.symm ne62_a_b62)
  have f184_A_b95 := f165_A_b95.other W167 (Ne.symm ne95_a_b95)
  have f185_A_b130 := f166_A_b130.other W167 (Ne.symm ne130_a_b130)
  refine go st167 ?_
  show Go p e below _ (T167.setTop (mkF m 51 #[.val (.ref a), .val (.ref a1)] []))
  refine goOut X167 (fun _ => rfl) hlk (fun fs hr => X167.returnOut hx Bd.returns (hb hby d8_51) hr) (by decide) (by decide) ?_
  rw [e167]
  exact ⟨rfl, N167, f170_K, g_a, f171_E_a, b2, b31, b62, b95, b130, _, ⟨Nat.lt_of_lt_of_le E_a.lt sz_b2, Nat.lt_of_lt_of_le E_a.lt sz_b31, Nat.lt_of_lt_of_le E_a.lt sz_b62, Nat.lt_of_lt_of_le E_a.lt sz_b95, Nat.lt_of_lt_of_le E_a.lt sz_b130⟩, ⟨ne31_b2_b31, ne130_b2_b130, ne130_b31_b130, ne95_b62_b95⟩, f172_F_a_places, f173_F_a_hashes, f174_F_a_keys, f175_F_a_seconds, f176_F_a_taken, f177_F_a_size, f178_F_a_hashedAtRandom, f179_F_a_foundHash, f181_A_b2, f182_A_b31, f183_A_b62, f184_A_b95, f185_A_b130, fun i hi q => absurd rfl q⟩
theorem d7_0 : decode prog_131_method_2_code 0 = .ok (.getstatic 13, 3) := by decide +kernel
theorem d7_3 : decode prog_131_method_2_code 3 = .ok (.areturn, 1) := by decide +kernel
theorem ef_rm_ra (m : MethodId)  : entryFrame m #[] 0 = mkF m 0 #[] [] := by first | (simp [entryFrame, mkF, argsToLocals, Value.category]; done) | rfl
def Q_ra (Z : State) (rd : Addr) (h0 : Heap) (n0 : Nat) (v : Option Value) (h : Heap) (L : List Loc) : Prop := v = some (.ref rd) ∧ Fr n0 L ∧ h = h0
set_option maxRecDepth 65536 in
set_option maxHeartbeats 40000000 in
theorem rm_ra (l : Launch) (Z : State) (a0 : Array Value) (hw : ∀ d ∈ tables_1, d.before a0 Z = true) (ws : List Jvm.Cond)  (cs : Int32) (rd : Addr)  (h0 : Heap) (n0 : Nat) (Z0 : n0 ≤ h0.size) (HS : own_sets Z cs rd) (OO : Old Z n0 h0)  :
    MetFree l (⟨"com/example/casewright/casewright/formats/StringHash", "random", "()Lcom/example/casewright/casewright/formats/StringHash;"⟩ : MethodName) (head1 (Jvm.Cond.code (⟨"com/example/casewright/casewright/formats/StringHash", "random", "()Lcom/example/casewright/casewright/formats/StringHash;"⟩ : MethodName) prog_131_method_2_code 0 (some (.object "com/example/casewright/casewright/formats/StringHash")) :: ws) ({ frames := 0, cells := 0, slots := 0, locals := 0 } : Room)) (fun av' U => av' = #[] ∧ Z.Warmed39 U.vm ∧ U.heap = h0) (fun _ _ _ _ _ => True) (fun _ U o U' => ∃ v L, o = .returned v ∧ Q_ra Z rd h0 n0 v U'.heap L ∧ FrameEnd U o U' L ({ frames := 0, cells := 0, slots := 0, locals := 0 } : Room).cells ({ frames := 0, cells := 0, slots := 0, locals := 0 } : Room).slots) := by
  refine MetFree.of_bodySF (plainFor_of_name pn_com_example_casewright_casewright_formats_StringHash) hisR ?_
  intro p e s m args below meth c s₁ Bd hml0 hP hK
  obtain ⟨rfl, hZ, hh⟩ := hP
  have hx := Bd.exec
  have hby := Bd.bytes
  have hlk := Bd.notSynchronized
  have hml : c.maxLocals = 0 := hml0
  have hown : s.vm.findClass "com/example/casewright/casewright/formats/StringHash" = some m.cls := findClass_of_methodNamed Bd.named
  have hnm := (name_of_methodNamed Bd.named Bd.method).1
  have X0 : Stand p l e ({ frames := 0, cells := 0, slots := 0, locals := 0 } : Room) s m #[] below meth c s₁ [] 0 0 := Stand.of_body Bd
  have e0 : s₁.heap = h0 := by rw [← hh, Bd.state]; rfl
  have N0 := Fr.nil n0
  show Go p e below (Kq s (Q_ra Z rd h0 n0) ({ frames := 0, cells := 0, slots := 0, locals := 0 } : Room).cells ({ frames := 0, cells := 0, slots := 0, locals := 0 } : Room).slots) _
  refine go (fun t kt => castTop (ef_rm_ra m ) kt) ?_
  have HS0 := HS
  obtain ⟨S_cs, hcs, S_rd⟩ := HS0
  show Go p e below _ (s₁.setTop (mkF m 0 #[] []))
  obtain ⟨T1, X1, e1, st1⟩ := getS2 X0 hx hZ hown (host := "") (Or.inl (hw _ (List.mem_of_getElem? (i := 38) rfl))) Via.refl e0 (Sta.ext OO.2 S_rd) (g := (mkF m 0 #[] [])) rfl (hb hby d7_0)
  refine go st1 ?_
  show Go p e below _ (T1.setTop (mkF m 3 #[] [(.ref rd)]))
  refine goOut X1 (fun h => by rw [Bd.returns] at h; cases h) hlk (fun fs hr => retOut X1 hx Bd.returns rfl (Or.inr (Or.inr (Or.inr (Or.inr ⟨rfl, rfl, rfl⟩)))) (hb hby d7_3) hr) (by decide) (by decide) ?_
  rw [e1]
  exact ⟨rfl, N0, rfl⟩
theorem d6_0 : decode prog_120_method_1_code 0 = .ok (.aload_n 0, 1) := by decide +kernel
theorem d6_1 : decode prog_120_method_1_code 1 = .ok (.invokestatic 1, 3) := by decide +kernel
theorem pd_10 : parseMethodDescriptor "()Lcom/example/casewright/casewright/formats/StringHash;" = some ⟨[], some (.object "com/example/casewright/casewright/formats/StringHash")⟩ := by decide +kernel
theorem d6_4 : decode prog_120_method_1_code 4 = .ok (.invokespecial 7, 3) := by decide +kernel
theorem pd_11 : parseMethodDescriptor "(Lcom/example/casewright/casewright/formats/StringHash;)V" = some ⟨[(.object "com/example/casewright/casewright/formats/StringHash")], none⟩ := by decide +kernel
theorem d6_7 : decode prog_120_method_1_code 7 = .ok (.return_, 1) := by decide +kernel
theorem ef_rm_i1 (m : MethodId) (x0 : Addr) : entryFrame m #[(.ref x0)] 1 = mkF m 0 #[.val (.ref x0)] [] := by first | (simp [entryFrame, mkF, argsToLocals, Value.category]; done) | rfl
def Q_i1 (Z : State) (a : Addr) (h0 : Heap) (n0 : Nat) (v : Option Value) (h : Heap) (L : List Loc) : Prop := v = none ∧ Fr n0 L ∧ Keep h0 h [a] ∧ own_HX Z n0 h a (fun _ => 0) (fun _ => 0) (fun _ => 0) 0 0
set_option maxRecDepth 65536 in
set_option maxHeartbeats 40000000 in
theorem rm_i1 (l : Launch) (Z : State) (a0 : Array Value) (hw : ∀ d ∈ tables_1, d.before a0 Z = true) (ws : List Jvm.Cond) (a : Addr) (cs : Int32) (rd : Addr)  (h0 : Heap) (n0 : Nat) (Z0 : n0 ≤ h0.size) (HS : own_sets Z cs rd) (OO : Old Z n0 h0) (E_a : Exa Z h0 a "com/example/casewright/casewright/formats/HashIndex") (g_a : n0 ≤ a) (F_places_a : Fld Z h0 a "com/example/casewright/casewright/formats/HashIndex" "places" "[I" .null) (F_hashes_a : Fld Z h0 a "com/example/casewright/casewright/formats/HashIndex" "hashes" "[I" .null) (F_keys_a : Fld Z h0 a "com/example/casewright/casewright/formats/HashIndex" "keys" "[Ljava/lang/String;" .null) (F_seconds_a : Fld Z h0 a "com/example/casewright/casewright/formats/HashIndex" "seconds" "[Ljava/lang/String;" .null) (F_taken_a : Fld Z h0 a "com/example/casewright/casewright/formats/HashIndex" "taken" "[I" .null) (F_size_a : Fld Z h0 a "com/example/casewright/casewright/formats/HashIndex" "size" "I" (.int (0 : Int32))) (F_hashedAtRandom_a : Fld Z h0 a "com/example/casewright/casewright/formats/HashIndex" "hashedAtRandom" "Z" (.int (0 : Int32))) (F_foundHash_a : Fld Z h0 a "com/example/casewright/casewright/formats/HashIndex" "foundHash" "I" (.int (0 : Int32))) (F_randomHash_a : Fld Z h0 a "com/example/casewright/casewright/formats/HashIndex" "randomHash" "Lcom/example/casewright/casewright/formats/StringHash;" .null) :
    MetFree l (⟨"com/example/casewright/casewright/formats/HashIndex", "<init>", "()V"⟩ : MethodName) (head1 (Jvm.Cond.code (⟨"com/example/casewright/casewright/formats/HashIndex", "<init>", "()V"⟩ : MethodName) prog_120_method_1_code 1 none :: ws) ({ frames := 2, cells := 5, slots := 72, locals := 25 } : Room)) (fun av' U => av' = #[(.ref a)] ∧ Z.Warmed39 U.vm ∧ U.heap = h0) (fun _ _ _ _ _ => True) (fun _ U o U' => ∃ v L, o = .returned v ∧ Q_i1 Z a h0 n0 v U'.heap L ∧ FrameEnd U o U' L ({ frames := 2, cells := 5, slots := 72, locals := 25 } : Room).cells ({ frames := 2, cells := 5, slots := 72, locals := 25 } : Room).slots) := by
  refine MetFree.of_bodySF (plainFor_of_name pn_com_example_casewright_casewright_formats_HashIndex) hisR ?_
  intro p e s m args below meth c s₁ Bd hml0 hP hK
  obtain ⟨rfl, hZ, hh⟩ := hP
  have hx := Bd.exec
  have hby := Bd.bytes
  have hlk := Bd.notSynchronized
  have hml : c.maxLocals = 1 := hml0
  have hown : s.vm.findClass "com/example/casewright/casewright/formats/HashIndex" = some m.cls := findClass_of_methodNamed Bd.named
  have hnm := (name_of_methodNamed Bd.named Bd.method).1
  have X0 : Stand p l e ({ frames := 2, cells := 5, slots := 72, locals := 25 } : Room) s m #[(.ref a)] below meth c s₁ [] 0 0 := Stand.of_body Bd
  have e0 : s₁.heap = h0 := by rw [← hh, Bd.state]; rfl
  have N0 := Fr.nil n0
  show Go p e below (Kq s (Q_i1 Z a h0 n0) ({ frames := 2, cells := 5, slots := 72, locals := 25 } : Room).cells ({ frames := 2, cells := 5, slots := 72, locals := 25 } : Room).slots) _
  refine go (fun t kt => castTop (ef_rm_i1 m a) kt) ?_
  have HS0 := HS
  obtain ⟨S_cs, hcs, S_rd⟩ := HS0
  have K0 := Keep.refl h0 [a]
  show Go p e below _ (s₁.setTop (mkF m 0 #[.val (.ref a)] []))
  refine go (fun t kt' => by refine XS.aloadN X0.here hx rfl (hb hby d6_0) rfl rfl ?_; exact kt') ?_
  show Go p e below _ (s₁.setTop (mkF m 1 #[.val (.ref a)] [(.ref a)]))
  obtain ⟨_, _, ⟨T1, L1, k1, n1⟩, -, X1, ⟨Lc1, hQ1, l1, y1, z1⟩, st1⟩ := Jvm.LawKit.callS X0 hx (y := (⟨"com/example/casewright/casewright/formats/StringHash", "random", "()Lcom/example/casewright/casewright/formats/StringHash;"⟩ : MethodName)) hown (mvT hZ (hw _ (List.mem_of_getElem? (i := 34) rfl))) (mvT hZ (hw _ (List.mem_of_getElem? (i := 35) rfl))) (mvT hZ (hw _ (List.mem_of_getElem? (i := 36) rfl))) (mvT hZ (hw _ (List.mem_of_getElem? (i := 37) rfl))) (by decide) (backOf (W := 1) (rm_ra l Z a0 hw []  cs rd  h0 n0 Z0 HS OO ) hZ (hw _ (List.mem_of_getElem? (i := 37) rfl)) (hw _ (List.mem_of_getElem? (i := 36) rfl)) (by decide) (by decide)) (g := (mkF m 1 #[.val (.ref a)] [(.ref a)])) rfl (by rw [hml]; rfl) (argsL := []) (rest := [(.ref a)]) (lenOf pd_10 rfl) rfl (by show 2 * 0 + _ ≤ _; exact Nat.le_of_eq rfl) (hb hby d6_1) (fun _ _ => ⟨rfl, e0, (by decide : 0 + 0 ≤ _), (by decide : 0 + 0 ≤ _)⟩)
  dsimp only [Pt.U, Pt.locs, Pt.cells, Pt.slots] at X1 l1 y1 z1 st1 hQ1
  rw [l1, y1, z1] at X1
  obtain ⟨rfl, N1q, e1⟩ := hQ1
  have N1 := Fr.app N0 N1q
  refine go st1 ?_
  show Go p e below _ (T1.setTop (mkF m 4 #[.val (.ref a)] [(.ref rd), (.ref a)]))
  obtain ⟨_, _, ⟨T2, L2, k2, n2⟩, -, X2, ⟨Lc2, hQ2, l2, y2, z2⟩, st2⟩ := X1.specialBack hx (y := (⟨"com/example/casewright/casewright/formats/HashIndex", "<init>", "(Lcom/example/casewright/casewright/formats/StringHash;)V"⟩ : MethodName)) rfl hown (mvT hZ (hw _ (List.mem_of_getElem? (i := 40) rfl))) (mvT hZ (hw _ (List.mem_of_getElem? (i := 41) rfl))) (mvT hZ (hw _ (List.mem_of_getElem? (i := 42) rfl))) (by decide) (backOf (W := 0) (rm_i2 l Z a0 hw [] a rd cs rd  h0 n0 Z0 HS OO E_a g_a F_places_a F_hashes_a F_keys_a F_seconds_a F_taken_a F_size_a F_hashedAtRandom_a F_foundHash_a F_randomHash_a) hZ (hw _ (List.mem_of_getElem? (i := 42) rfl)) (hw _ (List.mem_of_getElem? (i := 30) rfl)) (by decide) (by decide)) (g := (mkF m 4 #[.val (.ref a)] [(.ref rd), (.ref a)])) rfl (by rw [hml]; rfl) (Steps.refl _) (a := a) (argsL := [(.ref rd)]) (rest := []) (lenOf pd_11 rfl) rfl (by show 2 * 0 + _ ≤ _; exact Nat.le_of_eq rfl) (hb hby d6_4) (fun _ _ => ⟨rfl, e1, (by decide : 0 + 5 ≤ _), (by decide : 0 + 72 ≤ _)⟩)
  dsimp only [Pt.U, Pt.locs, Pt.cells, Pt.slots] at X2 l2 y2 z2 st2 hQ2
  rw [l2, y2, z2] at X2
  obtain ⟨rfl, N2q, K2, HX2⟩ := hQ2
  have N2 := Fr.app N1 N2q
  have f3_Z := Nat.le_trans Z0 K2.1
  have f4_O := OO.keep K2 (allS g_a all0)
  have f5_K := K0.trans K2 (allS (Or.inl (List.mem_of_getElem? (i := 0) rfl)) all0)
  refine go (fun t kt => st2.trans kt) ?_
  show Go p e below _ (T2.setTop (mkF m 7 #[.val (.ref a)] []))
  refine goOut X2 (fun _ => rfl) hlk (fun fs hr => X2.returnOut hx Bd.returns (hb hby d6_7) hr) (by decide) (by decide) ?_
  exact ⟨rfl, N2, f5_K, HX2⟩
theorem own_lt256 {p : Int32} (h : 0 ≤ p.toInt ∧ p.toInt < 256) : ¬ (255 : Int32) < p := by
  have o : (255 : Int32).toInt = 255 := rfl
  rw [Int32.lt_iff_toInt_lt, o]; omega
theorem d2_0 : decode jdk_43_method_3_code 0 = .ok (.iload_n 0, 1) := by decide +kernel
theorem d2_1 : decode jdk_43_method_3_code 1 = .ok (.sipush 255, 3) := by decide +kernel
theorem d2_4 : decode jdk_43_method_3_code 4 = .ok (.if_icmp .gt 7, 3) := by decide +kernel
theorem d2_7 : decode jdk_43_method_3_code 7 = .ok (.iconst 1, 1) := by decide +kernel
theorem d2_8 : decode jdk_43_method_3_code 8 = .ok (.goto 4, 3) := by decide +kernel
theorem d2_12 : decode jdk_43_method_3_code 12 = .ok (.ireturn, 1) := by decide +kernel
theorem ef_rm_ce (m : MethodId) (x0 : Int32) : entryFrame m #[(.int x0)] 1 = mkF m 0 #[.val (.int x0)] [] := by first | (simp [entryFrame, mkF, argsToLocals, Value.category]; done) | rfl
def Q_ce (Z : State)  (h0 : Heap) (n0 : Nat) (v : Option Value) (h : Heap) (L : List Loc) : Prop := v = some (.int (1 : Int32)) ∧ Fr n0 L ∧ h = h0
set_option maxRecDepth 65536 in
set_option maxHeartbeats 40000000 in
theorem rm_ce (l : Launch) (Z : State) (a0 : Array Value) (hw : ∀ d ∈ tables_1, d.before a0 Z = true) (ws : List Jvm.Cond) (p0 : Int32) (cs : Int32) (rd : Addr)  (h0 : Heap) (n0 : Nat) (Z0 : n0 ≤ h0.size) (HS : own_sets Z cs rd) (OO : Old Z n0 h0) (hp0 : 0 ≤ p0.toInt ∧ p0.toInt < 256) :
    MetFree l (⟨"java/lang/StringLatin1", "canEncode", "(C)Z"⟩ : MethodName) (head1 (Jvm.Cond.code (⟨"java/lang/StringLatin1", "canEncode", "(C)Z"⟩ : MethodName) jdk_43_method_3_code 1 (some .boolean) :: ws) ({ frames := 0, cells := 0, slots := 0, locals := 0 } : Room)) (fun av' U => av' = #[(.int p0)] ∧ Z.Warmed39 U.vm ∧ U.heap = h0) (fun _ _ _ _ _ => True) (fun _ U o U' => ∃ v L, o = .returned v ∧ Q_ce Z  h0 n0 v U'.heap L ∧ FrameEnd U o U' L ({ frames := 0, cells := 0, slots := 0, locals := 0 } : Room).cells ({ frames := 0, cells := 0, slots := 0, locals := 0 } : Room).slots) := by
  refine MetFree.of_bodySF (plainFor_of_name pn_java_lang_StringLatin1) hisR ?_
  intro p e s m args below meth c s₁ Bd hml0 hP hK
  obtain ⟨rfl, hZ, hh⟩ := hP
  have hx := Bd.exec
  have hby := Bd.bytes
  have hlk := Bd.notSynchronized
  have hml : c.maxLocals = 1 := hml0
  have hown : s.vm.findClass "java/lang/StringLatin1" = some m.cls := findClass_of_methodNamed Bd.named
  have hnm := (name_of_methodNamed Bd.named Bd.method).1
  have X0 : Stand p l e ({ frames := 0, cells := 0, slots := 0, locals := 0 } : Room) s m #[(.int p0)] below meth c s₁ [] 0 0 := Stand.of_body Bd
  have e0 : s₁.heap = h0 := by rw [← hh, Bd.state]; rfl
  have N0 := Fr.nil n0
  show Go p e below (Kq s (Q_ce Z  h0 n0) ({ frames := 0, cells := 0, slots := 0, locals := 0 } : Room).cells ({ frames := 0, cells := 0, slots := 0, locals := 0 } : Room).slots) _
  refine go (fun t kt => castTop (ef_rm_ce m p0) kt) ?_
  have HS0 := HS
  obtain ⟨S_cs, hcs, S_rd⟩ := HS0
  show Go p e below _ (s₁.setTop (mkF m 0 #[.val (.int p0)] []))
  refine go (fun t kt' => by refine XS.iloadN X0.here hx rfl (hb hby d2_0) rfl ?_; exact kt') ?_
  show Go p e below _ (s₁.setTop (mkF m 1 #[.val (.int p0)] [(.int p0)]))
  refine go (fun t kt' => by refine XS.sipush X0.here hx rfl (hb hby d2_1) ?_; exact kt') ?_
  show Go p e below _ (s₁.setTop (mkF m 4 #[.val (.int p0)] [(.int (255 : Int32)), (.int p0)]))
  have c4_1 : ¬ ((255 : Int32) < p0) := own_lt256 hp0
  refine go (fun t kt' => by refine XS.icmpNo X0.here hx rfl (hb hby d2_4) rfl (flt c4_1).2.2.1 ?_; exact kt') ?_
  show Go p e below _ (s₁.setTop (mkF m 7 #[.val (.int p0)] []))
  refine go (fun t kt' => by refine XS.iconst X0.here hx rfl (hb hby d2_7) ?_; exact kt') ?_
  show Go p e below _ (s₁.setTop (mkF m 8 #[.val (.int p0)] [(.int (1 : Int32))]))
  refine go (fun t kt' => by refine XS.goto X0.here hx rfl (pc0 := 8) (pc' := 12) rfl (hb hby d2_8) (by decide) (by decide) ?_; exact kt') ?_
  show Go p e below _ (s₁.setTop (mkF m 12 #[.val (.int p0)] [(.int (1 : Int32))]))
  refine goOut X0 (fun h => by rw [Bd.returns] at h; cases h) hlk (fun fs hr => retN X0 hx (t := .boolean) Bd.returns (by simp) (hb hby d2_12) hr) (by decide) (by decide) ?_
  rw [e0]
  exact ⟨rfl, N0, rfl⟩
theorem d3_0 : decode jdk_43_method_46_code 0 = .ok (.iconst 1, 1) := by decide +kernel
theorem d3_1 : decode jdk_43_method_46_code 1 = .ok (.newarray .byte, 2) := by decide +kernel
theorem d3_3 : decode jdk_43_method_46_code 3 = .ok (.dup, 1) := by decide +kernel
theorem d3_4 : decode jdk_43_method_46_code 4 = .ok (.iconst 0, 1) := by decide +kernel
theorem d3_5 : decode jdk_43_method_46_code 5 = .ok (.iload_n 0, 1) := by decide +kernel
theorem d3_6 : decode jdk_43_method_46_code 6 = .ok (.i2b, 1) := by decide +kernel
theorem d3_7 : decode jdk_43_method_46_code 7 = .ok (.bastore, 1) := by decide +kernel
theorem d3_8 : decode jdk_43_method_46_code 8 = .ok (.areturn, 1) := by decide +kernel
theorem ef_rm_tb (m : MethodId) (x0 : Int32) : entryFrame m #[(.int x0)] 1 = mkF m 0 #[.val (.int x0)] [] := by first | (simp [entryFrame, mkF, argsToLocals, Value.category]; done) | rfl
def Q_tb (Z : State) (p0 : Int32) (h0 : Heap) (n0 : Nat) (v : Option Value) (h : Heap) (L : List Loc) : Prop := ∃ b : Addr, v = some (.ref b) ∧ Fr n0 L ∧ Keep h0 h [] ∧ n0 ≤ b ∧ h0.size ≤ b ∧ IA Z h b .byte 1 (own_bt (p0.toInt8.toInt32))
set_option maxRecDepth 65536 in
set_option maxHeartbeats 40000000 in
theorem rm_tb (l : Launch) (Z : State) (a0 : Array Value) (hw : ∀ d ∈ tables_1, d.before a0 Z = true) (ws : List Jvm.Cond) (p0 : Int32) (cs : Int32) (rd : Addr)  (h0 : Heap) (n0 : Nat) (Z0 : n0 ≤ h0.size) (HS : own_sets Z cs rd) (OO : Old Z n0 h0)  :
    MetFree l (⟨"java/lang/StringLatin1", "toBytes", "(C)[B"⟩ : MethodName) (head1 (Jvm.Cond.code (⟨"java/lang/StringLatin1", "toBytes", "(C)[B"⟩ : MethodName) jdk_43_method_46_code 1 (some (.array .byte)) :: ws) ({ frames := 0, cells := 1, slots := 1, locals := 0 } : Room)) (fun av' U => av' = #[(.int p0)] ∧ Z.Warmed39 U.vm ∧ U.heap = h0) (fun _ _ _ _ _ => True) (fun _ U o U' => ∃ v L, o = .returned v ∧ Q_tb Z p0 h0 n0 v U'.heap L ∧ FrameEnd U o U' L ({ frames := 0, cells := 1, slots := 1, locals := 0 } : Room).cells ({ frames := 0, cells := 1, slots := 1, locals := 0 } : Room).slots) := by
  refine MetFree.of_bodySF (plainFor_of_name pn_java_lang_StringLatin1) hisR ?_
  intro p e s m args below meth c s₁ Bd hml0 hP hK
  obtain ⟨rfl, hZ, hh⟩ := hP
  have hx := Bd.exec
  have hby := Bd.bytes
  have hlk := Bd.notSynchronized
  have hml : c.maxLocals = 1 := hml0
  have hown : s.vm.findClass "java/lang/StringLatin1" = some m.cls := findClass_of_methodNamed Bd.named
  have hnm := (name_of_methodNamed Bd.named Bd.method).1
  have X0 : Stand p l e ({ frames := 0, cells := 1, slots := 1, locals := 0 } : Room) s m #[(.int p0)] below meth c s₁ [] 0 0 := Stand.of_body Bd
  have e0 : s₁.heap = h0 := by rw [← hh, Bd.state]; rfl
  have N0 := Fr.nil n0
  show Go p e below (Kq s (Q_tb Z p0 h0 n0) ({ frames := 0, cells := 1, slots := 1, locals := 0 } : Room).cells ({ frames := 0, cells := 1, slots := 1, locals := 0 } : Room).slots) _
  refine go (fun t kt => castTop (ef_rm_tb m p0) kt) ?_
  have HS0 := HS
  obtain ⟨S_cs, hcs, S_rd⟩ := HS0
  have K0 := Keep.refl h0 []
  show Go p e below _ (s₁.setTop (mkF m 0 #[.val (.int p0)] []))
  refine go (fun t kt' => by refine XS.iconst X0.here hx rfl (hb hby d3_0) ?_; exact kt') ?_
  show Go p e below _ (s₁.setTop (mkF m 1 #[.val (.int p0)] [(.int (1 : Int32))]))
  obtain ⟨T1, h1, k1, X1, e1, E1, A1, st1⟩ := newP X0 hx hZ (hw _ (List.mem_of_getElem? (i := 14) rfl)) e0 (g := (mkF m 1 #[.val (.int p0)] [(.int (1 : Int32))])) rfl (hb hby d3_1) rfl (by decide) (cap := 1) (by decide) (by decide) (by decide) (by decide)
  obtain ⟨b1, g1⟩ : ∃ z, z = h0.size := ⟨_, rfl⟩
  have n0_b1 : n0 ≤ b1 := Nat.le_trans Z0 (Nat.le_of_eq g1.symm)
  have sz_b1 : h0.size ≤ b1 := Nat.le_trans K0.1 (Nat.le_of_eq g1.symm)
  rw [← g1] at A1 st1
  have f2_Z := Nat.le_trans Z0 E1.1
  have f3_O := OO.ext E1
  have f4_K := K0.ext E1
  have V1 : IA Z h1 b1 .byte 1 (fun _ => 0) := IA.new A1 rfl rfl
  refine go st1 ?_
  show Go p e below _ (T1.setTop (mkF m 3 #[.val (.int p0)] [(.ref b1)]))
  refine go (fun t kt' => by refine XS.dup X1.here hx rfl (hb hby d3_3) rfl rfl ?_; exact kt') ?_
  show Go p e below _ (T1.setTop (mkF m 4 #[.val (.int p0)] [(.ref b1), (.ref b1)]))
  refine go (fun t kt' => by refine XS.iconst X1.here hx rfl (hb hby d3_4) ?_; exact kt') ?_
  show Go p e below _ (T1.setTop (mkF m 5 #[.val (.int p0)] [(.int (0 : Int32)), (.ref b1), (.ref b1)]))
  refine go (fun t kt' => by refine XS.iloadN X1.here hx rfl (hb hby d3_5) rfl ?_; exact kt') ?_
  show Go p e below _ (T1.setTop (mkF m 6 #[.val (.int p0)] [(.int p0), (.int (0 : Int32)), (.ref b1), (.ref b1)]))
  refine go (fun t kt' => by refine XS.i2b X1.here hx rfl (hb hby d3_6) rfl ?_; exact kt') ?_
  show Go p e below _ (T1.setTop (mkF m 7 #[.val (.int p0)] [(.int (p0.toInt8.toInt32)), (.int (0 : Int32)), (.ref b1), (.ref b1)]))
  obtain ⟨T5, h5, X5, e5, W5, V5, st5⟩ := stBA X1 hx hZ e1 V1 (j := (0 : Int32)) (x := (p0.toInt8.toInt32)) ⟨by decide, by decide⟩ (g := (mkF m 7 #[.val (.int p0)] [(.int (p0.toInt8.toInt32)), (.int (0 : Int32)), (.ref b1), (.ref b1)])) rfl rfl (hb hby d3_7)
  have N5 := Fr.snoc X5 N0 n0_b1
  have f6_Z := Nat.le_trans f2_Z (Keep.of_wr W5).1
  have f7_O := f3_O.wr W5 n0_b1
  have f8_K := f4_K.wr W5 (Or.inr sz_b1)
  have f9_A_b1 := V5
  refine go st5 ?_
  show Go p e below _ (T5.setTop (mkF m 8 #[.val (.int p0)] [(.ref b1)]))
  refine goOut X5 (fun h => by rw [Bd.returns] at h; cases h) hlk (fun fs hr => retOut X5 hx Bd.returns rfl (Or.inr (Or.inr (Or.inr (Or.inr ⟨rfl, rfl, rfl⟩)))) (hb hby d3_8) hr) (by decide) (by decide) ?_
  rw [e5]
  exact ⟨b1, rfl, N5, f8_K, n0_b1, sz_b1, IA.congr f9_A_b1 fun j hj => by rw [show j = 0 from by omega]; exact (own_up1 _ _ _).trans (own_nb _)⟩
theorem d4_0 : decode jdk_42_method_151_code 0 = .ok (.aload_n 0, 1) := by decide +kernel
theorem d4_1 : decode jdk_42_method_151_code 1 = .ok (.invokespecial 1, 3) := by decide +kernel
theorem d4_4 : decode jdk_42_method_151_code 4 = .ok (.aload_n 0, 1) := by decide +kernel
theorem d4_5 : decode jdk_42_method_151_code 5 = .ok (.aload_n 1, 1) := by decide +kernel
theorem d4_6 : decode jdk_42_method_151_code 6 = .ok (.putfield 9, 3) := by decide +kernel
theorem d4_9 : decode jdk_42_method_151_code 9 = .ok (.aload_n 0, 1) := by decide +kernel
theorem d4_10 : decode jdk_42_method_151_code 10 = .ok (.iload_n 2, 1) := by decide +kernel
theorem d4_11 : decode jdk_42_method_151_code 11 = .ok (.putfield 15, 3) := by decide +kernel
theorem d4_14 : decode jdk_42_method_151_code 14 = .ok (.return_, 1) := by decide +kernel
theorem ef_rm_si (m : MethodId) (x0 : Addr) (x1 : Addr) : entryFrame m #[(.ref x0), (.ref x1), (.int (0 : Int32))] 3 = mkF m 0 #[.val (.ref x0), .val (.ref x1), .val (.int (0 : Int32))] [] := by first | (simp [entryFrame, mkF, argsToLocals, Value.category]; done) | rfl
def Q_si (Z : State) (a a1 : Addr) (h0 : Heap) (n0 : Nat) (v : Option Value) (h : Heap) (L : List Loc) : Prop := v = none ∧ Fr n0 L ∧ Keep h0 h [a] ∧ Exa Z h a "java/lang/String" ∧ Fld Z h a "java/lang/String" "value" "[B" (.ref a1) ∧ Fld Z h a "java/lang/String" "coder" "B" (.int (0 : Int32)) ∧ Fld Z h a "java/lang/String" "hash" "I" (.int (0 : Int32)) ∧ Fld Z h a "java/lang/String" "hashIsZero" "Z" (.int (0 : Int32))
set_option maxRecDepth 65536 in
set_option maxHeartbeats 40000000 in
theorem rm_si (l : Launch) (Z : State) (a0 : Array Value) (hw : ∀ d ∈ tables_1, d.before a0 Z = true) (ws : List Jvm.Cond) (a : Addr) (a1 : Addr) (cs : Int32) (rd : Addr)  (h0 : Heap) (n0 : Nat) (Z0 : n0 ≤ h0.size) (HS : own_sets Z cs rd) (OO : Old Z n0 h0) (E_a : Exa Z h0 a "java/lang/String") (g_a : n0 ≤ a) (F_value_a : Fld Z h0 a "java/lang/String" "value" "[B" .null) (F_coder_a : Fld Z h0 a "java/lang/String" "coder" "B" (.int (0 : Int32))) (F_hash_a : Fld Z h0 a "java/lang/String" "hash" "I" (.int (0 : Int32))) (F_hashIsZero_a : Fld Z h0 a "java/lang/String" "hashIsZero" "Z" (.int (0 : Int32))) :
    MetFree l (⟨"java/lang/String", "<init>", "([BB)V"⟩ : MethodName) (head1 (Jvm.Cond.code (⟨"java/lang/String", "<init>", "([BB)V"⟩ : MethodName) jdk_42_method_151_code 3 none :: ws) ({ frames := 1, cells := 0, slots := 0, locals := 12 } : Room)) (fun av' U => av' = #[(.ref a), (.ref a1), (.int (0 : Int32))] ∧ Z.Warmed39 U.vm ∧ U.heap = h0) (fun _ _ _ _ _ => True) (fun _ U o U' => ∃ v L, o = .returned v ∧ Q_si Z a a1 h0 n0 v U'.heap L ∧ FrameEnd U o U' L ({ frames := 1, cells := 0, slots := 0, locals := 12 } : Room).cells ({ frames := 1, cells := 0, slots := 0, locals := 12 } : Room).slots) := by
  refine MetFree.of_bodySF (plainFor_of_name pn_java_lang_String) hisR ?_
  intro p e s m args below meth c s₁ Bd hml0 hP hK
  obtain ⟨rfl, hZ, hh⟩ := hP
  have hx := Bd.exec
  have hby := Bd.bytes
  have hlk := Bd.notSynchronized
  have hml : c.maxLocals = 3 := hml0
  have hown : s.vm.findClass "java/lang/String" = some m.cls := findClass_of_methodNamed Bd.named
  have hnm := (name_of_methodNamed Bd.named Bd.method).1
  have X0 : Stand p l e ({ frames := 1, cells := 0, slots := 0, locals := 12 } : Room) s m #[(.ref a), (.ref a1), (.int (0 : Int32))] below meth c s₁ [] 0 0 := Stand.of_body Bd
  have e0 : s₁.heap = h0 := by rw [← hh, Bd.state]; rfl
  have N0 := Fr.nil n0
  show Go p e below (Kq s (Q_si Z a a1 h0 n0) ({ frames := 1, cells := 0, slots := 0, locals := 12 } : Room).cells ({ frames := 1, cells := 0, slots := 0, locals := 12 } : Room).slots) _
  refine go (fun t kt => castTop (ef_rm_si m a a1) kt) ?_
  have HS0 := HS
  obtain ⟨S_cs, hcs, S_rd⟩ := HS0
  have K0 := Keep.refl h0 [a]
  show Go p e below _ (s₁.setTop (mkF m 0 #[.val (.ref a), .val (.ref a1), .val (.int (0 : Int32))] []))
  refine go (fun t kt' => by refine XS.aloadN X0.here hx rfl (hb hby d4_0) rfl rfl ?_; exact kt') ?_
  show Go p e below _ (s₁.setTop (mkF m 1 #[.val (.ref a), .val (.ref a1), .val (.int (0 : Int32))] [(.ref a)]))
  obtain ⟨T1, X1, e1, st1⟩ := initO X0 hx hZ hown (hw _ (List.mem_of_getElem? (i := 19) rfl)) (hw _ (List.mem_of_getElem? (i := 20) rfl)) (hw _ (List.mem_of_getElem? (i := 21) rfl)) e0 (g := (mkF m 1 #[.val (.ref a), .val (.ref a1), .val (.int (0 : Int32))] [(.ref a)])) rfl (by rw [hml]; rfl) rfl (hb hby d4_1) (by decide) (W := 0) (by show 2 * 0 + _ ≤ _; exact Nat.le_of_eq rfl) (by decide)
  refine go st1 ?_
  show Go p e below _ (T1.setTop (mkF m 4 #[.val (.ref a), .val (.ref a1), .val (.int (0 : Int32))] []))
  refine go (fun t kt' => by refine XS.aloadN X1.here hx rfl (hb hby d4_4) rfl rfl ?_; exact kt') ?_
  show Go p e below _ (T1.setTop (mkF m 5 #[.val (.ref a), .val (.ref a1), .val (.int (0 : Int32))] [(.ref a)]))
  refine go (fun t kt' => by refine XS.aloadN X1.here hx rfl (hb hby d4_5) rfl rfl ?_; exact kt') ?_
  show Go p e below _ (T1.setTop (mkF m 6 #[.val (.ref a), .val (.ref a1), .val (.int (0 : Int32))] [(.ref a1), (.ref a)]))
  obtain ⟨T2, h2, X2, e2, W2, st2⟩ := putF X1 hx hZ hown (host := "") (Or.inl (hw _ (List.mem_of_getElem? (i := 22) rfl))) Via.refl e1 F_value_a E_a (Or.inr ⟨(hw _ (List.mem_of_getElem? (i := 23) rfl)), rfl, hnm⟩) (hw _ (List.mem_of_getElem? (i := 10) rfl)) (ty := (.array .byte)) (by decide) rfl rfl (g := (mkF m 6 #[.val (.ref a), .val (.ref a1), .val (.int (0 : Int32))] [(.ref a1), (.ref a)])) rfl rfl (hb hby d4_6)
  have N2 := Fr.snoc X2 N0 g_a
  have f3_Z := Nat.le_trans Z0 (Keep.of_wr W2).1
  have f4_O := OO.wr W2 g_a
  have f5_K := K0.wr W2 (Or.inl (List.mem_of_getElem? (i := 0) rfl))
  have f6_E_a := E_a.wr W2
  have f7_F_a_value := F_value_a.same W2
  have f8_F_a_coder := F_coder_a.other W2 (Or.inr (slot_ne (Or.inr (hw _ (List.mem_of_getElem? (i := 25) rfl))) (Or.inr (hw _ (List.mem_of_getElem? (i := 23) rfl))) (by decide) (t := .byte) (t' := (.array .byte)) (by decide) (by decide)))
  have f9_F_a_hash := F_hash_a.other W2 (Or.inr (slot_ne (Or.inl (hw _ (List.mem_of_getElem? (i := 81) rfl))) (Or.inr (hw _ (List.mem_of_getElem? (i := 23) rfl))) (by decide) (t := .int) (t' := (.array .byte)) (by decide) (by decide)))
  have f10_F_a_hashIsZero := F_hashIsZero_a.other W2 (Or.inr (slot_ne (Or.inl (hw _ (List.mem_of_getElem? (i := 83) rfl))) (Or.inr (hw _ (List.mem_of_getElem? (i := 23) rfl))) (by decide) (t := .boolean) (t' := (.array .byte)) (by decide) (by decide)))
  refine go st2 ?_
  show Go p e below _ (T2.setTop (mkF m 9 #[.val (.ref a), .val (.ref a1), .val (.int (0 : Int32))] []))
  refine go (fun t kt' => by refine XS.aloadN X2.here hx rfl (hb hby d4_9) rfl rfl ?_; exact kt') ?_
  show Go p e below _ (T2.setTop (mkF m 10 #[.val (.ref a), .val (.ref a1), .val (.int (0 : Int32))] [(.ref a)]))
  refine go (fun t kt' => by refine XS.iloadN X2.here hx rfl (hb hby d4_10) rfl ?_; exact kt') ?_
  show Go p e below _ (T2.setTop (mkF m 11 #[.val (.ref a), .val (.ref a1), .val (.int (0 : Int32))] [(.int (0 : Int32)), (.ref a)]))
  obtain ⟨T11, h11, X11, e11, W11, st11⟩ := putFN X2 hx hZ hown (hw _ (List.mem_of_getElem? (i := 24) rfl)) Via.refl e2 f8_F_a_coder f6_E_a (Or.inr ⟨(hw _ (List.mem_of_getElem? (i := 25) rfl)), rfl, hnm⟩) (hw _ (List.mem_of_getElem? (i := 10) rfl)) (ty := .byte) (v' := (.int (nar .byte (0 : Int32)))) (by decide) rfl (fits_nar_byte _) (g := (mkF m 11 #[.val (.ref a), .val (.ref a1), .val (.int (0 : Int32))] [(.int (0 : Int32)), (.ref a)])) rfl rfl (hb hby d4_11)
  have N11 := Fr.snoc X11 N2 g_a
  have f12_Z := Nat.le_trans f3_Z (Keep.of_wr W11).1
  have f13_O := f4_O.wr W11 g_a
  have f14_K := f5_K.wr W11 (Or.inl (List.mem_of_getElem? (i := 0) rfl))
  have f15_E_a := f6_E_a.wr W11
  have f16_F_a_value := f7_F_a_value.other W11 (Or.inr (slot_ne (Or.inr (hw _ (List.mem_of_getElem? (i := 23) rfl))) (Or.inr (hw _ (List.mem_of_getElem? (i := 25) rfl))) (by decide) (t := (.array .byte)) (t' := .byte) (by decide) (by decide)))
  have f17_F_a_coder := f8_F_a_coder.same W11
  have f18_F_a_hash := f9_F_a_hash.other W11 (Or.inr (slot_ne (Or.inl (hw _ (List.mem_of_getElem? (i := 81) rfl))) (Or.inr (hw _ (List.mem_of_getElem? (i := 25) rfl))) (by decide) (t := .int) (t' := .byte) (by decide) (by decide)))
  have f19_F_a_hashIsZero := f10_F_a_hashIsZero.other W11 (Or.inr (slot_ne (Or.inl (hw _ (List.mem_of_getElem? (i := 83) rfl))) (Or.inr (hw _ (List.mem_of_getElem? (i := 25) rfl))) (by decide) (t := .boolean) (t' := .byte) (by decide) (by decide)))
  refine go st11 ?_
  show Go p e below _ (T11.setTop (mkF m 14 #[.val (.ref a), .val (.ref a1), .val (.int (0 : Int32))] []))
  refine goOut X11 (fun _ => rfl) hlk (fun fs hr => X11.returnOut hx Bd.returns (hb hby d4_14) hr) (by decide) (by decide) ?_
  rw [e11]
  exact ⟨rfl, N11, f14_K, f15_E_a, f16_F_a_value, f17_F_a_coder, f18_F_a_hash, f19_F_a_hashIsZero⟩
theorem d1_0 : decode jdk_42_method_139_code 0 = .ok (.getstatic 38, 3) := by decide +kernel
theorem d1_3 : decode jdk_42_method_139_code 3 = .ok (.ifCond .eq 23, 3) := by decide +kernel
theorem d1_6 : decode jdk_42_method_139_code 6 = .ok (.iload_n 0, 1) := by decide +kernel
theorem d1_7 : decode jdk_42_method_139_code 7 = .ok (.invokestatic 1015, 3) := by decide +kernel
theorem pd_12 : parseMethodDescriptor "(C)Z" = some ⟨[.char], some .boolean⟩ := by decide +kernel
theorem d1_10 : decode jdk_42_method_139_code 10 = .ok (.ifCond .eq 16, 3) := by decide +kernel
theorem d1_13 : decode jdk_42_method_139_code 13 = .ok (.new 10, 3) := by decide +kernel
theorem d1_16 : decode jdk_42_method_139_code 16 = .ok (.dup, 1) := by decide +kernel
theorem d1_17 : decode jdk_42_method_139_code 17 = .ok (.iload_n 0, 1) := by decide +kernel
theorem d1_18 : decode jdk_42_method_139_code 18 = .ok (.invokestatic 1018, 3) := by decide +kernel
theorem pd_13 : parseMethodDescriptor "(C)[B" = some ⟨[.char], some (.array .byte)⟩ := by decide +kernel
theorem d1_21 : decode jdk_42_method_139_code 21 = .ok (.iconst 0, 1) := by decide +kernel
theorem d1_22 : decode jdk_42_method_139_code 22 = .ok (.invokespecial 209, 3) := by decide +kernel
theorem pd_14 : parseMethodDescriptor "([BB)V" = some ⟨[(.array .byte), .byte], none⟩ := by decide +kernel
theorem d1_25 : decode jdk_42_method_139_code 25 = .ok (.areturn, 1) := by decide +kernel
theorem ef_rm_vo (m : MethodId) (x0 : Int32) : entryFrame m #[(.int x0)] 1 = mkF m 0 #[.val (.int x0)] [] := by first | (simp [entryFrame, mkF, argsToLocals, Value.category]; done) | rfl
def Q_vo (Z : State) (p0 : Int32) (h0 : Heap) (n0 : Nat) (v : Option Value) (h : Heap) (L : List Loc) : Prop := ∃ a : Addr, v = some (.ref a) ∧ Fr n0 L ∧ Keep h0 h [] ∧ h0.size ≤ a ∧ own_St Z n0 h a (p0.toInt8.toInt32)
set_option maxRecDepth 65536 in
set_option maxHeartbeats 40000000 in
theorem rm_vo (l : Launch) (Z : State) (a0 : Array Value) (hw : ∀ d ∈ tables_1, d.before a0 Z = true) (ws : List Jvm.Cond) (p0 : Int32) (cs : Int32) (rd : Addr)  (h0 : Heap) (n0 : Nat) (Z0 : n0 ≤ h0.size) (HS : own_sets Z cs rd) (OO : Old Z n0 h0) (hp0 : 0 ≤ p0.toInt ∧ p0.toInt < 256) :
    MetFree l (⟨"java/lang/String", "valueOf", "(C)Ljava/lang/String;"⟩ : MethodName) (head1 (Jvm.Cond.code (⟨"java/lang/String", "valueOf", "(C)Ljava/lang/String;"⟩ : MethodName) jdk_42_method_139_code 1 (some (.object "java/lang/String")) :: ws) ({ frames := 2, cells := 2, slots := 5, locals := 27 } : Room)) (fun av' U => av' = #[(.int p0)] ∧ Z.Warmed39 U.vm ∧ U.heap = h0) (fun _ _ _ _ _ => True) (fun _ U o U' => ∃ v L, o = .returned v ∧ Q_vo Z p0 h0 n0 v U'.heap L ∧ FrameEnd U o U' L ({ frames := 2, cells := 2, slots := 5, locals := 27 } : Room).cells ({ frames := 2, cells := 2, slots := 5, locals := 27 } : Room).slots) := by
  refine MetFree.of_bodySF (plainFor_of_name pn_java_lang_String) hisR ?_
  intro p e s m args below meth c s₁ Bd hml0 hP hK
  obtain ⟨rfl, hZ, hh⟩ := hP
  have hx := Bd.exec
  have hby := Bd.bytes
  have hlk := Bd.notSynchronized
  have hml : c.maxLocals = 1 := hml0
  have hown : s.vm.findClass "java/lang/String" = some m.cls := findClass_of_methodNamed Bd.named
  have hnm := (name_of_methodNamed Bd.named Bd.method).1
  have X0 : Stand p l e ({ frames := 2, cells := 2, slots := 5, locals := 27 } : Room) s m #[(.int p0)] below meth c s₁ [] 0 0 := Stand.of_body Bd
  have e0 : s₁.heap = h0 := by rw [← hh, Bd.state]; rfl
  have N0 := Fr.nil n0
  show Go p e below (Kq s (Q_vo Z p0 h0 n0) ({ frames := 2, cells := 2, slots := 5, locals := 27 } : Room).cells ({ frames := 2, cells := 2, slots := 5, locals := 27 } : Room).slots) _
  refine go (fun t kt => castTop (ef_rm_vo m p0) kt) ?_
  have HS0 := HS
  obtain ⟨S_cs, hcs, S_rd⟩ := HS0
  have K0 := Keep.refl h0 []
  show Go p e below _ (s₁.setTop (mkF m 0 #[.val (.int p0)] []))
  obtain ⟨T1, X1, e1, st1⟩ := getS2 X0 hx hZ hown (host := "") (Or.inl (hw _ (List.mem_of_getElem? (i := 4) rfl))) Via.refl e0 (Sta.ext OO.2 S_cs) (g := (mkF m 0 #[.val (.int p0)] [])) rfl (hb hby d1_0)
  refine go st1 ?_
  show Go p e below _ (T1.setTop (mkF m 3 #[.val (.int p0)] [(.int cs)]))
  have c3_2 : ¬ (cs = (0 : Int32)) := hcs
  refine go (fun t kt' => by refine XS.ifNo X1.here hx rfl (hb hby d1_3) rfl ((if0 _ _).trans (feq c3_2).1) ?_; exact kt') ?_
  show Go p e below _ (T1.setTop (mkF m 6 #[.val (.int p0)] []))
  refine go (fun t kt' => by refine XS.iloadN X1.here hx rfl (hb hby d1_6) rfl ?_; exact kt') ?_
  show Go p e below _ (T1.setTop (mkF m 7 #[.val (.int p0)] [(.int p0)]))
  obtain ⟨_, _, ⟨T3, L3, k3, n3⟩, -, X3, ⟨Lc3, hQ3, l3, y3, z3⟩, st3⟩ := Jvm.LawKit.callS X1 hx (y := (⟨"java/lang/StringLatin1", "canEncode", "(C)Z"⟩ : MethodName)) hown (mvT hZ (hw _ (List.mem_of_getElem? (i := 5) rfl))) (mvT hZ (hw _ (List.mem_of_getElem? (i := 6) rfl))) (mvT hZ (hw _ (List.mem_of_getElem? (i := 7) rfl))) (mvT hZ (hw _ (List.mem_of_getElem? (i := 8) rfl))) (by decide) (backOf (W := 0) (rm_ce l Z a0 hw [] p0 cs rd  h0 n0 Z0 HS OO hp0) hZ (hw _ (List.mem_of_getElem? (i := 8) rfl)) (hw _ (List.mem_of_getElem? (i := 7) rfl)) (by decide) (by decide)) (g := (mkF m 7 #[.val (.int p0)] [(.int p0)])) rfl (by rw [hml]; rfl) (argsL := [(.int p0)]) (rest := []) (lenOf pd_12 rfl) rfl (by show 2 * 0 + _ ≤ _; exact Nat.le_of_eq rfl) (hb hby d1_7) (fun _ _ => ⟨rfl, e1, (by decide : 0 + 0 ≤ _), (by decide : 0 + 0 ≤ _)⟩)
  dsimp only [Pt.U, Pt.locs, Pt.cells, Pt.slots] at X3 l3 y3 z3 st3 hQ3
  rw [l3, y3, z3] at X3
  obtain ⟨rfl, N3q, e3⟩ := hQ3
  have N3 := Fr.app N0 N3q
  refine go st3 ?_
  show Go p e below _ (T3.setTop (mkF m 10 #[.val (.int p0)] [(.int (1 : Int32))]))
  have c10_4 : ¬ ((1 : Int32) = (0 : Int32)) := by decide
  refine go (fun t kt' => by refine XS.ifNo X3.here hx rfl (hb hby d1_10) rfl ((if0 _ _).trans (feq c10_4).1) ?_; exact kt') ?_
  show Go p e below _ (T3.setTop (mkF m 13 #[.val (.int p0)] []))
  obtain ⟨T5, h5, X5, e5, E5, A5, D5, -, st5⟩ := newO X3 hx hZ hown (hw _ (List.mem_of_getElem? (i := 9) rfl)) (hw _ (List.mem_of_getElem? (i := 10) rfl)) (hw _ (List.mem_of_getElem? (i := 2) rfl)) e3 (g := (mkF m 13 #[.val (.int p0)] [])) rfl (hb hby d1_13) (by decide) (by decide)
  obtain ⟨b5, g5⟩ : ∃ z, z = h0.size := ⟨_, rfl⟩
  have n0_b5 : n0 ≤ b5 := Nat.le_trans Z0 (Nat.le_of_eq g5.symm)
  have sz_b5 : h0.size ≤ b5 := Nat.le_trans K0.1 (Nat.le_of_eq g5.symm)
  rw [← g5] at A5 D5 st5
  have f6_Z := Nat.le_trans Z0 E5.1
  have f7_O := OO.ext E5
  have f8_K := K0.ext E5
  have F5_value : Fld Z h5 b5 "java/lang/String" "value" "[B" .null := D5 (Or.inr (hw _ (List.mem_of_getElem? (i := 23) rfl))) (ty := (.array .byte)) (by decide)
  have F5_coder : Fld Z h5 b5 "java/lang/String" "coder" "B" (.int (0 : Int32)) := D5 (Or.inr (hw _ (List.mem_of_getElem? (i := 25) rfl))) (ty := .byte) (by decide)
  have F5_hash : Fld Z h5 b5 "java/lang/String" "hash" "I" (.int (0 : Int32)) := D5 (Or.inl (hw _ (List.mem_of_getElem? (i := 81) rfl))) (ty := .int) (by decide)
  have F5_hashIsZero : Fld Z h5 b5 "java/lang/String" "hashIsZero" "Z" (.int (0 : Int32)) := D5 (Or.inl (hw _ (List.mem_of_getElem? (i := 83) rfl))) (ty := .boolean) (by decide)
  refine go st5 ?_
  show Go p e below _ (T5.setTop (mkF m 16 #[.val (.int p0)] [(.ref b5)]))
  refine go (fun t kt' => by refine XS.dup X5.here hx rfl (hb hby d1_16) rfl rfl ?_; exact kt') ?_
  show Go p e below _ (T5.setTop (mkF m 17 #[.val (.int p0)] [(.ref b5), (.ref b5)]))
  refine go (fun t kt' => by refine XS.iloadN X5.here hx rfl (hb hby d1_17) rfl ?_; exact kt') ?_
  show Go p e below _ (T5.setTop (mkF m 18 #[.val (.int p0)] [(.int p0), (.ref b5), (.ref b5)]))
  obtain ⟨_, _, ⟨T9, L9, k9, n9⟩, -, X9, ⟨Lc9, hQ9, l9, y9, z9⟩, st9⟩ := Jvm.LawKit.callS X5 hx (y := (⟨"java/lang/StringLatin1", "toBytes", "(C)[B"⟩ : MethodName)) hown (mvT hZ (hw _ (List.mem_of_getElem? (i := 11) rfl))) (mvT hZ (hw _ (List.mem_of_getElem? (i := 12) rfl))) (mvT hZ (hw _ (List.mem_of_getElem? (i := 7) rfl))) (mvT hZ (hw _ (List.mem_of_getElem? (i := 13) rfl))) (by decide) (backOf (W := 2) (rm_tb l Z a0 hw [] p0 cs rd  h5 n0 f6_Z HS f7_O ) hZ (hw _ (List.mem_of_getElem? (i := 13) rfl)) (hw _ (List.mem_of_getElem? (i := 7) rfl)) (by decide) (by decide)) (g := (mkF m 18 #[.val (.int p0)] [(.int p0), (.ref b5), (.ref b5)])) rfl (by rw [hml]; rfl) (argsL := [(.int p0)]) (rest := [(.ref b5), (.ref b5)]) (lenOf pd_13 rfl) rfl (by show 2 * 0 + _ ≤ _; exact Nat.le_of_eq rfl) (hb hby d1_18) (fun _ _ => ⟨rfl, e5, (by decide : 1 + 1 ≤ _), (by decide : 4 + 1 ≤ _)⟩)
  dsimp only [Pt.U, Pt.locs, Pt.cells, Pt.slots] at X9 l9 y9 z9 st9 hQ9
  rw [l9, y9, z9] at X9
  obtain ⟨r9, rfl, N9q, K9, n0_r9, sq9, V9⟩ := hQ9
  have N9 := Fr.app N3 N9q
  have ne9_b5 : b5 ≠ r9 := Nat.ne_of_lt (Nat.lt_of_lt_of_le A5.lt sq9)
  have sz_r9 : h0.size ≤ r9 := Nat.le_trans f8_K.1 sq9
  have f10_Z := Nat.le_trans f6_Z K9.1
  have f11_O := f7_O.keep K9 all0
  have f12_K := f8_K.trans K9 all0
  have f13_E_b5 := A5.keep K9
  have f14_F_b5_value := F5_value.keep K9 nin0
  have f15_F_b5_coder := F5_coder.keep K9 nin0
  have f16_F_b5_hash := F5_hash.keep K9 nin0
  have f17_F_b5_hashIsZero := F5_hashIsZero.keep K9 nin0
  refine go st9 ?_
  show Go p e below _ (T9.setTop (mkF m 21 #[.val (.int p0)] [(.ref r9), (.ref b5), (.ref b5)]))
  refine go (fun t kt' => by refine XS.iconst X9.here hx rfl (hb hby d1_21) ?_; exact kt') ?_
  show Go p e below _ (T9.setTop (mkF m 22 #[.val (.int p0)] [(.int (0 : Int32)), (.ref r9), (.ref b5), (.ref b5)]))
  obtain ⟨_, _, ⟨T18, L18, k18, n18⟩, -, X18, ⟨Lc18, hQ18, l18, y18, z18⟩, st18⟩ := X9.specialBack hx (y := (⟨"java/lang/String", "<init>", "([BB)V"⟩ : MethodName)) rfl hown (mvT hZ (hw _ (List.mem_of_getElem? (i := 15) rfl))) (mvT hZ (hw _ (List.mem_of_getElem? (i := 16) rfl))) (mvT hZ (hw _ (List.mem_of_getElem? (i := 18) rfl))) (by decide) (backOf (W := 1) (rm_si l Z a0 hw [] b5 r9 cs rd  T9.heap n0 f10_Z HS f11_O f13_E_b5 n0_b5 f14_F_b5_value f15_F_b5_coder f16_F_b5_hash f17_F_b5_hashIsZero) hZ (hw _ (List.mem_of_getElem? (i := 18) rfl)) (hw _ (List.mem_of_getElem? (i := 2) rfl)) (by decide) (by decide)) (g := (mkF m 22 #[.val (.int p0)] [(.int (0 : Int32)), (.ref r9), (.ref b5), (.ref b5)])) rfl (by rw [hml]; rfl) (Steps.refl _) (a := b5) (argsL := [(.ref r9), (.int (0 : Int32))]) (rest := [(.ref b5)]) (lenOf pd_14 rfl) rfl (by show 2 * 0 + _ ≤ _; exact Nat.le_of_eq rfl) (hb hby d1_22) (fun _ _ => ⟨rfl, rfl, (by decide : 2 + 0 ≤ _), (by decide : 5 + 0 ≤ _)⟩)
  dsimp only [Pt.U, Pt.locs, Pt.cells, Pt.slots] at X18 l18 y18 z18 st18 hQ18
  rw [l18, y18, z18] at X18
  obtain ⟨rfl, N18q, K18, P18_0, P18_1, P18_2, P18_3, P18_4⟩ := hQ18
  have N18 := Fr.app N9 N18q
  have f19_Z := Nat.le_trans f10_Z K18.1
  have f20_O := f11_O.keep K18 (allS n0_b5 all0)
  have f21_K := f12_K.trans K18 (allS (Or.inr sz_b5) all0)
  have f22_A_r9 := V9.keep K18 (ninS (Ne.symm ne9_b5) nin0)
  refine go (fun t kt => st18.trans kt) ?_
  show Go p e below _ (T18.setTop (mkF m 25 #[.val (.int p0)] [(.ref b5)]))
  refine goOut X18 (fun h => by rw [Bd.returns] at h; cases h) hlk (fun fs hr => retOut X18 hx Bd.returns rfl (Or.inr (Or.inr (Or.inr (Or.inr ⟨rfl, rfl, rfl⟩)))) (hb hby d1_25) hr) (by decide) (by decide) ?_
  exact ⟨b5, rfl, N18, f21_K, sz_b5, n0_b5, P18_0, P18_2, (own_Hc hp0).2, r9, _, _, P18_1, f22_A_r9, P18_3, P18_4, Or.inl rfl, Or.inl rfl⟩
theorem d18_0 : decode method_2_code 0 = .ok (.iload_n 2, 1) := by decide +kernel
theorem d18_1 : decode method_2_code 1 = .ok (.ifCond .le 17, 3) := by decide +kernel
theorem d18_18 : decode method_2_code 18 = .ok (.iload_n 2, 1) := by decide +kernel
theorem d18_19 : decode method_2_code 19 = .ok (.iconst 1, 1) := by decide +kernel
theorem d18_20 : decode method_2_code 20 = .ok (.if_icmp .le 17, 3) := by decide +kernel
theorem d18_37 : decode method_2_code 37 = .ok (.iload_n 2, 1) := by decide +kernel
theorem d18_38 : decode method_2_code 38 = .ok (.iconst 2, 1) := by decide +kernel
theorem d18_39 : decode method_2_code 39 = .ok (.if_icmp .le 17, 3) := by decide +kernel
theorem d18_56 : decode method_2_code 56 = .ok (.aload_n 0, 1) := by decide +kernel
theorem d18_57 : decode method_2_code 57 = .ok (.iload_n 2, 1) := by decide +kernel
theorem d18_58 : decode method_2_code 58 = .ok (.iload_n 3, 1) := by decide +kernel
theorem d18_59 : decode method_2_code 59 = .ok (.castore, 1) := by decide +kernel
theorem d18_60 : decode method_2_code 60 = .ok (.aload_n 1, 1) := by decide +kernel
theorem d18_61 : decode method_2_code 61 = .ok (.iload_n 2, 1) := by decide +kernel
theorem d18_62 : decode method_2_code 62 = .ok (.iload 4, 2) := by decide +kernel
theorem d18_64 : decode method_2_code 64 = .ok (.iastore, 1) := by decide +kernel
theorem d18_65 : decode method_2_code 65 = .ok (.iload_n 2, 1) := by decide +kernel
theorem d18_66 : decode method_2_code 66 = .ok (.iconst 1, 1) := by decide +kernel
theorem d18_67 : decode method_2_code 67 = .ok (.iadd, 1) := by decide +kernel
theorem d18_68 : decode method_2_code 68 = .ok (.ireturn, 1) := by decide +kernel
theorem d18_23 : decode method_2_code 23 = .ok (.aload_n 0, 1) := by decide +kernel
theorem d18_24 : decode method_2_code 24 = .ok (.iconst 1, 1) := by decide +kernel
theorem d18_25 : decode method_2_code 25 = .ok (.caload, 1) := by decide +kernel
theorem d18_26 : decode method_2_code 26 = .ok (.iload_n 3, 1) := by decide +kernel
theorem d18_27 : decode method_2_code 27 = .ok (.if_icmp .ne 10, 3) := by decide +kernel
theorem d18_30 : decode method_2_code 30 = .ok (.aload_n 1, 1) := by decide +kernel
theorem d18_31 : decode method_2_code 31 = .ok (.iconst 1, 1) := by decide +kernel
theorem d18_32 : decode method_2_code 32 = .ok (.iload 4, 2) := by decide +kernel
theorem d18_34 : decode method_2_code 34 = .ok (.iastore, 1) := by decide +kernel
theorem d18_35 : decode method_2_code 35 = .ok (.iload_n 2, 1) := by decide +kernel
theorem d18_36 : decode method_2_code 36 = .ok (.ireturn, 1) := by decide +kernel
theorem d18_4 : decode method_2_code 4 = .ok (.aload_n 0, 1) := by decide +kernel
theorem d18_5 : decode method_2_code 5 = .ok (.iconst 0, 1) := by decide +kernel
theorem d18_6 : decode method_2_code 6 = .ok (.caload, 1) := by decide +kernel
theorem d18_7 : decode method_2_code 7 = .ok (.iload_n 3, 1) := by decide +kernel
theorem d18_8 : decode method_2_code 8 = .ok (.if_icmp .ne 10, 3) := by decide +kernel
theorem d18_11 : decode method_2_code 11 = .ok (.aload_n 1, 1) := by decide +kernel
theorem d18_12 : decode method_2_code 12 = .ok (.iconst 0, 1) := by decide +kernel
theorem d18_13 : decode method_2_code 13 = .ok (.iload 4, 2) := by decide +kernel
theorem d18_15 : decode method_2_code 15 = .ok (.iastore, 1) := by decide +kernel
theorem d18_16 : decode method_2_code 16 = .ok (.iload_n 2, 1) := by decide +kernel
theorem d18_17 : decode method_2_code 17 = .ok (.ireturn, 1) := by decide +kernel
theorem pn_com_example_casewright_casewright_formats_HashIndexRemoveLastPinLaw : plainName "com/example/casewright/casewright/formats/HashIndexRemoveLastPinLaw" = true := by first | (simp [plainName, overriddenIn]; done) | decide +kernel
theorem ef_rm_ap (m : MethodId) (x0 : Addr) (x1 : Addr) (x2 : Int32) (x3 : Int32) (x4 : Int32) : entryFrame m #[(.ref x0), (.ref x1), (.int x2), (.int x3), (.int x4)] 5 = mkF m 0 #[.val (.ref x0), .val (.ref x1), .val (.int x2), .val (.int x3), .val (.int x4)] [] := by first | (simp [entryFrame, mkF, argsToLocals, Value.category]; done) | rfl
def Q_ap (Z : State) (ks qs : Addr) (p3 p4 : Int32) (fk fp : Nat → Int32) (N : Nat) (h0 : Heap) (n0 : Nat) (v : Option Value) (h : Heap) (L : List Loc) : Prop := ∃ (r : Int32) (N' : Nat) (fk' fp' : Nat → Int32), v = some (.int r) ∧ r.toInt = N' ∧ own_Ap N fk fp p3 p4 N' fk' fp' ∧ Fr n0 L ∧ Old Z n0 h ∧ Keep h0 h [ks, qs] ∧ own_PS Z n0 h0 h ∧ IA Z h ks .char 3 fk' ∧ IA Z h qs .int 3 fp'
set_option maxRecDepth 65536 in
set_option maxHeartbeats 40000000 in
theorem rm_ap (l : Launch) (Z : State) (a0 : Array Value) (hw : ∀ d ∈ tables_1, d.before a0 Z = true) (ws : List Jvm.Cond) (ks : Addr) (qs : Addr) (p2 : Int32) (p3 : Int32) (p4 : Int32) (cs : Int32) (rd : Addr) (fk fp : Nat → Int32) (N : Nat) (h0 : Heap) (n0 : Nat) (Z0 : n0 ≤ h0.size) (HS : own_sets Z cs rd) (OO : Old Z n0 h0) (g_ks : n0 ≤ ks) (g_qs : n0 ≤ qs) (V_ks : IA Z h0 ks .char 3 fk) (V_qs : IA Z h0 qs .int 3 fp) (hn : p2.toInt = N) (hN : N ≤ 2) (hc3 : 0 ≤ p3.toInt ∧ p3.toInt < 256) :
    MetFree l (⟨"com/example/casewright/casewright/formats/HashIndexRemoveLastPinLaw", "apply", "([C[IICI)I"⟩ : MethodName) (head1 (Jvm.Cond.code (⟨"com/example/casewright/casewright/formats/HashIndexRemoveLastPinLaw", "apply", "([C[IICI)I"⟩ : MethodName) method_2_code 5 (some .int) :: ws) ({ frames := 0, cells := 0, slots := 0, locals := 0 } : Room)) (fun av' U => av' = #[(.ref ks), (.ref qs), (.int p2), (.int p3), (.int p4)] ∧ Z.Warmed39 U.vm ∧ U.heap = h0) (fun _ _ _ _ _ => True) (fun _ U o U' => ∃ v L, o = .returned v ∧ Q_ap Z ks qs p3 p4 fk fp N h0 n0 v U'.heap L ∧ FrameEnd U o U' L ({ frames := 0, cells := 0, slots := 0, locals := 0 } : Room).cells ({ frames := 0, cells := 0, slots := 0, locals := 0 } : Room).slots) := by
  refine MetFree.of_bodySF (plainFor_of_name pn_com_example_casewright_casewright_formats_HashIndexRemoveLastPinLaw) hisR ?_
  intro p e s m args below meth c s₁ Bd hml0 hP hK
  obtain ⟨rfl, hZ, hh⟩ := hP
  have hx := Bd.exec
  have hby := Bd.bytes
  have hlk := Bd.notSynchronized
  have hml : c.maxLocals = 5 := hml0
  have hown : s.vm.findClass "com/example/casewright/casewright/formats/HashIndexRemoveLastPinLaw" = some m.cls := findClass_of_methodNamed Bd.named
  have hnm := (name_of_methodNamed Bd.named Bd.method).1
  have X0 : Stand p l e ({ frames := 0, cells := 0, slots := 0, locals := 0 } : Room) s m #[(.ref ks), (.ref qs), (.int p2), (.int p3), (.int p4)] below meth c s₁ [] 0 0 := Stand.of_body Bd
  have e0 : s₁.heap = h0 := by rw [← hh, Bd.state]; rfl
  have N0 := Fr.nil n0
  show Go p e below (Kq s (Q_ap Z ks qs p3 p4 fk fp N h0 n0) ({ frames := 0, cells := 0, slots := 0, locals := 0 } : Room).cells ({ frames := 0, cells := 0, slots := 0, locals := 0 } : Room).slots) _
  refine go (fun t kt => castTop (ef_rm_ap m ks qs p2 p3 p4) kt) ?_
  have HS0 := HS
  obtain ⟨S_cs, hcs, S_rd⟩ := HS0
  have K0 := Keep.refl h0 [ks, qs]
  have P0 := own_PS.refl Z n0 h0
  have ne_kq : ks ≠ qs := by obtain ⟨c1, B1, -⟩ := V_ks; obtain ⟨c2, B2, -⟩ := V_qs; exact own_ne_ty B1 B2 (by intro q; cases q)
  show Go p e below _ (s₁.setTop (mkF m 0 #[.val (.ref ks), .val (.ref qs), .val (.int p2), .val (.int p3), .val (.int p4)] []))
  refine go (fun t kt' => by refine XS.iloadN X0.here hx rfl (hb hby d18_0) rfl ?_; exact kt') ?_
  show Go p e below _ (s₁.setTop (mkF m 1 #[.val (.ref ks), .val (.ref qs), .val (.int p2), .val (.int p3), .val (.int p4)] [(.int p2)]))
  by_cases c1_1 : ¬ (0 : Int32) < p2
  · skip
    refine go (fun t kt' => by refine XS.ifYes X0.here hx rfl (pc0 := 1) (pc' := 18) rfl (hb hby d18_1) rfl ((if0 _ _).trans (flt c1_1).2.2.2) (by decide) (by decide) ?_; exact kt') ?_
    show Go p e below _ (s₁.setTop (mkF m 18 #[.val (.ref ks), .val (.ref qs), .val (.int p2), .val (.int p3), .val (.int p4)] []))
    refine go (fun t kt' => by refine XS.iloadN X0.here hx rfl (hb hby d18_18) rfl ?_; exact kt') ?_
    show Go p e below _ (s₁.setTop (mkF m 19 #[.val (.ref ks), .val (.ref qs), .val (.int p2), .val (.int p3), .val (.int p4)] [(.int p2)]))
    refine go (fun t kt' => by refine XS.iconst X0.here hx rfl (hb hby d18_19) ?_; exact kt') ?_
    show Go p e below _ (s₁.setTop (mkF m 20 #[.val (.ref ks), .val (.ref qs), .val (.int p2), .val (.int p3), .val (.int p4)] [(.int (1 : Int32)), (.int p2)]))
    by_cases c20_2 : ¬ (1 : Int32) < p2
    · skip
      refine go (fun t kt' => by refine XS.icmpYes X0.here hx rfl (pc0 := 20) (pc' := 37) rfl (hb hby d18_20) rfl (flt c20_2).2.2.2 (by decide) (by decide) ?_; exact kt') ?_
      show Go p e below _ (s₁.setTop (mkF m 37 #[.val (.ref ks), .val (.ref qs), .val (.int p2), .val (.int p3), .val (.int p4)] []))
      refine go (fun t kt' => by refine XS.iloadN X0.here hx rfl (hb hby d18_37) rfl ?_; exact kt') ?_
      show Go p e below _ (s₁.setTop (mkF m 38 #[.val (.ref ks), .val (.ref qs), .val (.int p2), .val (.int p3), .val (.int p4)] [(.int p2)]))
      refine go (fun t kt' => by refine XS.iconst X0.here hx rfl (hb hby d18_38) ?_; exact kt') ?_
      show Go p e below _ (s₁.setTop (mkF m 39 #[.val (.ref ks), .val (.ref qs), .val (.int p2), .val (.int p3), .val (.int p4)] [(.int (2 : Int32)), (.int p2)]))
      have c39_3 : ¬ (2 : Int32) < p2 := own_two hn hN
      refine go (fun t kt' => by refine XS.icmpYes X0.here hx rfl (pc0 := 39) (pc' := 56) rfl (hb hby d18_39) rfl (flt c39_3).2.2.2 (by decide) (by decide) ?_; exact kt') ?_
      show Go p e below _ (s₁.setTop (mkF m 56 #[.val (.ref ks), .val (.ref qs), .val (.int p2), .val (.int p3), .val (.int p4)] []))
      refine go (fun t kt' => by refine XS.aloadN X0.here hx rfl (hb hby d18_56) rfl rfl ?_; exact kt') ?_
      show Go p e below _ (s₁.setTop (mkF m 57 #[.val (.ref ks), .val (.ref qs), .val (.int p2), .val (.int p3), .val (.int p4)] [(.ref ks)]))
      refine go (fun t kt' => by refine XS.iloadN X0.here hx rfl (hb hby d18_57) rfl ?_; exact kt') ?_
      show Go p e below _ (s₁.setTop (mkF m 58 #[.val (.ref ks), .val (.ref qs), .val (.int p2), .val (.int p3), .val (.int p4)] [(.int p2), (.ref ks)]))
      refine go (fun t kt' => by refine XS.iloadN X0.here hx rfl (hb hby d18_58) rfl ?_; exact kt') ?_
      show Go p e below _ (s₁.setTop (mkF m 59 #[.val (.ref ks), .val (.ref qs), .val (.int p2), .val (.int p3), .val (.int p4)] [(.int p3), (.int p2), (.ref ks)]))
      obtain ⟨T4, h4, X4, e4, W4, V4, st4⟩ := stCA X0 hx hZ e0 V_ks (j := p2) (x := p3) (show 0 ≤ p2.toInt ∧ p2.toInt < (3 : Nat) from by omega) (g := (mkF m 59 #[.val (.ref ks), .val (.ref qs), .val (.int p2), .val (.int p3), .val (.int p4)] [(.int p3), (.int p2), (.ref ks)])) rfl rfl (hb hby d18_59)
      have N4 := Fr.snoc X4 N0 g_ks
      have f5_Z := Nat.le_trans Z0 (Keep.of_wr W4).1
      have f6_O := OO.wr W4 g_ks
      have f7_K := K0.wr W4 (Or.inl (List.mem_of_getElem? (i := 0) rfl))
      have f8_P := own_PS.wr P0 W4 (own_okI hw V_ks (by intro q; cases q))
      have f9_A_ks := V4
      have f10_A_qs := V_qs.other W4 (Ne.symm ne_kq)
      refine go st4 ?_
      show Go p e below _ (T4.setTop (mkF m 60 #[.val (.ref ks), .val (.ref qs), .val (.int p2), .val (.int p3), .val (.int p4)] []))
      refine go (fun t kt' => by refine XS.aloadN X4.here hx rfl (hb hby d18_60) rfl rfl ?_; exact kt') ?_
      show Go p e below _ (T4.setTop (mkF m 61 #[.val (.ref ks), .val (.ref qs), .val (.int p2), .val (.int p3), .val (.int p4)] [(.ref qs)]))
      refine go (fun t kt' => by refine XS.iloadN X4.here hx rfl (hb hby d18_61) rfl ?_; exact kt') ?_
      show Go p e below _ (T4.setTop (mkF m 62 #[.val (.ref ks), .val (.ref qs), .val (.int p2), .val (.int p3), .val (.int p4)] [(.int p2), (.ref qs)]))
      refine go (fun t kt' => by refine XS.iload X4.here hx rfl (hb hby d18_62) rfl ?_; exact kt') ?_
      show Go p e below _ (T4.setTop (mkF m 64 #[.val (.ref ks), .val (.ref qs), .val (.int p2), .val (.int p3), .val (.int p4)] [(.int p4), (.int p2), (.ref qs)]))
      obtain ⟨T11, h11, X11, e11, W11, V11, st11⟩ := stIA X4 hx hZ e4 f10_A_qs (j := p2) (x := p4) (show 0 ≤ p2.toInt ∧ p2.toInt < (3 : Nat) from by omega) (g := (mkF m 64 #[.val (.ref ks), .val (.ref qs), .val (.int p2), .val (.int p3), .val (.int p4)] [(.int p4), (.int p2), (.ref qs)])) rfl rfl (hb hby d18_64)
      have N11 := Fr.snoc X11 N4 g_qs
      have f12_Z := Nat.le_trans f5_Z (Keep.of_wr W11).1
      have f13_O := f6_O.wr W11 g_qs
      have f14_K := f7_K.wr W11 (Or.inl (List.mem_of_getElem? (i := 1) rfl))
      have f15_P := own_PS.wr f8_P W11 (own_okI hw f10_A_qs (by intro q; cases q))
      have f16_A_ks := f9_A_ks.other W11 ne_kq
      have f17_A_qs := V11
      refine go st11 ?_
      show Go p e below _ (T11.setTop (mkF m 65 #[.val (.ref ks), .val (.ref qs), .val (.int p2), .val (.int p3), .val (.int p4)] []))
      refine go (fun t kt' => by refine XS.iloadN X11.here hx rfl (hb hby d18_65) rfl ?_; exact kt') ?_
      show Go p e below _ (T11.setTop (mkF m 66 #[.val (.ref ks), .val (.ref qs), .val (.int p2), .val (.int p3), .val (.int p4)] [(.int p2)]))
      refine go (fun t kt' => by refine XS.iconst X11.here hx rfl (hb hby d18_66) ?_; exact kt') ?_
      show Go p e below _ (T11.setTop (mkF m 67 #[.val (.ref ks), .val (.ref qs), .val (.int p2), .val (.int p3), .val (.int p4)] [(.int (1 : Int32)), (.int p2)]))
      refine go (fun t kt' => by refine XS.iadd X11.here hx rfl (hb hby d18_67) rfl ?_; exact kt') ?_
      show Go p e below _ (T11.setTop (mkF m 68 #[.val (.ref ks), .val (.ref qs), .val (.int p2), .val (.int p3), .val (.int p4)] [(.int (p2 + (1 : Int32)))]))
      refine goOut X11 (fun h => by rw [Bd.returns] at h; cases h) hlk (fun fs hr => retOut X11 hx Bd.returns rfl (Or.inl ⟨rfl, Or.inl rfl, _, rfl⟩) (hb hby d18_68) hr) (by decide) (by decide) ?_
      rw [e11]
      have VK' := f16_A_ks
      have VP' := f17_A_qs
      rw [own_cl hn, own_nc hc3] at VK'
      rw [own_cl hn] at VP'
      exact ⟨_, _, _, _, rfl, own_inc hn (by omega), Or.inr ⟨own_none hn hN (Or.inl c1_1) (Or.inl c20_2), rfl, rfl, rfl⟩, N11, f13_O, f14_K, f15_P, VK', VP'⟩
    · skip
      refine go (fun t kt' => by refine XS.icmpNo X0.here hx rfl (hb hby d18_20) rfl (tlt (Decidable.not_not.mp c20_2)).2.2.2 ?_; exact kt') ?_
      show Go p e below _ (s₁.setTop (mkF m 23 #[.val (.ref ks), .val (.ref qs), .val (.int p2), .val (.int p3), .val (.int p4)] []))
      refine go (fun t kt' => by refine XS.aloadN X0.here hx rfl (hb hby d18_23) rfl rfl ?_; exact kt') ?_
      show Go p e below _ (s₁.setTop (mkF m 24 #[.val (.ref ks), .val (.ref qs), .val (.int p2), .val (.int p3), .val (.int p4)] [(.ref ks)]))
      refine go (fun t kt' => by refine XS.iconst X0.here hx rfl (hb hby d18_24) ?_; exact kt') ?_
      show Go p e below _ (s₁.setTop (mkF m 25 #[.val (.ref ks), .val (.ref qs), .val (.int p2), .val (.int p3), .val (.int p4)] [(.int (1 : Int32)), (.ref ks)]))
      refine go (fun t kt' => by refine ldCA X0 hx hZ e0 V_ks (j := (1 : Int32)) ⟨by decide, by decide⟩ (g := (mkF m 25 #[.val (.ref ks), .val (.ref qs), .val (.int p2), .val (.int p3), .val (.int p4)] [(.int (1 : Int32)), (.ref ks)])) rfl rfl (hb hby d18_25) t ?_; exact kt') ?_
      show Go p e below _ (s₁.setTop (mkF m 26 #[.val (.ref ks), .val (.ref qs), .val (.int p2), .val (.int p3), .val (.int p4)] [(.int (fk 1))]))
      refine go (fun t kt' => by refine XS.iloadN X0.here hx rfl (hb hby d18_26) rfl ?_; exact kt') ?_
      show Go p e below _ (s₁.setTop (mkF m 27 #[.val (.ref ks), .val (.ref qs), .val (.int p2), .val (.int p3), .val (.int p4)] [(.int p3), (.int (fk 1))]))
      by_cases c27_18 : ¬ (fk 1) = p3
      · skip
        refine go (fun t kt' => by refine XS.icmpYes X0.here hx rfl (pc0 := 27) (pc' := 37) rfl (hb hby d18_27) rfl (feq c27_18).2 (by decide) (by decide) ?_; exact kt') ?_
        show Go p e below _ (s₁.setTop (mkF m 37 #[.val (.ref ks), .val (.ref qs), .val (.int p2), .val (.int p3), .val (.int p4)] []))
        refine go (fun t kt' => by refine XS.iloadN X0.here hx rfl (hb hby d18_37) rfl ?_; exact kt') ?_
        show Go p e below _ (s₁.setTop (mkF m 38 #[.val (.ref ks), .val (.ref qs), .val (.int p2), .val (.int p3), .val (.int p4)] [(.int p2)]))
        refine go (fun t kt' => by refine XS.iconst X0.here hx rfl (hb hby d18_38) ?_; exact kt') ?_
        show Go p e below _ (s₁.setTop (mkF m 39 #[.val (.ref ks), .val (.ref qs), .val (.int p2), .val (.int p3), .val (.int p4)] [(.int (2 : Int32)), (.int p2)]))
        have c39_19 : ¬ (2 : Int32) < p2 := own_two hn hN
        refine go (fun t kt' => by refine XS.icmpYes X0.here hx rfl (pc0 := 39) (pc' := 56) rfl (hb hby d18_39) rfl (flt c39_19).2.2.2 (by decide) (by decide) ?_; exact kt') ?_
        show Go p e below _ (s₁.setTop (mkF m 56 #[.val (.ref ks), .val (.ref qs), .val (.int p2), .val (.int p3), .val (.int p4)] []))
        refine go (fun t kt' => by refine XS.aloadN X0.here hx rfl (hb hby d18_56) rfl rfl ?_; exact kt') ?_
        show Go p e below _ (s₁.setTop (mkF m 57 #[.val (.ref ks), .val (.ref qs), .val (.int p2), .val (.int p3), .val (.int p4)] [(.ref ks)]))
        refine go (fun t kt' => by refine XS.iloadN X0.here hx rfl (hb hby d18_57) rfl ?_; exact kt') ?_
        show Go p e below _ (s₁.setTop (mkF m 58 #[.val (.ref ks), .val (.ref qs), .val (.int p2), .val (.int p3), .val (.int p4)] [(.int p2), (.ref ks)]))
        refine go (fun t kt' => by refine XS.iloadN X0.here hx rfl (hb hby d18_58) rfl ?_; exact kt') ?_
        show Go p e below _ (s₁.setTop (mkF m 59 #[.val (.ref ks), .val (.ref qs), .val (.int p2), .val (.int p3), .val (.int p4)] [(.int p3), (.int p2), (.ref ks)]))
        obtain ⟨T20, h20, X20, e20, W20, V20, st20⟩ := stCA X0 hx hZ e0 V_ks (j := p2) (x := p3) (show 0 ≤ p2.toInt ∧ p2.toInt < (3 : Nat) from by omega) (g := (mkF m 59 #[.val (.ref ks), .val (.ref qs), .val (.int p2), .val (.int p3), .val (.int p4)] [(.int p3), (.int p2), (.ref ks)])) rfl rfl (hb hby d18_59)
        have N20 := Fr.snoc X20 N0 g_ks
        have f21_Z := Nat.le_trans Z0 (Keep.of_wr W20).1
        have f22_O := OO.wr W20 g_ks
        have f23_K := K0.wr W20 (Or.inl (List.mem_of_getElem? (i := 0) rfl))
        have f24_P := own_PS.wr P0 W20 (own_okI hw V_ks (by intro q; cases q))
        have f25_A_ks := V20
        have f26_A_qs := V_qs.other W20 (Ne.symm ne_kq)
        refine go st20 ?_
        show Go p e below _ (T20.setTop (mkF m 60 #[.val (.ref ks), .val (.ref qs), .val (.int p2), .val (.int p3), .val (.int p4)] []))
        refine go (fun t kt' => by refine XS.aloadN X20.here hx rfl (hb hby d18_60) rfl rfl ?_; exact kt') ?_
        show Go p e below _ (T20.setTop (mkF m 61 #[.val (.ref ks), .val (.ref qs), .val (.int p2), .val (.int p3), .val (.int p4)] [(.ref qs)]))
        refine go (fun t kt' => by refine XS.iloadN X20.here hx rfl (hb hby d18_61) rfl ?_; exact kt') ?_
        show Go p e below _ (T20.setTop (mkF m 62 #[.val (.ref ks), .val (.ref qs), .val (.int p2), .val (.int p3), .val (.int p4)] [(.int p2), (.ref qs)]))
        refine go (fun t kt' => by refine XS.iload X20.here hx rfl (hb hby d18_62) rfl ?_; exact kt') ?_
        show Go p e below _ (T20.setTop (mkF m 64 #[.val (.ref ks), .val (.ref qs), .val (.int p2), .val (.int p3), .val (.int p4)] [(.int p4), (.int p2), (.ref qs)]))
        obtain ⟨T27, h27, X27, e27, W27, V27, st27⟩ := stIA X20 hx hZ e20 f26_A_qs (j := p2) (x := p4) (show 0 ≤ p2.toInt ∧ p2.toInt < (3 : Nat) from by omega) (g := (mkF m 64 #[.val (.ref ks), .val (.ref qs), .val (.int p2), .val (.int p3), .val (.int p4)] [(.int p4), (.int p2), (.ref qs)])) rfl rfl (hb hby d18_64)
        have N27 := Fr.snoc X27 N20 g_qs
        have f28_Z := Nat.le_trans f21_Z (Keep.of_wr W27).1
        have f29_O := f22_O.wr W27 g_qs
        have f30_K := f23_K.wr W27 (Or.inl (List.mem_of_getElem? (i := 1) rfl))
        have f31_P := own_PS.wr f24_P W27 (own_okI hw f26_A_qs (by intro q; cases q))
        have f32_A_ks := f25_A_ks.other W27 ne_kq
        have f33_A_qs := V27
        refine go st27 ?_
        show Go p e below _ (T27.setTop (mkF m 65 #[.val (.ref ks), .val (.ref qs), .val (.int p2), .val (.int p3), .val (.int p4)] []))
        refine go (fun t kt' => by refine XS.iloadN X27.here hx rfl (hb hby d18_65) rfl ?_; exact kt') ?_
        show Go p e below _ (T27.setTop (mkF m 66 #[.val (.ref ks), .val (.ref qs), .val (.int p2), .val (.int p3), .val (.int p4)] [(.int p2)]))
        refine go (fun t kt' => by refine XS.iconst X27.here hx rfl (hb hby d18_66) ?_; exact kt') ?_
        show Go p e below _ (T27.setTop (mkF m 67 #[.val (.ref ks), .val (.ref qs), .val (.int p2), .val (.int p3), .val (.int p4)] [(.int (1 : Int32)), (.int p2)]))
        refine go (fun t kt' => by refine XS.iadd X27.here hx rfl (hb hby d18_67) rfl ?_; exact kt') ?_
        show Go p e below _ (T27.setTop (mkF m 68 #[.val (.ref ks), .val (.ref qs), .val (.int p2), .val (.int p3), .val (.int p4)] [(.int (p2 + (1 : Int32)))]))
        refine goOut X27 (fun h => by rw [Bd.returns] at h; cases h) hlk (fun fs hr => retOut X27 hx Bd.returns rfl (Or.inl ⟨rfl, Or.inl rfl, _, rfl⟩) (hb hby d18_68) hr) (by decide) (by decide) ?_
        rw [e27]
        have VK' := f32_A_ks
        have VP' := f33_A_qs
        rw [own_cl hn, own_nc hc3] at VK'
        rw [own_cl hn] at VP'
        exact ⟨_, _, _, _, rfl, own_inc hn (by omega), Or.inr ⟨own_none hn hN (Or.inl c1_1) (Or.inr c27_18), rfl, rfl, rfl⟩, N27, f29_O, f30_K, f31_P, VK', VP'⟩
      · skip
        refine go (fun t kt' => by refine XS.icmpNo X0.here hx rfl (hb hby d18_27) rfl (teq (Decidable.not_not.mp c27_18)).2 ?_; exact kt') ?_
        show Go p e below _ (s₁.setTop (mkF m 30 #[.val (.ref ks), .val (.ref qs), .val (.int p2), .val (.int p3), .val (.int p4)] []))
        refine go (fun t kt' => by refine XS.aloadN X0.here hx rfl (hb hby d18_30) rfl rfl ?_; exact kt') ?_
        show Go p e below _ (s₁.setTop (mkF m 31 #[.val (.ref ks), .val (.ref qs), .val (.int p2), .val (.int p3), .val (.int p4)] [(.ref qs)]))
        refine go (fun t kt' => by refine XS.iconst X0.here hx rfl (hb hby d18_31) ?_; exact kt') ?_
        show Go p e below _ (s₁.setTop (mkF m 32 #[.val (.ref ks), .val (.ref qs), .val (.int p2), .val (.int p3), .val (.int p4)] [(.int (1 : Int32)), (.ref qs)]))
        refine go (fun t kt' => by refine XS.iload X0.here hx rfl (hb hby d18_32) rfl ?_; exact kt') ?_
        show Go p e below _ (s₁.setTop (mkF m 34 #[.val (.ref ks), .val (.ref qs), .val (.int p2), .val (.int p3), .val (.int p4)] [(.int p4), (.int (1 : Int32)), (.ref qs)]))
        obtain ⟨T34, h34, X34, e34, W34, V34, st34⟩ := stIA X0 hx hZ e0 V_qs (j := (1 : Int32)) (x := p4) ⟨by decide, by decide⟩ (g := (mkF m 34 #[.val (.ref ks), .val (.ref qs), .val (.int p2), .val (.int p3), .val (.int p4)] [(.int p4), (.int (1 : Int32)), (.ref qs)])) rfl rfl (hb hby d18_34)
        have N34 := Fr.snoc X34 N0 g_qs
        have f35_Z := Nat.le_trans Z0 (Keep.of_wr W34).1
        have f36_O := OO.wr W34 g_qs
        have f37_K := K0.wr W34 (Or.inl (List.mem_of_getElem? (i := 1) rfl))
        have f38_P := own_PS.wr P0 W34 (own_okI hw V_qs (by intro q; cases q))
        have f39_A_ks := V_ks.other W34 ne_kq
        have f40_A_qs := V34
        refine go st34 ?_
        show Go p e below _ (T34.setTop (mkF m 35 #[.val (.ref ks), .val (.ref qs), .val (.int p2), .val (.int p3), .val (.int p4)] []))
        refine go (fun t kt' => by refine XS.iloadN X34.here hx rfl (hb hby d18_35) rfl ?_; exact kt') ?_
        show Go p e below _ (T34.setTop (mkF m 36 #[.val (.ref ks), .val (.ref qs), .val (.int p2), .val (.int p3), .val (.int p4)] [(.int p2)]))
        refine goOut X34 (fun h => by rw [Bd.returns] at h; cases h) hlk (fun fs hr => retOut X34 hx Bd.returns rfl (Or.inl ⟨rfl, Or.inl rfl, _, rfl⟩) (hb hby d18_36) hr) (by decide) (by decide) ?_
        rw [e34]
        exact ⟨_, _, _, _, rfl, hn, Or.inl ⟨1, own_lt1 hn (Decidable.not_not.mp c20_2), Decidable.not_not.mp c27_18, rfl, rfl, rfl⟩, N34, f36_O, f37_K, f38_P, f39_A_ks, f40_A_qs⟩
  · skip
    refine go (fun t kt' => by refine XS.ifNo X0.here hx rfl (hb hby d18_1) rfl ((if0 _ _).trans (tlt (Decidable.not_not.mp c1_1)).2.2.2) ?_; exact kt') ?_
    show Go p e below _ (s₁.setTop (mkF m 4 #[.val (.ref ks), .val (.ref qs), .val (.int p2), .val (.int p3), .val (.int p4)] []))
    refine go (fun t kt' => by refine XS.aloadN X0.here hx rfl (hb hby d18_4) rfl rfl ?_; exact kt') ?_
    show Go p e below _ (s₁.setTop (mkF m 5 #[.val (.ref ks), .val (.ref qs), .val (.int p2), .val (.int p3), .val (.int p4)] [(.ref ks)]))
    refine go (fun t kt' => by refine XS.iconst X0.here hx rfl (hb hby d18_5) ?_; exact kt') ?_
    show Go p e below _ (s₁.setTop (mkF m 6 #[.val (.ref ks), .val (.ref qs), .val (.int p2), .val (.int p3), .val (.int p4)] [(.int (0 : Int32)), (.ref ks)]))
    refine go (fun t kt' => by refine ldCA X0 hx hZ e0 V_ks (j := (0 : Int32)) ⟨by decide, by decide⟩ (g := (mkF m 6 #[.val (.ref ks), .val (.ref qs), .val (.int p2), .val (.int p3), .val (.int p4)] [(.int (0 : Int32)), (.ref ks)])) rfl rfl (hb hby d18_6) t ?_; exact kt') ?_
    show Go p e below _ (s₁.setTop (mkF m 7 #[.val (.ref ks), .val (.ref qs), .val (.int p2), .val (.int p3), .val (.int p4)] [(.int (fk 0))]))
    refine go (fun t kt' => by refine XS.iloadN X0.here hx rfl (hb hby d18_7) rfl ?_; exact kt') ?_
    show Go p e below _ (s₁.setTop (mkF m 8 #[.val (.ref ks), .val (.ref qs), .val (.int p2), .val (.int p3), .val (.int p4)] [(.int p3), (.int (fk 0))]))
    by_cases c8_41 : ¬ (fk 0) = p3
    · skip
      refine go (fun t kt' => by refine XS.icmpYes X0.here hx rfl (pc0 := 8) (pc' := 18) rfl (hb hby d18_8) rfl (feq c8_41).2 (by decide) (by decide) ?_; exact kt') ?_
      show Go p e below _ (s₁.setTop (mkF m 18 #[.val (.ref ks), .val (.ref qs), .val (.int p2), .val (.int p3), .val (.int p4)] []))
      refine go (fun t kt' => by refine XS.iloadN X0.here hx rfl (hb hby d18_18) rfl ?_; exact kt') ?_
      show Go p e below _ (s₁.setTop (mkF m 19 #[.val (.ref ks), .val (.ref qs), .val (.int p2), .val (.int p3), .val (.int p4)] [(.int p2)]))
      refine go (fun t kt' => by refine XS.iconst X0.here hx rfl (hb hby d18_19) ?_; exact kt') ?_
      show Go p e below _ (s₁.setTop (mkF m 20 #[.val (.ref ks), .val (.ref qs), .val (.int p2), .val (.int p3), .val (.int p4)] [(.int (1 : Int32)), (.int p2)]))
      by_cases c20_42 : ¬ (1 : Int32) < p2
      · skip
        refine go (fun t kt' => by refine XS.icmpYes X0.here hx rfl (pc0 := 20) (pc' := 37) rfl (hb hby d18_20) rfl (flt c20_42).2.2.2 (by decide) (by decide) ?_; exact kt') ?_
        show Go p e below _ (s₁.setTop (mkF m 37 #[.val (.ref ks), .val (.ref qs), .val (.int p2), .val (.int p3), .val (.int p4)] []))
        refine go (fun t kt' => by refine XS.iloadN X0.here hx rfl (hb hby d18_37) rfl ?_; exact kt') ?_
        show Go p e below _ (s₁.setTop (mkF m 38 #[.val (.ref ks), .val (.ref qs), .val (.int p2), .val (.int p3), .val (.int p4)] [(.int p2)]))
        refine go (fun t kt' => by refine XS.iconst X0.here hx rfl (hb hby d18_38) ?_; exact kt') ?_
        show Go p e below _ (s₁.setTop (mkF m 39 #[.val (.ref ks), .val (.ref qs), .val (.int p2), .val (.int p3), .val (.int p4)] [(.int (2 : Int32)), (.int p2)]))
        have c39_43 : ¬ (2 : Int32) < p2 := own_two hn hN
        refine go (fun t kt' => by refine XS.icmpYes X0.here hx rfl (pc0 := 39) (pc' := 56) rfl (hb hby d18_39) rfl (flt c39_43).2.2.2 (by decide) (by decide) ?_; exact kt') ?_
        show Go p e below _ (s₁.setTop (mkF m 56 #[.val (.ref ks), .val (.ref qs), .val (.int p2), .val (.int p3), .val (.int p4)] []))
        refine go (fun t kt' => by refine XS.aloadN X0.here hx rfl (hb hby d18_56) rfl rfl ?_; exact kt') ?_
        show Go p e below _ (s₁.setTop (mkF m 57 #[.val (.ref ks), .val (.ref qs), .val (.int p2), .val (.int p3), .val (.int p4)] [(.ref ks)]))
        refine go (fun t kt' => by refine XS.iloadN X0.here hx rfl (hb hby d18_57) rfl ?_; exact kt') ?_
        show Go p e below _ (s₁.setTop (mkF m 58 #[.val (.ref ks), .val (.ref qs), .val (.int p2), .val (.int p3), .val (.int p4)] [(.int p2), (.ref ks)]))
        refine go (fun t kt' => by refine XS.iloadN X0.here hx rfl (hb hby d18_58) rfl ?_; exact kt') ?_
        show Go p e below _ (s₁.setTop (mkF m 59 #[.val (.ref ks), .val (.ref qs), .val (.int p2), .val (.int p3), .val (.int p4)] [(.int p3), (.int p2), (.ref ks)]))
        obtain ⟨T44, h44, X44, e44, W44, V44, st44⟩ := stCA X0 hx hZ e0 V_ks (j := p2) (x := p3) (show 0 ≤ p2.toInt ∧ p2.toInt < (3 : Nat) from by omega) (g := (mkF m 59 #[.val (.ref ks), .val (.ref qs), .val (.int p2), .val (.int p3), .val (.int p4)] [(.int p3), (.int p2), (.ref ks)])) rfl rfl (hb hby d18_59)
        have N44 := Fr.snoc X44 N0 g_ks
        have f45_Z := Nat.le_trans Z0 (Keep.of_wr W44).1
        have f46_O := OO.wr W44 g_ks
        have f47_K := K0.wr W44 (Or.inl (List.mem_of_getElem? (i := 0) rfl))
        have f48_P := own_PS.wr P0 W44 (own_okI hw V_ks (by intro q; cases q))
        have f49_A_ks := V44
        have f50_A_qs := V_qs.other W44 (Ne.symm ne_kq)
        refine go st44 ?_
        show Go p e below _ (T44.setTop (mkF m 60 #[.val (.ref ks), .val (.ref qs), .val (.int p2), .val (.int p3), .val (.int p4)] []))
        refine go (fun t kt' => by refine XS.aloadN X44.here hx rfl (hb hby d18_60) rfl rfl ?_; exact kt') ?_
        show Go p e below _ (T44.setTop (mkF m 61 #[.val (.ref ks), .val (.ref qs), .val (.int p2), .val (.int p3), .val (.int p4)] [(.ref qs)]))
        refine go (fun t kt' => by refine XS.iloadN X44.here hx rfl (hb hby d18_61) rfl ?_; exact kt') ?_
        show Go p e below _ (T44.setTop (mkF m 62 #[.val (.ref ks), .val (.ref qs), .val (.int p2), .val (.int p3), .val (.int p4)] [(.int p2), (.ref qs)]))
        refine go (fun t kt' => by refine XS.iload X44.here hx rfl (hb hby d18_62) rfl ?_; exact kt') ?_
        show Go p e below _ (T44.setTop (mkF m 64 #[.val (.ref ks), .val (.ref qs), .val (.int p2), .val (.int p3), .val (.int p4)] [(.int p4), (.int p2), (.ref qs)]))
        obtain ⟨T51, h51, X51, e51, W51, V51, st51⟩ := stIA X44 hx hZ e44 f50_A_qs (j := p2) (x := p4) (show 0 ≤ p2.toInt ∧ p2.toInt < (3 : Nat) from by omega) (g := (mkF m 64 #[.val (.ref ks), .val (.ref qs), .val (.int p2), .val (.int p3), .val (.int p4)] [(.int p4), (.int p2), (.ref qs)])) rfl rfl (hb hby d18_64)
        have N51 := Fr.snoc X51 N44 g_qs
        have f52_Z := Nat.le_trans f45_Z (Keep.of_wr W51).1
        have f53_O := f46_O.wr W51 g_qs
        have f54_K := f47_K.wr W51 (Or.inl (List.mem_of_getElem? (i := 1) rfl))
        have f55_P := own_PS.wr f48_P W51 (own_okI hw f50_A_qs (by intro q; cases q))
        have f56_A_ks := f49_A_ks.other W51 ne_kq
        have f57_A_qs := V51
        refine go st51 ?_
        show Go p e below _ (T51.setTop (mkF m 65 #[.val (.ref ks), .val (.ref qs), .val (.int p2), .val (.int p3), .val (.int p4)] []))
        refine go (fun t kt' => by refine XS.iloadN X51.here hx rfl (hb hby d18_65) rfl ?_; exact kt') ?_
        show Go p e below _ (T51.setTop (mkF m 66 #[.val (.ref ks), .val (.ref qs), .val (.int p2), .val (.int p3), .val (.int p4)] [(.int p2)]))
        refine go (fun t kt' => by refine XS.iconst X51.here hx rfl (hb hby d18_66) ?_; exact kt') ?_
        show Go p e below _ (T51.setTop (mkF m 67 #[.val (.ref ks), .val (.ref qs), .val (.int p2), .val (.int p3), .val (.int p4)] [(.int (1 : Int32)), (.int p2)]))
        refine go (fun t kt' => by refine XS.iadd X51.here hx rfl (hb hby d18_67) rfl ?_; exact kt') ?_
        show Go p e below _ (T51.setTop (mkF m 68 #[.val (.ref ks), .val (.ref qs), .val (.int p2), .val (.int p3), .val (.int p4)] [(.int (p2 + (1 : Int32)))]))
        refine goOut X51 (fun h => by rw [Bd.returns] at h; cases h) hlk (fun fs hr => retOut X51 hx Bd.returns rfl (Or.inl ⟨rfl, Or.inl rfl, _, rfl⟩) (hb hby d18_68) hr) (by decide) (by decide) ?_
        rw [e51]
        have VK' := f56_A_ks
        have VP' := f57_A_qs
        rw [own_cl hn, own_nc hc3] at VK'
        rw [own_cl hn] at VP'
        exact ⟨_, _, _, _, rfl, own_inc hn (by omega), Or.inr ⟨own_none hn hN (Or.inr c8_41) (Or.inl c20_42), rfl, rfl, rfl⟩, N51, f53_O, f54_K, f55_P, VK', VP'⟩
      · skip
        refine go (fun t kt' => by refine XS.icmpNo X0.here hx rfl (hb hby d18_20) rfl (tlt (Decidable.not_not.mp c20_42)).2.2.2 ?_; exact kt') ?_
        show Go p e below _ (s₁.setTop (mkF m 23 #[.val (.ref ks), .val (.ref qs), .val (.int p2), .val (.int p3), .val (.int p4)] []))
        refine go (fun t kt' => by refine XS.aloadN X0.here hx rfl (hb hby d18_23) rfl rfl ?_; exact kt') ?_
        show Go p e below _ (s₁.setTop (mkF m 24 #[.val (.ref ks), .val (.ref qs), .val (.int p2), .val (.int p3), .val (.int p4)] [(.ref ks)]))
        refine go (fun t kt' => by refine XS.iconst X0.here hx rfl (hb hby d18_24) ?_; exact kt') ?_
        show Go p e below _ (s₁.setTop (mkF m 25 #[.val (.ref ks), .val (.ref qs), .val (.int p2), .val (.int p3), .val (.int p4)] [(.int (1 : Int32)), (.ref ks)]))
        refine go (fun t kt' => by refine ldCA X0 hx hZ e0 V_ks (j := (1 : Int32)) ⟨by decide, by decide⟩ (g := (mkF m 25 #[.val (.ref ks), .val (.ref qs), .val (.int p2), .val (.int p3), .val (.int p4)] [(.int (1 : Int32)), (.ref ks)])) rfl rfl (hb hby d18_25) t ?_; exact kt') ?_
        show Go p e below _ (s₁.setTop (mkF m 26 #[.val (.ref ks), .val (.ref qs), .val (.int p2), .val (.int p3), .val (.int p4)] [(.int (fk 1))]))
        refine go (fun t kt' => by refine XS.iloadN X0.here hx rfl (hb hby d18_26) rfl ?_; exact kt') ?_
        show Go p e below _ (s₁.setTop (mkF m 27 #[.val (.ref ks), .val (.ref qs), .val (.int p2), .val (.int p3), .val (.int p4)] [(.int p3), (.int (fk 1))]))
        by_cases c27_58 : ¬ (fk 1) = p3
        · skip
          refine go (fun t kt' => by refine XS.icmpYes X0.here hx rfl (pc0 := 27) (pc' := 37) rfl (hb hby d18_27) rfl (feq c27_58).2 (by decide) (by decide) ?_; exact kt') ?_
          show Go p e below _ (s₁.setTop (mkF m 37 #[.val (.ref ks), .val (.ref qs), .val (.int p2), .val (.int p3), .val (.int p4)] []))
          refine go (fun t kt' => by refine XS.iloadN X0.here hx rfl (hb hby d18_37) rfl ?_; exact kt') ?_
          show Go p e below _ (s₁.setTop (mkF m 38 #[.val (.ref ks), .val (.ref qs), .val (.int p2), .val (.int p3), .val (.int p4)] [(.int p2)]))
          refine go (fun t kt' => by refine XS.iconst X0.here hx rfl (hb hby d18_38) ?_; exact kt') ?_
          show Go p e below _ (s₁.setTop (mkF m 39 #[.val (.ref ks), .val (.ref qs), .val (.int p2), .val (.int p3), .val (.int p4)] [(.int (2 : Int32)), (.int p2)]))
          have c39_59 : ¬ (2 : Int32) < p2 := own_two hn hN
          refine go (fun t kt' => by refine XS.icmpYes X0.here hx rfl (pc0 := 39) (pc' := 56) rfl (hb hby d18_39) rfl (flt c39_59).2.2.2 (by decide) (by decide) ?_; exact kt') ?_
          show Go p e below _ (s₁.setTop (mkF m 56 #[.val (.ref ks), .val (.ref qs), .val (.int p2), .val (.int p3), .val (.int p4)] []))
          refine go (fun t kt' => by refine XS.aloadN X0.here hx rfl (hb hby d18_56) rfl rfl ?_; exact kt') ?_
          show Go p e below _ (s₁.setTop (mkF m 57 #[.val (.ref ks), .val (.ref qs), .val (.int p2), .val (.int p3), .val (.int p4)] [(.ref ks)]))
          refine go (fun t kt' => by refine XS.iloadN X0.here hx rfl (hb hby d18_57) rfl ?_; exact kt') ?_
          show Go p e below _ (s₁.setTop (mkF m 58 #[.val (.ref ks), .val (.ref qs), .val (.int p2), .val (.int p3), .val (.int p4)] [(.int p2), (.ref ks)]))
          refine go (fun t kt' => by refine XS.iloadN X0.here hx rfl (hb hby d18_58) rfl ?_; exact kt') ?_
          show Go p e below _ (s₁.setTop (mkF m 59 #[.val (.ref ks), .val (.ref qs), .val (.int p2), .val (.int p3), .val (.int p4)] [(.int p3), (.int p2), (.ref ks)]))
          obtain ⟨T60, h60, X60, e60, W60, V60, st60⟩ := stCA X0 hx hZ e0 V_ks (j := p2) (x := p3) (show 0 ≤ p2.toInt ∧ p2.toInt < (3 : Nat) from by omega) (g := (mkF m 59 #[.val (.ref ks), .val (.ref qs), .val (.int p2), .val (.int p3), .val (.int p4)] [(.int p3), (.int p2), (.ref ks)])) rfl rfl (hb hby d18_59)
          have N60 := Fr.snoc X60 N0 g_ks
          have f61_Z := Nat.le_trans Z0 (Keep.of_wr W60).1
          have f62_O := OO.wr W60 g_ks
          have f63_K := K0.wr W60 (Or.inl (List.mem_of_getElem? (i := 0) rfl))
          have f64_P := own_PS.wr P0 W60 (own_okI hw V_ks (by intro q; cases q))
          have f65_A_ks := V60
          have f66_A_qs := V_qs.other W60 (Ne.symm ne_kq)
          refine go st60 ?_
          show Go p e below _ (T60.setTop (mkF m 60 #[.val (.ref ks), .val (.ref qs), .val (.int p2), .val (.int p3), .val (.int p4)] []))
          refine go (fun t kt' => by refine XS.aloadN X60.here hx rfl (hb hby d18_60) rfl rfl ?_; exact kt') ?_
          show Go p e below _ (T60.setTop (mkF m 61 #[.val (.ref ks), .val (.ref qs), .val (.int p2), .val (.int p3), .val (.int p4)] [(.ref qs)]))
          refine go (fun t kt' => by refine XS.iloadN X60.here hx rfl (hb hby d18_61) rfl ?_; exact kt') ?_
          show Go p e below _ (T60.setTop (mkF m 62 #[.val (.ref ks), .val (.ref qs), .val (.int p2), .val (.int p3), .val (.int p4)] [(.int p2), (.ref qs)]))
          refine go (fun t kt' => by refine XS.iload X60.here hx rfl (hb hby d18_62) rfl ?_; exact kt') ?_
          show Go p e below _ (T60.setTop (mkF m 64 #[.val (.ref ks), .val (.ref qs), .val (.int p2), .val (.int p3), .val (.int p4)] [(.int p4), (.int p2), (.ref qs)]))
          obtain ⟨T67, h67, X67, e67, W67, V67, st67⟩ := stIA X60 hx hZ e60 f66_A_qs (j := p2) (x := p4) (show 0 ≤ p2.toInt ∧ p2.toInt < (3 : Nat) from by omega) (g := (mkF m 64 #[.val (.ref ks), .val (.ref qs), .val (.int p2), .val (.int p3), .val (.int p4)] [(.int p4), (.int p2), (.ref qs)])) rfl rfl (hb hby d18_64)
          have N67 := Fr.snoc X67 N60 g_qs
          have f68_Z := Nat.le_trans f61_Z (Keep.of_wr W67).1
          have f69_O := f62_O.wr W67 g_qs
          have f70_K := f63_K.wr W67 (Or.inl (List.mem_of_getElem? (i := 1) rfl))
          have f71_P := own_PS.wr f64_P W67 (own_okI hw f66_A_qs (by intro q; cases q))
          have f72_A_ks := f65_A_ks.other W67 ne_kq
          have f73_A_qs := V67
          refine go st67 ?_
          show Go p e below _ (T67.setTop (mkF m 65 #[.val (.ref ks), .val (.ref qs), .val (.int p2), .val (.int p3), .val (.int p4)] []))
          refine go (fun t kt' => by refine XS.iloadN X67.here hx rfl (hb hby d18_65) rfl ?_; exact kt') ?_
          show Go p e below _ (T67.setTop (mkF m 66 #[.val (.ref ks), .val (.ref qs), .val (.int p2), .val (.int p3), .val (.int p4)] [(.int p2)]))
          refine go (fun t kt' => by refine XS.iconst X67.here hx rfl (hb hby d18_66) ?_; exact kt') ?_
          show Go p e below _ (T67.setTop (mkF m 67 #[.val (.ref ks), .val (.ref qs), .val (.int p2), .val (.int p3), .val (.int p4)] [(.int (1 : Int32)), (.int p2)]))
          refine go (fun t kt' => by refine XS.iadd X67.here hx rfl (hb hby d18_67) rfl ?_; exact kt') ?_
          show Go p e below _ (T67.setTop (mkF m 68 #[.val (.ref ks), .val (.ref qs), .val (.int p2), .val (.int p3), .val (.int p4)] [(.int (p2 + (1 : Int32)))]))
          refine goOut X67 (fun h => by rw [Bd.returns] at h; cases h) hlk (fun fs hr => retOut X67 hx Bd.returns rfl (Or.inl ⟨rfl, Or.inl rfl, _, rfl⟩) (hb hby d18_68) hr) (by decide) (by decide) ?_
          rw [e67]
          have VK' := f72_A_ks
          have VP' := f73_A_qs
          rw [own_cl hn, own_nc hc3] at VK'
          rw [own_cl hn] at VP'
          exact ⟨_, _, _, _, rfl, own_inc hn (by omega), Or.inr ⟨own_none hn hN (Or.inr c8_41) (Or.inr c27_58), rfl, rfl, rfl⟩, N67, f69_O, f70_K, f71_P, VK', VP'⟩
        · skip
          refine go (fun t kt' => by refine XS.icmpNo X0.here hx rfl (hb hby d18_27) rfl (teq (Decidable.not_not.mp c27_58)).2 ?_; exact kt') ?_
          show Go p e below _ (s₁.setTop (mkF m 30 #[.val (.ref ks), .val (.ref qs), .val (.int p2), .val (.int p3), .val (.int p4)] []))
          refine go (fun t kt' => by refine XS.aloadN X0.here hx rfl (hb hby d18_30) rfl rfl ?_; exact kt') ?_
          show Go p e below _ (s₁.setTop (mkF m 31 #[.val (.ref ks), .val (.ref qs), .val (.int p2), .val (.int p3), .val (.int p4)] [(.ref qs)]))
          refine go (fun t kt' => by refine XS.iconst X0.here hx rfl (hb hby d18_31) ?_; exact kt') ?_
          show Go p e below _ (s₁.setTop (mkF m 32 #[.val (.ref ks), .val (.ref qs), .val (.int p2), .val (.int p3), .val (.int p4)] [(.int (1 : Int32)), (.ref qs)]))
          refine go (fun t kt' => by refine XS.iload X0.here hx rfl (hb hby d18_32) rfl ?_; exact kt') ?_
          show Go p e below _ (s₁.setTop (mkF m 34 #[.val (.ref ks), .val (.ref qs), .val (.int p2), .val (.int p3), .val (.int p4)] [(.int p4), (.int (1 : Int32)), (.ref qs)]))
          obtain ⟨T74, h74, X74, e74, W74, V74, st74⟩ := stIA X0 hx hZ e0 V_qs (j := (1 : Int32)) (x := p4) ⟨by decide, by decide⟩ (g := (mkF m 34 #[.val (.ref ks), .val (.ref qs), .val (.int p2), .val (.int p3), .val (.int p4)] [(.int p4), (.int (1 : Int32)), (.ref qs)])) rfl rfl (hb hby d18_34)
          have N74 := Fr.snoc X74 N0 g_qs
          have f75_Z := Nat.le_trans Z0 (Keep.of_wr W74).1
          have f76_O := OO.wr W74 g_qs
          have f77_K := K0.wr W74 (Or.inl (List.mem_of_getElem? (i := 1) rfl))
          have f78_P := own_PS.wr P0 W74 (own_okI hw V_qs (by intro q; cases q))
          have f79_A_ks := V_ks.other W74 ne_kq
          have f80_A_qs := V74
          refine go st74 ?_
          show Go p e below _ (T74.setTop (mkF m 35 #[.val (.ref ks), .val (.ref qs), .val (.int p2), .val (.int p3), .val (.int p4)] []))
          refine go (fun t kt' => by refine XS.iloadN X74.here hx rfl (hb hby d18_35) rfl ?_; exact kt') ?_
          show Go p e below _ (T74.setTop (mkF m 36 #[.val (.ref ks), .val (.ref qs), .val (.int p2), .val (.int p3), .val (.int p4)] [(.int p2)]))
          refine goOut X74 (fun h => by rw [Bd.returns] at h; cases h) hlk (fun fs hr => retOut X74 hx Bd.returns rfl (Or.inl ⟨rfl, Or.inl rfl, _, rfl⟩) (hb hby d18_36) hr) (by decide) (by decide) ?_
          rw [e74]
          exact ⟨_, _, _, _, rfl, hn, Or.inl ⟨1, own_lt1 hn (Decidable.not_not.mp c20_42), Decidable.not_not.mp c27_58, rfl, rfl, rfl⟩, N74, f76_O, f77_K, f78_P, f79_A_ks, f80_A_qs⟩
    · skip
      refine go (fun t kt' => by refine XS.icmpNo X0.here hx rfl (hb hby d18_8) rfl (teq (Decidable.not_not.mp c8_41)).2 ?_; exact kt') ?_
      show Go p e below _ (s₁.setTop (mkF m 11 #[.val (.ref ks), .val (.ref qs), .val (.int p2), .val (.int p3), .val (.int p4)] []))
      refine go (fun t kt' => by refine XS.aloadN X0.here hx rfl (hb hby d18_11) rfl rfl ?_; exact kt') ?_
      show Go p e below _ (s₁.setTop (mkF m 12 #[.val (.ref ks), .val (.ref qs), .val (.int p2), .val (.int p3), .val (.int p4)] [(.ref qs)]))
      refine go (fun t kt' => by refine XS.iconst X0.here hx rfl (hb hby d18_12) ?_; exact kt') ?_
      show Go p e below _ (s₁.setTop (mkF m 13 #[.val (.ref ks), .val (.ref qs), .val (.int p2), .val (.int p3), .val (.int p4)] [(.int (0 : Int32)), (.ref qs)]))
      refine go (fun t kt' => by refine XS.iload X0.here hx rfl (hb hby d18_13) rfl ?_; exact kt') ?_
      show Go p e below _ (s₁.setTop (mkF m 15 #[.val (.ref ks), .val (.ref qs), .val (.int p2), .val (.int p3), .val (.int p4)] [(.int p4), (.int (0 : Int32)), (.ref qs)]))
      obtain ⟨T81, h81, X81, e81, W81, V81, st81⟩ := stIA X0 hx hZ e0 V_qs (j := (0 : Int32)) (x := p4) ⟨by decide, by decide⟩ (g := (mkF m 15 #[.val (.ref ks), .val (.ref qs), .val (.int p2), .val (.int p3), .val (.int p4)] [(.int p4), (.int (0 : Int32)), (.ref qs)])) rfl rfl (hb hby d18_15)
      have N81 := Fr.snoc X81 N0 g_qs
      have f82_Z := Nat.le_trans Z0 (Keep.of_wr W81).1
      have f83_O := OO.wr W81 g_qs
      have f84_K := K0.wr W81 (Or.inl (List.mem_of_getElem? (i := 1) rfl))
      have f85_P := own_PS.wr P0 W81 (own_okI hw V_qs (by intro q; cases q))
      have f86_A_ks := V_ks.other W81 ne_kq
      have f87_A_qs := V81
      refine go st81 ?_
      show Go p e below _ (T81.setTop (mkF m 16 #[.val (.ref ks), .val (.ref qs), .val (.int p2), .val (.int p3), .val (.int p4)] []))
      refine go (fun t kt' => by refine XS.iloadN X81.here hx rfl (hb hby d18_16) rfl ?_; exact kt') ?_
      show Go p e below _ (T81.setTop (mkF m 17 #[.val (.ref ks), .val (.ref qs), .val (.int p2), .val (.int p3), .val (.int p4)] [(.int p2)]))
      refine goOut X81 (fun h => by rw [Bd.returns] at h; cases h) hlk (fun fs hr => retOut X81 hx Bd.returns rfl (Or.inl ⟨rfl, Or.inl rfl, _, rfl⟩) (hb hby d18_17) hr) (by decide) (by decide) ?_
      rw [e81]
      exact ⟨_, _, _, _, rfl, hn, Or.inl ⟨0, own_lt0 hn (Decidable.not_not.mp c1_1), Decidable.not_not.mp c8_41, rfl, rfl, rfl⟩, N81, f83_O, f84_K, f85_P, f86_A_ks, f87_A_qs⟩
theorem d23_0 : decode method_3_code 0 = .ok (.iload_n 2, 1) := by decide +kernel
theorem d23_1 : decode method_3_code 1 = .ok (.ifCond .le 14, 3) := by decide +kernel
theorem d23_15 : decode method_3_code 15 = .ok (.iload_n 2, 1) := by decide +kernel
theorem d23_16 : decode method_3_code 16 = .ok (.iconst 1, 1) := by decide +kernel
theorem d23_17 : decode method_3_code 17 = .ok (.if_icmp .le 14, 3) := by decide +kernel
theorem d23_31 : decode method_3_code 31 = .ok (.iload_n 2, 1) := by decide +kernel
theorem d23_32 : decode method_3_code 32 = .ok (.iconst 2, 1) := by decide +kernel
theorem d23_33 : decode method_3_code 33 = .ok (.if_icmp .le 14, 3) := by decide +kernel
theorem d23_47 : decode method_3_code 47 = .ok (.iconst (-1), 1) := by decide +kernel
theorem d23_48 : decode method_3_code 48 = .ok (.ireturn, 1) := by decide +kernel
theorem d23_20 : decode method_3_code 20 = .ok (.aload_n 0, 1) := by decide +kernel
theorem d23_21 : decode method_3_code 21 = .ok (.iconst 1, 1) := by decide +kernel
theorem d23_22 : decode method_3_code 22 = .ok (.caload, 1) := by decide +kernel
theorem d23_23 : decode method_3_code 23 = .ok (.iload_n 3, 1) := by decide +kernel
theorem d23_24 : decode method_3_code 24 = .ok (.if_icmp .ne 7, 3) := by decide +kernel
theorem d23_27 : decode method_3_code 27 = .ok (.aload_n 1, 1) := by decide +kernel
theorem d23_28 : decode method_3_code 28 = .ok (.iconst 1, 1) := by decide +kernel
theorem d23_29 : decode method_3_code 29 = .ok (.iaload, 1) := by decide +kernel
theorem d23_30 : decode method_3_code 30 = .ok (.ireturn, 1) := by decide +kernel
theorem d23_4 : decode method_3_code 4 = .ok (.aload_n 0, 1) := by decide +kernel
theorem d23_5 : decode method_3_code 5 = .ok (.iconst 0, 1) := by decide +kernel
theorem d23_6 : decode method_3_code 6 = .ok (.caload, 1) := by decide +kernel
theorem d23_7 : decode method_3_code 7 = .ok (.iload_n 3, 1) := by decide +kernel
theorem d23_8 : decode method_3_code 8 = .ok (.if_icmp .ne 7, 3) := by decide +kernel
theorem d23_11 : decode method_3_code 11 = .ok (.aload_n 1, 1) := by decide +kernel
theorem d23_12 : decode method_3_code 12 = .ok (.iconst 0, 1) := by decide +kernel
theorem d23_13 : decode method_3_code 13 = .ok (.iaload, 1) := by decide +kernel
theorem d23_14 : decode method_3_code 14 = .ok (.ireturn, 1) := by decide +kernel
theorem ef_rm_lo (m : MethodId) (x0 : Addr) (x1 : Addr) (x2 : Int32) (x3 : Int32) : entryFrame m #[(.ref x0), (.ref x1), (.int x2), (.int x3)] 4 = mkF m 0 #[.val (.ref x0), .val (.ref x1), .val (.int x2), .val (.int x3)] [] := by first | (simp [entryFrame, mkF, argsToLocals, Value.category]; done) | rfl
def Q_lo (Z : State) (p3 : Int32) (fk fp : Nat → Int32) (N : Nat) (h0 : Heap) (n0 : Nat) (v : Option Value) (h : Heap) (L : List Loc) : Prop := ∃ r : Int32, v = some (.int r) ∧ own_Lk N fk fp p3 r ∧ Fr n0 L ∧ h = h0
set_option maxRecDepth 65536 in
set_option maxHeartbeats 40000000 in
theorem rm_lo (l : Launch) (Z : State) (a0 : Array Value) (hw : ∀ d ∈ tables_1, d.before a0 Z = true) (ws : List Jvm.Cond) (ks : Addr) (qs : Addr) (p2 : Int32) (p3 : Int32) (cs : Int32) (rd : Addr) (fk fp : Nat → Int32) (N : Nat) (h0 : Heap) (n0 : Nat) (Z0 : n0 ≤ h0.size) (HS : own_sets Z cs rd) (OO : Old Z n0 h0) (V_ks : IA Z h0 ks .char 3 fk) (V_qs : IA Z h0 qs .int 3 fp) (hn : p2.toInt = N) (hN : N ≤ 2) :
    MetFree l (⟨"com/example/casewright/casewright/formats/HashIndexRemoveLastPinLaw", "lookup", "([C[IIC)I"⟩ : MethodName) (head1 (Jvm.Cond.code (⟨"com/example/casewright/casewright/formats/HashIndexRemoveLastPinLaw", "lookup", "([C[IIC)I"⟩ : MethodName) method_3_code 4 (some .int) :: ws) ({ frames := 0, cells := 0, slots := 0, locals := 0 } : Room)) (fun av' U => av' = #[(.ref ks), (.ref qs), (.int p2), (.int p3)] ∧ Z.Warmed39 U.vm ∧ U.heap = h0) (fun _ _ _ _ _ => True) (fun _ U o U' => ∃ v L, o = .returned v ∧ Q_lo Z p3 fk fp N h0 n0 v U'.heap L ∧ FrameEnd U o U' L ({ frames := 0, cells := 0, slots := 0, locals := 0 } : Room).cells ({ frames := 0, cells := 0, slots := 0, locals := 0 } : Room).slots) := by
  refine MetFree.of_bodySF (plainFor_of_name pn_com_example_casewright_casewright_formats_HashIndexRemoveLastPinLaw) hisR ?_
  intro p e s m args below meth c s₁ Bd hml0 hP hK
  obtain ⟨rfl, hZ, hh⟩ := hP
  have hx := Bd.exec
  have hby := Bd.bytes
  have hlk := Bd.notSynchronized
  have hml : c.maxLocals = 4 := hml0
  have hown : s.vm.findClass "com/example/casewright/casewright/formats/HashIndexRemoveLastPinLaw" = some m.cls := findClass_of_methodNamed Bd.named
  have hnm := (name_of_methodNamed Bd.named Bd.method).1
  have X0 : Stand p l e ({ frames := 0, cells := 0, slots := 0, locals := 0 } : Room) s m #[(.ref ks), (.ref qs), (.int p2), (.int p3)] below meth c s₁ [] 0 0 := Stand.of_body Bd
  have e0 : s₁.heap = h0 := by rw [← hh, Bd.state]; rfl
  have N0 := Fr.nil n0
  show Go p e below (Kq s (Q_lo Z p3 fk fp N h0 n0) ({ frames := 0, cells := 0, slots := 0, locals := 0 } : Room).cells ({ frames := 0, cells := 0, slots := 0, locals := 0 } : Room).slots) _
  refine go (fun t kt => castTop (ef_rm_lo m ks qs p2 p3) kt) ?_
  have HS0 := HS
  obtain ⟨S_cs, hcs, S_rd⟩ := HS0
  show Go p e below _ (s₁.setTop (mkF m 0 #[.val (.ref ks), .val (.ref qs), .val (.int p2), .val (.int p3)] []))
  refine go (fun t kt' => by refine XS.iloadN X0.here hx rfl (hb hby d23_0) rfl ?_; exact kt') ?_
  show Go p e below _ (s₁.setTop (mkF m 1 #[.val (.ref ks), .val (.ref qs), .val (.int p2), .val (.int p3)] [(.int p2)]))
  by_cases c1_1 : ¬ (0 : Int32) < p2
  · skip
    refine go (fun t kt' => by refine XS.ifYes X0.here hx rfl (pc0 := 1) (pc' := 15) rfl (hb hby d23_1) rfl ((if0 _ _).trans (flt c1_1).2.2.2) (by decide) (by decide) ?_; exact kt') ?_
    show Go p e below _ (s₁.setTop (mkF m 15 #[.val (.ref ks), .val (.ref qs), .val (.int p2), .val (.int p3)] []))
    refine go (fun t kt' => by refine XS.iloadN X0.here hx rfl (hb hby d23_15) rfl ?_; exact kt') ?_
    show Go p e below _ (s₁.setTop (mkF m 16 #[.val (.ref ks), .val (.ref qs), .val (.int p2), .val (.int p3)] [(.int p2)]))
    refine go (fun t kt' => by refine XS.iconst X0.here hx rfl (hb hby d23_16) ?_; exact kt') ?_
    show Go p e below _ (s₁.setTop (mkF m 17 #[.val (.ref ks), .val (.ref qs), .val (.int p2), .val (.int p3)] [(.int (1 : Int32)), (.int p2)]))
    by_cases c17_2 : ¬ (1 : Int32) < p2
    · skip
      refine go (fun t kt' => by refine XS.icmpYes X0.here hx rfl (pc0 := 17) (pc' := 31) rfl (hb hby d23_17) rfl (flt c17_2).2.2.2 (by decide) (by decide) ?_; exact kt') ?_
      show Go p e below _ (s₁.setTop (mkF m 31 #[.val (.ref ks), .val (.ref qs), .val (.int p2), .val (.int p3)] []))
      refine go (fun t kt' => by refine XS.iloadN X0.here hx rfl (hb hby d23_31) rfl ?_; exact kt') ?_
      show Go p e below _ (s₁.setTop (mkF m 32 #[.val (.ref ks), .val (.ref qs), .val (.int p2), .val (.int p3)] [(.int p2)]))
      refine go (fun t kt' => by refine XS.iconst X0.here hx rfl (hb hby d23_32) ?_; exact kt') ?_
      show Go p e below _ (s₁.setTop (mkF m 33 #[.val (.ref ks), .val (.ref qs), .val (.int p2), .val (.int p3)] [(.int (2 : Int32)), (.int p2)]))
      have c33_3 : ¬ (2 : Int32) < p2 := own_two hn hN
      refine go (fun t kt' => by refine XS.icmpYes X0.here hx rfl (pc0 := 33) (pc' := 47) rfl (hb hby d23_33) rfl (flt c33_3).2.2.2 (by decide) (by decide) ?_; exact kt') ?_
      show Go p e below _ (s₁.setTop (mkF m 47 #[.val (.ref ks), .val (.ref qs), .val (.int p2), .val (.int p3)] []))
      refine go (fun t kt' => by refine XS.iconst X0.here hx rfl (hb hby d23_47) ?_; exact kt') ?_
      show Go p e below _ (s₁.setTop (mkF m 48 #[.val (.ref ks), .val (.ref qs), .val (.int p2), .val (.int p3)] [(.int (-1 : Int32))]))
      refine goOut X0 (fun h => by rw [Bd.returns] at h; cases h) hlk (fun fs hr => retOut X0 hx Bd.returns rfl (Or.inl ⟨rfl, Or.inl rfl, _, rfl⟩) (hb hby d23_48) hr) (by decide) (by decide) ?_
      rw [e0]
      exact ⟨_, rfl, Or.inr ⟨own_none hn hN (Or.inl c1_1) (Or.inl c17_2), rfl⟩, N0, rfl⟩
    · skip
      refine go (fun t kt' => by refine XS.icmpNo X0.here hx rfl (hb hby d23_17) rfl (tlt (Decidable.not_not.mp c17_2)).2.2.2 ?_; exact kt') ?_
      show Go p e below _ (s₁.setTop (mkF m 20 #[.val (.ref ks), .val (.ref qs), .val (.int p2), .val (.int p3)] []))
      refine go (fun t kt' => by refine XS.aloadN X0.here hx rfl (hb hby d23_20) rfl rfl ?_; exact kt') ?_
      show Go p e below _ (s₁.setTop (mkF m 21 #[.val (.ref ks), .val (.ref qs), .val (.int p2), .val (.int p3)] [(.ref ks)]))
      refine go (fun t kt' => by refine XS.iconst X0.here hx rfl (hb hby d23_21) ?_; exact kt') ?_
      show Go p e below _ (s₁.setTop (mkF m 22 #[.val (.ref ks), .val (.ref qs), .val (.int p2), .val (.int p3)] [(.int (1 : Int32)), (.ref ks)]))
      refine go (fun t kt' => by refine ldCA X0 hx hZ e0 V_ks (j := (1 : Int32)) ⟨by decide, by decide⟩ (g := (mkF m 22 #[.val (.ref ks), .val (.ref qs), .val (.int p2), .val (.int p3)] [(.int (1 : Int32)), (.ref ks)])) rfl rfl (hb hby d23_22) t ?_; exact kt') ?_
      show Go p e below _ (s₁.setTop (mkF m 23 #[.val (.ref ks), .val (.ref qs), .val (.int p2), .val (.int p3)] [(.int (fk 1))]))
      refine go (fun t kt' => by refine XS.iloadN X0.here hx rfl (hb hby d23_23) rfl ?_; exact kt') ?_
      show Go p e below _ (s₁.setTop (mkF m 24 #[.val (.ref ks), .val (.ref qs), .val (.int p2), .val (.int p3)] [(.int p3), (.int (fk 1))]))
      by_cases c24_4 : ¬ (fk 1) = p3
      · skip
        refine go (fun t kt' => by refine XS.icmpYes X0.here hx rfl (pc0 := 24) (pc' := 31) rfl (hb hby d23_24) rfl (feq c24_4).2 (by decide) (by decide) ?_; exact kt') ?_
        show Go p e below _ (s₁.setTop (mkF m 31 #[.val (.ref ks), .val (.ref qs), .val (.int p2), .val (.int p3)] []))
        refine go (fun t kt' => by refine XS.iloadN X0.here hx rfl (hb hby d23_31) rfl ?_; exact kt') ?_
        show Go p e below _ (s₁.setTop (mkF m 32 #[.val (.ref ks), .val (.ref qs), .val (.int p2), .val (.int p3)] [(.int p2)]))
        refine go (fun t kt' => by refine XS.iconst X0.here hx rfl (hb hby d23_32) ?_; exact kt') ?_
        show Go p e below _ (s₁.setTop (mkF m 33 #[.val (.ref ks), .val (.ref qs), .val (.int p2), .val (.int p3)] [(.int (2 : Int32)), (.int p2)]))
        have c33_5 : ¬ (2 : Int32) < p2 := own_two hn hN
        refine go (fun t kt' => by refine XS.icmpYes X0.here hx rfl (pc0 := 33) (pc' := 47) rfl (hb hby d23_33) rfl (flt c33_5).2.2.2 (by decide) (by decide) ?_; exact kt') ?_
        show Go p e below _ (s₁.setTop (mkF m 47 #[.val (.ref ks), .val (.ref qs), .val (.int p2), .val (.int p3)] []))
        refine go (fun t kt' => by refine XS.iconst X0.here hx rfl (hb hby d23_47) ?_; exact kt') ?_
        show Go p e below _ (s₁.setTop (mkF m 48 #[.val (.ref ks), .val (.ref qs), .val (.int p2), .val (.int p3)] [(.int (-1 : Int32))]))
        refine goOut X0 (fun h => by rw [Bd.returns] at h; cases h) hlk (fun fs hr => retOut X0 hx Bd.returns rfl (Or.inl ⟨rfl, Or.inl rfl, _, rfl⟩) (hb hby d23_48) hr) (by decide) (by decide) ?_
        rw [e0]
        exact ⟨_, rfl, Or.inr ⟨own_none hn hN (Or.inl c1_1) (Or.inr c24_4), rfl⟩, N0, rfl⟩
      · skip
        refine go (fun t kt' => by refine XS.icmpNo X0.here hx rfl (hb hby d23_24) rfl (teq (Decidable.not_not.mp c24_4)).2 ?_; exact kt') ?_
        show Go p e below _ (s₁.setTop (mkF m 27 #[.val (.ref ks), .val (.ref qs), .val (.int p2), .val (.int p3)] []))
        refine go (fun t kt' => by refine XS.aloadN X0.here hx rfl (hb hby d23_27) rfl rfl ?_; exact kt') ?_
        show Go p e below _ (s₁.setTop (mkF m 28 #[.val (.ref ks), .val (.ref qs), .val (.int p2), .val (.int p3)] [(.ref qs)]))
        refine go (fun t kt' => by refine XS.iconst X0.here hx rfl (hb hby d23_28) ?_; exact kt') ?_
        show Go p e below _ (s₁.setTop (mkF m 29 #[.val (.ref ks), .val (.ref qs), .val (.int p2), .val (.int p3)] [(.int (1 : Int32)), (.ref qs)]))
        refine go (fun t kt' => by refine ldIA X0 hx hZ e0 V_qs (j := (1 : Int32)) ⟨by decide, by decide⟩ (g := (mkF m 29 #[.val (.ref ks), .val (.ref qs), .val (.int p2), .val (.int p3)] [(.int (1 : Int32)), (.ref qs)])) rfl rfl (hb hby d23_29) t ?_; exact kt') ?_
        show Go p e below _ (s₁.setTop (mkF m 30 #[.val (.ref ks), .val (.ref qs), .val (.int p2), .val (.int p3)] [(.int (fp 1))]))
        refine goOut X0 (fun h => by rw [Bd.returns] at h; cases h) hlk (fun fs hr => retOut X0 hx Bd.returns rfl (Or.inl ⟨rfl, Or.inl rfl, _, rfl⟩) (hb hby d23_30) hr) (by decide) (by decide) ?_
        rw [e0]
        exact ⟨_, rfl, Or.inl ⟨1, own_lt1 hn (Decidable.not_not.mp c17_2), Decidable.not_not.mp c24_4, rfl⟩, N0, rfl⟩
  · skip
    refine go (fun t kt' => by refine XS.ifNo X0.here hx rfl (hb hby d23_1) rfl ((if0 _ _).trans (tlt (Decidable.not_not.mp c1_1)).2.2.2) ?_; exact kt') ?_
    show Go p e below _ (s₁.setTop (mkF m 4 #[.val (.ref ks), .val (.ref qs), .val (.int p2), .val (.int p3)] []))
    refine go (fun t kt' => by refine XS.aloadN X0.here hx rfl (hb hby d23_4) rfl rfl ?_; exact kt') ?_
    show Go p e below _ (s₁.setTop (mkF m 5 #[.val (.ref ks), .val (.ref qs), .val (.int p2), .val (.int p3)] [(.ref ks)]))
    refine go (fun t kt' => by refine XS.iconst X0.here hx rfl (hb hby d23_5) ?_; exact kt') ?_
    show Go p e below _ (s₁.setTop (mkF m 6 #[.val (.ref ks), .val (.ref qs), .val (.int p2), .val (.int p3)] [(.int (0 : Int32)), (.ref ks)]))
    refine go (fun t kt' => by refine ldCA X0 hx hZ e0 V_ks (j := (0 : Int32)) ⟨by decide, by decide⟩ (g := (mkF m 6 #[.val (.ref ks), .val (.ref qs), .val (.int p2), .val (.int p3)] [(.int (0 : Int32)), (.ref ks)])) rfl rfl (hb hby d23_6) t ?_; exact kt') ?_
    show Go p e below _ (s₁.setTop (mkF m 7 #[.val (.ref ks), .val (.ref qs), .val (.int p2), .val (.int p3)] [(.int (fk 0))]))
    refine go (fun t kt' => by refine XS.iloadN X0.here hx rfl (hb hby d23_7) rfl ?_; exact kt') ?_
    show Go p e below _ (s₁.setTop (mkF m 8 #[.val (.ref ks), .val (.ref qs), .val (.int p2), .val (.int p3)] [(.int p3), (.int (fk 0))]))
    by_cases c8_6 : ¬ (fk 0) = p3
    · skip
      refine go (fun t kt' => by refine XS.icmpYes X0.here hx rfl (pc0 := 8) (pc' := 15) rfl (hb hby d23_8) rfl (feq c8_6).2 (by decide) (by decide) ?_; exact kt') ?_
      show Go p e below _ (s₁.setTop (mkF m 15 #[.val (.ref ks), .val (.ref qs), .val (.int p2), .val (.int p3)] []))
      refine go (fun t kt' => by refine XS.iloadN X0.here hx rfl (hb hby d23_15) rfl ?_; exact kt') ?_
      show Go p e below _ (s₁.setTop (mkF m 16 #[.val (.ref ks), .val (.ref qs), .val (.int p2), .val (.int p3)] [(.int p2)]))
      refine go (fun t kt' => by refine XS.iconst X0.here hx rfl (hb hby d23_16) ?_; exact kt') ?_
      show Go p e below _ (s₁.setTop (mkF m 17 #[.val (.ref ks), .val (.ref qs), .val (.int p2), .val (.int p3)] [(.int (1 : Int32)), (.int p2)]))
      by_cases c17_7 : ¬ (1 : Int32) < p2
      · skip
        refine go (fun t kt' => by refine XS.icmpYes X0.here hx rfl (pc0 := 17) (pc' := 31) rfl (hb hby d23_17) rfl (flt c17_7).2.2.2 (by decide) (by decide) ?_; exact kt') ?_
        show Go p e below _ (s₁.setTop (mkF m 31 #[.val (.ref ks), .val (.ref qs), .val (.int p2), .val (.int p3)] []))
        refine go (fun t kt' => by refine XS.iloadN X0.here hx rfl (hb hby d23_31) rfl ?_; exact kt') ?_
        show Go p e below _ (s₁.setTop (mkF m 32 #[.val (.ref ks), .val (.ref qs), .val (.int p2), .val (.int p3)] [(.int p2)]))
        refine go (fun t kt' => by refine XS.iconst X0.here hx rfl (hb hby d23_32) ?_; exact kt') ?_
        show Go p e below _ (s₁.setTop (mkF m 33 #[.val (.ref ks), .val (.ref qs), .val (.int p2), .val (.int p3)] [(.int (2 : Int32)), (.int p2)]))
        have c33_8 : ¬ (2 : Int32) < p2 := own_two hn hN
        refine go (fun t kt' => by refine XS.icmpYes X0.here hx rfl (pc0 := 33) (pc' := 47) rfl (hb hby d23_33) rfl (flt c33_8).2.2.2 (by decide) (by decide) ?_; exact kt') ?_
        show Go p e below _ (s₁.setTop (mkF m 47 #[.val (.ref ks), .val (.ref qs), .val (.int p2), .val (.int p3)] []))
        refine go (fun t kt' => by refine XS.iconst X0.here hx rfl (hb hby d23_47) ?_; exact kt') ?_
        show Go p e below _ (s₁.setTop (mkF m 48 #[.val (.ref ks), .val (.ref qs), .val (.int p2), .val (.int p3)] [(.int (-1 : Int32))]))
        refine goOut X0 (fun h => by rw [Bd.returns] at h; cases h) hlk (fun fs hr => retOut X0 hx Bd.returns rfl (Or.inl ⟨rfl, Or.inl rfl, _, rfl⟩) (hb hby d23_48) hr) (by decide) (by decide) ?_
        rw [e0]
        exact ⟨_, rfl, Or.inr ⟨own_none hn hN (Or.inr c8_6) (Or.inl c17_7), rfl⟩, N0, rfl⟩
      · skip
        refine go (fun t kt' => by refine XS.icmpNo X0.here hx rfl (hb hby d23_17) rfl (tlt (Decidable.not_not.mp c17_7)).2.2.2 ?_; exact kt') ?_
        show Go p e below _ (s₁.setTop (mkF m 20 #[.val (.ref ks), .val (.ref qs), .val (.int p2), .val (.int p3)] []))
        refine go (fun t kt' => by refine XS.aloadN X0.here hx rfl (hb hby d23_20) rfl rfl ?_; exact kt') ?_
        show Go p e below _ (s₁.setTop (mkF m 21 #[.val (.ref ks), .val (.ref qs), .val (.int p2), .val (.int p3)] [(.ref ks)]))
        refine go (fun t kt' => by refine XS.iconst X0.here hx rfl (hb hby d23_21) ?_; exact kt') ?_
        show Go p e below _ (s₁.setTop (mkF m 22 #[.val (.ref ks), .val (.ref qs), .val (.int p2), .val (.int p3)] [(.int (1 : Int32)), (.ref ks)]))
        refine go (fun t kt' => by refine ldCA X0 hx hZ e0 V_ks (j := (1 : Int32)) ⟨by decide, by decide⟩ (g := (mkF m 22 #[.val (.ref ks), .val (.ref qs), .val (.int p2), .val (.int p3)] [(.int (1 : Int32)), (.ref ks)])) rfl rfl (hb hby d23_22) t ?_; exact kt') ?_
        show Go p e below _ (s₁.setTop (mkF m 23 #[.val (.ref ks), .val (.ref qs), .val (.int p2), .val (.int p3)] [(.int (fk 1))]))
        refine go (fun t kt' => by refine XS.iloadN X0.here hx rfl (hb hby d23_23) rfl ?_; exact kt') ?_
        show Go p e below _ (s₁.setTop (mkF m 24 #[.val (.ref ks), .val (.ref qs), .val (.int p2), .val (.int p3)] [(.int p3), (.int (fk 1))]))
        by_cases c24_9 : ¬ (fk 1) = p3
        · skip
          refine go (fun t kt' => by refine XS.icmpYes X0.here hx rfl (pc0 := 24) (pc' := 31) rfl (hb hby d23_24) rfl (feq c24_9).2 (by decide) (by decide) ?_; exact kt') ?_
          show Go p e below _ (s₁.setTop (mkF m 31 #[.val (.ref ks), .val (.ref qs), .val (.int p2), .val (.int p3)] []))
          refine go (fun t kt' => by refine XS.iloadN X0.here hx rfl (hb hby d23_31) rfl ?_; exact kt') ?_
          show Go p e below _ (s₁.setTop (mkF m 32 #[.val (.ref ks), .val (.ref qs), .val (.int p2), .val (.int p3)] [(.int p2)]))
          refine go (fun t kt' => by refine XS.iconst X0.here hx rfl (hb hby d23_32) ?_; exact kt') ?_
          show Go p e below _ (s₁.setTop (mkF m 33 #[.val (.ref ks), .val (.ref qs), .val (.int p2), .val (.int p3)] [(.int (2 : Int32)), (.int p2)]))
          have c33_10 : ¬ (2 : Int32) < p2 := own_two hn hN
          refine go (fun t kt' => by refine XS.icmpYes X0.here hx rfl (pc0 := 33) (pc' := 47) rfl (hb hby d23_33) rfl (flt c33_10).2.2.2 (by decide) (by decide) ?_; exact kt') ?_
          show Go p e below _ (s₁.setTop (mkF m 47 #[.val (.ref ks), .val (.ref qs), .val (.int p2), .val (.int p3)] []))
          refine go (fun t kt' => by refine XS.iconst X0.here hx rfl (hb hby d23_47) ?_; exact kt') ?_
          show Go p e below _ (s₁.setTop (mkF m 48 #[.val (.ref ks), .val (.ref qs), .val (.int p2), .val (.int p3)] [(.int (-1 : Int32))]))
          refine goOut X0 (fun h => by rw [Bd.returns] at h; cases h) hlk (fun fs hr => retOut X0 hx Bd.returns rfl (Or.inl ⟨rfl, Or.inl rfl, _, rfl⟩) (hb hby d23_48) hr) (by decide) (by decide) ?_
          rw [e0]
          exact ⟨_, rfl, Or.inr ⟨own_none hn hN (Or.inr c8_6) (Or.inr c24_9), rfl⟩, N0, rfl⟩
        · skip
          refine go (fun t kt' => by refine XS.icmpNo X0.here hx rfl (hb hby d23_24) rfl (teq (Decidable.not_not.mp c24_9)).2 ?_; exact kt') ?_
          show Go p e below _ (s₁.setTop (mkF m 27 #[.val (.ref ks), .val (.ref qs), .val (.int p2), .val (.int p3)] []))
          refine go (fun t kt' => by refine XS.aloadN X0.here hx rfl (hb hby d23_27) rfl rfl ?_; exact kt') ?_
          show Go p e below _ (s₁.setTop (mkF m 28 #[.val (.ref ks), .val (.ref qs), .val (.int p2), .val (.int p3)] [(.ref qs)]))
          refine go (fun t kt' => by refine XS.iconst X0.here hx rfl (hb hby d23_28) ?_; exact kt') ?_
          show Go p e below _ (s₁.setTop (mkF m 29 #[.val (.ref ks), .val (.ref qs), .val (.int p2), .val (.int p3)] [(.int (1 : Int32)), (.ref qs)]))
          refine go (fun t kt' => by refine ldIA X0 hx hZ e0 V_qs (j := (1 : Int32)) ⟨by decide, by decide⟩ (g := (mkF m 29 #[.val (.ref ks), .val (.ref qs), .val (.int p2), .val (.int p3)] [(.int (1 : Int32)), (.ref qs)])) rfl rfl (hb hby d23_29) t ?_; exact kt') ?_
          show Go p e below _ (s₁.setTop (mkF m 30 #[.val (.ref ks), .val (.ref qs), .val (.int p2), .val (.int p3)] [(.int (fp 1))]))
          refine goOut X0 (fun h => by rw [Bd.returns] at h; cases h) hlk (fun fs hr => retOut X0 hx Bd.returns rfl (Or.inl ⟨rfl, Or.inl rfl, _, rfl⟩) (hb hby d23_30) hr) (by decide) (by decide) ?_
          rw [e0]
          exact ⟨_, rfl, Or.inl ⟨1, own_lt1 hn (Decidable.not_not.mp c17_7), Decidable.not_not.mp c24_9, rfl⟩, N0, rfl⟩
    · skip
      refine go (fun t kt' => by refine XS.icmpNo X0.here hx rfl (hb hby d23_8) rfl (teq (Decidable.not_not.mp c8_6)).2 ?_; exact kt') ?_
      show Go p e below _ (s₁.setTop (mkF m 11 #[.val (.ref ks), .val (.ref qs), .val (.int p2), .val (.int p3)] []))
      refine go (fun t kt' => by refine XS.aloadN X0.here hx rfl (hb hby d23_11) rfl rfl ?_; exact kt') ?_
      show Go p e below _ (s₁.setTop (mkF m 12 #[.val (.ref ks), .val (.ref qs), .val (.int p2), .val (.int p3)] [(.ref qs)]))
      refine go (fun t kt' => by refine XS.iconst X0.here hx rfl (hb hby d23_12) ?_; exact kt') ?_
      show Go p e below _ (s₁.setTop (mkF m 13 #[.val (.ref ks), .val (.ref qs), .val (.int p2), .val (.int p3)] [(.int (0 : Int32)), (.ref qs)]))
      refine go (fun t kt' => by refine ldIA X0 hx hZ e0 V_qs (j := (0 : Int32)) ⟨by decide, by decide⟩ (g := (mkF m 13 #[.val (.ref ks), .val (.ref qs), .val (.int p2), .val (.int p3)] [(.int (0 : Int32)), (.ref qs)])) rfl rfl (hb hby d23_13) t ?_; exact kt') ?_
      show Go p e below _ (s₁.setTop (mkF m 14 #[.val (.ref ks), .val (.ref qs), .val (.int p2), .val (.int p3)] [(.int (fp 0))]))
      refine goOut X0 (fun h => by rw [Bd.returns] at h; cases h) hlk (fun fs hr => retOut X0 hx Bd.returns rfl (Or.inl ⟨rfl, Or.inl rfl, _, rfl⟩) (hb hby d23_14) hr) (by decide) (by decide) ?_
      rw [e0]
      exact ⟨_, rfl, Or.inl ⟨0, own_lt0 hn (Decidable.not_not.mp c1_1), Decidable.not_not.mp c8_6, rfl⟩, N0, rfl⟩
theorem own_z0 : (0 : Int32).toInt = ((0 : Nat) : Int) := rfl
theorem pd_15 : parseMethodDescriptor "(C)Ljava/lang/String;" = some ⟨[.char], some (.object "java/lang/String")⟩ := by decide +kernel
theorem pd_16 : parseMethodDescriptor "()V" = some ⟨[], none⟩ := by decide +kernel
theorem pd_17 : parseMethodDescriptor "(ILjava/lang/String;)I" = some ⟨[.int, (.object "java/lang/String")], some .int⟩ := by decide +kernel
theorem pd_18 : parseMethodDescriptor "([C[IICI)I" = some ⟨[(.array .char), (.array .int), .int, .char, .int], some .int⟩ := by decide +kernel
theorem pd_19 : parseMethodDescriptor "(Ljava/lang/String;)I" = some ⟨[(.object "java/lang/String")], some .int⟩ := by decide +kernel
theorem pd_20 : parseMethodDescriptor "([C[IIC)I" = some ⟨[(.array .char), (.array .int), .int, .char], some .int⟩ := by decide +kernel
theorem ef_rm0 (m : MethodId) (x0 : Int32) (x1 : Int32) (x2 : Int32) (x3 : Int32) (x4 : Int32) : entryFrame m #[(.int x0), (.int x1), (.int x2), (.int x3), (.int x4)] maxLocals = mkF m 0 #[.val (.int x0), .val (.int x1), .val (.int x2), .val (.int x3), .val (.int x4), .unset, .unset, .unset, .unset, .unset, .unset, .unset, .unset, .unset, .unset, .unset, .unset, .unset, .unset, .unset, .unset, .unset, .unset, .unset, .unset] [] := by first | (simp [entryFrame, mkF, argsToLocals, Value.category, maxLocals]; done) | rfl
def Q0 (Z : State) (h0 : Heap) (n0 : Nat) (v : Option Value) (h : Heap) (L : List Loc) : Prop := v = some (.int 1) ∧ Fr n0 L
set_option maxRecDepth 65536 in
set_option maxHeartbeats 40000000 in
theorem rm0 (l : Launch) (Z : State) (a0 : Array Value) (hw : ∀ d ∈ tables_1, d.before a0 Z = true) (ws : List Jvm.Cond) (p0 : Int32) (p1 : Int32) (p2 : Int32) (p3 : Int32) (p4 : Int32) (cs : Int32) (rd : Addr) (h0 : Heap) (n0 : Nat) (Z0 : n0 ≤ h0.size) (HS : own_sets Z cs rd) (OO : Old Z n0 h0) :
    MetFree l x (head1 (Jvm.Cond.code x code maxLocals ret :: ws) room_1) (fun av' U => av' = #[(.int p0), (.int p1), (.int p2), (.int p3), (.int p4)] ∧ Z.Warmed39 U.vm ∧ U.heap = h0) (fun _ _ _ _ _ => True) (fun _ U o U' => ∃ v L, o = .returned v ∧ Q0 Z  h0 n0 v U'.heap L ∧ FrameEnd U o U' L room_1.cells room_1.slots) := by
  refine MetFree.of_bodySF (plainFor_of_name pn_com_example_casewright_casewright_formats_HashIndexRemoveLastPinLaw) hisR ?_
  intro p e s m args below meth c s₁ Bd hml0 hP hK
  obtain ⟨rfl, hZ, hh⟩ := hP
  have hx := Bd.exec
  have hby := Bd.bytes
  have hlk := Bd.notSynchronized
  have hml : c.maxLocals = 25 := hml0
  have hown : s.vm.findClass "com/example/casewright/casewright/formats/HashIndexRemoveLastPinLaw" = some m.cls := findClass_of_methodNamed Bd.named
  have hnm := (name_of_methodNamed Bd.named Bd.method).1
  have X0 : Stand p l e room_1 s m #[(.int p0), (.int p1), (.int p2), (.int p3), (.int p4)] below meth c s₁ [] 0 0 := Stand.of_body Bd
  have e0 : s₁.heap = h0 := by rw [← hh, Bd.state]; rfl
  have N0 := Fr.nil n0
  show Go p e below (Kq s (Q0 Z  h0 n0) room_1.cells room_1.slots) _
  refine go (fun t kt => castTop (ef_rm0 m p0 p1 p2 p3 p4) kt) ?_
  have HS0 := HS
  obtain ⟨S_cs, hcs, S_rd⟩ := HS0
  show Go p e below _ (s₁.setTop (mkF m 0 #[.val (.int p0), .val (.int p1), .val (.int p2), .val (.int p3), .val (.int p4), .unset, .unset, .unset, .unset, .unset, .unset, .unset, .unset, .unset, .unset, .unset, .unset, .unset, .unset, .unset, .unset, .unset, .unset, .unset, .unset] []))
  refine go (fun t kt' => by refine XS.iloadN X0.here hx rfl (hb hby at_0) rfl ?_; exact kt') ?_
  show Go p e below _ (s₁.setTop (mkF m 1 #[.val (.int p0), .val (.int p1), .val (.int p2), .val (.int p3), .val (.int p4), .unset, .unset, .unset, .unset, .unset, .unset, .unset, .unset, .unset, .unset, .unset, .unset, .unset, .unset, .unset, .unset, .unset, .unset, .unset, .unset] [(.int p0)]))
  refine go (fun t kt' => by refine XS.sipush X0.here hx rfl (hb hby at_1) ?_; exact kt') ?_
  show Go p e below _ (s₁.setTop (mkF m 4 #[.val (.int p0), .val (.int p1), .val (.int p2), .val (.int p3), .val (.int p4), .unset, .unset, .unset, .unset, .unset, .unset, .unset, .unset, .unset, .unset, .unset, .unset, .unset, .unset, .unset, .unset, .unset, .unset, .unset, .unset] [(.int (255 : Int32)), (.int p0)]))
  refine go (fun t kt' => by refine XS.iand X0.here hx rfl (hb hby at_4) rfl ?_; exact kt') ?_
  show Go p e below _ (s₁.setTop (mkF m 5 #[.val (.int p0), .val (.int p1), .val (.int p2), .val (.int p3), .val (.int p4), .unset, .unset, .unset, .unset, .unset, .unset, .unset, .unset, .unset, .unset, .unset, .unset, .unset, .unset, .unset, .unset, .unset, .unset, .unset, .unset] [(.int (p0 &&& (255 : Int32)))]))
  refine go (fun t kt' => by refine XS.i2c X0.here hx rfl (hb hby at_5) rfl ?_; exact kt') ?_
  show Go p e below _ (s₁.setTop (mkF m 6 #[.val (.int p0), .val (.int p1), .val (.int p2), .val (.int p3), .val (.int p4), .unset, .unset, .unset, .unset, .unset, .unset, .unset, .unset, .unset, .unset, .unset, .unset, .unset, .unset, .unset, .unset, .unset, .unset, .unset, .unset] [(.int ((p0 &&& (255 : Int32)).toUInt32.toUInt16.toUInt32.toInt32))]))
  refine go (fun t kt' => by refine XS.istore X0.here hx rfl (hb hby at_6) rfl (l' := #[.val (.int p0), .val (.int p1), .val (.int p2), .val (.int p3), .val (.int p4), .val (.int ((p0 &&& (255 : Int32)).toUInt32.toUInt16.toUInt32.toInt32)), .unset, .unset, .unset, .unset, .unset, .unset, .unset, .unset, .unset, .unset, .unset, .unset, .unset, .unset, .unset, .unset, .unset, .unset, .unset]) rfl ?_; exact kt') ?_
  show Go p e below _ (s₁.setTop (mkF m 8 #[.val (.int p0), .val (.int p1), .val (.int p2), .val (.int p3), .val (.int p4), .val (.int ((p0 &&& (255 : Int32)).toUInt32.toUInt16.toUInt32.toInt32)), .unset, .unset, .unset, .unset, .unset, .unset, .unset, .unset, .unset, .unset, .unset, .unset, .unset, .unset, .unset, .unset, .unset, .unset, .unset] []))
  generalize hc1 : ((p0 &&& (255 : Int32)).toUInt32.toUInt16.toUInt32.toInt32) = c1
  show Go p e below _ (s₁.setTop (mkF m 8 #[.val (.int p0), .val (.int p1), .val (.int p2), .val (.int p3), .val (.int p4), .val (.int c1), .unset, .unset, .unset, .unset, .unset, .unset, .unset, .unset, .unset, .unset, .unset, .unset, .unset, .unset, .unset, .unset, .unset, .unset, .unset] []))
  have rc1 := (show 0 ≤ c1.toInt ∧ c1.toInt < 256 from hc1 ▸ own_c255 _)
  refine go (fun t kt' => by refine XS.iloadN X0.here hx rfl (hb hby at_8) rfl ?_; exact kt') ?_
  show Go p e below _ (s₁.setTop (mkF m 9 #[.val (.int p0), .val (.int p1), .val (.int p2), .val (.int p3), .val (.int p4), .val (.int c1), .unset, .unset, .unset, .unset, .unset, .unset, .unset, .unset, .unset, .unset, .unset, .unset, .unset, .unset, .unset, .unset, .unset, .unset, .unset] [(.int p1)]))
  refine go (fun t kt' => by refine XS.sipush X0.here hx rfl (hb hby at_9) ?_; exact kt') ?_
  show Go p e below _ (s₁.setTop (mkF m 12 #[.val (.int p0), .val (.int p1), .val (.int p2), .val (.int p3), .val (.int p4), .val (.int c1), .unset, .unset, .unset, .unset, .unset, .unset, .unset, .unset, .unset, .unset, .unset, .unset, .unset, .unset, .unset, .unset, .unset, .unset, .unset] [(.int (255 : Int32)), (.int p1)]))
  refine go (fun t kt' => by refine XS.iand X0.here hx rfl (hb hby at_12) rfl ?_; exact kt') ?_
  show Go p e below _ (s₁.setTop (mkF m 13 #[.val (.int p0), .val (.int p1), .val (.int p2), .val (.int p3), .val (.int p4), .val (.int c1), .unset, .unset, .unset, .unset, .unset, .unset, .unset, .unset, .unset, .unset, .unset, .unset, .unset, .unset, .unset, .unset, .unset, .unset, .unset] [(.int (p1 &&& (255 : Int32)))]))
  refine go (fun t kt' => by refine XS.i2c X0.here hx rfl (hb hby at_13) rfl ?_; exact kt') ?_
  show Go p e below _ (s₁.setTop (mkF m 14 #[.val (.int p0), .val (.int p1), .val (.int p2), .val (.int p3), .val (.int p4), .val (.int c1), .unset, .unset, .unset, .unset, .unset, .unset, .unset, .unset, .unset, .unset, .unset, .unset, .unset, .unset, .unset, .unset, .unset, .unset, .unset] [(.int ((p1 &&& (255 : Int32)).toUInt32.toUInt16.toUInt32.toInt32))]))
  refine go (fun t kt' => by refine XS.istore X0.here hx rfl (hb hby at_14) rfl (l' := #[.val (.int p0), .val (.int p1), .val (.int p2), .val (.int p3), .val (.int p4), .val (.int c1), .val (.int ((p1 &&& (255 : Int32)).toUInt32.toUInt16.toUInt32.toInt32)), .unset, .unset, .unset, .unset, .unset, .unset, .unset, .unset, .unset, .unset, .unset, .unset, .unset, .unset, .unset, .unset, .unset, .unset]) rfl ?_; exact kt') ?_
  show Go p e below _ (s₁.setTop (mkF m 16 #[.val (.int p0), .val (.int p1), .val (.int p2), .val (.int p3), .val (.int p4), .val (.int c1), .val (.int ((p1 &&& (255 : Int32)).toUInt32.toUInt16.toUInt32.toInt32)), .unset, .unset, .unset, .unset, .unset, .unset, .unset, .unset, .unset, .unset, .unset, .unset, .unset, .unset, .unset, .unset, .unset, .unset] []))
  generalize hc2 : ((p1 &&& (255 : Int32)).toUInt32.toUInt16.toUInt32.toInt32) = c2
  show Go p e below _ (s₁.setTop (mkF m 16 #[.val (.int p0), .val (.int p1), .val (.int p2), .val (.int p3), .val (.int p4), .val (.int c1), .val (.int c2), .unset, .unset, .unset, .unset, .unset, .unset, .unset, .unset, .unset, .unset, .unset, .unset, .unset, .unset, .unset, .unset, .unset, .unset] []))
  have rc2 := (show 0 ≤ c2.toInt ∧ c2.toInt < 256 from hc2 ▸ own_c255 _)
  refine go (fun t kt' => by refine XS.iloadN X0.here hx rfl (hb hby at_16) rfl ?_; exact kt') ?_
  show Go p e below _ (s₁.setTop (mkF m 17 #[.val (.int p0), .val (.int p1), .val (.int p2), .val (.int p3), .val (.int p4), .val (.int c1), .val (.int c2), .unset, .unset, .unset, .unset, .unset, .unset, .unset, .unset, .unset, .unset, .unset, .unset, .unset, .unset, .unset, .unset, .unset, .unset] [(.int p2)]))
  refine go (fun t kt' => by refine XS.sipush X0.here hx rfl (hb hby at_17) ?_; exact kt') ?_
  show Go p e below _ (s₁.setTop (mkF m 20 #[.val (.int p0), .val (.int p1), .val (.int p2), .val (.int p3), .val (.int p4), .val (.int c1), .val (.int c2), .unset, .unset, .unset, .unset, .unset, .unset, .unset, .unset, .unset, .unset, .unset, .unset, .unset, .unset, .unset, .unset, .unset, .unset] [(.int (255 : Int32)), (.int p2)]))
  refine go (fun t kt' => by refine XS.iand X0.here hx rfl (hb hby at_20) rfl ?_; exact kt') ?_
  show Go p e below _ (s₁.setTop (mkF m 21 #[.val (.int p0), .val (.int p1), .val (.int p2), .val (.int p3), .val (.int p4), .val (.int c1), .val (.int c2), .unset, .unset, .unset, .unset, .unset, .unset, .unset, .unset, .unset, .unset, .unset, .unset, .unset, .unset, .unset, .unset, .unset, .unset] [(.int (p2 &&& (255 : Int32)))]))
  refine go (fun t kt' => by refine XS.i2c X0.here hx rfl (hb hby at_21) rfl ?_; exact kt') ?_
  show Go p e below _ (s₁.setTop (mkF m 22 #[.val (.int p0), .val (.int p1), .val (.int p2), .val (.int p3), .val (.int p4), .val (.int c1), .val (.int c2), .unset, .unset, .unset, .unset, .unset, .unset, .unset, .unset, .unset, .unset, .unset, .unset, .unset, .unset, .unset, .unset, .unset, .unset] [(.int ((p2 &&& (255 : Int32)).toUInt32.toUInt16.toUInt32.toInt32))]))
  refine go (fun t kt' => by refine XS.istore X0.here hx rfl (hb hby at_22) rfl (l' := #[.val (.int p0), .val (.int p1), .val (.int p2), .val (.int p3), .val (.int p4), .val (.int c1), .val (.int c2), .val (.int ((p2 &&& (255 : Int32)).toUInt32.toUInt16.toUInt32.toInt32)), .unset, .unset, .unset, .unset, .unset, .unset, .unset, .unset, .unset, .unset, .unset, .unset, .unset, .unset, .unset, .unset, .unset]) rfl ?_; exact kt') ?_
  show Go p e below _ (s₁.setTop (mkF m 24 #[.val (.int p0), .val (.int p1), .val (.int p2), .val (.int p3), .val (.int p4), .val (.int c1), .val (.int c2), .val (.int ((p2 &&& (255 : Int32)).toUInt32.toUInt16.toUInt32.toInt32)), .unset, .unset, .unset, .unset, .unset, .unset, .unset, .unset, .unset, .unset, .unset, .unset, .unset, .unset, .unset, .unset, .unset] []))
  generalize hc3 : ((p2 &&& (255 : Int32)).toUInt32.toUInt16.toUInt32.toInt32) = c3
  show Go p e below _ (s₁.setTop (mkF m 24 #[.val (.int p0), .val (.int p1), .val (.int p2), .val (.int p3), .val (.int p4), .val (.int c1), .val (.int c2), .val (.int c3), .unset, .unset, .unset, .unset, .unset, .unset, .unset, .unset, .unset, .unset, .unset, .unset, .unset, .unset, .unset, .unset, .unset] []))
  have rc3 := (show 0 ≤ c3.toInt ∧ c3.toInt < 256 from hc3 ▸ own_c255 _)
  refine go (fun t kt' => by refine XS.iloadN X0.here hx rfl (hb hby at_24) rfl ?_; exact kt') ?_
  show Go p e below _ (s₁.setTop (mkF m 25 #[.val (.int p0), .val (.int p1), .val (.int p2), .val (.int p3), .val (.int p4), .val (.int c1), .val (.int c2), .val (.int c3), .unset, .unset, .unset, .unset, .unset, .unset, .unset, .unset, .unset, .unset, .unset, .unset, .unset, .unset, .unset, .unset, .unset] [(.int p3)]))
  refine go (fun t kt' => by refine XS.sipush X0.here hx rfl (hb hby at_25) ?_; exact kt') ?_
  show Go p e below _ (s₁.setTop (mkF m 28 #[.val (.int p0), .val (.int p1), .val (.int p2), .val (.int p3), .val (.int p4), .val (.int c1), .val (.int c2), .val (.int c3), .unset, .unset, .unset, .unset, .unset, .unset, .unset, .unset, .unset, .unset, .unset, .unset, .unset, .unset, .unset, .unset, .unset] [(.int (255 : Int32)), (.int p3)]))
  refine go (fun t kt' => by refine XS.iand X0.here hx rfl (hb hby at_28) rfl ?_; exact kt') ?_
  show Go p e below _ (s₁.setTop (mkF m 29 #[.val (.int p0), .val (.int p1), .val (.int p2), .val (.int p3), .val (.int p4), .val (.int c1), .val (.int c2), .val (.int c3), .unset, .unset, .unset, .unset, .unset, .unset, .unset, .unset, .unset, .unset, .unset, .unset, .unset, .unset, .unset, .unset, .unset] [(.int (p3 &&& (255 : Int32)))]))
  refine go (fun t kt' => by refine XS.i2c X0.here hx rfl (hb hby at_29) rfl ?_; exact kt') ?_
  show Go p e below _ (s₁.setTop (mkF m 30 #[.val (.int p0), .val (.int p1), .val (.int p2), .val (.int p3), .val (.int p4), .val (.int c1), .val (.int c2), .val (.int c3), .unset, .unset, .unset, .unset, .unset, .unset, .unset, .unset, .unset, .unset, .unset, .unset, .unset, .unset, .unset, .unset, .unset] [(.int ((p3 &&& (255 : Int32)).toUInt32.toUInt16.toUInt32.toInt32))]))
  refine go (fun t kt' => by refine XS.istore X0.here hx rfl (hb hby at_30) rfl (l' := #[.val (.int p0), .val (.int p1), .val (.int p2), .val (.int p3), .val (.int p4), .val (.int c1), .val (.int c2), .val (.int c3), .val (.int ((p3 &&& (255 : Int32)).toUInt32.toUInt16.toUInt32.toInt32)), .unset, .unset, .unset, .unset, .unset, .unset, .unset, .unset, .unset, .unset, .unset, .unset, .unset, .unset, .unset, .unset]) rfl ?_; exact kt') ?_
  show Go p e below _ (s₁.setTop (mkF m 32 #[.val (.int p0), .val (.int p1), .val (.int p2), .val (.int p3), .val (.int p4), .val (.int c1), .val (.int c2), .val (.int c3), .val (.int ((p3 &&& (255 : Int32)).toUInt32.toUInt16.toUInt32.toInt32)), .unset, .unset, .unset, .unset, .unset, .unset, .unset, .unset, .unset, .unset, .unset, .unset, .unset, .unset, .unset, .unset] []))
  generalize hc4 : ((p3 &&& (255 : Int32)).toUInt32.toUInt16.toUInt32.toInt32) = c4
  show Go p e below _ (s₁.setTop (mkF m 32 #[.val (.int p0), .val (.int p1), .val (.int p2), .val (.int p3), .val (.int p4), .val (.int c1), .val (.int c2), .val (.int c3), .val (.int c4), .unset, .unset, .unset, .unset, .unset, .unset, .unset, .unset, .unset, .unset, .unset, .unset, .unset, .unset, .unset, .unset] []))
  have rc4 := (show 0 ≤ c4.toInt ∧ c4.toInt < 256 from hc4 ▸ own_c255 _)
  refine go (fun t kt' => by refine XS.iloadN X0.here hx rfl (hb hby at_32) rfl ?_; exact kt') ?_
  show Go p e below _ (s₁.setTop (mkF m 33 #[.val (.int p0), .val (.int p1), .val (.int p2), .val (.int p3), .val (.int p4), .val (.int c1), .val (.int c2), .val (.int c3), .val (.int c4), .unset, .unset, .unset, .unset, .unset, .unset, .unset, .unset, .unset, .unset, .unset, .unset, .unset, .unset, .unset, .unset] [(.int p0)]))
  refine go (fun t kt' => by refine XS.bipush X0.here hx rfl (hb hby at_33) ?_; exact kt') ?_
  show Go p e below _ (s₁.setTop (mkF m 35 #[.val (.int p0), .val (.int p1), .val (.int p2), .val (.int p3), .val (.int p4), .val (.int c1), .val (.int c2), .val (.int c3), .val (.int c4), .unset, .unset, .unset, .unset, .unset, .unset, .unset, .unset, .unset, .unset, .unset, .unset, .unset, .unset, .unset, .unset] [(.int (8 : Int32)), (.int p0)]))
  refine go (fun t kt' => by refine XS.iushr X0.here hx rfl (hb hby at_35) rfl ?_; exact kt') ?_
  show Go p e below _ (s₁.setTop (mkF m 36 #[.val (.int p0), .val (.int p1), .val (.int p2), .val (.int p3), .val (.int p4), .val (.int c1), .val (.int c2), .val (.int c3), .val (.int c4), .unset, .unset, .unset, .unset, .unset, .unset, .unset, .unset, .unset, .unset, .unset, .unset, .unset, .unset, .unset, .unset] [(.int ((p0.toUInt32 >>> ((8 : Int32) &&& 31).toUInt32).toInt32))]))
  refine go (fun t kt' => by refine XS.istore X0.here hx rfl (hb hby at_36) rfl (l' := #[.val (.int p0), .val (.int p1), .val (.int p2), .val (.int p3), .val (.int p4), .val (.int c1), .val (.int c2), .val (.int c3), .val (.int c4), .val (.int ((p0.toUInt32 >>> ((8 : Int32) &&& 31).toUInt32).toInt32)), .unset, .unset, .unset, .unset, .unset, .unset, .unset, .unset, .unset, .unset, .unset, .unset, .unset, .unset, .unset]) rfl ?_; exact kt') ?_
  show Go p e below _ (s₁.setTop (mkF m 38 #[.val (.int p0), .val (.int p1), .val (.int p2), .val (.int p3), .val (.int p4), .val (.int c1), .val (.int c2), .val (.int c3), .val (.int c4), .val (.int ((p0.toUInt32 >>> ((8 : Int32) &&& 31).toUInt32).toInt32)), .unset, .unset, .unset, .unset, .unset, .unset, .unset, .unset, .unset, .unset, .unset, .unset, .unset, .unset, .unset] []))
  generalize hw1 : ((p0.toUInt32 >>> ((8 : Int32) &&& 31).toUInt32).toInt32) = w1
  show Go p e below _ (s₁.setTop (mkF m 38 #[.val (.int p0), .val (.int p1), .val (.int p2), .val (.int p3), .val (.int p4), .val (.int c1), .val (.int c2), .val (.int c3), .val (.int c4), .val (.int w1), .unset, .unset, .unset, .unset, .unset, .unset, .unset, .unset, .unset, .unset, .unset, .unset, .unset, .unset, .unset] []))
  have rw1 := (show 0 ≤ w1.toInt ∧ w1.toInt < 16777216 from hw1 ▸ own_sh8 _)
  refine go (fun t kt' => by refine XS.iloadN X0.here hx rfl (hb hby at_38) rfl ?_; exact kt') ?_
  show Go p e below _ (s₁.setTop (mkF m 39 #[.val (.int p0), .val (.int p1), .val (.int p2), .val (.int p3), .val (.int p4), .val (.int c1), .val (.int c2), .val (.int c3), .val (.int c4), .val (.int w1), .unset, .unset, .unset, .unset, .unset, .unset, .unset, .unset, .unset, .unset, .unset, .unset, .unset, .unset, .unset] [(.int p1)]))
  refine go (fun t kt' => by refine XS.bipush X0.here hx rfl (hb hby at_39) ?_; exact kt') ?_
  show Go p e below _ (s₁.setTop (mkF m 41 #[.val (.int p0), .val (.int p1), .val (.int p2), .val (.int p3), .val (.int p4), .val (.int c1), .val (.int c2), .val (.int c3), .val (.int c4), .val (.int w1), .unset, .unset, .unset, .unset, .unset, .unset, .unset, .unset, .unset, .unset, .unset, .unset, .unset, .unset, .unset] [(.int (8 : Int32)), (.int p1)]))
  refine go (fun t kt' => by refine XS.iushr X0.here hx rfl (hb hby at_41) rfl ?_; exact kt') ?_
  show Go p e below _ (s₁.setTop (mkF m 42 #[.val (.int p0), .val (.int p1), .val (.int p2), .val (.int p3), .val (.int p4), .val (.int c1), .val (.int c2), .val (.int c3), .val (.int c4), .val (.int w1), .unset, .unset, .unset, .unset, .unset, .unset, .unset, .unset, .unset, .unset, .unset, .unset, .unset, .unset, .unset] [(.int ((p1.toUInt32 >>> ((8 : Int32) &&& 31).toUInt32).toInt32))]))
  refine go (fun t kt' => by refine XS.istore X0.here hx rfl (hb hby at_42) rfl (l' := #[.val (.int p0), .val (.int p1), .val (.int p2), .val (.int p3), .val (.int p4), .val (.int c1), .val (.int c2), .val (.int c3), .val (.int c4), .val (.int w1), .val (.int ((p1.toUInt32 >>> ((8 : Int32) &&& 31).toUInt32).toInt32)), .unset, .unset, .unset, .unset, .unset, .unset, .unset, .unset, .unset, .unset, .unset, .unset, .unset, .unset]) rfl ?_; exact kt') ?_
  show Go p e below _ (s₁.setTop (mkF m 44 #[.val (.int p0), .val (.int p1), .val (.int p2), .val (.int p3), .val (.int p4), .val (.int c1), .val (.int c2), .val (.int c3), .val (.int c4), .val (.int w1), .val (.int ((p1.toUInt32 >>> ((8 : Int32) &&& 31).toUInt32).toInt32)), .unset, .unset, .unset, .unset, .unset, .unset, .unset, .unset, .unset, .unset, .unset, .unset, .unset, .unset] []))
  generalize hw2 : ((p1.toUInt32 >>> ((8 : Int32) &&& 31).toUInt32).toInt32) = w2
  show Go p e below _ (s₁.setTop (mkF m 44 #[.val (.int p0), .val (.int p1), .val (.int p2), .val (.int p3), .val (.int p4), .val (.int c1), .val (.int c2), .val (.int c3), .val (.int c4), .val (.int w1), .val (.int w2), .unset, .unset, .unset, .unset, .unset, .unset, .unset, .unset, .unset, .unset, .unset, .unset, .unset, .unset] []))
  have rw2 := (show 0 ≤ w2.toInt ∧ w2.toInt < 16777216 from hw2 ▸ own_sh8 _)
  refine go (fun t kt' => by refine XS.iloadN X0.here hx rfl (hb hby at_44) rfl ?_; exact kt') ?_
  show Go p e below _ (s₁.setTop (mkF m 45 #[.val (.int p0), .val (.int p1), .val (.int p2), .val (.int p3), .val (.int p4), .val (.int c1), .val (.int c2), .val (.int c3), .val (.int c4), .val (.int w1), .val (.int w2), .unset, .unset, .unset, .unset, .unset, .unset, .unset, .unset, .unset, .unset, .unset, .unset, .unset, .unset] [(.int p2)]))
  refine go (fun t kt' => by refine XS.bipush X0.here hx rfl (hb hby at_45) ?_; exact kt') ?_
  show Go p e below _ (s₁.setTop (mkF m 47 #[.val (.int p0), .val (.int p1), .val (.int p2), .val (.int p3), .val (.int p4), .val (.int c1), .val (.int c2), .val (.int c3), .val (.int c4), .val (.int w1), .val (.int w2), .unset, .unset, .unset, .unset, .unset, .unset, .unset, .unset, .unset, .unset, .unset, .unset, .unset, .unset] [(.int (8 : Int32)), (.int p2)]))
  refine go (fun t kt' => by refine XS.iushr X0.here hx rfl (hb hby at_47) rfl ?_; exact kt') ?_
  show Go p e below _ (s₁.setTop (mkF m 48 #[.val (.int p0), .val (.int p1), .val (.int p2), .val (.int p3), .val (.int p4), .val (.int c1), .val (.int c2), .val (.int c3), .val (.int c4), .val (.int w1), .val (.int w2), .unset, .unset, .unset, .unset, .unset, .unset, .unset, .unset, .unset, .unset, .unset, .unset, .unset, .unset] [(.int ((p2.toUInt32 >>> ((8 : Int32) &&& 31).toUInt32).toInt32))]))
  refine go (fun t kt' => by refine XS.istore X0.here hx rfl (hb hby at_48) rfl (l' := #[.val (.int p0), .val (.int p1), .val (.int p2), .val (.int p3), .val (.int p4), .val (.int c1), .val (.int c2), .val (.int c3), .val (.int c4), .val (.int w1), .val (.int w2), .val (.int ((p2.toUInt32 >>> ((8 : Int32) &&& 31).toUInt32).toInt32)), .unset, .unset, .unset, .unset, .unset, .unset, .unset, .unset, .unset, .unset, .unset, .unset, .unset]) rfl ?_; exact kt') ?_
  show Go p e below _ (s₁.setTop (mkF m 50 #[.val (.int p0), .val (.int p1), .val (.int p2), .val (.int p3), .val (.int p4), .val (.int c1), .val (.int c2), .val (.int c3), .val (.int c4), .val (.int w1), .val (.int w2), .val (.int ((p2.toUInt32 >>> ((8 : Int32) &&& 31).toUInt32).toInt32)), .unset, .unset, .unset, .unset, .unset, .unset, .unset, .unset, .unset, .unset, .unset, .unset, .unset] []))
  generalize hw3 : ((p2.toUInt32 >>> ((8 : Int32) &&& 31).toUInt32).toInt32) = w3
  show Go p e below _ (s₁.setTop (mkF m 50 #[.val (.int p0), .val (.int p1), .val (.int p2), .val (.int p3), .val (.int p4), .val (.int c1), .val (.int c2), .val (.int c3), .val (.int c4), .val (.int w1), .val (.int w2), .val (.int w3), .unset, .unset, .unset, .unset, .unset, .unset, .unset, .unset, .unset, .unset, .unset, .unset, .unset] []))
  have rw3 := (show 0 ≤ w3.toInt ∧ w3.toInt < 16777216 from hw3 ▸ own_sh8 _)
  refine go (fun t kt' => by refine XS.iloadN X0.here hx rfl (hb hby at_50) rfl ?_; exact kt') ?_
  show Go p e below _ (s₁.setTop (mkF m 51 #[.val (.int p0), .val (.int p1), .val (.int p2), .val (.int p3), .val (.int p4), .val (.int c1), .val (.int c2), .val (.int c3), .val (.int c4), .val (.int w1), .val (.int w2), .val (.int w3), .unset, .unset, .unset, .unset, .unset, .unset, .unset, .unset, .unset, .unset, .unset, .unset, .unset] [(.int p3)]))
  refine go (fun t kt' => by refine XS.bipush X0.here hx rfl (hb hby at_51) ?_; exact kt') ?_
  show Go p e below _ (s₁.setTop (mkF m 53 #[.val (.int p0), .val (.int p1), .val (.int p2), .val (.int p3), .val (.int p4), .val (.int c1), .val (.int c2), .val (.int c3), .val (.int c4), .val (.int w1), .val (.int w2), .val (.int w3), .unset, .unset, .unset, .unset, .unset, .unset, .unset, .unset, .unset, .unset, .unset, .unset, .unset] [(.int (8 : Int32)), (.int p3)]))
  refine go (fun t kt' => by refine XS.iushr X0.here hx rfl (hb hby at_53) rfl ?_; exact kt') ?_
  show Go p e below _ (s₁.setTop (mkF m 54 #[.val (.int p0), .val (.int p1), .val (.int p2), .val (.int p3), .val (.int p4), .val (.int c1), .val (.int c2), .val (.int c3), .val (.int c4), .val (.int w1), .val (.int w2), .val (.int w3), .unset, .unset, .unset, .unset, .unset, .unset, .unset, .unset, .unset, .unset, .unset, .unset, .unset] [(.int ((p3.toUInt32 >>> ((8 : Int32) &&& 31).toUInt32).toInt32))]))
  refine go (fun t kt' => by refine XS.istore X0.here hx rfl (hb hby at_54) rfl (l' := #[.val (.int p0), .val (.int p1), .val (.int p2), .val (.int p3), .val (.int p4), .val (.int c1), .val (.int c2), .val (.int c3), .val (.int c4), .val (.int w1), .val (.int w2), .val (.int w3), .val (.int ((p3.toUInt32 >>> ((8 : Int32) &&& 31).toUInt32).toInt32)), .unset, .unset, .unset, .unset, .unset, .unset, .unset, .unset, .unset, .unset, .unset, .unset]) rfl ?_; exact kt') ?_
  show Go p e below _ (s₁.setTop (mkF m 56 #[.val (.int p0), .val (.int p1), .val (.int p2), .val (.int p3), .val (.int p4), .val (.int c1), .val (.int c2), .val (.int c3), .val (.int c4), .val (.int w1), .val (.int w2), .val (.int w3), .val (.int ((p3.toUInt32 >>> ((8 : Int32) &&& 31).toUInt32).toInt32)), .unset, .unset, .unset, .unset, .unset, .unset, .unset, .unset, .unset, .unset, .unset, .unset] []))
  generalize hw4 : ((p3.toUInt32 >>> ((8 : Int32) &&& 31).toUInt32).toInt32) = w4
  show Go p e below _ (s₁.setTop (mkF m 56 #[.val (.int p0), .val (.int p1), .val (.int p2), .val (.int p3), .val (.int p4), .val (.int c1), .val (.int c2), .val (.int c3), .val (.int c4), .val (.int w1), .val (.int w2), .val (.int w3), .val (.int w4), .unset, .unset, .unset, .unset, .unset, .unset, .unset, .unset, .unset, .unset, .unset, .unset] []))
  have rw4 := (show 0 ≤ w4.toInt ∧ w4.toInt < 16777216 from hw4 ▸ own_sh8 _)
  refine go (fun t kt' => by refine XS.iload X0.here hx rfl (hb hby at_56) rfl ?_; exact kt') ?_
  show Go p e below _ (s₁.setTop (mkF m 58 #[.val (.int p0), .val (.int p1), .val (.int p2), .val (.int p3), .val (.int p4), .val (.int c1), .val (.int c2), .val (.int c3), .val (.int c4), .val (.int w1), .val (.int w2), .val (.int w3), .val (.int w4), .unset, .unset, .unset, .unset, .unset, .unset, .unset, .unset, .unset, .unset, .unset, .unset] [(.int p4)]))
  refine go (fun t kt' => by refine XS.iconst X0.here hx rfl (hb hby at_58) ?_; exact kt') ?_
  show Go p e below _ (s₁.setTop (mkF m 59 #[.val (.int p0), .val (.int p1), .val (.int p2), .val (.int p3), .val (.int p4), .val (.int c1), .val (.int c2), .val (.int c3), .val (.int c4), .val (.int w1), .val (.int w2), .val (.int w3), .val (.int w4), .unset, .unset, .unset, .unset, .unset, .unset, .unset, .unset, .unset, .unset, .unset, .unset] [(.int (1 : Int32)), (.int p4)]))
  refine go (fun t kt' => by refine XS.iand X0.here hx rfl (hb hby at_59) rfl ?_; exact kt') ?_
  show Go p e below _ (s₁.setTop (mkF m 60 #[.val (.int p0), .val (.int p1), .val (.int p2), .val (.int p3), .val (.int p4), .val (.int c1), .val (.int c2), .val (.int c3), .val (.int c4), .val (.int w1), .val (.int w2), .val (.int w3), .val (.int w4), .unset, .unset, .unset, .unset, .unset, .unset, .unset, .unset, .unset, .unset, .unset, .unset] [(.int (p4 &&& (1 : Int32)))]))
  have J68_1 : ∀ t3 : Int32, Go p e below (Kq s (Q0 Z  h0 n0) room_1.cells room_1.slots) (s₁.setTop (mkF m 68 #[.val (.int p0), .val (.int p1), .val (.int p2), .val (.int p3), .val (.int p4), .val (.int c1), .val (.int c2), .val (.int c3), .val (.int c4), .val (.int w1), .val (.int w2), .val (.int w3), .val (.int w4), .unset, .unset, .unset, .unset, .unset, .unset, .unset, .unset, .unset, .unset, .unset, .unset] [(.int t3)])) := by
    intro t3
    show Go p e below _ (s₁.setTop (mkF m 68 #[.val (.int p0), .val (.int p1), .val (.int p2), .val (.int p3), .val (.int p4), .val (.int c1), .val (.int c2), .val (.int c3), .val (.int c4), .val (.int w1), .val (.int w2), .val (.int w3), .val (.int w4), .unset, .unset, .unset, .unset, .unset, .unset, .unset, .unset, .unset, .unset, .unset, .unset] [(.int t3)]))
    refine go (fun t kt' => by refine XS.istore X0.here hx rfl (hb hby at_68) rfl (l' := #[.val (.int p0), .val (.int p1), .val (.int p2), .val (.int p3), .val (.int p4), .val (.int c1), .val (.int c2), .val (.int c3), .val (.int c4), .val (.int w1), .val (.int w2), .val (.int w3), .val (.int w4), .val (.int t3), .unset, .unset, .unset, .unset, .unset, .unset, .unset, .unset, .unset, .unset, .unset]) rfl ?_; exact kt') ?_
    show Go p e below _ (s₁.setTop (mkF m 70 #[.val (.int p0), .val (.int p1), .val (.int p2), .val (.int p3), .val (.int p4), .val (.int c1), .val (.int c2), .val (.int c3), .val (.int c4), .val (.int w1), .val (.int w2), .val (.int w3), .val (.int w4), .val (.int t3), .unset, .unset, .unset, .unset, .unset, .unset, .unset, .unset, .unset, .unset, .unset] []))
    refine go (fun t kt' => by refine XS.iload X0.here hx rfl (hb hby at_70) rfl ?_; exact kt') ?_
    show Go p e below _ (s₁.setTop (mkF m 72 #[.val (.int p0), .val (.int p1), .val (.int p2), .val (.int p3), .val (.int p4), .val (.int c1), .val (.int c2), .val (.int c3), .val (.int c4), .val (.int w1), .val (.int w2), .val (.int w3), .val (.int w4), .val (.int t3), .unset, .unset, .unset, .unset, .unset, .unset, .unset, .unset, .unset, .unset, .unset] [(.int p4)]))
    refine go (fun t kt' => by refine XS.iconst X0.here hx rfl (hb hby at_72) ?_; exact kt') ?_
    show Go p e below _ (s₁.setTop (mkF m 73 #[.val (.int p0), .val (.int p1), .val (.int p2), .val (.int p3), .val (.int p4), .val (.int c1), .val (.int c2), .val (.int c3), .val (.int c4), .val (.int w1), .val (.int w2), .val (.int w3), .val (.int w4), .val (.int t3), .unset, .unset, .unset, .unset, .unset, .unset, .unset, .unset, .unset, .unset, .unset] [(.int (2 : Int32)), (.int p4)]))
    refine go (fun t kt' => by refine XS.iand X0.here hx rfl (hb hby at_73) rfl ?_; exact kt') ?_
    show Go p e below _ (s₁.setTop (mkF m 74 #[.val (.int p0), .val (.int p1), .val (.int p2), .val (.int p3), .val (.int p4), .val (.int c1), .val (.int c2), .val (.int c3), .val (.int c4), .val (.int w1), .val (.int w2), .val (.int w3), .val (.int w4), .val (.int t3), .unset, .unset, .unset, .unset, .unset, .unset, .unset, .unset, .unset, .unset, .unset] [(.int (p4 &&& (2 : Int32)))]))
    have J82_2 : ∀ t2 : Int32, Go p e below (Kq s (Q0 Z  h0 n0) room_1.cells room_1.slots) (s₁.setTop (mkF m 82 #[.val (.int p0), .val (.int p1), .val (.int p2), .val (.int p3), .val (.int p4), .val (.int c1), .val (.int c2), .val (.int c3), .val (.int c4), .val (.int w1), .val (.int w2), .val (.int w3), .val (.int w4), .val (.int t3), .unset, .unset, .unset, .unset, .unset, .unset, .unset, .unset, .unset, .unset, .unset] [(.int t2)])) := by
      intro t2
      show Go p e below _ (s₁.setTop (mkF m 82 #[.val (.int p0), .val (.int p1), .val (.int p2), .val (.int p3), .val (.int p4), .val (.int c1), .val (.int c2), .val (.int c3), .val (.int c4), .val (.int w1), .val (.int w2), .val (.int w3), .val (.int w4), .val (.int t3), .unset, .unset, .unset, .unset, .unset, .unset, .unset, .unset, .unset, .unset, .unset] [(.int t2)]))
      refine go (fun t kt' => by refine XS.istore X0.here hx rfl (hb hby at_82) rfl (l' := #[.val (.int p0), .val (.int p1), .val (.int p2), .val (.int p3), .val (.int p4), .val (.int c1), .val (.int c2), .val (.int c3), .val (.int c4), .val (.int w1), .val (.int w2), .val (.int w3), .val (.int w4), .val (.int t3), .val (.int t2), .unset, .unset, .unset, .unset, .unset, .unset, .unset, .unset, .unset, .unset]) rfl ?_; exact kt') ?_
      show Go p e below _ (s₁.setTop (mkF m 84 #[.val (.int p0), .val (.int p1), .val (.int p2), .val (.int p3), .val (.int p4), .val (.int c1), .val (.int c2), .val (.int c3), .val (.int c4), .val (.int w1), .val (.int w2), .val (.int w3), .val (.int w4), .val (.int t3), .val (.int t2), .unset, .unset, .unset, .unset, .unset, .unset, .unset, .unset, .unset, .unset] []))
      refine go (fun t kt' => by refine XS.iload X0.here hx rfl (hb hby at_84) rfl ?_; exact kt') ?_
      show Go p e below _ (s₁.setTop (mkF m 86 #[.val (.int p0), .val (.int p1), .val (.int p2), .val (.int p3), .val (.int p4), .val (.int c1), .val (.int c2), .val (.int c3), .val (.int c4), .val (.int w1), .val (.int w2), .val (.int w3), .val (.int w4), .val (.int t3), .val (.int t2), .unset, .unset, .unset, .unset, .unset, .unset, .unset, .unset, .unset, .unset] [(.int c1)]))
      obtain ⟨_, _, ⟨T3, L3, k3, n3⟩, -, X3, ⟨Lc3, hQ3, l3, y3, z3⟩, st3⟩ := Jvm.LawKit.callS X0 hx (y := (⟨"java/lang/String", "valueOf", "(C)Ljava/lang/String;"⟩ : MethodName)) hown (mvT hZ (hw _ (List.mem_of_getElem? (i := 0) rfl))) (mvT hZ (hw _ (List.mem_of_getElem? (i := 1) rfl))) (mvT hZ (hw _ (List.mem_of_getElem? (i := 2) rfl))) (mvT hZ (hw _ (List.mem_of_getElem? (i := 3) rfl))) (by decide) (backOf (W := 0) (rm_vo l Z a0 hw [] c1 cs rd  h0 n0 Z0 HS OO rc1) hZ (hw _ (List.mem_of_getElem? (i := 3) rfl)) (hw _ (List.mem_of_getElem? (i := 2) rfl)) (by decide) (by decide)) (g := (mkF m 86 #[.val (.int p0), .val (.int p1), .val (.int p2), .val (.int p3), .val (.int p4), .val (.int c1), .val (.int c2), .val (.int c3), .val (.int c4), .val (.int w1), .val (.int w2), .val (.int w3), .val (.int w4), .val (.int t3), .val (.int t2), .unset, .unset, .unset, .unset, .unset, .unset, .unset, .unset, .unset, .unset] [(.int c1)])) rfl (by rw [hml]; rfl) (argsL := [(.int c1)]) (rest := []) (lenOf pd_15 rfl) rfl (by show 2 * 0 + _ ≤ _; exact Nat.le_of_eq rfl) (hb hby at_86) (fun _ _ => ⟨rfl, e0, (by decide : 0 + 2 ≤ _), (by decide : 0 + 5 ≤ _)⟩)
      dsimp only [Pt.U, Pt.locs, Pt.cells, Pt.slots] at X3 l3 y3 z3 st3 hQ3
      rw [l3, y3, z3] at X3
      obtain ⟨s3, rfl, N3q, K3, sq3, S3⟩ := hQ3
      have N3 := Fr.app N0 N3q
      have E3 := S3.2.1
      have f4_Z := Nat.le_trans Z0 K3.1
      have f5_O := OO.keep K3 all0
      refine go st3 ?_
      show Go p e below _ (T3.setTop (mkF m 89 #[.val (.int p0), .val (.int p1), .val (.int p2), .val (.int p3), .val (.int p4), .val (.int c1), .val (.int c2), .val (.int c3), .val (.int c4), .val (.int w1), .val (.int w2), .val (.int w3), .val (.int w4), .val (.int t3), .val (.int t2), .unset, .unset, .unset, .unset, .unset, .unset, .unset, .unset, .unset, .unset] [(.ref s3)]))
      refine go (fun t kt' => by refine XS.astore X3.here hx rfl (hb hby at_89) rfl rfl (l' := #[.val (.int p0), .val (.int p1), .val (.int p2), .val (.int p3), .val (.int p4), .val (.int c1), .val (.int c2), .val (.int c3), .val (.int c4), .val (.int w1), .val (.int w2), .val (.int w3), .val (.int w4), .val (.int t3), .val (.int t2), .val (.ref s3), .unset, .unset, .unset, .unset, .unset, .unset, .unset, .unset, .unset]) rfl ?_; exact kt') ?_
      show Go p e below _ (T3.setTop (mkF m 91 #[.val (.int p0), .val (.int p1), .val (.int p2), .val (.int p3), .val (.int p4), .val (.int c1), .val (.int c2), .val (.int c3), .val (.int c4), .val (.int w1), .val (.int w2), .val (.int w3), .val (.int w4), .val (.int t3), .val (.int t2), .val (.ref s3), .unset, .unset, .unset, .unset, .unset, .unset, .unset, .unset, .unset] []))
      refine go (fun t kt' => by refine XS.iload X3.here hx rfl (hb hby at_91) rfl ?_; exact kt') ?_
      show Go p e below _ (T3.setTop (mkF m 93 #[.val (.int p0), .val (.int p1), .val (.int p2), .val (.int p3), .val (.int p4), .val (.int c1), .val (.int c2), .val (.int c3), .val (.int c4), .val (.int w1), .val (.int w2), .val (.int w3), .val (.int w4), .val (.int t3), .val (.int t2), .val (.ref s3), .unset, .unset, .unset, .unset, .unset, .unset, .unset, .unset, .unset] [(.int c2)]))
      obtain ⟨_, _, ⟨T6, L6, k6, n6⟩, -, X6, ⟨Lc6, hQ6, l6, y6, z6⟩, st6⟩ := Jvm.LawKit.callS X3 hx (y := (⟨"java/lang/String", "valueOf", "(C)Ljava/lang/String;"⟩ : MethodName)) hown (mvT hZ (hw _ (List.mem_of_getElem? (i := 0) rfl))) (mvT hZ (hw _ (List.mem_of_getElem? (i := 1) rfl))) (mvT hZ (hw _ (List.mem_of_getElem? (i := 2) rfl))) (mvT hZ (hw _ (List.mem_of_getElem? (i := 3) rfl))) (by decide) (backOf (W := 0) (rm_vo l Z a0 hw [] c2 cs rd  T3.heap n0 f4_Z HS f5_O rc2) hZ (hw _ (List.mem_of_getElem? (i := 3) rfl)) (hw _ (List.mem_of_getElem? (i := 2) rfl)) (by decide) (by decide)) (g := (mkF m 93 #[.val (.int p0), .val (.int p1), .val (.int p2), .val (.int p3), .val (.int p4), .val (.int c1), .val (.int c2), .val (.int c3), .val (.int c4), .val (.int w1), .val (.int w2), .val (.int w3), .val (.int w4), .val (.int t3), .val (.int t2), .val (.ref s3), .unset, .unset, .unset, .unset, .unset, .unset, .unset, .unset, .unset] [(.int c2)])) rfl (by rw [hml]; rfl) (argsL := [(.int c2)]) (rest := []) (lenOf pd_15 rfl) rfl (by show 2 * 0 + _ ≤ _; exact Nat.le_of_eq rfl) (hb hby at_93) (fun _ _ => ⟨rfl, rfl, (by decide : 2 + 2 ≤ _), (by decide : 5 + 5 ≤ _)⟩)
      dsimp only [Pt.U, Pt.locs, Pt.cells, Pt.slots] at X6 l6 y6 z6 st6 hQ6
      rw [l6, y6, z6] at X6
      obtain ⟨s6, rfl, N6q, K6, sq6, S6⟩ := hQ6
      have N6 := Fr.app N3 N6q
      have E6 := S6.2.1
      have f7_Z := Nat.le_trans f4_Z K6.1
      have f8_O := f5_O.keep K6 all0
      have f9_T_s3 := own_St.keep S3 K6 all0
      have f10_E_s3 := E3.keep K6
      refine go st6 ?_
      show Go p e below _ (T6.setTop (mkF m 96 #[.val (.int p0), .val (.int p1), .val (.int p2), .val (.int p3), .val (.int p4), .val (.int c1), .val (.int c2), .val (.int c3), .val (.int c4), .val (.int w1), .val (.int w2), .val (.int w3), .val (.int w4), .val (.int t3), .val (.int t2), .val (.ref s3), .unset, .unset, .unset, .unset, .unset, .unset, .unset, .unset, .unset] [(.ref s6)]))
      refine go (fun t kt' => by refine XS.astore X6.here hx rfl (hb hby at_96) rfl rfl (l' := #[.val (.int p0), .val (.int p1), .val (.int p2), .val (.int p3), .val (.int p4), .val (.int c1), .val (.int c2), .val (.int c3), .val (.int c4), .val (.int w1), .val (.int w2), .val (.int w3), .val (.int w4), .val (.int t3), .val (.int t2), .val (.ref s3), .val (.ref s6), .unset, .unset, .unset, .unset, .unset, .unset, .unset, .unset]) rfl ?_; exact kt') ?_
      show Go p e below _ (T6.setTop (mkF m 98 #[.val (.int p0), .val (.int p1), .val (.int p2), .val (.int p3), .val (.int p4), .val (.int c1), .val (.int c2), .val (.int c3), .val (.int c4), .val (.int w1), .val (.int w2), .val (.int w3), .val (.int w4), .val (.int t3), .val (.int t2), .val (.ref s3), .val (.ref s6), .unset, .unset, .unset, .unset, .unset, .unset, .unset, .unset] []))
      refine go (fun t kt' => by refine XS.iload X6.here hx rfl (hb hby at_98) rfl ?_; exact kt') ?_
      show Go p e below _ (T6.setTop (mkF m 100 #[.val (.int p0), .val (.int p1), .val (.int p2), .val (.int p3), .val (.int p4), .val (.int c1), .val (.int c2), .val (.int c3), .val (.int c4), .val (.int w1), .val (.int w2), .val (.int w3), .val (.int w4), .val (.int t3), .val (.int t2), .val (.ref s3), .val (.ref s6), .unset, .unset, .unset, .unset, .unset, .unset, .unset, .unset] [(.int c3)]))
      obtain ⟨_, _, ⟨T11, L11, k11, n11⟩, -, X11, ⟨Lc11, hQ11, l11, y11, z11⟩, st11⟩ := Jvm.LawKit.callS X6 hx (y := (⟨"java/lang/String", "valueOf", "(C)Ljava/lang/String;"⟩ : MethodName)) hown (mvT hZ (hw _ (List.mem_of_getElem? (i := 0) rfl))) (mvT hZ (hw _ (List.mem_of_getElem? (i := 1) rfl))) (mvT hZ (hw _ (List.mem_of_getElem? (i := 2) rfl))) (mvT hZ (hw _ (List.mem_of_getElem? (i := 3) rfl))) (by decide) (backOf (W := 0) (rm_vo l Z a0 hw [] c3 cs rd  T6.heap n0 f7_Z HS f8_O rc3) hZ (hw _ (List.mem_of_getElem? (i := 3) rfl)) (hw _ (List.mem_of_getElem? (i := 2) rfl)) (by decide) (by decide)) (g := (mkF m 100 #[.val (.int p0), .val (.int p1), .val (.int p2), .val (.int p3), .val (.int p4), .val (.int c1), .val (.int c2), .val (.int c3), .val (.int c4), .val (.int w1), .val (.int w2), .val (.int w3), .val (.int w4), .val (.int t3), .val (.int t2), .val (.ref s3), .val (.ref s6), .unset, .unset, .unset, .unset, .unset, .unset, .unset, .unset] [(.int c3)])) rfl (by rw [hml]; rfl) (argsL := [(.int c3)]) (rest := []) (lenOf pd_15 rfl) rfl (by show 2 * 0 + _ ≤ _; exact Nat.le_of_eq rfl) (hb hby at_100) (fun _ _ => ⟨rfl, rfl, (by decide : 4 + 2 ≤ _), (by decide : 10 + 5 ≤ _)⟩)
      dsimp only [Pt.U, Pt.locs, Pt.cells, Pt.slots] at X11 l11 y11 z11 st11 hQ11
      rw [l11, y11, z11] at X11
      obtain ⟨s11, rfl, N11q, K11, sq11, S11⟩ := hQ11
      have N11 := Fr.app N6 N11q
      have E11 := S11.2.1
      have f12_Z := Nat.le_trans f7_Z K11.1
      have f13_O := f8_O.keep K11 all0
      have f14_T_s3 := own_St.keep f9_T_s3 K11 all0
      have f15_E_s3 := f10_E_s3.keep K11
      have f16_T_s6 := own_St.keep S6 K11 all0
      have f17_E_s6 := E6.keep K11
      refine go st11 ?_
      show Go p e below _ (T11.setTop (mkF m 103 #[.val (.int p0), .val (.int p1), .val (.int p2), .val (.int p3), .val (.int p4), .val (.int c1), .val (.int c2), .val (.int c3), .val (.int c4), .val (.int w1), .val (.int w2), .val (.int w3), .val (.int w4), .val (.int t3), .val (.int t2), .val (.ref s3), .val (.ref s6), .unset, .unset, .unset, .unset, .unset, .unset, .unset, .unset] [(.ref s11)]))
      refine go (fun t kt' => by refine XS.astore X11.here hx rfl (hb hby at_103) rfl rfl (l' := #[.val (.int p0), .val (.int p1), .val (.int p2), .val (.int p3), .val (.int p4), .val (.int c1), .val (.int c2), .val (.int c3), .val (.int c4), .val (.int w1), .val (.int w2), .val (.int w3), .val (.int w4), .val (.int t3), .val (.int t2), .val (.ref s3), .val (.ref s6), .val (.ref s11), .unset, .unset, .unset, .unset, .unset, .unset, .unset]) rfl ?_; exact kt') ?_
      show Go p e below _ (T11.setTop (mkF m 105 #[.val (.int p0), .val (.int p1), .val (.int p2), .val (.int p3), .val (.int p4), .val (.int c1), .val (.int c2), .val (.int c3), .val (.int c4), .val (.int w1), .val (.int w2), .val (.int w3), .val (.int w4), .val (.int t3), .val (.int t2), .val (.ref s3), .val (.ref s6), .val (.ref s11), .unset, .unset, .unset, .unset, .unset, .unset, .unset] []))
      refine go (fun t kt' => by refine XS.iload X11.here hx rfl (hb hby at_105) rfl ?_; exact kt') ?_
      show Go p e below _ (T11.setTop (mkF m 107 #[.val (.int p0), .val (.int p1), .val (.int p2), .val (.int p3), .val (.int p4), .val (.int c1), .val (.int c2), .val (.int c3), .val (.int c4), .val (.int w1), .val (.int w2), .val (.int w3), .val (.int w4), .val (.int t3), .val (.int t2), .val (.ref s3), .val (.ref s6), .val (.ref s11), .unset, .unset, .unset, .unset, .unset, .unset, .unset] [(.int c4)]))
      obtain ⟨_, _, ⟨T18, L18, k18, n18⟩, -, X18, ⟨Lc18, hQ18, l18, y18, z18⟩, st18⟩ := Jvm.LawKit.callS X11 hx (y := (⟨"java/lang/String", "valueOf", "(C)Ljava/lang/String;"⟩ : MethodName)) hown (mvT hZ (hw _ (List.mem_of_getElem? (i := 0) rfl))) (mvT hZ (hw _ (List.mem_of_getElem? (i := 1) rfl))) (mvT hZ (hw _ (List.mem_of_getElem? (i := 2) rfl))) (mvT hZ (hw _ (List.mem_of_getElem? (i := 3) rfl))) (by decide) (backOf (W := 0) (rm_vo l Z a0 hw [] c4 cs rd  T11.heap n0 f12_Z HS f13_O rc4) hZ (hw _ (List.mem_of_getElem? (i := 3) rfl)) (hw _ (List.mem_of_getElem? (i := 2) rfl)) (by decide) (by decide)) (g := (mkF m 107 #[.val (.int p0), .val (.int p1), .val (.int p2), .val (.int p3), .val (.int p4), .val (.int c1), .val (.int c2), .val (.int c3), .val (.int c4), .val (.int w1), .val (.int w2), .val (.int w3), .val (.int w4), .val (.int t3), .val (.int t2), .val (.ref s3), .val (.ref s6), .val (.ref s11), .unset, .unset, .unset, .unset, .unset, .unset, .unset] [(.int c4)])) rfl (by rw [hml]; rfl) (argsL := [(.int c4)]) (rest := []) (lenOf pd_15 rfl) rfl (by show 2 * 0 + _ ≤ _; exact Nat.le_of_eq rfl) (hb hby at_107) (fun _ _ => ⟨rfl, rfl, (by decide : 6 + 2 ≤ _), (by decide : 15 + 5 ≤ _)⟩)
      dsimp only [Pt.U, Pt.locs, Pt.cells, Pt.slots] at X18 l18 y18 z18 st18 hQ18
      rw [l18, y18, z18] at X18
      obtain ⟨s18, rfl, N18q, K18, sq18, S18⟩ := hQ18
      have N18 := Fr.app N11 N18q
      have E18 := S18.2.1
      have f19_Z := Nat.le_trans f12_Z K18.1
      have f20_O := f13_O.keep K18 all0
      have f21_T_s3 := own_St.keep f14_T_s3 K18 all0
      have f22_E_s3 := f15_E_s3.keep K18
      have f23_T_s6 := own_St.keep f16_T_s6 K18 all0
      have f24_E_s6 := f17_E_s6.keep K18
      have f25_T_s11 := own_St.keep S11 K18 all0
      have f26_E_s11 := E11.keep K18
      refine go st18 ?_
      show Go p e below _ (T18.setTop (mkF m 110 #[.val (.int p0), .val (.int p1), .val (.int p2), .val (.int p3), .val (.int p4), .val (.int c1), .val (.int c2), .val (.int c3), .val (.int c4), .val (.int w1), .val (.int w2), .val (.int w3), .val (.int w4), .val (.int t3), .val (.int t2), .val (.ref s3), .val (.ref s6), .val (.ref s11), .unset, .unset, .unset, .unset, .unset, .unset, .unset] [(.ref s18)]))
      refine go (fun t kt' => by refine XS.astore X18.here hx rfl (hb hby at_110) rfl rfl (l' := #[.val (.int p0), .val (.int p1), .val (.int p2), .val (.int p3), .val (.int p4), .val (.int c1), .val (.int c2), .val (.int c3), .val (.int c4), .val (.int w1), .val (.int w2), .val (.int w3), .val (.int w4), .val (.int t3), .val (.int t2), .val (.ref s3), .val (.ref s6), .val (.ref s11), .val (.ref s18), .unset, .unset, .unset, .unset, .unset, .unset]) rfl ?_; exact kt') ?_
      show Go p e below _ (T18.setTop (mkF m 112 #[.val (.int p0), .val (.int p1), .val (.int p2), .val (.int p3), .val (.int p4), .val (.int c1), .val (.int c2), .val (.int c3), .val (.int c4), .val (.int w1), .val (.int w2), .val (.int w3), .val (.int w4), .val (.int t3), .val (.int t2), .val (.ref s3), .val (.ref s6), .val (.ref s11), .val (.ref s18), .unset, .unset, .unset, .unset, .unset, .unset] []))
      have hH1 := (own_Hc rc1).1
      have hH2 := (own_Hc rc2).1
      have hH3 := (own_Hc rc3).1
      have hH4 := (own_Hc rc4).1
      refine go (fun t kt' => by refine XS.iconst X18.here hx rfl (hb hby at_112) ?_; exact kt') ?_
      show Go p e below _ (T18.setTop (mkF m 113 #[.val (.int p0), .val (.int p1), .val (.int p2), .val (.int p3), .val (.int p4), .val (.int c1), .val (.int c2), .val (.int c3), .val (.int c4), .val (.int w1), .val (.int w2), .val (.int w3), .val (.int w4), .val (.int t3), .val (.int t2), .val (.ref s3), .val (.ref s6), .val (.ref s11), .val (.ref s18), .unset, .unset, .unset, .unset, .unset, .unset] [(.int (3 : Int32))]))
      obtain ⟨T27, h27, k27, X27, e27, E27, A27, st27⟩ := newP X18 hx hZ (hw _ (List.mem_of_getElem? (i := 26) rfl)) rfl (g := (mkF m 113 #[.val (.int p0), .val (.int p1), .val (.int p2), .val (.int p3), .val (.int p4), .val (.int c1), .val (.int c2), .val (.int c3), .val (.int c4), .val (.int w1), .val (.int w2), .val (.int w3), .val (.int w4), .val (.int t3), .val (.int t2), .val (.ref s3), .val (.ref s6), .val (.ref s11), .val (.ref s18), .unset, .unset, .unset, .unset, .unset, .unset] [(.int (3 : Int32))])) rfl (hb hby at_113) rfl (by decide) (cap := 3) (by decide) (by decide) (by decide) (by decide)
      obtain ⟨b27, g27⟩ : ∃ z, z = T18.heap.size := ⟨_, rfl⟩
      have n0_b27 : n0 ≤ b27 := Nat.le_trans f19_Z (Nat.le_of_eq g27.symm)
      have ne27_s3_b27 : s3 ≠ b27 := Nat.ne_of_lt (Nat.lt_of_lt_of_le f22_E_s3.lt (Nat.le_of_eq g27.symm))
      have ne27_s6_b27 : s6 ≠ b27 := Nat.ne_of_lt (Nat.lt_of_lt_of_le f24_E_s6.lt (Nat.le_of_eq g27.symm))
      have ne27_s11_b27 : s11 ≠ b27 := Nat.ne_of_lt (Nat.lt_of_lt_of_le f26_E_s11.lt (Nat.le_of_eq g27.symm))
      have ne27_s18_b27 : s18 ≠ b27 := Nat.ne_of_lt (Nat.lt_of_lt_of_le E18.lt (Nat.le_of_eq g27.symm))
      rw [← g27] at A27 st27
      have f28_Z := Nat.le_trans f19_Z E27.1
      have f29_O := f20_O.ext E27
      have f30_T_s3 := own_St.ext f21_T_s3 E27
      have f31_E_s3 := f22_E_s3.ext E27
      have f32_T_s6 := own_St.ext f23_T_s6 E27
      have f33_E_s6 := f24_E_s6.ext E27
      have f34_T_s11 := own_St.ext f25_T_s11 E27
      have f35_E_s11 := f26_E_s11.ext E27
      have f36_T_s18 := own_St.ext S18 E27
      have f37_E_s18 := E18.ext E27
      have V27 : IA Z h27 b27 .char 3 (fun _ => 0) := IA.new A27 rfl rfl
      refine go st27 ?_
      show Go p e below _ (T27.setTop (mkF m 115 #[.val (.int p0), .val (.int p1), .val (.int p2), .val (.int p3), .val (.int p4), .val (.int c1), .val (.int c2), .val (.int c3), .val (.int c4), .val (.int w1), .val (.int w2), .val (.int w3), .val (.int w4), .val (.int t3), .val (.int t2), .val (.ref s3), .val (.ref s6), .val (.ref s11), .val (.ref s18), .unset, .unset, .unset, .unset, .unset, .unset] [(.ref b27)]))
      refine go (fun t kt' => by refine XS.astore X27.here hx rfl (hb hby at_115) rfl rfl (l' := #[.val (.int p0), .val (.int p1), .val (.int p2), .val (.int p3), .val (.int p4), .val (.int c1), .val (.int c2), .val (.int c3), .val (.int c4), .val (.int w1), .val (.int w2), .val (.int w3), .val (.int w4), .val (.int t3), .val (.int t2), .val (.ref s3), .val (.ref s6), .val (.ref s11), .val (.ref s18), .val (.ref b27), .unset, .unset, .unset, .unset, .unset]) rfl ?_; exact kt') ?_
      show Go p e below _ (T27.setTop (mkF m 117 #[.val (.int p0), .val (.int p1), .val (.int p2), .val (.int p3), .val (.int p4), .val (.int c1), .val (.int c2), .val (.int c3), .val (.int c4), .val (.int w1), .val (.int w2), .val (.int w3), .val (.int w4), .val (.int t3), .val (.int t2), .val (.ref s3), .val (.ref s6), .val (.ref s11), .val (.ref s18), .val (.ref b27), .unset, .unset, .unset, .unset, .unset] []))
      refine go (fun t kt' => by refine XS.iconst X27.here hx rfl (hb hby at_117) ?_; exact kt') ?_
      show Go p e below _ (T27.setTop (mkF m 118 #[.val (.int p0), .val (.int p1), .val (.int p2), .val (.int p3), .val (.int p4), .val (.int c1), .val (.int c2), .val (.int c3), .val (.int c4), .val (.int w1), .val (.int w2), .val (.int w3), .val (.int w4), .val (.int t3), .val (.int t2), .val (.ref s3), .val (.ref s6), .val (.ref s11), .val (.ref s18), .val (.ref b27), .unset, .unset, .unset, .unset, .unset] [(.int (3 : Int32))]))
      obtain ⟨T38, h38, k38, X38, e38, E38, A38, st38⟩ := newP X27 hx hZ (hw _ (List.mem_of_getElem? (i := 27) rfl)) e27 (g := (mkF m 118 #[.val (.int p0), .val (.int p1), .val (.int p2), .val (.int p3), .val (.int p4), .val (.int c1), .val (.int c2), .val (.int c3), .val (.int c4), .val (.int w1), .val (.int w2), .val (.int w3), .val (.int w4), .val (.int t3), .val (.int t2), .val (.ref s3), .val (.ref s6), .val (.ref s11), .val (.ref s18), .val (.ref b27), .unset, .unset, .unset, .unset, .unset] [(.int (3 : Int32))])) rfl (hb hby at_118) rfl (by decide) (cap := 3) (by decide) (by decide) (by decide) (by decide)
      obtain ⟨b38, g38⟩ : ∃ z, z = h27.size := ⟨_, rfl⟩
      have n0_b38 : n0 ≤ b38 := Nat.le_trans f28_Z (Nat.le_of_eq g38.symm)
      have ne38_s3_b38 : s3 ≠ b38 := Nat.ne_of_lt (Nat.lt_of_lt_of_le f31_E_s3.lt (Nat.le_of_eq g38.symm))
      have ne38_s6_b38 : s6 ≠ b38 := Nat.ne_of_lt (Nat.lt_of_lt_of_le f33_E_s6.lt (Nat.le_of_eq g38.symm))
      have ne38_s11_b38 : s11 ≠ b38 := Nat.ne_of_lt (Nat.lt_of_lt_of_le f35_E_s11.lt (Nat.le_of_eq g38.symm))
      have ne38_s18_b38 : s18 ≠ b38 := Nat.ne_of_lt (Nat.lt_of_lt_of_le f37_E_s18.lt (Nat.le_of_eq g38.symm))
      have ne38_b27_b38 : b27 ≠ b38 := Nat.ne_of_lt (Nat.lt_of_lt_of_le V27.lt (Nat.le_of_eq g38.symm))
      rw [← g38] at A38 st38
      have f39_Z := Nat.le_trans f28_Z E38.1
      have f40_O := f29_O.ext E38
      have f41_T_s3 := own_St.ext f30_T_s3 E38
      have f42_E_s3 := f31_E_s3.ext E38
      have f43_T_s6 := own_St.ext f32_T_s6 E38
      have f44_E_s6 := f33_E_s6.ext E38
      have f45_T_s11 := own_St.ext f34_T_s11 E38
      have f46_E_s11 := f35_E_s11.ext E38
      have f47_T_s18 := own_St.ext f36_T_s18 E38
      have f48_E_s18 := f37_E_s18.ext E38
      have f49_A_b27 := V27.ext E38
      have V38 : IA Z h38 b38 .int 3 (fun _ => 0) := IA.new A38 rfl rfl
      refine go st38 ?_
      show Go p e below _ (T38.setTop (mkF m 120 #[.val (.int p0), .val (.int p1), .val (.int p2), .val (.int p3), .val (.int p4), .val (.int c1), .val (.int c2), .val (.int c3), .val (.int c4), .val (.int w1), .val (.int w2), .val (.int w3), .val (.int w4), .val (.int t3), .val (.int t2), .val (.ref s3), .val (.ref s6), .val (.ref s11), .val (.ref s18), .val (.ref b27), .unset, .unset, .unset, .unset, .unset] [(.ref b38)]))
      refine go (fun t kt' => by refine XS.astore X38.here hx rfl (hb hby at_120) rfl rfl (l' := #[.val (.int p0), .val (.int p1), .val (.int p2), .val (.int p3), .val (.int p4), .val (.int c1), .val (.int c2), .val (.int c3), .val (.int c4), .val (.int w1), .val (.int w2), .val (.int w3), .val (.int w4), .val (.int t3), .val (.int t2), .val (.ref s3), .val (.ref s6), .val (.ref s11), .val (.ref s18), .val (.ref b27), .val (.ref b38), .unset, .unset, .unset, .unset]) rfl ?_; exact kt') ?_
      show Go p e below _ (T38.setTop (mkF m 122 #[.val (.int p0), .val (.int p1), .val (.int p2), .val (.int p3), .val (.int p4), .val (.int c1), .val (.int c2), .val (.int c3), .val (.int c4), .val (.int w1), .val (.int w2), .val (.int w3), .val (.int w4), .val (.int t3), .val (.int t2), .val (.ref s3), .val (.ref s6), .val (.ref s11), .val (.ref s18), .val (.ref b27), .val (.ref b38), .unset, .unset, .unset, .unset] []))
      obtain ⟨T50, h50, X50, e50, E50, A50, D50, -, st50⟩ := newO X38 hx hZ hown (hw _ (List.mem_of_getElem? (i := 28) rfl)) (hw _ (List.mem_of_getElem? (i := 29) rfl)) (hw _ (List.mem_of_getElem? (i := 30) rfl)) e38 (g := (mkF m 122 #[.val (.int p0), .val (.int p1), .val (.int p2), .val (.int p3), .val (.int p4), .val (.int c1), .val (.int c2), .val (.int c3), .val (.int c4), .val (.int w1), .val (.int w2), .val (.int w3), .val (.int w4), .val (.int t3), .val (.int t2), .val (.ref s3), .val (.ref s6), .val (.ref s11), .val (.ref s18), .val (.ref b27), .val (.ref b38), .unset, .unset, .unset, .unset] [])) rfl (hb hby at_122) (by decide) (by decide)
      obtain ⟨b50, g50⟩ : ∃ z, z = h38.size := ⟨_, rfl⟩
      have n0_b50 : n0 ≤ b50 := Nat.le_trans f39_Z (Nat.le_of_eq g50.symm)
      have ne50_s3_b50 : s3 ≠ b50 := Nat.ne_of_lt (Nat.lt_of_lt_of_le f42_E_s3.lt (Nat.le_of_eq g50.symm))
      have ne50_s6_b50 : s6 ≠ b50 := Nat.ne_of_lt (Nat.lt_of_lt_of_le f44_E_s6.lt (Nat.le_of_eq g50.symm))
      have ne50_s11_b50 : s11 ≠ b50 := Nat.ne_of_lt (Nat.lt_of_lt_of_le f46_E_s11.lt (Nat.le_of_eq g50.symm))
      have ne50_s18_b50 : s18 ≠ b50 := Nat.ne_of_lt (Nat.lt_of_lt_of_le f48_E_s18.lt (Nat.le_of_eq g50.symm))
      have ne50_b27_b50 : b27 ≠ b50 := Nat.ne_of_lt (Nat.lt_of_lt_of_le f49_A_b27.lt (Nat.le_of_eq g50.symm))
      have ne50_b38_b50 : b38 ≠ b50 := Nat.ne_of_lt (Nat.lt_of_lt_of_le V38.lt (Nat.le_of_eq g50.symm))
      rw [← g50] at A50 D50 st50
      have f51_Z := Nat.le_trans f39_Z E50.1
      have f52_O := f40_O.ext E50
      have f53_T_s3 := own_St.ext f41_T_s3 E50
      have f54_E_s3 := f42_E_s3.ext E50
      have f55_T_s6 := own_St.ext f43_T_s6 E50
      have f56_E_s6 := f44_E_s6.ext E50
      have f57_T_s11 := own_St.ext f45_T_s11 E50
      have f58_E_s11 := f46_E_s11.ext E50
      have f59_T_s18 := own_St.ext f47_T_s18 E50
      have f60_E_s18 := f48_E_s18.ext E50
      have f61_A_b27 := f49_A_b27.ext E50
      have f62_A_b38 := V38.ext E50
      have F50_places : Fld Z h50 b50 "com/example/casewright/casewright/formats/HashIndex" "places" "[I" .null := D50 (Or.inl (hw _ (List.mem_of_getElem? (i := 45) rfl))) (ty := (.array .int)) (by decide)
      have F50_hashes : Fld Z h50 b50 "com/example/casewright/casewright/formats/HashIndex" "hashes" "[I" .null := D50 (Or.inl (hw _ (List.mem_of_getElem? (i := 47) rfl))) (ty := (.array .int)) (by decide)
      have F50_keys : Fld Z h50 b50 "com/example/casewright/casewright/formats/HashIndex" "keys" "[Ljava/lang/String;" .null := D50 (Or.inl (hw _ (List.mem_of_getElem? (i := 51) rfl))) (ty := (.array (.object "java/lang/String"))) (by decide)
      have F50_seconds : Fld Z h50 b50 "com/example/casewright/casewright/formats/HashIndex" "seconds" "[Ljava/lang/String;" .null := D50 (Or.inl (hw _ (List.mem_of_getElem? (i := 53) rfl))) (ty := (.array (.object "java/lang/String"))) (by decide)
      have F50_taken : Fld Z h50 b50 "com/example/casewright/casewright/formats/HashIndex" "taken" "[I" .null := D50 (Or.inl (hw _ (List.mem_of_getElem? (i := 55) rfl))) (ty := (.array .int)) (by decide)
      have F50_randomHash : Fld Z h50 b50 "com/example/casewright/casewright/formats/HashIndex" "randomHash" "Lcom/example/casewright/casewright/formats/StringHash;" .null := D50 (Or.inr (hw _ (List.mem_of_getElem? (i := 57) rfl))) (ty := (.object "com/example/casewright/casewright/formats/StringHash")) (by decide)
      have F50_size : Fld Z h50 b50 "com/example/casewright/casewright/formats/HashIndex" "size" "I" (.int (0 : Int32)) := D50 (Or.inl (hw _ (List.mem_of_getElem? (i := 64) rfl))) (ty := .int) (by decide)
      have F50_hashedAtRandom : Fld Z h50 b50 "com/example/casewright/casewright/formats/HashIndex" "hashedAtRandom" "Z" (.int (0 : Int32)) := D50 (Or.inl (hw _ (List.mem_of_getElem? (i := 74) rfl))) (ty := .boolean) (by decide)
      have F50_foundHash : Fld Z h50 b50 "com/example/casewright/casewright/formats/HashIndex" "foundHash" "I" (.int (0 : Int32)) := D50 (Or.inl (hw _ (List.mem_of_getElem? (i := 102) rfl))) (ty := .int) (by decide)
      refine go st50 ?_
      show Go p e below _ (T50.setTop (mkF m 125 #[.val (.int p0), .val (.int p1), .val (.int p2), .val (.int p3), .val (.int p4), .val (.int c1), .val (.int c2), .val (.int c3), .val (.int c4), .val (.int w1), .val (.int w2), .val (.int w3), .val (.int w4), .val (.int t3), .val (.int t2), .val (.ref s3), .val (.ref s6), .val (.ref s11), .val (.ref s18), .val (.ref b27), .val (.ref b38), .unset, .unset, .unset, .unset] [(.ref b50)]))
      have lt19 := Nat.lt_of_lt_of_le (IA.lt f49_A_b27) (Nat.le_of_eq g50.symm)
      have lt20 := Nat.lt_of_lt_of_le (IA.lt V38) (Nat.le_of_eq g50.symm)
      refine go (fun t kt' => by refine XS.dup X50.here hx rfl (hb hby at_125) rfl rfl ?_; exact kt') ?_
      show Go p e below _ (T50.setTop (mkF m 126 #[.val (.int p0), .val (.int p1), .val (.int p2), .val (.int p3), .val (.int p4), .val (.int c1), .val (.int c2), .val (.int c3), .val (.int c4), .val (.int w1), .val (.int w2), .val (.int w3), .val (.int w4), .val (.int t3), .val (.int t2), .val (.ref s3), .val (.ref s6), .val (.ref s11), .val (.ref s18), .val (.ref b27), .val (.ref b38), .unset, .unset, .unset, .unset] [(.ref b50), (.ref b50)]))
      obtain ⟨_, _, ⟨T63, L63, k63, n63⟩, -, X63, ⟨Lc63, hQ63, l63, y63, z63⟩, st63⟩ := X50.specialBack hx (y := (⟨"com/example/casewright/casewright/formats/HashIndex", "<init>", "()V"⟩ : MethodName)) rfl hown (mvT hZ (hw _ (List.mem_of_getElem? (i := 31) rfl))) (mvT hZ (hw _ (List.mem_of_getElem? (i := 32) rfl))) (mvT hZ (hw _ (List.mem_of_getElem? (i := 33) rfl))) (by decide) (backOf (W := 1) (rm_i1 l Z a0 hw [] b50 cs rd  h50 n0 f51_Z HS f52_O A50 n0_b50 F50_places F50_hashes F50_keys F50_seconds F50_taken F50_size F50_hashedAtRandom F50_foundHash F50_randomHash) hZ (hw _ (List.mem_of_getElem? (i := 33) rfl)) (hw _ (List.mem_of_getElem? (i := 30) rfl)) (by decide) (by decide)) (g := (mkF m 126 #[.val (.int p0), .val (.int p1), .val (.int p2), .val (.int p3), .val (.int p4), .val (.int c1), .val (.int c2), .val (.int c3), .val (.int c4), .val (.int w1), .val (.int w2), .val (.int w3), .val (.int w4), .val (.int t3), .val (.int t2), .val (.ref s3), .val (.ref s6), .val (.ref s11), .val (.ref s18), .val (.ref b27), .val (.ref b38), .unset, .unset, .unset, .unset] [(.ref b50), (.ref b50)])) rfl (by rw [hml]; rfl) (Steps.refl _) (a := b50) (argsL := []) (rest := [(.ref b50)]) (lenOf pd_16 rfl) rfl (by show 2 * 0 + _ ≤ _; exact Nat.le_of_eq rfl) (hb hby at_126) (fun _ _ => ⟨rfl, e50, (by decide : 11 + 5 ≤ _), (by decide : 35 + 72 ≤ _)⟩)
      dsimp only [Pt.U, Pt.locs, Pt.cells, Pt.slots] at X63 l63 y63 z63 st63 hQ63
      rw [l63, y63, z63] at X63
      obtain ⟨rfl, N63q, K63, HX63⟩ := hQ63
      have N63 := Fr.app N18 N63q
      have f64_Z := Nat.le_trans f51_Z K63.1
      have f65_O := f52_O.keep K63 (allS n0_b50 all0)
      have f66_T_s3 := own_St.keep f53_T_s3 K63 (allS (own_okO hw A50) all0)
      have f67_E_s3 := f54_E_s3.keep K63
      have f68_T_s6 := own_St.keep f55_T_s6 K63 (allS (own_okO hw A50) all0)
      have f69_E_s6 := f56_E_s6.keep K63
      have f70_T_s11 := own_St.keep f57_T_s11 K63 (allS (own_okO hw A50) all0)
      have f71_E_s11 := f58_E_s11.keep K63
      have f72_T_s18 := own_St.keep f59_T_s18 K63 (allS (own_okO hw A50) all0)
      have f73_E_s18 := f60_E_s18.keep K63
      have f74_A_b27 := f61_A_b27.keep K63 (ninS ne50_b27_b50 nin0)
      have f75_A_b38 := f62_A_b38.keep K63 (ninS ne50_b38_b50 nin0)
      refine go (fun t kt => st63.trans kt) ?_
      show Go p e below _ (T63.setTop (mkF m 129 #[.val (.int p0), .val (.int p1), .val (.int p2), .val (.int p3), .val (.int p4), .val (.int c1), .val (.int c2), .val (.int c3), .val (.int c4), .val (.int w1), .val (.int w2), .val (.int w3), .val (.int w4), .val (.int t3), .val (.int t2), .val (.ref s3), .val (.ref s6), .val (.ref s11), .val (.ref s18), .val (.ref b27), .val (.ref b38), .unset, .unset, .unset, .unset] [(.ref b50)]))
      refine go (fun t kt' => by refine XS.astore X63.here hx rfl (hb hby at_129) rfl rfl (l' := #[.val (.int p0), .val (.int p1), .val (.int p2), .val (.int p3), .val (.int p4), .val (.int c1), .val (.int c2), .val (.int c3), .val (.int c4), .val (.int w1), .val (.int w2), .val (.int w3), .val (.int w4), .val (.int t3), .val (.int t2), .val (.ref s3), .val (.ref s6), .val (.ref s11), .val (.ref s18), .val (.ref b27), .val (.ref b38), .val (.ref b50), .unset, .unset, .unset]) rfl ?_; exact kt') ?_
      show Go p e below _ (T63.setTop (mkF m 131 #[.val (.int p0), .val (.int p1), .val (.int p2), .val (.int p3), .val (.int p4), .val (.int c1), .val (.int c2), .val (.int c3), .val (.int c4), .val (.int w1), .val (.int w2), .val (.int w3), .val (.int w4), .val (.int t3), .val (.int t2), .val (.ref s3), .val (.ref s6), .val (.ref s11), .val (.ref s18), .val (.ref b27), .val (.ref b38), .val (.ref b50), .unset, .unset, .unset] []))
      refine go (fun t kt' => by refine XS.iconst X63.here hx rfl (hb hby at_131) ?_; exact kt') ?_
      show Go p e below _ (T63.setTop (mkF m 132 #[.val (.int p0), .val (.int p1), .val (.int p2), .val (.int p3), .val (.int p4), .val (.int c1), .val (.int c2), .val (.int c3), .val (.int c4), .val (.int w1), .val (.int w2), .val (.int w3), .val (.int w4), .val (.int t3), .val (.int t2), .val (.ref s3), .val (.ref s6), .val (.ref s11), .val (.ref s18), .val (.ref b27), .val (.ref b38), .val (.ref b50), .unset, .unset, .unset] [(.int (0 : Int32))]))
      refine go (fun t kt' => by refine XS.istore X63.here hx rfl (hb hby at_132) rfl (l' := #[.val (.int p0), .val (.int p1), .val (.int p2), .val (.int p3), .val (.int p4), .val (.int c1), .val (.int c2), .val (.int c3), .val (.int c4), .val (.int w1), .val (.int w2), .val (.int w3), .val (.int w4), .val (.int t3), .val (.int t2), .val (.ref s3), .val (.ref s6), .val (.ref s11), .val (.ref s18), .val (.ref b27), .val (.ref b38), .val (.ref b50), .val (.int (0 : Int32)), .unset, .unset]) rfl ?_; exact kt') ?_
      show Go p e below _ (T63.setTop (mkF m 134 #[.val (.int p0), .val (.int p1), .val (.int p2), .val (.int p3), .val (.int p4), .val (.int c1), .val (.int c2), .val (.int c3), .val (.int c4), .val (.int w1), .val (.int w2), .val (.int w3), .val (.int w4), .val (.int t3), .val (.int t2), .val (.ref s3), .val (.ref s6), .val (.ref s11), .val (.ref s18), .val (.ref b27), .val (.ref b38), .val (.ref b50), .val (.int (0 : Int32)), .unset, .unset] []))
      have EX_HX63 := HX63.2.1
      refine go (fun t kt' => by refine XS.aload X63.here hx rfl (hb hby at_134) rfl rfl ?_; exact kt') ?_
      show Go p e below _ (T63.setTop (mkF m 136 #[.val (.int p0), .val (.int p1), .val (.int p2), .val (.int p3), .val (.int p4), .val (.int c1), .val (.int c2), .val (.int c3), .val (.int c4), .val (.int w1), .val (.int w2), .val (.int w3), .val (.int w4), .val (.int t3), .val (.int t2), .val (.ref s3), .val (.ref s6), .val (.ref s11), .val (.ref s18), .val (.ref b27), .val (.ref b38), .val (.ref b50), .val (.int (0 : Int32)), .unset, .unset] [(.ref b50)]))
      refine go (fun t kt' => by refine XS.iload X63.here hx rfl (hb hby at_136) rfl ?_; exact kt') ?_
      show Go p e below _ (T63.setTop (mkF m 138 #[.val (.int p0), .val (.int p1), .val (.int p2), .val (.int p3), .val (.int p4), .val (.int c1), .val (.int c2), .val (.int c3), .val (.int c4), .val (.int w1), .val (.int w2), .val (.int w3), .val (.int w4), .val (.int t3), .val (.int t2), .val (.ref s3), .val (.ref s6), .val (.ref s11), .val (.ref s18), .val (.ref b27), .val (.ref b38), .val (.ref b50), .val (.int (0 : Int32)), .unset, .unset] [(.int w1), (.ref b50)]))
      refine go (fun t kt' => by refine XS.aload X63.here hx rfl (hb hby at_138) rfl rfl ?_; exact kt') ?_
      show Go p e below _ (T63.setTop (mkF m 140 #[.val (.int p0), .val (.int p1), .val (.int p2), .val (.int p3), .val (.int p4), .val (.int c1), .val (.int c2), .val (.int c3), .val (.int c4), .val (.int w1), .val (.int w2), .val (.int w3), .val (.int w4), .val (.int t3), .val (.int t2), .val (.ref s3), .val (.ref s6), .val (.ref s11), .val (.ref s18), .val (.ref b27), .val (.ref b38), .val (.ref b50), .val (.int (0 : Int32)), .unset, .unset] [(.ref s3), (.int w1), (.ref b50)]))
      obtain ⟨cq76, kq76, q76a, q76b, q76c⟩ := isOf hZ rfl EX_HX63
      obtain ⟨_, _, ⟨T76, L76, k76, n76⟩, -, X76, ⟨Lc76, hQ76, l76, y76, z76⟩, st76⟩ := X63.virtualBack hx (y := (⟨"com/example/casewright/casewright/formats/HashIndex", "put", "(ILjava/lang/String;)I"⟩ : MethodName)) (z := (⟨"com/example/casewright/casewright/formats/HashIndex", "put", "(ILjava/lang/String;)I"⟩ : MethodName)) hown (mvT hZ (hw _ (List.mem_of_getElem? (i := 58) rfl))) (mvT hZ (hw _ (List.mem_of_getElem? (i := 59) rfl))) (notFace_of_selects (args := #[]) (mvT hZ (hw _ (List.mem_of_getElem? (i := 61) rfl)))) (mvT hZ (hw _ (List.mem_of_getElem? (i := 61) rfl))) (mvT hZ (hw _ (List.mem_of_getElem? (i := 60) rfl))) (by decide) (backOf (W := 0) (rm_pu l Z a0 hw [] b50 w1 s3 cs rd (fun _ => 0) (fun _ => 0) (fun _ => 0) 0 0 (c1.toInt8.toInt32) T63.heap n0 f64_Z HS f65_O HX63 f66_T_s3 (own_free own_inv0 (by decide) _) ⟨by decide, by decide⟩) hZ (hw _ (List.mem_of_getElem? (i := 62) rfl)) (hw _ (List.mem_of_getElem? (i := 30) rfl)) (by decide) (by decide)) q76a q76c (g := (mkF m 140 #[.val (.int p0), .val (.int p1), .val (.int p2), .val (.int p3), .val (.int p4), .val (.int c1), .val (.int c2), .val (.int c3), .val (.int c4), .val (.int w1), .val (.int w2), .val (.int w3), .val (.int w4), .val (.int t3), .val (.int t2), .val (.ref s3), .val (.ref s6), .val (.ref s11), .val (.ref s18), .val (.ref b27), .val (.ref b38), .val (.ref b50), .val (.int (0 : Int32)), .unset, .unset] [(.ref s3), (.int w1), (.ref b50)])) rfl (by rw [hml]; rfl) (Steps.refl _) (argsL := [(.int w1), (.ref s3)]) (rest := []) (lenOf pd_17 rfl) rfl (by show 2 * 0 + _ ≤ _; exact Nat.le_of_eq rfl) (hb hby at_140) (fun _ _ => ⟨rfl, rfl, (by decide : 16 + 0 ≤ _), (by decide : 107 + 0 ≤ _)⟩)
      dsimp only [Pt.U, Pt.locs, Pt.cells, Pt.slots] at X76 l76 y76 z76 st76 hQ76
      rw [l76, y76, z76] at X76
      obtain ⟨r76, pl76, hs76, tk76, sz76, fh76, rfl, hP76, ⟨N76q, OO76, PS76, KA76⟩, HX76⟩ := hQ76
      have N76 := Fr.app N63 N76q
      have f77_T_s3 := PS76 _ _ f66_T_s3
      have f78_T_s6 := PS76 _ _ f68_T_s6
      have f79_T_s11 := PS76 _ _ f70_T_s11
      have f80_T_s18 := PS76 _ _ f72_T_s18
      have f81_A_b27 := KA76 _ _ _ _ lt19 f74_A_b27
      have f82_A_b38 := KA76 _ _ _ _ lt20 f75_A_b38
      have Z76 := own_z OO76
      have E76_s3 := f77_T_s3.2.1
      have E76_s6 := f78_T_s6.2.1
      have E76_s11 := f79_T_s11.2.1
      have E76_s18 := f80_T_s18.2.1
      rw [hH1] at hP76
      have EX_HX76 := HX76.2.1
      refine go (fun t kt => st76.trans kt) ?_
      show Go p e below _ (T76.setTop (mkF m 143 #[.val (.int p0), .val (.int p1), .val (.int p2), .val (.int p3), .val (.int p4), .val (.int c1), .val (.int c2), .val (.int c3), .val (.int c4), .val (.int w1), .val (.int w2), .val (.int w3), .val (.int w4), .val (.int t3), .val (.int t2), .val (.ref s3), .val (.ref s6), .val (.ref s11), .val (.ref s18), .val (.ref b27), .val (.ref b38), .val (.ref b50), .val (.int (0 : Int32)), .unset, .unset] [(.int r76)]))
      refine go (fun t kt' => by refine XS.pop X76.here hx rfl (hb hby at_143) rfl rfl ?_; exact kt') ?_
      show Go p e below _ (T76.setTop (mkF m 144 #[.val (.int p0), .val (.int p1), .val (.int p2), .val (.int p3), .val (.int p4), .val (.int c1), .val (.int c2), .val (.int c3), .val (.int c4), .val (.int w1), .val (.int w2), .val (.int w3), .val (.int w4), .val (.int t3), .val (.int t2), .val (.ref s3), .val (.ref s6), .val (.ref s11), .val (.ref s18), .val (.ref b27), .val (.ref b38), .val (.ref b50), .val (.int (0 : Int32)), .unset, .unset] []))
      refine go (fun t kt' => by refine XS.aload X76.here hx rfl (hb hby at_144) rfl rfl ?_; exact kt') ?_
      show Go p e below _ (T76.setTop (mkF m 146 #[.val (.int p0), .val (.int p1), .val (.int p2), .val (.int p3), .val (.int p4), .val (.int c1), .val (.int c2), .val (.int c3), .val (.int c4), .val (.int w1), .val (.int w2), .val (.int w3), .val (.int w4), .val (.int t3), .val (.int t2), .val (.ref s3), .val (.ref s6), .val (.ref s11), .val (.ref s18), .val (.ref b27), .val (.ref b38), .val (.ref b50), .val (.int (0 : Int32)), .unset, .unset] [(.ref b27)]))
      refine go (fun t kt' => by refine XS.aload X76.here hx rfl (hb hby at_146) rfl rfl ?_; exact kt') ?_
      show Go p e below _ (T76.setTop (mkF m 148 #[.val (.int p0), .val (.int p1), .val (.int p2), .val (.int p3), .val (.int p4), .val (.int c1), .val (.int c2), .val (.int c3), .val (.int c4), .val (.int w1), .val (.int w2), .val (.int w3), .val (.int w4), .val (.int t3), .val (.int t2), .val (.ref s3), .val (.ref s6), .val (.ref s11), .val (.ref s18), .val (.ref b27), .val (.ref b38), .val (.ref b50), .val (.int (0 : Int32)), .unset, .unset] [(.ref b38), (.ref b27)]))
      refine go (fun t kt' => by refine XS.iload X76.here hx rfl (hb hby at_148) rfl ?_; exact kt') ?_
      show Go p e below _ (T76.setTop (mkF m 150 #[.val (.int p0), .val (.int p1), .val (.int p2), .val (.int p3), .val (.int p4), .val (.int c1), .val (.int c2), .val (.int c3), .val (.int c4), .val (.int w1), .val (.int w2), .val (.int w3), .val (.int w4), .val (.int t3), .val (.int t2), .val (.ref s3), .val (.ref s6), .val (.ref s11), .val (.ref s18), .val (.ref b27), .val (.ref b38), .val (.ref b50), .val (.int (0 : Int32)), .unset, .unset] [(.int (0 : Int32)), (.ref b38), (.ref b27)]))
      refine go (fun t kt' => by refine XS.iload X76.here hx rfl (hb hby at_150) rfl ?_; exact kt') ?_
      show Go p e below _ (T76.setTop (mkF m 152 #[.val (.int p0), .val (.int p1), .val (.int p2), .val (.int p3), .val (.int p4), .val (.int c1), .val (.int c2), .val (.int c3), .val (.int c4), .val (.int w1), .val (.int w2), .val (.int w3), .val (.int w4), .val (.int t3), .val (.int t2), .val (.ref s3), .val (.ref s6), .val (.ref s11), .val (.ref s18), .val (.ref b27), .val (.ref b38), .val (.ref b50), .val (.int (0 : Int32)), .unset, .unset] [(.int c1), (.int (0 : Int32)), (.ref b38), (.ref b27)]))
      refine go (fun t kt' => by refine XS.iload X76.here hx rfl (hb hby at_152) rfl ?_; exact kt') ?_
      show Go p e below _ (T76.setTop (mkF m 154 #[.val (.int p0), .val (.int p1), .val (.int p2), .val (.int p3), .val (.int p4), .val (.int c1), .val (.int c2), .val (.int c3), .val (.int c4), .val (.int w1), .val (.int w2), .val (.int w3), .val (.int w4), .val (.int t3), .val (.int t2), .val (.ref s3), .val (.ref s6), .val (.ref s11), .val (.ref s18), .val (.ref b27), .val (.ref b38), .val (.ref b50), .val (.int (0 : Int32)), .unset, .unset] [(.int w1), (.int c1), (.int (0 : Int32)), (.ref b38), (.ref b27)]))
      obtain ⟨_, _, ⟨T83, L83, k83, n83⟩, -, X83, ⟨Lc83, hQ83, l83, y83, z83⟩, st83⟩ := Jvm.LawKit.callS X76 hx (y := (⟨"com/example/casewright/casewright/formats/HashIndexRemoveLastPinLaw", "apply", "([C[IICI)I"⟩ : MethodName)) hown (mvT hZ (hw _ (List.mem_of_getElem? (i := 107) rfl))) (mvT hZ (hw _ (List.mem_of_getElem? (i := 108) rfl))) (mvT hZ (hw _ (List.mem_of_getElem? (i := 109) rfl))) (mvT hZ (hw _ (List.mem_of_getElem? (i := 110) rfl))) (by decide) (backOf (W := 0) (rm_ap l Z a0 hw [] b27 b38 (0 : Int32) c1 w1 cs rd (fun _ => (0 : Int32)) (fun _ => (0 : Int32)) 0 T76.heap n0 Z76 HS OO76 n0_b27 n0_b38 f81_A_b27 f82_A_b38 own_z0 (by decide) rc1) hZ (hw _ (List.mem_of_getElem? (i := 110) rfl)) (hw _ (List.mem_of_getElem? (i := 109) rfl)) (by decide) (by decide)) (g := (mkF m 154 #[.val (.int p0), .val (.int p1), .val (.int p2), .val (.int p3), .val (.int p4), .val (.int c1), .val (.int c2), .val (.int c3), .val (.int c4), .val (.int w1), .val (.int w2), .val (.int w3), .val (.int w4), .val (.int t3), .val (.int t2), .val (.ref s3), .val (.ref s6), .val (.ref s11), .val (.ref s18), .val (.ref b27), .val (.ref b38), .val (.ref b50), .val (.int (0 : Int32)), .unset, .unset] [(.int w1), (.int c1), (.int (0 : Int32)), (.ref b38), (.ref b27)])) rfl (by rw [hml]; rfl) (argsL := [(.ref b27), (.ref b38), (.int (0 : Int32)), (.int c1), (.int w1)]) (rest := []) (lenOf pd_18 rfl) rfl (by show 2 * 0 + _ ≤ _; exact Nat.le_of_eq rfl) (hb hby at_154) (fun _ _ => ⟨rfl, rfl, (by decide : 16 + 0 ≤ _), (by decide : 107 + 0 ≤ _)⟩)
      dsimp only [Pt.U, Pt.locs, Pt.cells, Pt.slots] at X83 l83 y83 z83 st83 hQ83
      rw [l83, y83, z83] at X83
      obtain ⟨r83, N83n, fk83, fp83, rfl, hr83, hA83, N83q, OO83, K83, PS83, VK83, VP83⟩ := hQ83
      have N83 := Fr.app N76 N83q
      have f84_T_s3 := PS83 _ _ f77_T_s3
      have f85_T_s6 := PS83 _ _ f78_T_s6
      have f86_T_s11 := PS83 _ _ f79_T_s11
      have f87_T_s18 := PS83 _ _ f80_T_s18
      have f88_Z := Nat.le_trans Z76 K83.1
      have f89_E_s3 := E76_s3.keep K83
      have f90_E_s6 := E76_s6.keep K83
      have f91_E_s11 := E76_s11.keep K83
      have f92_E_s18 := E76_s18.keep K83
      have f93_E_b50 := EX_HX76.keep K83
      have HX83 := own_HX.keep HX76 K83 (allS lt19 (allS lt20 all0)) PS83
      have EX_HX83 := HX83.2.1
      obtain ⟨hI83, hz83, hu83, hv83, hw83⟩ := own_put own_inv0 own_z0 (by decide) rw1 hP76 hA83
      refine go st83 ?_
      show Go p e below _ (T83.setTop (mkF m 157 #[.val (.int p0), .val (.int p1), .val (.int p2), .val (.int p3), .val (.int p4), .val (.int c1), .val (.int c2), .val (.int c3), .val (.int c4), .val (.int w1), .val (.int w2), .val (.int w3), .val (.int w4), .val (.int t3), .val (.int t2), .val (.ref s3), .val (.ref s6), .val (.ref s11), .val (.ref s18), .val (.ref b27), .val (.ref b38), .val (.ref b50), .val (.int (0 : Int32)), .unset, .unset] [(.int r83)]))
      refine go (fun t kt' => by refine XS.istore X83.here hx rfl (hb hby at_157) rfl (l' := #[.val (.int p0), .val (.int p1), .val (.int p2), .val (.int p3), .val (.int p4), .val (.int c1), .val (.int c2), .val (.int c3), .val (.int c4), .val (.int w1), .val (.int w2), .val (.int w3), .val (.int w4), .val (.int t3), .val (.int t2), .val (.ref s3), .val (.ref s6), .val (.ref s11), .val (.ref s18), .val (.ref b27), .val (.ref b38), .val (.ref b50), .val (.int r83), .unset, .unset]) rfl ?_; exact kt') ?_
      show Go p e below _ (T83.setTop (mkF m 159 #[.val (.int p0), .val (.int p1), .val (.int p2), .val (.int p3), .val (.int p4), .val (.int c1), .val (.int c2), .val (.int c3), .val (.int c4), .val (.int w1), .val (.int w2), .val (.int w3), .val (.int w4), .val (.int t3), .val (.int t2), .val (.ref s3), .val (.ref s6), .val (.ref s11), .val (.ref s18), .val (.ref b27), .val (.ref b38), .val (.ref b50), .val (.int r83), .unset, .unset] []))
      refine go (fun t kt' => by refine XS.aload X83.here hx rfl (hb hby at_159) rfl rfl ?_; exact kt') ?_
      show Go p e below _ (T83.setTop (mkF m 161 #[.val (.int p0), .val (.int p1), .val (.int p2), .val (.int p3), .val (.int p4), .val (.int c1), .val (.int c2), .val (.int c3), .val (.int c4), .val (.int w1), .val (.int w2), .val (.int w3), .val (.int w4), .val (.int t3), .val (.int t2), .val (.ref s3), .val (.ref s6), .val (.ref s11), .val (.ref s18), .val (.ref b27), .val (.ref b38), .val (.ref b50), .val (.int r83), .unset, .unset] [(.ref b50)]))
      refine go (fun t kt' => by refine XS.iload X83.here hx rfl (hb hby at_161) rfl ?_; exact kt') ?_
      show Go p e below _ (T83.setTop (mkF m 163 #[.val (.int p0), .val (.int p1), .val (.int p2), .val (.int p3), .val (.int p4), .val (.int c1), .val (.int c2), .val (.int c3), .val (.int c4), .val (.int w1), .val (.int w2), .val (.int w3), .val (.int w4), .val (.int t3), .val (.int t2), .val (.ref s3), .val (.ref s6), .val (.ref s11), .val (.ref s18), .val (.ref b27), .val (.ref b38), .val (.ref b50), .val (.int r83), .unset, .unset] [(.int w2), (.ref b50)]))
      refine go (fun t kt' => by refine XS.aload X83.here hx rfl (hb hby at_163) rfl rfl ?_; exact kt') ?_
      show Go p e below _ (T83.setTop (mkF m 165 #[.val (.int p0), .val (.int p1), .val (.int p2), .val (.int p3), .val (.int p4), .val (.int c1), .val (.int c2), .val (.int c3), .val (.int c4), .val (.int w1), .val (.int w2), .val (.int w3), .val (.int w4), .val (.int t3), .val (.int t2), .val (.ref s3), .val (.ref s6), .val (.ref s11), .val (.ref s18), .val (.ref b27), .val (.ref b38), .val (.ref b50), .val (.int r83), .unset, .unset] [(.ref s6), (.int w2), (.ref b50)]))
      obtain ⟨cq94, kq94, q94a, q94b, q94c⟩ := isOf hZ rfl EX_HX83
      obtain ⟨_, _, ⟨T94, L94, k94, n94⟩, -, X94, ⟨Lc94, hQ94, l94, y94, z94⟩, st94⟩ := X83.virtualBack hx (y := (⟨"com/example/casewright/casewright/formats/HashIndex", "put", "(ILjava/lang/String;)I"⟩ : MethodName)) (z := (⟨"com/example/casewright/casewright/formats/HashIndex", "put", "(ILjava/lang/String;)I"⟩ : MethodName)) hown (mvT hZ (hw _ (List.mem_of_getElem? (i := 58) rfl))) (mvT hZ (hw _ (List.mem_of_getElem? (i := 59) rfl))) (notFace_of_selects (args := #[]) (mvT hZ (hw _ (List.mem_of_getElem? (i := 61) rfl)))) (mvT hZ (hw _ (List.mem_of_getElem? (i := 61) rfl))) (mvT hZ (hw _ (List.mem_of_getElem? (i := 60) rfl))) (by decide) (backOf (W := 0) (rm_pu l Z a0 hw [] b50 w2 s6 cs rd pl76 hs76 tk76 sz76 fh76 (c2.toInt8.toInt32) T83.heap n0 f88_Z HS OO83 HX83 f85_T_s6 (own_free hI83 (by omega) _) (by omega)) hZ (hw _ (List.mem_of_getElem? (i := 62) rfl)) (hw _ (List.mem_of_getElem? (i := 30) rfl)) (by decide) (by decide)) q94a q94c (g := (mkF m 165 #[.val (.int p0), .val (.int p1), .val (.int p2), .val (.int p3), .val (.int p4), .val (.int c1), .val (.int c2), .val (.int c3), .val (.int c4), .val (.int w1), .val (.int w2), .val (.int w3), .val (.int w4), .val (.int t3), .val (.int t2), .val (.ref s3), .val (.ref s6), .val (.ref s11), .val (.ref s18), .val (.ref b27), .val (.ref b38), .val (.ref b50), .val (.int r83), .unset, .unset] [(.ref s6), (.int w2), (.ref b50)])) rfl (by rw [hml]; rfl) (Steps.refl _) (argsL := [(.int w2), (.ref s6)]) (rest := []) (lenOf pd_17 rfl) rfl (by show 2 * 0 + _ ≤ _; exact Nat.le_of_eq rfl) (hb hby at_165) (fun _ _ => ⟨rfl, rfl, (by decide : 16 + 0 ≤ _), (by decide : 107 + 0 ≤ _)⟩)
      dsimp only [Pt.U, Pt.locs, Pt.cells, Pt.slots] at X94 l94 y94 z94 st94 hQ94
      rw [l94, y94, z94] at X94
      obtain ⟨r94, pl94, hs94, tk94, sz94, fh94, rfl, hP94, ⟨N94q, OO94, PS94, KA94⟩, HX94⟩ := hQ94
      have N94 := Fr.app N83 N94q
      have f95_T_s3 := PS94 _ _ f84_T_s3
      have f96_T_s6 := PS94 _ _ f85_T_s6
      have f97_T_s11 := PS94 _ _ f86_T_s11
      have f98_T_s18 := PS94 _ _ f87_T_s18
      have f99_A_b27 := KA94 _ _ _ _ lt19 VK83
      have f100_A_b38 := KA94 _ _ _ _ lt20 VP83
      have Z94 := own_z OO94
      have E94_s3 := f95_T_s3.2.1
      have E94_s6 := f96_T_s6.2.1
      have E94_s11 := f97_T_s11.2.1
      have E94_s18 := f98_T_s18.2.1
      rw [hH2] at hP94
      have EX_HX94 := HX94.2.1
      refine go (fun t kt => st94.trans kt) ?_
      show Go p e below _ (T94.setTop (mkF m 168 #[.val (.int p0), .val (.int p1), .val (.int p2), .val (.int p3), .val (.int p4), .val (.int c1), .val (.int c2), .val (.int c3), .val (.int c4), .val (.int w1), .val (.int w2), .val (.int w3), .val (.int w4), .val (.int t3), .val (.int t2), .val (.ref s3), .val (.ref s6), .val (.ref s11), .val (.ref s18), .val (.ref b27), .val (.ref b38), .val (.ref b50), .val (.int r83), .unset, .unset] [(.int r94)]))
      refine go (fun t kt' => by refine XS.pop X94.here hx rfl (hb hby at_168) rfl rfl ?_; exact kt') ?_
      show Go p e below _ (T94.setTop (mkF m 169 #[.val (.int p0), .val (.int p1), .val (.int p2), .val (.int p3), .val (.int p4), .val (.int c1), .val (.int c2), .val (.int c3), .val (.int c4), .val (.int w1), .val (.int w2), .val (.int w3), .val (.int w4), .val (.int t3), .val (.int t2), .val (.ref s3), .val (.ref s6), .val (.ref s11), .val (.ref s18), .val (.ref b27), .val (.ref b38), .val (.ref b50), .val (.int r83), .unset, .unset] []))
      refine go (fun t kt' => by refine XS.aload X94.here hx rfl (hb hby at_169) rfl rfl ?_; exact kt') ?_
      show Go p e below _ (T94.setTop (mkF m 171 #[.val (.int p0), .val (.int p1), .val (.int p2), .val (.int p3), .val (.int p4), .val (.int c1), .val (.int c2), .val (.int c3), .val (.int c4), .val (.int w1), .val (.int w2), .val (.int w3), .val (.int w4), .val (.int t3), .val (.int t2), .val (.ref s3), .val (.ref s6), .val (.ref s11), .val (.ref s18), .val (.ref b27), .val (.ref b38), .val (.ref b50), .val (.int r83), .unset, .unset] [(.ref b27)]))
      refine go (fun t kt' => by refine XS.aload X94.here hx rfl (hb hby at_171) rfl rfl ?_; exact kt') ?_
      show Go p e below _ (T94.setTop (mkF m 173 #[.val (.int p0), .val (.int p1), .val (.int p2), .val (.int p3), .val (.int p4), .val (.int c1), .val (.int c2), .val (.int c3), .val (.int c4), .val (.int w1), .val (.int w2), .val (.int w3), .val (.int w4), .val (.int t3), .val (.int t2), .val (.ref s3), .val (.ref s6), .val (.ref s11), .val (.ref s18), .val (.ref b27), .val (.ref b38), .val (.ref b50), .val (.int r83), .unset, .unset] [(.ref b38), (.ref b27)]))
      refine go (fun t kt' => by refine XS.iload X94.here hx rfl (hb hby at_173) rfl ?_; exact kt') ?_
      show Go p e below _ (T94.setTop (mkF m 175 #[.val (.int p0), .val (.int p1), .val (.int p2), .val (.int p3), .val (.int p4), .val (.int c1), .val (.int c2), .val (.int c3), .val (.int c4), .val (.int w1), .val (.int w2), .val (.int w3), .val (.int w4), .val (.int t3), .val (.int t2), .val (.ref s3), .val (.ref s6), .val (.ref s11), .val (.ref s18), .val (.ref b27), .val (.ref b38), .val (.ref b50), .val (.int r83), .unset, .unset] [(.int r83), (.ref b38), (.ref b27)]))
      refine go (fun t kt' => by refine XS.iload X94.here hx rfl (hb hby at_175) rfl ?_; exact kt') ?_
      show Go p e below _ (T94.setTop (mkF m 177 #[.val (.int p0), .val (.int p1), .val (.int p2), .val (.int p3), .val (.int p4), .val (.int c1), .val (.int c2), .val (.int c3), .val (.int c4), .val (.int w1), .val (.int w2), .val (.int w3), .val (.int w4), .val (.int t3), .val (.int t2), .val (.ref s3), .val (.ref s6), .val (.ref s11), .val (.ref s18), .val (.ref b27), .val (.ref b38), .val (.ref b50), .val (.int r83), .unset, .unset] [(.int c2), (.int r83), (.ref b38), (.ref b27)]))
      refine go (fun t kt' => by refine XS.iload X94.here hx rfl (hb hby at_177) rfl ?_; exact kt') ?_
      show Go p e below _ (T94.setTop (mkF m 179 #[.val (.int p0), .val (.int p1), .val (.int p2), .val (.int p3), .val (.int p4), .val (.int c1), .val (.int c2), .val (.int c3), .val (.int c4), .val (.int w1), .val (.int w2), .val (.int w3), .val (.int w4), .val (.int t3), .val (.int t2), .val (.ref s3), .val (.ref s6), .val (.ref s11), .val (.ref s18), .val (.ref b27), .val (.ref b38), .val (.ref b50), .val (.int r83), .unset, .unset] [(.int w2), (.int c2), (.int r83), (.ref b38), (.ref b27)]))
      obtain ⟨_, _, ⟨T101, L101, k101, n101⟩, -, X101, ⟨Lc101, hQ101, l101, y101, z101⟩, st101⟩ := Jvm.LawKit.callS X94 hx (y := (⟨"com/example/casewright/casewright/formats/HashIndexRemoveLastPinLaw", "apply", "([C[IICI)I"⟩ : MethodName)) hown (mvT hZ (hw _ (List.mem_of_getElem? (i := 107) rfl))) (mvT hZ (hw _ (List.mem_of_getElem? (i := 108) rfl))) (mvT hZ (hw _ (List.mem_of_getElem? (i := 109) rfl))) (mvT hZ (hw _ (List.mem_of_getElem? (i := 110) rfl))) (by decide) (backOf (W := 0) (rm_ap l Z a0 hw [] b27 b38 r83 c2 w2 cs rd fk83 fp83 N83n T94.heap n0 Z94 HS OO94 n0_b27 n0_b38 f99_A_b27 f100_A_b38 hr83 (by omega) rc2) hZ (hw _ (List.mem_of_getElem? (i := 110) rfl)) (hw _ (List.mem_of_getElem? (i := 109) rfl)) (by decide) (by decide)) (g := (mkF m 179 #[.val (.int p0), .val (.int p1), .val (.int p2), .val (.int p3), .val (.int p4), .val (.int c1), .val (.int c2), .val (.int c3), .val (.int c4), .val (.int w1), .val (.int w2), .val (.int w3), .val (.int w4), .val (.int t3), .val (.int t2), .val (.ref s3), .val (.ref s6), .val (.ref s11), .val (.ref s18), .val (.ref b27), .val (.ref b38), .val (.ref b50), .val (.int r83), .unset, .unset] [(.int w2), (.int c2), (.int r83), (.ref b38), (.ref b27)])) rfl (by rw [hml]; rfl) (argsL := [(.ref b27), (.ref b38), (.int r83), (.int c2), (.int w2)]) (rest := []) (lenOf pd_18 rfl) rfl (by show 2 * 0 + _ ≤ _; exact Nat.le_of_eq rfl) (hb hby at_179) (fun _ _ => ⟨rfl, rfl, (by decide : 16 + 0 ≤ _), (by decide : 107 + 0 ≤ _)⟩)
      dsimp only [Pt.U, Pt.locs, Pt.cells, Pt.slots] at X101 l101 y101 z101 st101 hQ101
      rw [l101, y101, z101] at X101
      obtain ⟨r101, N101n, fk101, fp101, rfl, hr101, hA101, N101q, OO101, K101, PS101, VK101, VP101⟩ := hQ101
      have N101 := Fr.app N94 N101q
      have f102_T_s3 := PS101 _ _ f95_T_s3
      have f103_T_s6 := PS101 _ _ f96_T_s6
      have f104_T_s11 := PS101 _ _ f97_T_s11
      have f105_T_s18 := PS101 _ _ f98_T_s18
      have f106_Z := Nat.le_trans Z94 K101.1
      have f107_E_s3 := E94_s3.keep K101
      have f108_E_s6 := E94_s6.keep K101
      have f109_E_s11 := E94_s11.keep K101
      have f110_E_s18 := E94_s18.keep K101
      have f111_E_b50 := EX_HX94.keep K101
      have HX101 := own_HX.keep HX94 K101 (allS lt19 (allS lt20 all0)) PS101
      have EX_HX101 := HX101.2.1
      obtain ⟨hI101, hz101, hu101, hv101, hw101⟩ := own_put hI83 hz83 (by omega) rw2 hP94 hA101
      refine go st101 ?_
      show Go p e below _ (T101.setTop (mkF m 182 #[.val (.int p0), .val (.int p1), .val (.int p2), .val (.int p3), .val (.int p4), .val (.int c1), .val (.int c2), .val (.int c3), .val (.int c4), .val (.int w1), .val (.int w2), .val (.int w3), .val (.int w4), .val (.int t3), .val (.int t2), .val (.ref s3), .val (.ref s6), .val (.ref s11), .val (.ref s18), .val (.ref b27), .val (.ref b38), .val (.ref b50), .val (.int r83), .unset, .unset] [(.int r101)]))
      refine go (fun t kt' => by refine XS.istore X101.here hx rfl (hb hby at_182) rfl (l' := #[.val (.int p0), .val (.int p1), .val (.int p2), .val (.int p3), .val (.int p4), .val (.int c1), .val (.int c2), .val (.int c3), .val (.int c4), .val (.int w1), .val (.int w2), .val (.int w3), .val (.int w4), .val (.int t3), .val (.int t2), .val (.ref s3), .val (.ref s6), .val (.ref s11), .val (.ref s18), .val (.ref b27), .val (.ref b38), .val (.ref b50), .val (.int r101), .unset, .unset]) rfl ?_; exact kt') ?_
      show Go p e below _ (T101.setTop (mkF m 184 #[.val (.int p0), .val (.int p1), .val (.int p2), .val (.int p3), .val (.int p4), .val (.int c1), .val (.int c2), .val (.int c3), .val (.int c4), .val (.int w1), .val (.int w2), .val (.int w3), .val (.int w4), .val (.int t3), .val (.int t2), .val (.ref s3), .val (.ref s6), .val (.ref s11), .val (.ref s18), .val (.ref b27), .val (.ref b38), .val (.ref b50), .val (.int r101), .unset, .unset] []))
      have J214 : ∀ (T : State) (h : Heap) (locs : List Loc) (pl hs tk : Nat → Int32) (sz fh nI : Int32) (N : Nat) (fk fp : Nat → Int32) (X : Stand p l e room_1 s m #[(.int p0), (.int p1), (.int p2), (.int p3), (.int p4)] below meth c T locs 16 107) (eT : T.heap = h) (NN : Fr n0 locs) (OOh : Old Z n0 h) (HXh : own_HX Z n0 h b50 pl hs tk sz fh) (S1 : own_St Z n0 h s3 (c1.toInt8.toInt32)) (S2 : own_St Z n0 h s6 (c2.toInt8.toInt32)) (S3 : own_St Z n0 h s11 (c3.toInt8.toInt32)) (S4 : own_St Z n0 h s18 (c4.toInt8.toInt32)) (VK : IA Z h b27 .char 3 fk) (VP : IA Z h b38 .int 3 fp) (hI : own_Inv pl hs tk N fk fp) (hN : 1 ≤ N ∧ N ≤ 3) (hsz : sz.toInt = N) (hnI : nI.toInt = N), Go p e below (Kq s (Q0 Z  h0 n0) room_1.cells room_1.slots) (T.setTop (mkF m 214 #[.val (.int p0), .val (.int p1), .val (.int p2), .val (.int p3), .val (.int p4), .val (.int c1), .val (.int c2), .val (.int c3), .val (.int c4), .val (.int w1), .val (.int w2), .val (.int w3), .val (.int w4), .val (.int t3), .val (.int t2), .val (.ref s3), .val (.ref s6), .val (.ref s11), .val (.ref s18), .val (.ref b27), .val (.ref b38), .val (.ref b50), .val (.int nI), .unset, .unset] [])) := by
        intro T h locs pl hs tk sz fh nI N fk fp X eT NN OOh HXh S1 S2 S3 S4 VK VP hI hN hsz hnI
        have EXh := HXh.2.1
        have Zh := own_z OOh
        have ES1 := S1.2.1
        have ES2 := S2.2.1
        have ES3 := S3.2.1
        have ES4 := S4.2.1
        show Go p e below _ (T.setTop (mkF m 214 #[.val (.int p0), .val (.int p1), .val (.int p2), .val (.int p3), .val (.int p4), .val (.int c1), .val (.int c2), .val (.int c3), .val (.int c4), .val (.int w1), .val (.int w2), .val (.int w3), .val (.int w4), .val (.int t3), .val (.int t2), .val (.ref s3), .val (.ref s6), .val (.ref s11), .val (.ref s18), .val (.ref b27), .val (.ref b38), .val (.ref b50), .val (.int nI), .unset, .unset] []))
        refine go (fun t kt' => by refine XS.aload X.here hx rfl (hb hby at_214) rfl rfl ?_; exact kt') ?_
        show Go p e below _ (T.setTop (mkF m 216 #[.val (.int p0), .val (.int p1), .val (.int p2), .val (.int p3), .val (.int p4), .val (.int c1), .val (.int c2), .val (.int c3), .val (.int c4), .val (.int w1), .val (.int w2), .val (.int w3), .val (.int w4), .val (.int t3), .val (.int t2), .val (.ref s3), .val (.ref s6), .val (.ref s11), .val (.ref s18), .val (.ref b27), .val (.ref b38), .val (.ref b50), .val (.int nI), .unset, .unset] [(.ref b50)]))
        obtain ⟨M112, rfl⟩ : ∃ z, N = z + 1 := ⟨N - 1, by omega⟩
        obtain ⟨sn112, hsn112, htk112, hI112⟩ := own_rem hI
        obtain ⟨cq112, kq112, q112a, q112b, q112c⟩ := isOf hZ eT EXh
        obtain ⟨_, _, ⟨T112, L112, k112, n112⟩, -, X112, ⟨Lc112, hQ112, l112, y112, z112⟩, st112⟩ := X.virtualBack hx (y := (⟨"com/example/casewright/casewright/formats/HashIndex", "removeLast", "()V"⟩ : MethodName)) (z := (⟨"com/example/casewright/casewright/formats/HashIndex", "removeLast", "()V"⟩ : MethodName)) hown (mvT hZ (hw _ (List.mem_of_getElem? (i := 111) rfl))) (mvT hZ (hw _ (List.mem_of_getElem? (i := 112) rfl))) (notFace_of_selects (args := #[]) (mvT hZ (hw _ (List.mem_of_getElem? (i := 114) rfl)))) (mvT hZ (hw _ (List.mem_of_getElem? (i := 114) rfl))) (mvT hZ (hw _ (List.mem_of_getElem? (i := 113) rfl))) (by decide) (backOf (W := 0) (rm_rl l Z a0 hw [] b50 cs rd pl hs tk sz fh M112 sn112 h n0 Zh HS OOh HXh hsz (by omega) htk112 hsn112) hZ (hw _ (List.mem_of_getElem? (i := 115) rfl)) (hw _ (List.mem_of_getElem? (i := 30) rfl)) (by decide) (by decide)) q112a q112c (g := (mkF m 216 #[.val (.int p0), .val (.int p1), .val (.int p2), .val (.int p3), .val (.int p4), .val (.int c1), .val (.int c2), .val (.int c3), .val (.int c4), .val (.int w1), .val (.int w2), .val (.int w3), .val (.int w4), .val (.int t3), .val (.int t2), .val (.ref s3), .val (.ref s6), .val (.ref s11), .val (.ref s18), .val (.ref b27), .val (.ref b38), .val (.ref b50), .val (.int nI), .unset, .unset] [(.ref b50)])) rfl (by rw [hml]; rfl) (Steps.refl _) (argsL := []) (rest := []) (lenOf pd_16 rfl) rfl (by show 2 * 0 + _ ≤ _; exact Nat.le_of_eq rfl) (hb hby at_216) (fun _ _ => ⟨rfl, eT, (by decide : 16 + 0 ≤ _), (by decide : 107 + 0 ≤ _)⟩)
        dsimp only [Pt.U, Pt.locs, Pt.cells, Pt.slots] at X112 l112 y112 z112 st112 hQ112
        rw [l112, y112, z112] at X112
        obtain ⟨rfl, ⟨N112q, OO112, PS112, KA112⟩, fh112, HX112⟩ := hQ112
        have N112 := Fr.app NN N112q
        have f113_A_b27 := KA112 _ _ _ _ lt19 VK
        have f114_A_b38 := KA112 _ _ _ _ lt20 VP
        have f115_T_s3 := PS112 _ _ S1
        have f116_T_s6 := PS112 _ _ S2
        have f117_T_s11 := PS112 _ _ S3
        have f118_T_s18 := PS112 _ _ S4
        have Z112 := own_z OO112
        have E112_s3 := f115_T_s3.2.1
        have E112_s6 := f116_T_s6.2.1
        have E112_s11 := f117_T_s11.2.1
        have E112_s18 := f118_T_s18.2.1
        have EX_HX112 := HX112.2.1
        refine go (fun t kt => st112.trans kt) ?_
        show Go p e below _ (T112.setTop (mkF m 219 #[.val (.int p0), .val (.int p1), .val (.int p2), .val (.int p3), .val (.int p4), .val (.int c1), .val (.int c2), .val (.int c3), .val (.int c4), .val (.int w1), .val (.int w2), .val (.int w3), .val (.int w4), .val (.int t3), .val (.int t2), .val (.ref s3), .val (.ref s6), .val (.ref s11), .val (.ref s18), .val (.ref b27), .val (.ref b38), .val (.ref b50), .val (.int nI), .unset, .unset] []))
        refine go (fun t kt' => by refine XS.iload X112.here hx rfl (hb hby at_219) rfl ?_; exact kt') ?_
        show Go p e below _ (T112.setTop (mkF m 221 #[.val (.int p0), .val (.int p1), .val (.int p2), .val (.int p3), .val (.int p4), .val (.int c1), .val (.int c2), .val (.int c3), .val (.int c4), .val (.int w1), .val (.int w2), .val (.int w3), .val (.int w4), .val (.int t3), .val (.int t2), .val (.ref s3), .val (.ref s6), .val (.ref s11), .val (.ref s18), .val (.ref b27), .val (.ref b38), .val (.ref b50), .val (.int nI), .unset, .unset] [(.int nI)]))
        refine go (fun t kt' => by refine XS.iconst X112.here hx rfl (hb hby at_221) ?_; exact kt') ?_
        show Go p e below _ (T112.setTop (mkF m 222 #[.val (.int p0), .val (.int p1), .val (.int p2), .val (.int p3), .val (.int p4), .val (.int c1), .val (.int c2), .val (.int c3), .val (.int c4), .val (.int w1), .val (.int w2), .val (.int w3), .val (.int w4), .val (.int t3), .val (.int t2), .val (.ref s3), .val (.ref s6), .val (.ref s11), .val (.ref s18), .val (.ref b27), .val (.ref b38), .val (.ref b50), .val (.int nI), .unset, .unset] [(.int (1 : Int32)), (.int nI)]))
        refine go (fun t kt' => by refine XS.isub X112.here hx rfl (hb hby at_222) rfl ?_; exact kt') ?_
        show Go p e below _ (T112.setTop (mkF m 223 #[.val (.int p0), .val (.int p1), .val (.int p2), .val (.int p3), .val (.int p4), .val (.int c1), .val (.int c2), .val (.int c3), .val (.int c4), .val (.int w1), .val (.int w2), .val (.int w3), .val (.int w4), .val (.int t3), .val (.int t2), .val (.ref s3), .val (.ref s6), .val (.ref s11), .val (.ref s18), .val (.ref b27), .val (.ref b38), .val (.ref b50), .val (.int nI), .unset, .unset] [(.int (nI - (1 : Int32)))]))
        refine go (fun t kt' => by refine XS.istore X112.here hx rfl (hb hby at_223) rfl (l' := #[.val (.int p0), .val (.int p1), .val (.int p2), .val (.int p3), .val (.int p4), .val (.int c1), .val (.int c2), .val (.int c3), .val (.int c4), .val (.int w1), .val (.int w2), .val (.int w3), .val (.int w4), .val (.int t3), .val (.int t2), .val (.ref s3), .val (.ref s6), .val (.ref s11), .val (.ref s18), .val (.ref b27), .val (.ref b38), .val (.ref b50), .val (.int (nI - (1 : Int32))), .unset, .unset]) rfl ?_; exact kt') ?_
        show Go p e below _ (T112.setTop (mkF m 225 #[.val (.int p0), .val (.int p1), .val (.int p2), .val (.int p3), .val (.int p4), .val (.int c1), .val (.int c2), .val (.int c3), .val (.int c4), .val (.int w1), .val (.int w2), .val (.int w3), .val (.int w4), .val (.int t3), .val (.int t2), .val (.ref s3), .val (.ref s6), .val (.ref s11), .val (.ref s18), .val (.ref b27), .val (.ref b38), .val (.ref b50), .val (.int (nI - (1 : Int32))), .unset, .unset] []))
        have J246 : ∀ (T : State) (h : Heap) (locs : List Loc) (pl hs tk : Nat → Int32) (sz fh nI : Int32) (N : Nat) (fk fp : Nat → Int32) (X : Stand p l e room_1 s m #[(.int p0), (.int p1), (.int p2), (.int p3), (.int p4)] below meth c T locs 16 107) (eT : T.heap = h) (NN : Fr n0 locs) (OOh : Old Z n0 h) (HXh : own_HX Z n0 h b50 pl hs tk sz fh) (S1 : own_St Z n0 h s3 (c1.toInt8.toInt32)) (S2 : own_St Z n0 h s6 (c2.toInt8.toInt32)) (S3 : own_St Z n0 h s11 (c3.toInt8.toInt32)) (S4 : own_St Z n0 h s18 (c4.toInt8.toInt32)) (VK : IA Z h b27 .char 3 fk) (VP : IA Z h b38 .int 3 fp) (hI : own_Inv pl hs tk N fk fp) (hN : N ≤ 2) (hsz : sz.toInt = N) (hnI : nI.toInt = N), Go p e below (Kq s (Q0 Z  h0 n0) room_1.cells room_1.slots) (T.setTop (mkF m 246 #[.val (.int p0), .val (.int p1), .val (.int p2), .val (.int p3), .val (.int p4), .val (.int c1), .val (.int c2), .val (.int c3), .val (.int c4), .val (.int w1), .val (.int w2), .val (.int w3), .val (.int w4), .val (.int t3), .val (.int t2), .val (.ref s3), .val (.ref s6), .val (.ref s11), .val (.ref s18), .val (.ref b27), .val (.ref b38), .val (.ref b50), .val (.int nI), .unset, .unset] [])) := by
          intro T h locs pl hs tk sz fh nI N fk fp X eT NN OOh HXh S1 S2 S3 S4 VK VP hI hN hsz hnI
          have EXh := HXh.2.1
          have Zh := own_z OOh
          have ES1 := S1.2.1
          have ES2 := S2.2.1
          have ES3 := S3.2.1
          have ES4 := S4.2.1
          show Go p e below _ (T.setTop (mkF m 246 #[.val (.int p0), .val (.int p1), .val (.int p2), .val (.int p3), .val (.int p4), .val (.int c1), .val (.int c2), .val (.int c3), .val (.int c4), .val (.int w1), .val (.int w2), .val (.int w3), .val (.int w4), .val (.int t3), .val (.int t2), .val (.ref s3), .val (.ref s6), .val (.ref s11), .val (.ref s18), .val (.ref b27), .val (.ref b38), .val (.ref b50), .val (.int nI), .unset, .unset] []))
          refine go (fun t kt' => by refine XS.aload X.here hx rfl (hb hby at_246) rfl rfl ?_; exact kt') ?_
          show Go p e below _ (T.setTop (mkF m 248 #[.val (.int p0), .val (.int p1), .val (.int p2), .val (.int p3), .val (.int p4), .val (.int c1), .val (.int c2), .val (.int c3), .val (.int c4), .val (.int w1), .val (.int w2), .val (.int w3), .val (.int w4), .val (.int t3), .val (.int t2), .val (.ref s3), .val (.ref s6), .val (.ref s11), .val (.ref s18), .val (.ref b27), .val (.ref b38), .val (.ref b50), .val (.int nI), .unset, .unset] [(.ref b50)]))
          refine go (fun t kt' => by refine XS.aload X.here hx rfl (hb hby at_248) rfl rfl ?_; exact kt') ?_
          show Go p e below _ (T.setTop (mkF m 250 #[.val (.int p0), .val (.int p1), .val (.int p2), .val (.int p3), .val (.int p4), .val (.int c1), .val (.int c2), .val (.int c3), .val (.int c4), .val (.int w1), .val (.int w2), .val (.int w3), .val (.int w4), .val (.int t3), .val (.int t2), .val (.ref s3), .val (.ref s6), .val (.ref s11), .val (.ref s18), .val (.ref b27), .val (.ref b38), .val (.ref b50), .val (.int nI), .unset, .unset] [(.ref s3), (.ref b50)]))
          obtain ⟨cq119, kq119, q119a, q119b, q119c⟩ := isOf hZ eT EXh
          obtain ⟨_, _, ⟨T119, L119, k119, n119⟩, -, X119, ⟨Lc119, hQ119, l119, y119, z119⟩, st119⟩ := X.virtualBack hx (y := (⟨"com/example/casewright/casewright/formats/HashIndex", "get", "(Ljava/lang/String;)I"⟩ : MethodName)) (z := (⟨"com/example/casewright/casewright/formats/HashIndex", "get", "(Ljava/lang/String;)I"⟩ : MethodName)) hown (mvT hZ (hw _ (List.mem_of_getElem? (i := 116) rfl))) (mvT hZ (hw _ (List.mem_of_getElem? (i := 117) rfl))) (notFace_of_selects (args := #[]) (mvT hZ (hw _ (List.mem_of_getElem? (i := 119) rfl)))) (mvT hZ (hw _ (List.mem_of_getElem? (i := 119) rfl))) (mvT hZ (hw _ (List.mem_of_getElem? (i := 118) rfl))) (by decide) (backOf (W := 0) (rm_ge l Z a0 hw [] b50 s3 cs rd pl hs tk sz fh (c1.toInt8.toInt32) h n0 Zh HS OOh HXh S1 (own_free hI (by omega) _)) hZ (hw _ (List.mem_of_getElem? (i := 120) rfl)) (hw _ (List.mem_of_getElem? (i := 30) rfl)) (by decide) (by decide)) q119a q119c (g := (mkF m 250 #[.val (.int p0), .val (.int p1), .val (.int p2), .val (.int p3), .val (.int p4), .val (.int c1), .val (.int c2), .val (.int c3), .val (.int c4), .val (.int w1), .val (.int w2), .val (.int w3), .val (.int w4), .val (.int t3), .val (.int t2), .val (.ref s3), .val (.ref s6), .val (.ref s11), .val (.ref s18), .val (.ref b27), .val (.ref b38), .val (.ref b50), .val (.int nI), .unset, .unset] [(.ref s3), (.ref b50)])) rfl (by rw [hml]; rfl) (Steps.refl _) (argsL := [(.ref s3)]) (rest := []) (lenOf pd_19 rfl) rfl (by show 2 * 0 + _ ≤ _; exact Nat.le_of_eq rfl) (hb hby at_250) (fun _ _ => ⟨rfl, eT, (by decide : 16 + 0 ≤ _), (by decide : 107 + 0 ≤ _)⟩)
          dsimp only [Pt.U, Pt.locs, Pt.cells, Pt.slots] at X119 l119 y119 z119 st119 hQ119
          rw [l119, y119, z119] at X119
          obtain ⟨r119, rfl, hG119, ⟨N119q, OO119, PS119, KA119⟩, HX119⟩ := hQ119
          have N119 := Fr.app NN N119q
          have f120_A_b27 := KA119 _ _ _ _ lt19 VK
          have f121_A_b38 := KA119 _ _ _ _ lt20 VP
          have f122_T_s3 := PS119 _ _ S1
          have f123_T_s6 := PS119 _ _ S2
          have f124_T_s11 := PS119 _ _ S3
          have f125_T_s18 := PS119 _ _ S4
          have Z119 := own_z OO119
          have E119_s3 := f122_T_s3.2.1
          have E119_s6 := f123_T_s6.2.1
          have E119_s11 := f124_T_s11.2.1
          have E119_s18 := f125_T_s18.2.1
          rw [hH1] at hG119
          have EX_HX119 := HX119.2.1
          refine go (fun t kt => st119.trans kt) ?_
          show Go p e below _ (T119.setTop (mkF m 253 #[.val (.int p0), .val (.int p1), .val (.int p2), .val (.int p3), .val (.int p4), .val (.int c1), .val (.int c2), .val (.int c3), .val (.int c4), .val (.int w1), .val (.int w2), .val (.int w3), .val (.int w4), .val (.int t3), .val (.int t2), .val (.ref s3), .val (.ref s6), .val (.ref s11), .val (.ref s18), .val (.ref b27), .val (.ref b38), .val (.ref b50), .val (.int nI), .unset, .unset] [(.int r119)]))
          refine go (fun t kt' => by refine XS.aload X119.here hx rfl (hb hby at_253) rfl rfl ?_; exact kt') ?_
          show Go p e below _ (T119.setTop (mkF m 255 #[.val (.int p0), .val (.int p1), .val (.int p2), .val (.int p3), .val (.int p4), .val (.int c1), .val (.int c2), .val (.int c3), .val (.int c4), .val (.int w1), .val (.int w2), .val (.int w3), .val (.int w4), .val (.int t3), .val (.int t2), .val (.ref s3), .val (.ref s6), .val (.ref s11), .val (.ref s18), .val (.ref b27), .val (.ref b38), .val (.ref b50), .val (.int nI), .unset, .unset] [(.ref b27), (.int r119)]))
          refine go (fun t kt' => by refine XS.aload X119.here hx rfl (hb hby at_255) rfl rfl ?_; exact kt') ?_
          show Go p e below _ (T119.setTop (mkF m 257 #[.val (.int p0), .val (.int p1), .val (.int p2), .val (.int p3), .val (.int p4), .val (.int c1), .val (.int c2), .val (.int c3), .val (.int c4), .val (.int w1), .val (.int w2), .val (.int w3), .val (.int w4), .val (.int t3), .val (.int t2), .val (.ref s3), .val (.ref s6), .val (.ref s11), .val (.ref s18), .val (.ref b27), .val (.ref b38), .val (.ref b50), .val (.int nI), .unset, .unset] [(.ref b38), (.ref b27), (.int r119)]))
          refine go (fun t kt' => by refine XS.iload X119.here hx rfl (hb hby at_257) rfl ?_; exact kt') ?_
          show Go p e below _ (T119.setTop (mkF m 259 #[.val (.int p0), .val (.int p1), .val (.int p2), .val (.int p3), .val (.int p4), .val (.int c1), .val (.int c2), .val (.int c3), .val (.int c4), .val (.int w1), .val (.int w2), .val (.int w3), .val (.int w4), .val (.int t3), .val (.int t2), .val (.ref s3), .val (.ref s6), .val (.ref s11), .val (.ref s18), .val (.ref b27), .val (.ref b38), .val (.ref b50), .val (.int nI), .unset, .unset] [(.int nI), (.ref b38), (.ref b27), (.int r119)]))
          refine go (fun t kt' => by refine XS.iload X119.here hx rfl (hb hby at_259) rfl ?_; exact kt') ?_
          show Go p e below _ (T119.setTop (mkF m 261 #[.val (.int p0), .val (.int p1), .val (.int p2), .val (.int p3), .val (.int p4), .val (.int c1), .val (.int c2), .val (.int c3), .val (.int c4), .val (.int w1), .val (.int w2), .val (.int w3), .val (.int w4), .val (.int t3), .val (.int t2), .val (.ref s3), .val (.ref s6), .val (.ref s11), .val (.ref s18), .val (.ref b27), .val (.ref b38), .val (.ref b50), .val (.int nI), .unset, .unset] [(.int c1), (.int nI), (.ref b38), (.ref b27), (.int r119)]))
          obtain ⟨_, _, ⟨T126, L126, k126, n126⟩, -, X126, ⟨Lc126, hQ126, l126, y126, z126⟩, st126⟩ := Jvm.LawKit.callS X119 hx (y := (⟨"com/example/casewright/casewright/formats/HashIndexRemoveLastPinLaw", "lookup", "([C[IIC)I"⟩ : MethodName)) hown (mvT hZ (hw _ (List.mem_of_getElem? (i := 130) rfl))) (mvT hZ (hw _ (List.mem_of_getElem? (i := 131) rfl))) (mvT hZ (hw _ (List.mem_of_getElem? (i := 109) rfl))) (mvT hZ (hw _ (List.mem_of_getElem? (i := 132) rfl))) (by decide) (backOf (W := 1) (rm_lo l Z a0 hw [] b27 b38 nI c1 cs rd fk fp N T119.heap n0 Z119 HS OO119 f120_A_b27 f121_A_b38 hnI (by omega)) hZ (hw _ (List.mem_of_getElem? (i := 132) rfl)) (hw _ (List.mem_of_getElem? (i := 109) rfl)) (by decide) (by decide)) (g := (mkF m 261 #[.val (.int p0), .val (.int p1), .val (.int p2), .val (.int p3), .val (.int p4), .val (.int c1), .val (.int c2), .val (.int c3), .val (.int c4), .val (.int w1), .val (.int w2), .val (.int w3), .val (.int w4), .val (.int t3), .val (.int t2), .val (.ref s3), .val (.ref s6), .val (.ref s11), .val (.ref s18), .val (.ref b27), .val (.ref b38), .val (.ref b50), .val (.int nI), .unset, .unset] [(.int c1), (.int nI), (.ref b38), (.ref b27), (.int r119)])) rfl (by rw [hml]; rfl) (argsL := [(.ref b27), (.ref b38), (.int nI), (.int c1)]) (rest := [(.int r119)]) (lenOf pd_20 rfl) rfl (by show 2 * 0 + _ ≤ _; exact Nat.le_of_eq rfl) (hb hby at_261) (fun _ _ => ⟨rfl, rfl, (by decide : 16 + 0 ≤ _), (by decide : 107 + 0 ≤ _)⟩)
          dsimp only [Pt.U, Pt.locs, Pt.cells, Pt.slots] at X126 l126 y126 z126 st126 hQ126
          rw [l126, y126, z126] at X126
          obtain ⟨r126, rfl, hL126, N126q, e126⟩ := hQ126
          have N126 := Fr.app N119 N126q
          refine go st126 ?_
          show Go p e below _ (T126.setTop (mkF m 264 #[.val (.int p0), .val (.int p1), .val (.int p2), .val (.int p3), .val (.int p4), .val (.int c1), .val (.int c2), .val (.int c3), .val (.int c4), .val (.int w1), .val (.int w2), .val (.int w3), .val (.int w4), .val (.int t3), .val (.int t2), .val (.ref s3), .val (.ref s6), .val (.ref s11), .val (.ref s18), .val (.ref b27), .val (.ref b38), .val (.ref b50), .val (.int nI), .unset, .unset] [(.int r126), (.int r119)]))
          have c264_127 : ¬ (¬ r119 = r126) := not_not_intro (own_get hI hG119 hL126)
          refine go (fun t kt' => by refine XS.icmpNo X126.here hx rfl (hb hby at_264) rfl (teq (Decidable.not_not.mp c264_127)).2 ?_; exact kt') ?_
          show Go p e below _ (T126.setTop (mkF m 267 #[.val (.int p0), .val (.int p1), .val (.int p2), .val (.int p3), .val (.int p4), .val (.int c1), .val (.int c2), .val (.int c3), .val (.int c4), .val (.int w1), .val (.int w2), .val (.int w3), .val (.int w4), .val (.int t3), .val (.int t2), .val (.ref s3), .val (.ref s6), .val (.ref s11), .val (.ref s18), .val (.ref b27), .val (.ref b38), .val (.ref b50), .val (.int nI), .unset, .unset] []))
          refine go (fun t kt' => by refine XS.aload X126.here hx rfl (hb hby at_267) rfl rfl ?_; exact kt') ?_
          show Go p e below _ (T126.setTop (mkF m 269 #[.val (.int p0), .val (.int p1), .val (.int p2), .val (.int p3), .val (.int p4), .val (.int c1), .val (.int c2), .val (.int c3), .val (.int c4), .val (.int w1), .val (.int w2), .val (.int w3), .val (.int w4), .val (.int t3), .val (.int t2), .val (.ref s3), .val (.ref s6), .val (.ref s11), .val (.ref s18), .val (.ref b27), .val (.ref b38), .val (.ref b50), .val (.int nI), .unset, .unset] [(.ref b50)]))
          refine go (fun t kt' => by refine XS.aload X126.here hx rfl (hb hby at_269) rfl rfl ?_; exact kt') ?_
          show Go p e below _ (T126.setTop (mkF m 271 #[.val (.int p0), .val (.int p1), .val (.int p2), .val (.int p3), .val (.int p4), .val (.int c1), .val (.int c2), .val (.int c3), .val (.int c4), .val (.int w1), .val (.int w2), .val (.int w3), .val (.int w4), .val (.int t3), .val (.int t2), .val (.ref s3), .val (.ref s6), .val (.ref s11), .val (.ref s18), .val (.ref b27), .val (.ref b38), .val (.ref b50), .val (.int nI), .unset, .unset] [(.ref s6), (.ref b50)]))
          obtain ⟨cq128, kq128, q128a, q128b, q128c⟩ := isOf hZ e126 EX_HX119
          obtain ⟨_, _, ⟨T128, L128, k128, n128⟩, -, X128, ⟨Lc128, hQ128, l128, y128, z128⟩, st128⟩ := X126.virtualBack hx (y := (⟨"com/example/casewright/casewright/formats/HashIndex", "get", "(Ljava/lang/String;)I"⟩ : MethodName)) (z := (⟨"com/example/casewright/casewright/formats/HashIndex", "get", "(Ljava/lang/String;)I"⟩ : MethodName)) hown (mvT hZ (hw _ (List.mem_of_getElem? (i := 116) rfl))) (mvT hZ (hw _ (List.mem_of_getElem? (i := 117) rfl))) (notFace_of_selects (args := #[]) (mvT hZ (hw _ (List.mem_of_getElem? (i := 119) rfl)))) (mvT hZ (hw _ (List.mem_of_getElem? (i := 119) rfl))) (mvT hZ (hw _ (List.mem_of_getElem? (i := 118) rfl))) (by decide) (backOf (W := 0) (rm_ge l Z a0 hw [] b50 s6 cs rd pl hs tk sz (own_H (c1.toInt8.toInt32)) (c2.toInt8.toInt32) T119.heap n0 Z119 HS OO119 HX119 f123_T_s6 (own_free hI (by omega) _)) hZ (hw _ (List.mem_of_getElem? (i := 120) rfl)) (hw _ (List.mem_of_getElem? (i := 30) rfl)) (by decide) (by decide)) q128a q128c (g := (mkF m 271 #[.val (.int p0), .val (.int p1), .val (.int p2), .val (.int p3), .val (.int p4), .val (.int c1), .val (.int c2), .val (.int c3), .val (.int c4), .val (.int w1), .val (.int w2), .val (.int w3), .val (.int w4), .val (.int t3), .val (.int t2), .val (.ref s3), .val (.ref s6), .val (.ref s11), .val (.ref s18), .val (.ref b27), .val (.ref b38), .val (.ref b50), .val (.int nI), .unset, .unset] [(.ref s6), (.ref b50)])) rfl (by rw [hml]; rfl) (Steps.refl _) (argsL := [(.ref s6)]) (rest := []) (lenOf pd_19 rfl) rfl (by show 2 * 0 + _ ≤ _; exact Nat.le_of_eq rfl) (hb hby at_271) (fun _ _ => ⟨rfl, e126, (by decide : 16 + 0 ≤ _), (by decide : 107 + 0 ≤ _)⟩)
          dsimp only [Pt.U, Pt.locs, Pt.cells, Pt.slots] at X128 l128 y128 z128 st128 hQ128
          rw [l128, y128, z128] at X128
          obtain ⟨r128, rfl, hG128, ⟨N128q, OO128, PS128, KA128⟩, HX128⟩ := hQ128
          have N128 := Fr.app N126 N128q
          have f129_A_b27 := KA128 _ _ _ _ lt19 f120_A_b27
          have f130_A_b38 := KA128 _ _ _ _ lt20 f121_A_b38
          have f131_T_s3 := PS128 _ _ f122_T_s3
          have f132_T_s6 := PS128 _ _ f123_T_s6
          have f133_T_s11 := PS128 _ _ f124_T_s11
          have f134_T_s18 := PS128 _ _ f125_T_s18
          have Z128 := own_z OO128
          have E128_s3 := f131_T_s3.2.1
          have E128_s6 := f132_T_s6.2.1
          have E128_s11 := f133_T_s11.2.1
          have E128_s18 := f134_T_s18.2.1
          rw [hH2] at hG128
          have EX_HX128 := HX128.2.1
          refine go (fun t kt => st128.trans kt) ?_
          show Go p e below _ (T128.setTop (mkF m 274 #[.val (.int p0), .val (.int p1), .val (.int p2), .val (.int p3), .val (.int p4), .val (.int c1), .val (.int c2), .val (.int c3), .val (.int c4), .val (.int w1), .val (.int w2), .val (.int w3), .val (.int w4), .val (.int t3), .val (.int t2), .val (.ref s3), .val (.ref s6), .val (.ref s11), .val (.ref s18), .val (.ref b27), .val (.ref b38), .val (.ref b50), .val (.int nI), .unset, .unset] [(.int r128)]))
          refine go (fun t kt' => by refine XS.aload X128.here hx rfl (hb hby at_274) rfl rfl ?_; exact kt') ?_
          show Go p e below _ (T128.setTop (mkF m 276 #[.val (.int p0), .val (.int p1), .val (.int p2), .val (.int p3), .val (.int p4), .val (.int c1), .val (.int c2), .val (.int c3), .val (.int c4), .val (.int w1), .val (.int w2), .val (.int w3), .val (.int w4), .val (.int t3), .val (.int t2), .val (.ref s3), .val (.ref s6), .val (.ref s11), .val (.ref s18), .val (.ref b27), .val (.ref b38), .val (.ref b50), .val (.int nI), .unset, .unset] [(.ref b27), (.int r128)]))
          refine go (fun t kt' => by refine XS.aload X128.here hx rfl (hb hby at_276) rfl rfl ?_; exact kt') ?_
          show Go p e below _ (T128.setTop (mkF m 278 #[.val (.int p0), .val (.int p1), .val (.int p2), .val (.int p3), .val (.int p4), .val (.int c1), .val (.int c2), .val (.int c3), .val (.int c4), .val (.int w1), .val (.int w2), .val (.int w3), .val (.int w4), .val (.int t3), .val (.int t2), .val (.ref s3), .val (.ref s6), .val (.ref s11), .val (.ref s18), .val (.ref b27), .val (.ref b38), .val (.ref b50), .val (.int nI), .unset, .unset] [(.ref b38), (.ref b27), (.int r128)]))
          refine go (fun t kt' => by refine XS.iload X128.here hx rfl (hb hby at_278) rfl ?_; exact kt') ?_
          show Go p e below _ (T128.setTop (mkF m 280 #[.val (.int p0), .val (.int p1), .val (.int p2), .val (.int p3), .val (.int p4), .val (.int c1), .val (.int c2), .val (.int c3), .val (.int c4), .val (.int w1), .val (.int w2), .val (.int w3), .val (.int w4), .val (.int t3), .val (.int t2), .val (.ref s3), .val (.ref s6), .val (.ref s11), .val (.ref s18), .val (.ref b27), .val (.ref b38), .val (.ref b50), .val (.int nI), .unset, .unset] [(.int nI), (.ref b38), (.ref b27), (.int r128)]))
          refine go (fun t kt' => by refine XS.iload X128.here hx rfl (hb hby at_280) rfl ?_; exact kt') ?_
          show Go p e below _ (T128.setTop (mkF m 282 #[.val (.int p0), .val (.int p1), .val (.int p2), .val (.int p3), .val (.int p4), .val (.int c1), .val (.int c2), .val (.int c3), .val (.int c4), .val (.int w1), .val (.int w2), .val (.int w3), .val (.int w4), .val (.int t3), .val (.int t2), .val (.ref s3), .val (.ref s6), .val (.ref s11), .val (.ref s18), .val (.ref b27), .val (.ref b38), .val (.ref b50), .val (.int nI), .unset, .unset] [(.int c2), (.int nI), (.ref b38), (.ref b27), (.int r128)]))
          obtain ⟨_, _, ⟨T135, L135, k135, n135⟩, -, X135, ⟨Lc135, hQ135, l135, y135, z135⟩, st135⟩ := Jvm.LawKit.callS X128 hx (y := (⟨"com/example/casewright/casewright/formats/HashIndexRemoveLastPinLaw", "lookup", "([C[IIC)I"⟩ : MethodName)) hown (mvT hZ (hw _ (List.mem_of_getElem? (i := 130) rfl))) (mvT hZ (hw _ (List.mem_of_getElem? (i := 131) rfl))) (mvT hZ (hw _ (List.mem_of_getElem? (i := 109) rfl))) (mvT hZ (hw _ (List.mem_of_getElem? (i := 132) rfl))) (by decide) (backOf (W := 1) (rm_lo l Z a0 hw [] b27 b38 nI c2 cs rd fk fp N T128.heap n0 Z128 HS OO128 f129_A_b27 f130_A_b38 hnI (by omega)) hZ (hw _ (List.mem_of_getElem? (i := 132) rfl)) (hw _ (List.mem_of_getElem? (i := 109) rfl)) (by decide) (by decide)) (g := (mkF m 282 #[.val (.int p0), .val (.int p1), .val (.int p2), .val (.int p3), .val (.int p4), .val (.int c1), .val (.int c2), .val (.int c3), .val (.int c4), .val (.int w1), .val (.int w2), .val (.int w3), .val (.int w4), .val (.int t3), .val (.int t2), .val (.ref s3), .val (.ref s6), .val (.ref s11), .val (.ref s18), .val (.ref b27), .val (.ref b38), .val (.ref b50), .val (.int nI), .unset, .unset] [(.int c2), (.int nI), (.ref b38), (.ref b27), (.int r128)])) rfl (by rw [hml]; rfl) (argsL := [(.ref b27), (.ref b38), (.int nI), (.int c2)]) (rest := [(.int r128)]) (lenOf pd_20 rfl) rfl (by show 2 * 0 + _ ≤ _; exact Nat.le_of_eq rfl) (hb hby at_282) (fun _ _ => ⟨rfl, rfl, (by decide : 16 + 0 ≤ _), (by decide : 107 + 0 ≤ _)⟩)
          dsimp only [Pt.U, Pt.locs, Pt.cells, Pt.slots] at X135 l135 y135 z135 st135 hQ135
          rw [l135, y135, z135] at X135
          obtain ⟨r135, rfl, hL135, N135q, e135⟩ := hQ135
          have N135 := Fr.app N128 N135q
          refine go st135 ?_
          show Go p e below _ (T135.setTop (mkF m 285 #[.val (.int p0), .val (.int p1), .val (.int p2), .val (.int p3), .val (.int p4), .val (.int c1), .val (.int c2), .val (.int c3), .val (.int c4), .val (.int w1), .val (.int w2), .val (.int w3), .val (.int w4), .val (.int t3), .val (.int t2), .val (.ref s3), .val (.ref s6), .val (.ref s11), .val (.ref s18), .val (.ref b27), .val (.ref b38), .val (.ref b50), .val (.int nI), .unset, .unset] [(.int r135), (.int r128)]))
          have c285_136 : ¬ (¬ r128 = r135) := not_not_intro (own_get hI hG128 hL135)
          refine go (fun t kt' => by refine XS.icmpNo X135.here hx rfl (hb hby at_285) rfl (teq (Decidable.not_not.mp c285_136)).2 ?_; exact kt') ?_
          show Go p e below _ (T135.setTop (mkF m 288 #[.val (.int p0), .val (.int p1), .val (.int p2), .val (.int p3), .val (.int p4), .val (.int c1), .val (.int c2), .val (.int c3), .val (.int c4), .val (.int w1), .val (.int w2), .val (.int w3), .val (.int w4), .val (.int t3), .val (.int t2), .val (.ref s3), .val (.ref s6), .val (.ref s11), .val (.ref s18), .val (.ref b27), .val (.ref b38), .val (.ref b50), .val (.int nI), .unset, .unset] []))
          refine go (fun t kt' => by refine XS.aload X135.here hx rfl (hb hby at_288) rfl rfl ?_; exact kt') ?_
          show Go p e below _ (T135.setTop (mkF m 290 #[.val (.int p0), .val (.int p1), .val (.int p2), .val (.int p3), .val (.int p4), .val (.int c1), .val (.int c2), .val (.int c3), .val (.int c4), .val (.int w1), .val (.int w2), .val (.int w3), .val (.int w4), .val (.int t3), .val (.int t2), .val (.ref s3), .val (.ref s6), .val (.ref s11), .val (.ref s18), .val (.ref b27), .val (.ref b38), .val (.ref b50), .val (.int nI), .unset, .unset] [(.ref b50)]))
          refine go (fun t kt' => by refine XS.aload X135.here hx rfl (hb hby at_290) rfl rfl ?_; exact kt') ?_
          show Go p e below _ (T135.setTop (mkF m 292 #[.val (.int p0), .val (.int p1), .val (.int p2), .val (.int p3), .val (.int p4), .val (.int c1), .val (.int c2), .val (.int c3), .val (.int c4), .val (.int w1), .val (.int w2), .val (.int w3), .val (.int w4), .val (.int t3), .val (.int t2), .val (.ref s3), .val (.ref s6), .val (.ref s11), .val (.ref s18), .val (.ref b27), .val (.ref b38), .val (.ref b50), .val (.int nI), .unset, .unset] [(.ref s11), (.ref b50)]))
          obtain ⟨cq137, kq137, q137a, q137b, q137c⟩ := isOf hZ e135 EX_HX128
          obtain ⟨_, _, ⟨T137, L137, k137, n137⟩, -, X137, ⟨Lc137, hQ137, l137, y137, z137⟩, st137⟩ := X135.virtualBack hx (y := (⟨"com/example/casewright/casewright/formats/HashIndex", "get", "(Ljava/lang/String;)I"⟩ : MethodName)) (z := (⟨"com/example/casewright/casewright/formats/HashIndex", "get", "(Ljava/lang/String;)I"⟩ : MethodName)) hown (mvT hZ (hw _ (List.mem_of_getElem? (i := 116) rfl))) (mvT hZ (hw _ (List.mem_of_getElem? (i := 117) rfl))) (notFace_of_selects (args := #[]) (mvT hZ (hw _ (List.mem_of_getElem? (i := 119) rfl)))) (mvT hZ (hw _ (List.mem_of_getElem? (i := 119) rfl))) (mvT hZ (hw _ (List.mem_of_getElem? (i := 118) rfl))) (by decide) (backOf (W := 0) (rm_ge l Z a0 hw [] b50 s11 cs rd pl hs tk sz (own_H (c2.toInt8.toInt32)) (c3.toInt8.toInt32) T128.heap n0 Z128 HS OO128 HX128 f133_T_s11 (own_free hI (by omega) _)) hZ (hw _ (List.mem_of_getElem? (i := 120) rfl)) (hw _ (List.mem_of_getElem? (i := 30) rfl)) (by decide) (by decide)) q137a q137c (g := (mkF m 292 #[.val (.int p0), .val (.int p1), .val (.int p2), .val (.int p3), .val (.int p4), .val (.int c1), .val (.int c2), .val (.int c3), .val (.int c4), .val (.int w1), .val (.int w2), .val (.int w3), .val (.int w4), .val (.int t3), .val (.int t2), .val (.ref s3), .val (.ref s6), .val (.ref s11), .val (.ref s18), .val (.ref b27), .val (.ref b38), .val (.ref b50), .val (.int nI), .unset, .unset] [(.ref s11), (.ref b50)])) rfl (by rw [hml]; rfl) (Steps.refl _) (argsL := [(.ref s11)]) (rest := []) (lenOf pd_19 rfl) rfl (by show 2 * 0 + _ ≤ _; exact Nat.le_of_eq rfl) (hb hby at_292) (fun _ _ => ⟨rfl, e135, (by decide : 16 + 0 ≤ _), (by decide : 107 + 0 ≤ _)⟩)
          dsimp only [Pt.U, Pt.locs, Pt.cells, Pt.slots] at X137 l137 y137 z137 st137 hQ137
          rw [l137, y137, z137] at X137
          obtain ⟨r137, rfl, hG137, ⟨N137q, OO137, PS137, KA137⟩, HX137⟩ := hQ137
          have N137 := Fr.app N135 N137q
          have f138_A_b27 := KA137 _ _ _ _ lt19 f129_A_b27
          have f139_A_b38 := KA137 _ _ _ _ lt20 f130_A_b38
          have f140_T_s3 := PS137 _ _ f131_T_s3
          have f141_T_s6 := PS137 _ _ f132_T_s6
          have f142_T_s11 := PS137 _ _ f133_T_s11
          have f143_T_s18 := PS137 _ _ f134_T_s18
          have Z137 := own_z OO137
          have E137_s3 := f140_T_s3.2.1
          have E137_s6 := f141_T_s6.2.1
          have E137_s11 := f142_T_s11.2.1
          have E137_s18 := f143_T_s18.2.1
          rw [hH3] at hG137
          have EX_HX137 := HX137.2.1
          refine go (fun t kt => st137.trans kt) ?_
          show Go p e below _ (T137.setTop (mkF m 295 #[.val (.int p0), .val (.int p1), .val (.int p2), .val (.int p3), .val (.int p4), .val (.int c1), .val (.int c2), .val (.int c3), .val (.int c4), .val (.int w1), .val (.int w2), .val (.int w3), .val (.int w4), .val (.int t3), .val (.int t2), .val (.ref s3), .val (.ref s6), .val (.ref s11), .val (.ref s18), .val (.ref b27), .val (.ref b38), .val (.ref b50), .val (.int nI), .unset, .unset] [(.int r137)]))
          refine go (fun t kt' => by refine XS.aload X137.here hx rfl (hb hby at_295) rfl rfl ?_; exact kt') ?_
          show Go p e below _ (T137.setTop (mkF m 297 #[.val (.int p0), .val (.int p1), .val (.int p2), .val (.int p3), .val (.int p4), .val (.int c1), .val (.int c2), .val (.int c3), .val (.int c4), .val (.int w1), .val (.int w2), .val (.int w3), .val (.int w4), .val (.int t3), .val (.int t2), .val (.ref s3), .val (.ref s6), .val (.ref s11), .val (.ref s18), .val (.ref b27), .val (.ref b38), .val (.ref b50), .val (.int nI), .unset, .unset] [(.ref b27), (.int r137)]))
          refine go (fun t kt' => by refine XS.aload X137.here hx rfl (hb hby at_297) rfl rfl ?_; exact kt') ?_
          show Go p e below _ (T137.setTop (mkF m 299 #[.val (.int p0), .val (.int p1), .val (.int p2), .val (.int p3), .val (.int p4), .val (.int c1), .val (.int c2), .val (.int c3), .val (.int c4), .val (.int w1), .val (.int w2), .val (.int w3), .val (.int w4), .val (.int t3), .val (.int t2), .val (.ref s3), .val (.ref s6), .val (.ref s11), .val (.ref s18), .val (.ref b27), .val (.ref b38), .val (.ref b50), .val (.int nI), .unset, .unset] [(.ref b38), (.ref b27), (.int r137)]))
          refine go (fun t kt' => by refine XS.iload X137.here hx rfl (hb hby at_299) rfl ?_; exact kt') ?_
          show Go p e below _ (T137.setTop (mkF m 301 #[.val (.int p0), .val (.int p1), .val (.int p2), .val (.int p3), .val (.int p4), .val (.int c1), .val (.int c2), .val (.int c3), .val (.int c4), .val (.int w1), .val (.int w2), .val (.int w3), .val (.int w4), .val (.int t3), .val (.int t2), .val (.ref s3), .val (.ref s6), .val (.ref s11), .val (.ref s18), .val (.ref b27), .val (.ref b38), .val (.ref b50), .val (.int nI), .unset, .unset] [(.int nI), (.ref b38), (.ref b27), (.int r137)]))
          refine go (fun t kt' => by refine XS.iload X137.here hx rfl (hb hby at_301) rfl ?_; exact kt') ?_
          show Go p e below _ (T137.setTop (mkF m 303 #[.val (.int p0), .val (.int p1), .val (.int p2), .val (.int p3), .val (.int p4), .val (.int c1), .val (.int c2), .val (.int c3), .val (.int c4), .val (.int w1), .val (.int w2), .val (.int w3), .val (.int w4), .val (.int t3), .val (.int t2), .val (.ref s3), .val (.ref s6), .val (.ref s11), .val (.ref s18), .val (.ref b27), .val (.ref b38), .val (.ref b50), .val (.int nI), .unset, .unset] [(.int c3), (.int nI), (.ref b38), (.ref b27), (.int r137)]))
          obtain ⟨_, _, ⟨T144, L144, k144, n144⟩, -, X144, ⟨Lc144, hQ144, l144, y144, z144⟩, st144⟩ := Jvm.LawKit.callS X137 hx (y := (⟨"com/example/casewright/casewright/formats/HashIndexRemoveLastPinLaw", "lookup", "([C[IIC)I"⟩ : MethodName)) hown (mvT hZ (hw _ (List.mem_of_getElem? (i := 130) rfl))) (mvT hZ (hw _ (List.mem_of_getElem? (i := 131) rfl))) (mvT hZ (hw _ (List.mem_of_getElem? (i := 109) rfl))) (mvT hZ (hw _ (List.mem_of_getElem? (i := 132) rfl))) (by decide) (backOf (W := 1) (rm_lo l Z a0 hw [] b27 b38 nI c3 cs rd fk fp N T137.heap n0 Z137 HS OO137 f138_A_b27 f139_A_b38 hnI (by omega)) hZ (hw _ (List.mem_of_getElem? (i := 132) rfl)) (hw _ (List.mem_of_getElem? (i := 109) rfl)) (by decide) (by decide)) (g := (mkF m 303 #[.val (.int p0), .val (.int p1), .val (.int p2), .val (.int p3), .val (.int p4), .val (.int c1), .val (.int c2), .val (.int c3), .val (.int c4), .val (.int w1), .val (.int w2), .val (.int w3), .val (.int w4), .val (.int t3), .val (.int t2), .val (.ref s3), .val (.ref s6), .val (.ref s11), .val (.ref s18), .val (.ref b27), .val (.ref b38), .val (.ref b50), .val (.int nI), .unset, .unset] [(.int c3), (.int nI), (.ref b38), (.ref b27), (.int r137)])) rfl (by rw [hml]; rfl) (argsL := [(.ref b27), (.ref b38), (.int nI), (.int c3)]) (rest := [(.int r137)]) (lenOf pd_20 rfl) rfl (by show 2 * 0 + _ ≤ _; exact Nat.le_of_eq rfl) (hb hby at_303) (fun _ _ => ⟨rfl, rfl, (by decide : 16 + 0 ≤ _), (by decide : 107 + 0 ≤ _)⟩)
          dsimp only [Pt.U, Pt.locs, Pt.cells, Pt.slots] at X144 l144 y144 z144 st144 hQ144
          rw [l144, y144, z144] at X144
          obtain ⟨r144, rfl, hL144, N144q, e144⟩ := hQ144
          have N144 := Fr.app N137 N144q
          refine go st144 ?_
          show Go p e below _ (T144.setTop (mkF m 306 #[.val (.int p0), .val (.int p1), .val (.int p2), .val (.int p3), .val (.int p4), .val (.int c1), .val (.int c2), .val (.int c3), .val (.int c4), .val (.int w1), .val (.int w2), .val (.int w3), .val (.int w4), .val (.int t3), .val (.int t2), .val (.ref s3), .val (.ref s6), .val (.ref s11), .val (.ref s18), .val (.ref b27), .val (.ref b38), .val (.ref b50), .val (.int nI), .unset, .unset] [(.int r144), (.int r137)]))
          have c306_145 : ¬ (¬ r137 = r144) := not_not_intro (own_get hI hG137 hL144)
          refine go (fun t kt' => by refine XS.icmpNo X144.here hx rfl (hb hby at_306) rfl (teq (Decidable.not_not.mp c306_145)).2 ?_; exact kt') ?_
          show Go p e below _ (T144.setTop (mkF m 309 #[.val (.int p0), .val (.int p1), .val (.int p2), .val (.int p3), .val (.int p4), .val (.int c1), .val (.int c2), .val (.int c3), .val (.int c4), .val (.int w1), .val (.int w2), .val (.int w3), .val (.int w4), .val (.int t3), .val (.int t2), .val (.ref s3), .val (.ref s6), .val (.ref s11), .val (.ref s18), .val (.ref b27), .val (.ref b38), .val (.ref b50), .val (.int nI), .unset, .unset] []))
          refine go (fun t kt' => by refine XS.iconst X144.here hx rfl (hb hby at_309) ?_; exact kt') ?_
          show Go p e below _ (T144.setTop (mkF m 310 #[.val (.int p0), .val (.int p1), .val (.int p2), .val (.int p3), .val (.int p4), .val (.int c1), .val (.int c2), .val (.int c3), .val (.int c4), .val (.int w1), .val (.int w2), .val (.int w3), .val (.int w4), .val (.int t3), .val (.int t2), .val (.ref s3), .val (.ref s6), .val (.ref s11), .val (.ref s18), .val (.ref b27), .val (.ref b38), .val (.ref b50), .val (.int nI), .unset, .unset] [(.int (1 : Int32))]))
          refine go (fun t kt' => by refine XS.goto X144.here hx rfl (pc0 := 310) (pc' := 314) rfl (hb hby at_310) (by decide) (by decide) ?_; exact kt') ?_
          show Go p e below _ (T144.setTop (mkF m 314 #[.val (.int p0), .val (.int p1), .val (.int p2), .val (.int p3), .val (.int p4), .val (.int c1), .val (.int c2), .val (.int c3), .val (.int c4), .val (.int w1), .val (.int w2), .val (.int w3), .val (.int w4), .val (.int t3), .val (.int t2), .val (.ref s3), .val (.ref s6), .val (.ref s11), .val (.ref s18), .val (.ref b27), .val (.ref b38), .val (.ref b50), .val (.int nI), .unset, .unset] [(.int (1 : Int32))]))
          refine go (fun t kt' => by refine XS.istore X144.here hx rfl (hb hby at_314) rfl (l' := #[.val (.int p0), .val (.int p1), .val (.int p2), .val (.int p3), .val (.int p4), .val (.int c1), .val (.int c2), .val (.int c3), .val (.int c4), .val (.int w1), .val (.int w2), .val (.int w3), .val (.int w4), .val (.int t3), .val (.int t2), .val (.ref s3), .val (.ref s6), .val (.ref s11), .val (.ref s18), .val (.ref b27), .val (.ref b38), .val (.ref b50), .val (.int nI), .val (.int (1 : Int32)), .unset]) rfl ?_; exact kt') ?_
          show Go p e below _ (T144.setTop (mkF m 316 #[.val (.int p0), .val (.int p1), .val (.int p2), .val (.int p3), .val (.int p4), .val (.int c1), .val (.int c2), .val (.int c3), .val (.int c4), .val (.int w1), .val (.int w2), .val (.int w3), .val (.int w4), .val (.int t3), .val (.int t2), .val (.ref s3), .val (.ref s6), .val (.ref s11), .val (.ref s18), .val (.ref b27), .val (.ref b38), .val (.ref b50), .val (.int nI), .val (.int (1 : Int32)), .unset] []))
          refine go (fun t kt' => by refine XS.aload X144.here hx rfl (hb hby at_316) rfl rfl ?_; exact kt') ?_
          show Go p e below _ (T144.setTop (mkF m 318 #[.val (.int p0), .val (.int p1), .val (.int p2), .val (.int p3), .val (.int p4), .val (.int c1), .val (.int c2), .val (.int c3), .val (.int c4), .val (.int w1), .val (.int w2), .val (.int w3), .val (.int w4), .val (.int t3), .val (.int t2), .val (.ref s3), .val (.ref s6), .val (.ref s11), .val (.ref s18), .val (.ref b27), .val (.ref b38), .val (.ref b50), .val (.int nI), .val (.int (1 : Int32)), .unset] [(.ref b50)]))
          refine go (fun t kt' => by refine XS.iload X144.here hx rfl (hb hby at_318) rfl ?_; exact kt') ?_
          show Go p e below _ (T144.setTop (mkF m 320 #[.val (.int p0), .val (.int p1), .val (.int p2), .val (.int p3), .val (.int p4), .val (.int c1), .val (.int c2), .val (.int c3), .val (.int c4), .val (.int w1), .val (.int w2), .val (.int w3), .val (.int w4), .val (.int t3), .val (.int t2), .val (.ref s3), .val (.ref s6), .val (.ref s11), .val (.ref s18), .val (.ref b27), .val (.ref b38), .val (.ref b50), .val (.int nI), .val (.int (1 : Int32)), .unset] [(.int w4), (.ref b50)]))
          refine go (fun t kt' => by refine XS.aload X144.here hx rfl (hb hby at_320) rfl rfl ?_; exact kt') ?_
          show Go p e below _ (T144.setTop (mkF m 322 #[.val (.int p0), .val (.int p1), .val (.int p2), .val (.int p3), .val (.int p4), .val (.int c1), .val (.int c2), .val (.int c3), .val (.int c4), .val (.int w1), .val (.int w2), .val (.int w3), .val (.int w4), .val (.int t3), .val (.int t2), .val (.ref s3), .val (.ref s6), .val (.ref s11), .val (.ref s18), .val (.ref b27), .val (.ref b38), .val (.ref b50), .val (.int nI), .val (.int (1 : Int32)), .unset] [(.ref s18), (.int w4), (.ref b50)]))
          obtain ⟨cq146, kq146, q146a, q146b, q146c⟩ := isOf hZ e144 EX_HX137
          obtain ⟨_, _, ⟨T146, L146, k146, n146⟩, -, X146, ⟨Lc146, hQ146, l146, y146, z146⟩, st146⟩ := X144.virtualBack hx (y := (⟨"com/example/casewright/casewright/formats/HashIndex", "put", "(ILjava/lang/String;)I"⟩ : MethodName)) (z := (⟨"com/example/casewright/casewright/formats/HashIndex", "put", "(ILjava/lang/String;)I"⟩ : MethodName)) hown (mvT hZ (hw _ (List.mem_of_getElem? (i := 58) rfl))) (mvT hZ (hw _ (List.mem_of_getElem? (i := 59) rfl))) (notFace_of_selects (args := #[]) (mvT hZ (hw _ (List.mem_of_getElem? (i := 61) rfl)))) (mvT hZ (hw _ (List.mem_of_getElem? (i := 61) rfl))) (mvT hZ (hw _ (List.mem_of_getElem? (i := 60) rfl))) (by decide) (backOf (W := 0) (rm_pu l Z a0 hw [] b50 w4 s18 cs rd pl hs tk sz (own_H (c3.toInt8.toInt32)) (c4.toInt8.toInt32) T137.heap n0 Z137 HS OO137 HX137 f143_T_s18 (own_free hI (by omega) _) (by omega)) hZ (hw _ (List.mem_of_getElem? (i := 62) rfl)) (hw _ (List.mem_of_getElem? (i := 30) rfl)) (by decide) (by decide)) q146a q146c (g := (mkF m 322 #[.val (.int p0), .val (.int p1), .val (.int p2), .val (.int p3), .val (.int p4), .val (.int c1), .val (.int c2), .val (.int c3), .val (.int c4), .val (.int w1), .val (.int w2), .val (.int w3), .val (.int w4), .val (.int t3), .val (.int t2), .val (.ref s3), .val (.ref s6), .val (.ref s11), .val (.ref s18), .val (.ref b27), .val (.ref b38), .val (.ref b50), .val (.int nI), .val (.int (1 : Int32)), .unset] [(.ref s18), (.int w4), (.ref b50)])) rfl (by rw [hml]; rfl) (Steps.refl _) (argsL := [(.int w4), (.ref s18)]) (rest := []) (lenOf pd_17 rfl) rfl (by show 2 * 0 + _ ≤ _; exact Nat.le_of_eq rfl) (hb hby at_322) (fun _ _ => ⟨rfl, e144, (by decide : 16 + 0 ≤ _), (by decide : 107 + 0 ≤ _)⟩)
          dsimp only [Pt.U, Pt.locs, Pt.cells, Pt.slots] at X146 l146 y146 z146 st146 hQ146
          rw [l146, y146, z146] at X146
          obtain ⟨r146, pl146, hs146, tk146, sz146, fh146, rfl, hP146, ⟨N146q, OO146, PS146, KA146⟩, HX146⟩ := hQ146
          have N146 := Fr.app N144 N146q
          have f147_A_b27 := KA146 _ _ _ _ lt19 f138_A_b27
          have f148_A_b38 := KA146 _ _ _ _ lt20 f139_A_b38
          have f149_T_s3 := PS146 _ _ f140_T_s3
          have f150_T_s6 := PS146 _ _ f141_T_s6
          have f151_T_s11 := PS146 _ _ f142_T_s11
          have f152_T_s18 := PS146 _ _ f143_T_s18
          have Z146 := own_z OO146
          have E146_s3 := f149_T_s3.2.1
          have E146_s6 := f150_T_s6.2.1
          have E146_s11 := f151_T_s11.2.1
          have E146_s18 := f152_T_s18.2.1
          rw [hH4] at hP146
          have EX_HX146 := HX146.2.1
          refine go (fun t kt => st146.trans kt) ?_
          show Go p e below _ (T146.setTop (mkF m 325 #[.val (.int p0), .val (.int p1), .val (.int p2), .val (.int p3), .val (.int p4), .val (.int c1), .val (.int c2), .val (.int c3), .val (.int c4), .val (.int w1), .val (.int w2), .val (.int w3), .val (.int w4), .val (.int t3), .val (.int t2), .val (.ref s3), .val (.ref s6), .val (.ref s11), .val (.ref s18), .val (.ref b27), .val (.ref b38), .val (.ref b50), .val (.int nI), .val (.int (1 : Int32)), .unset] [(.int r146)]))
          refine go (fun t kt' => by refine XS.istore X146.here hx rfl (hb hby at_325) rfl (l' := #[.val (.int p0), .val (.int p1), .val (.int p2), .val (.int p3), .val (.int p4), .val (.int c1), .val (.int c2), .val (.int c3), .val (.int c4), .val (.int w1), .val (.int w2), .val (.int w3), .val (.int w4), .val (.int t3), .val (.int t2), .val (.ref s3), .val (.ref s6), .val (.ref s11), .val (.ref s18), .val (.ref b27), .val (.ref b38), .val (.ref b50), .val (.int nI), .val (.int (1 : Int32)), .val (.int r146)]) rfl ?_; exact kt') ?_
          show Go p e below _ (T146.setTop (mkF m 327 #[.val (.int p0), .val (.int p1), .val (.int p2), .val (.int p3), .val (.int p4), .val (.int c1), .val (.int c2), .val (.int c3), .val (.int c4), .val (.int w1), .val (.int w2), .val (.int w3), .val (.int w4), .val (.int t3), .val (.int t2), .val (.ref s3), .val (.ref s6), .val (.ref s11), .val (.ref s18), .val (.ref b27), .val (.ref b38), .val (.ref b50), .val (.int nI), .val (.int (1 : Int32)), .val (.int r146)] []))
          refine go (fun t kt' => by refine XS.iload X146.here hx rfl (hb hby at_327) rfl ?_; exact kt') ?_
          show Go p e below _ (T146.setTop (mkF m 329 #[.val (.int p0), .val (.int p1), .val (.int p2), .val (.int p3), .val (.int p4), .val (.int c1), .val (.int c2), .val (.int c3), .val (.int c4), .val (.int w1), .val (.int w2), .val (.int w3), .val (.int w4), .val (.int t3), .val (.int t2), .val (.ref s3), .val (.ref s6), .val (.ref s11), .val (.ref s18), .val (.ref b27), .val (.ref b38), .val (.ref b50), .val (.int nI), .val (.int (1 : Int32)), .val (.int r146)] [(.int (1 : Int32))]))
          have c329_153 : ¬ ((1 : Int32) = (0 : Int32)) := by decide
          refine go (fun t kt' => by refine XS.ifNo X146.here hx rfl (hb hby at_329) rfl ((if0 _ _).trans (feq c329_153).1) ?_; exact kt') ?_
          show Go p e below _ (T146.setTop (mkF m 332 #[.val (.int p0), .val (.int p1), .val (.int p2), .val (.int p3), .val (.int p4), .val (.int c1), .val (.int c2), .val (.int c3), .val (.int c4), .val (.int w1), .val (.int w2), .val (.int w3), .val (.int w4), .val (.int t3), .val (.int t2), .val (.ref s3), .val (.ref s6), .val (.ref s11), .val (.ref s18), .val (.ref b27), .val (.ref b38), .val (.ref b50), .val (.int nI), .val (.int (1 : Int32)), .val (.int r146)] []))
          refine go (fun t kt' => by refine XS.iload X146.here hx rfl (hb hby at_332) rfl ?_; exact kt') ?_
          show Go p e below _ (T146.setTop (mkF m 334 #[.val (.int p0), .val (.int p1), .val (.int p2), .val (.int p3), .val (.int p4), .val (.int c1), .val (.int c2), .val (.int c3), .val (.int c4), .val (.int w1), .val (.int w2), .val (.int w3), .val (.int w4), .val (.int t3), .val (.int t2), .val (.ref s3), .val (.ref s6), .val (.ref s11), .val (.ref s18), .val (.ref b27), .val (.ref b38), .val (.ref b50), .val (.int nI), .val (.int (1 : Int32)), .val (.int r146)] [(.int r146)]))
          refine go (fun t kt' => by refine XS.aload X146.here hx rfl (hb hby at_334) rfl rfl ?_; exact kt') ?_
          show Go p e below _ (T146.setTop (mkF m 336 #[.val (.int p0), .val (.int p1), .val (.int p2), .val (.int p3), .val (.int p4), .val (.int c1), .val (.int c2), .val (.int c3), .val (.int c4), .val (.int w1), .val (.int w2), .val (.int w3), .val (.int w4), .val (.int t3), .val (.int t2), .val (.ref s3), .val (.ref s6), .val (.ref s11), .val (.ref s18), .val (.ref b27), .val (.ref b38), .val (.ref b50), .val (.int nI), .val (.int (1 : Int32)), .val (.int r146)] [(.ref b27), (.int r146)]))
          refine go (fun t kt' => by refine XS.aload X146.here hx rfl (hb hby at_336) rfl rfl ?_; exact kt') ?_
          show Go p e below _ (T146.setTop (mkF m 338 #[.val (.int p0), .val (.int p1), .val (.int p2), .val (.int p3), .val (.int p4), .val (.int c1), .val (.int c2), .val (.int c3), .val (.int c4), .val (.int w1), .val (.int w2), .val (.int w3), .val (.int w4), .val (.int t3), .val (.int t2), .val (.ref s3), .val (.ref s6), .val (.ref s11), .val (.ref s18), .val (.ref b27), .val (.ref b38), .val (.ref b50), .val (.int nI), .val (.int (1 : Int32)), .val (.int r146)] [(.ref b38), (.ref b27), (.int r146)]))
          refine go (fun t kt' => by refine XS.iload X146.here hx rfl (hb hby at_338) rfl ?_; exact kt') ?_
          show Go p e below _ (T146.setTop (mkF m 340 #[.val (.int p0), .val (.int p1), .val (.int p2), .val (.int p3), .val (.int p4), .val (.int c1), .val (.int c2), .val (.int c3), .val (.int c4), .val (.int w1), .val (.int w2), .val (.int w3), .val (.int w4), .val (.int t3), .val (.int t2), .val (.ref s3), .val (.ref s6), .val (.ref s11), .val (.ref s18), .val (.ref b27), .val (.ref b38), .val (.ref b50), .val (.int nI), .val (.int (1 : Int32)), .val (.int r146)] [(.int nI), (.ref b38), (.ref b27), (.int r146)]))
          refine go (fun t kt' => by refine XS.iload X146.here hx rfl (hb hby at_340) rfl ?_; exact kt') ?_
          show Go p e below _ (T146.setTop (mkF m 342 #[.val (.int p0), .val (.int p1), .val (.int p2), .val (.int p3), .val (.int p4), .val (.int c1), .val (.int c2), .val (.int c3), .val (.int c4), .val (.int w1), .val (.int w2), .val (.int w3), .val (.int w4), .val (.int t3), .val (.int t2), .val (.ref s3), .val (.ref s6), .val (.ref s11), .val (.ref s18), .val (.ref b27), .val (.ref b38), .val (.ref b50), .val (.int nI), .val (.int (1 : Int32)), .val (.int r146)] [(.int c4), (.int nI), (.ref b38), (.ref b27), (.int r146)]))
          obtain ⟨_, _, ⟨T154, L154, k154, n154⟩, -, X154, ⟨Lc154, hQ154, l154, y154, z154⟩, st154⟩ := Jvm.LawKit.callS X146 hx (y := (⟨"com/example/casewright/casewright/formats/HashIndexRemoveLastPinLaw", "lookup", "([C[IIC)I"⟩ : MethodName)) hown (mvT hZ (hw _ (List.mem_of_getElem? (i := 130) rfl))) (mvT hZ (hw _ (List.mem_of_getElem? (i := 131) rfl))) (mvT hZ (hw _ (List.mem_of_getElem? (i := 109) rfl))) (mvT hZ (hw _ (List.mem_of_getElem? (i := 132) rfl))) (by decide) (backOf (W := 1) (rm_lo l Z a0 hw [] b27 b38 nI c4 cs rd fk fp N T146.heap n0 Z146 HS OO146 f147_A_b27 f148_A_b38 hnI (by omega)) hZ (hw _ (List.mem_of_getElem? (i := 132) rfl)) (hw _ (List.mem_of_getElem? (i := 109) rfl)) (by decide) (by decide)) (g := (mkF m 342 #[.val (.int p0), .val (.int p1), .val (.int p2), .val (.int p3), .val (.int p4), .val (.int c1), .val (.int c2), .val (.int c3), .val (.int c4), .val (.int w1), .val (.int w2), .val (.int w3), .val (.int w4), .val (.int t3), .val (.int t2), .val (.ref s3), .val (.ref s6), .val (.ref s11), .val (.ref s18), .val (.ref b27), .val (.ref b38), .val (.ref b50), .val (.int nI), .val (.int (1 : Int32)), .val (.int r146)] [(.int c4), (.int nI), (.ref b38), (.ref b27), (.int r146)])) rfl (by rw [hml]; rfl) (argsL := [(.ref b27), (.ref b38), (.int nI), (.int c4)]) (rest := [(.int r146)]) (lenOf pd_20 rfl) rfl (by show 2 * 0 + _ ≤ _; exact Nat.le_of_eq rfl) (hb hby at_342) (fun _ _ => ⟨rfl, rfl, (by decide : 16 + 0 ≤ _), (by decide : 107 + 0 ≤ _)⟩)
          dsimp only [Pt.U, Pt.locs, Pt.cells, Pt.slots] at X154 l154 y154 z154 st154 hQ154
          rw [l154, y154, z154] at X154
          obtain ⟨r154, rfl, hL154, N154q, e154⟩ := hQ154
          have N154 := Fr.app N146 N154q
          refine go st154 ?_
          show Go p e below _ (T154.setTop (mkF m 345 #[.val (.int p0), .val (.int p1), .val (.int p2), .val (.int p3), .val (.int p4), .val (.int c1), .val (.int c2), .val (.int c3), .val (.int c4), .val (.int w1), .val (.int w2), .val (.int w3), .val (.int w4), .val (.int t3), .val (.int t2), .val (.ref s3), .val (.ref s6), .val (.ref s11), .val (.ref s18), .val (.ref b27), .val (.ref b38), .val (.ref b50), .val (.int nI), .val (.int (1 : Int32)), .val (.int r146)] [(.int r154), (.int r146)]))
          have c345_155 : ¬ (¬ r146 = r154) := not_not_intro (own_had hI hP146 hL154)
          refine go (fun t kt' => by refine XS.icmpNo X154.here hx rfl (hb hby at_345) rfl (teq (Decidable.not_not.mp c345_155)).2 ?_; exact kt') ?_
          show Go p e below _ (T154.setTop (mkF m 348 #[.val (.int p0), .val (.int p1), .val (.int p2), .val (.int p3), .val (.int p4), .val (.int c1), .val (.int c2), .val (.int c3), .val (.int c4), .val (.int w1), .val (.int w2), .val (.int w3), .val (.int w4), .val (.int t3), .val (.int t2), .val (.ref s3), .val (.ref s6), .val (.ref s11), .val (.ref s18), .val (.ref b27), .val (.ref b38), .val (.ref b50), .val (.int nI), .val (.int (1 : Int32)), .val (.int r146)] []))
          refine go (fun t kt' => by refine XS.aload X154.here hx rfl (hb hby at_348) rfl rfl ?_; exact kt') ?_
          show Go p e below _ (T154.setTop (mkF m 350 #[.val (.int p0), .val (.int p1), .val (.int p2), .val (.int p3), .val (.int p4), .val (.int c1), .val (.int c2), .val (.int c3), .val (.int c4), .val (.int w1), .val (.int w2), .val (.int w3), .val (.int w4), .val (.int t3), .val (.int t2), .val (.ref s3), .val (.ref s6), .val (.ref s11), .val (.ref s18), .val (.ref b27), .val (.ref b38), .val (.ref b50), .val (.int nI), .val (.int (1 : Int32)), .val (.int r146)] [(.ref b50)]))
          refine go (fun t kt' => by refine XS.aload X154.here hx rfl (hb hby at_350) rfl rfl ?_; exact kt') ?_
          show Go p e below _ (T154.setTop (mkF m 352 #[.val (.int p0), .val (.int p1), .val (.int p2), .val (.int p3), .val (.int p4), .val (.int c1), .val (.int c2), .val (.int c3), .val (.int c4), .val (.int w1), .val (.int w2), .val (.int w3), .val (.int w4), .val (.int t3), .val (.int t2), .val (.ref s3), .val (.ref s6), .val (.ref s11), .val (.ref s18), .val (.ref b27), .val (.ref b38), .val (.ref b50), .val (.int nI), .val (.int (1 : Int32)), .val (.int r146)] [(.ref s18), (.ref b50)]))
          obtain ⟨cq156, kq156, q156a, q156b, q156c⟩ := isOf hZ e154 EX_HX146
          obtain ⟨_, _, ⟨T156, L156, k156, n156⟩, -, X156, ⟨Lc156, hQ156, l156, y156, z156⟩, st156⟩ := X154.virtualBack hx (y := (⟨"com/example/casewright/casewright/formats/HashIndex", "get", "(Ljava/lang/String;)I"⟩ : MethodName)) (z := (⟨"com/example/casewright/casewright/formats/HashIndex", "get", "(Ljava/lang/String;)I"⟩ : MethodName)) hown (mvT hZ (hw _ (List.mem_of_getElem? (i := 116) rfl))) (mvT hZ (hw _ (List.mem_of_getElem? (i := 117) rfl))) (notFace_of_selects (args := #[]) (mvT hZ (hw _ (List.mem_of_getElem? (i := 119) rfl)))) (mvT hZ (hw _ (List.mem_of_getElem? (i := 119) rfl))) (mvT hZ (hw _ (List.mem_of_getElem? (i := 118) rfl))) (by decide) (backOf (W := 0) (rm_ge l Z a0 hw [] b50 s18 cs rd pl146 hs146 tk146 sz146 fh146 (c4.toInt8.toInt32) T146.heap n0 Z146 HS OO146 HX146 f152_T_s18 (by rw [hH4]; exact (own_last (r' := 0) hI hsz (by omega) rw4 hP146).1)) hZ (hw _ (List.mem_of_getElem? (i := 120) rfl)) (hw _ (List.mem_of_getElem? (i := 30) rfl)) (by decide) (by decide)) q156a q156c (g := (mkF m 352 #[.val (.int p0), .val (.int p1), .val (.int p2), .val (.int p3), .val (.int p4), .val (.int c1), .val (.int c2), .val (.int c3), .val (.int c4), .val (.int w1), .val (.int w2), .val (.int w3), .val (.int w4), .val (.int t3), .val (.int t2), .val (.ref s3), .val (.ref s6), .val (.ref s11), .val (.ref s18), .val (.ref b27), .val (.ref b38), .val (.ref b50), .val (.int nI), .val (.int (1 : Int32)), .val (.int r146)] [(.ref s18), (.ref b50)])) rfl (by rw [hml]; rfl) (Steps.refl _) (argsL := [(.ref s18)]) (rest := []) (lenOf pd_19 rfl) rfl (by show 2 * 0 + _ ≤ _; exact Nat.le_of_eq rfl) (hb hby at_352) (fun _ _ => ⟨rfl, e154, (by decide : 16 + 0 ≤ _), (by decide : 107 + 0 ≤ _)⟩)
          dsimp only [Pt.U, Pt.locs, Pt.cells, Pt.slots] at X156 l156 y156 z156 st156 hQ156
          rw [l156, y156, z156] at X156
          obtain ⟨r156, rfl, hG156, ⟨N156q, OO156, PS156, KA156⟩, HX156⟩ := hQ156
          have N156 := Fr.app N154 N156q
          have f157_A_b27 := KA156 _ _ _ _ lt19 f147_A_b27
          have f158_A_b38 := KA156 _ _ _ _ lt20 f148_A_b38
          have f159_T_s3 := PS156 _ _ f149_T_s3
          have f160_T_s6 := PS156 _ _ f150_T_s6
          have f161_T_s11 := PS156 _ _ f151_T_s11
          have f162_T_s18 := PS156 _ _ f152_T_s18
          have Z156 := own_z OO156
          have E156_s3 := f159_T_s3.2.1
          have E156_s6 := f160_T_s6.2.1
          have E156_s11 := f161_T_s11.2.1
          have E156_s18 := f162_T_s18.2.1
          rw [hH4] at hG156
          have EX_HX156 := HX156.2.1
          refine go (fun t kt => st156.trans kt) ?_
          show Go p e below _ (T156.setTop (mkF m 355 #[.val (.int p0), .val (.int p1), .val (.int p2), .val (.int p3), .val (.int p4), .val (.int c1), .val (.int c2), .val (.int c3), .val (.int c4), .val (.int w1), .val (.int w2), .val (.int w3), .val (.int w4), .val (.int t3), .val (.int t2), .val (.ref s3), .val (.ref s6), .val (.ref s11), .val (.ref s18), .val (.ref b27), .val (.ref b38), .val (.ref b50), .val (.int nI), .val (.int (1 : Int32)), .val (.int r146)] [(.int r156)]))
          refine go (fun t kt' => by refine XS.iload X156.here hx rfl (hb hby at_355) rfl ?_; exact kt') ?_
          show Go p e below _ (T156.setTop (mkF m 357 #[.val (.int p0), .val (.int p1), .val (.int p2), .val (.int p3), .val (.int p4), .val (.int c1), .val (.int c2), .val (.int c3), .val (.int c4), .val (.int w1), .val (.int w2), .val (.int w3), .val (.int w4), .val (.int t3), .val (.int t2), .val (.ref s3), .val (.ref s6), .val (.ref s11), .val (.ref s18), .val (.ref b27), .val (.ref b38), .val (.ref b50), .val (.int nI), .val (.int (1 : Int32)), .val (.int r146)] [(.int w4), (.int r156)]))
          have c357_163 : ¬ (¬ r156 = w4) := not_not_intro ((own_last hI hsz (by omega) rw4 hP146).2 hG156)
          refine go (fun t kt' => by refine XS.icmpNo X156.here hx rfl (hb hby at_357) rfl (teq (Decidable.not_not.mp c357_163)).2 ?_; exact kt') ?_
          show Go p e below _ (T156.setTop (mkF m 360 #[.val (.int p0), .val (.int p1), .val (.int p2), .val (.int p3), .val (.int p4), .val (.int c1), .val (.int c2), .val (.int c3), .val (.int c4), .val (.int w1), .val (.int w2), .val (.int w3), .val (.int w4), .val (.int t3), .val (.int t2), .val (.ref s3), .val (.ref s6), .val (.ref s11), .val (.ref s18), .val (.ref b27), .val (.ref b38), .val (.ref b50), .val (.int nI), .val (.int (1 : Int32)), .val (.int r146)] []))
          refine go (fun t kt' => by refine XS.iconst X156.here hx rfl (hb hby at_360) ?_; exact kt') ?_
          show Go p e below _ (T156.setTop (mkF m 361 #[.val (.int p0), .val (.int p1), .val (.int p2), .val (.int p3), .val (.int p4), .val (.int c1), .val (.int c2), .val (.int c3), .val (.int c4), .val (.int w1), .val (.int w2), .val (.int w3), .val (.int w4), .val (.int t3), .val (.int t2), .val (.ref s3), .val (.ref s6), .val (.ref s11), .val (.ref s18), .val (.ref b27), .val (.ref b38), .val (.ref b50), .val (.int nI), .val (.int (1 : Int32)), .val (.int r146)] [(.int (1 : Int32))]))
          refine go (fun t kt' => by refine XS.goto X156.here hx rfl (pc0 := 361) (pc' := 365) rfl (hb hby at_361) (by decide) (by decide) ?_; exact kt') ?_
          show Go p e below _ (T156.setTop (mkF m 365 #[.val (.int p0), .val (.int p1), .val (.int p2), .val (.int p3), .val (.int p4), .val (.int c1), .val (.int c2), .val (.int c3), .val (.int c4), .val (.int w1), .val (.int w2), .val (.int w3), .val (.int w4), .val (.int t3), .val (.int t2), .val (.ref s3), .val (.ref s6), .val (.ref s11), .val (.ref s18), .val (.ref b27), .val (.ref b38), .val (.ref b50), .val (.int nI), .val (.int (1 : Int32)), .val (.int r146)] [(.int (1 : Int32))]))
          refine go (fun t kt' => by refine XS.istore X156.here hx rfl (hb hby at_365) rfl (l' := #[.val (.int p0), .val (.int p1), .val (.int p2), .val (.int p3), .val (.int p4), .val (.int c1), .val (.int c2), .val (.int c3), .val (.int c4), .val (.int w1), .val (.int w2), .val (.int w3), .val (.int w4), .val (.int t3), .val (.int t2), .val (.ref s3), .val (.ref s6), .val (.ref s11), .val (.ref s18), .val (.ref b27), .val (.ref b38), .val (.ref b50), .val (.int nI), .val (.int (1 : Int32)), .val (.int r146)]) rfl ?_; exact kt') ?_
          show Go p e below _ (T156.setTop (mkF m 367 #[.val (.int p0), .val (.int p1), .val (.int p2), .val (.int p3), .val (.int p4), .val (.int c1), .val (.int c2), .val (.int c3), .val (.int c4), .val (.int w1), .val (.int w2), .val (.int w3), .val (.int w4), .val (.int t3), .val (.int t2), .val (.ref s3), .val (.ref s6), .val (.ref s11), .val (.ref s18), .val (.ref b27), .val (.ref b38), .val (.ref b50), .val (.int nI), .val (.int (1 : Int32)), .val (.int r146)] []))
          refine go (fun t kt' => by refine XS.iload X156.here hx rfl (hb hby at_367) rfl ?_; exact kt') ?_
          show Go p e below _ (T156.setTop (mkF m 369 #[.val (.int p0), .val (.int p1), .val (.int p2), .val (.int p3), .val (.int p4), .val (.int c1), .val (.int c2), .val (.int c3), .val (.int c4), .val (.int w1), .val (.int w2), .val (.int w3), .val (.int w4), .val (.int t3), .val (.int t2), .val (.ref s3), .val (.ref s6), .val (.ref s11), .val (.ref s18), .val (.ref b27), .val (.ref b38), .val (.ref b50), .val (.int nI), .val (.int (1 : Int32)), .val (.int r146)] [(.int (1 : Int32))]))
          refine goOut X156 (fun h => by rw [Bd.returns] at h; cases h) hlk (fun fs hr => retN X156 hx (t := .boolean) Bd.returns (by simp) (hb hby at_369) hr) (by decide) (by decide) ?_
          exact ⟨rfl, N156⟩
        show Go p e below _ (T112.setTop (mkF m 225 #[.val (.int p0), .val (.int p1), .val (.int p2), .val (.int p3), .val (.int p4), .val (.int c1), .val (.int c2), .val (.int c3), .val (.int c4), .val (.int w1), .val (.int w2), .val (.int w3), .val (.int w4), .val (.int t3), .val (.int t2), .val (.ref s3), .val (.ref s6), .val (.ref s11), .val (.ref s18), .val (.ref b27), .val (.ref b38), .val (.ref b50), .val (.int (nI - (1 : Int32))), .unset, .unset] []))
        refine go (fun t kt' => by refine XS.iload X112.here hx rfl (hb hby at_225) rfl ?_; exact kt') ?_
        show Go p e below _ (T112.setTop (mkF m 227 #[.val (.int p0), .val (.int p1), .val (.int p2), .val (.int p3), .val (.int p4), .val (.int c1), .val (.int c2), .val (.int c3), .val (.int c4), .val (.int w1), .val (.int w2), .val (.int w3), .val (.int w4), .val (.int t3), .val (.int t2), .val (.ref s3), .val (.ref s6), .val (.ref s11), .val (.ref s18), .val (.ref b27), .val (.ref b38), .val (.ref b50), .val (.int (nI - (1 : Int32))), .unset, .unset] [(.int t2)]))
        by_cases c227_164 : t2 = (0 : Int32)
        · skip
          refine go (fun t kt' => by refine XS.ifYes X112.here hx rfl (pc0 := 227) (pc' := 246) rfl (hb hby at_227) rfl ((if0 _ _).trans (teq c227_164).1) (by decide) (by decide) ?_; exact kt') ?_
          show Go p e below _ (T112.setTop (mkF m 246 #[.val (.int p0), .val (.int p1), .val (.int p2), .val (.int p3), .val (.int p4), .val (.int c1), .val (.int c2), .val (.int c3), .val (.int c4), .val (.int w1), .val (.int w2), .val (.int w3), .val (.int w4), .val (.int t3), .val (.int t2), .val (.ref s3), .val (.ref s6), .val (.ref s11), .val (.ref s18), .val (.ref b27), .val (.ref b38), .val (.ref b50), .val (.int (nI - (1 : Int32))), .unset, .unset] []))
          exact J246 T112 T112.heap _ (upI pl sn112 0) hs tk (sz - (1 : Int32)) fh112 _ M112 _ _ X112 rfl N112 OO112 HX112 f115_T_s3 f116_T_s6 f117_T_s11 f118_T_s18 f113_A_b27 f114_A_b38 hI112 (by omega) (own_dec hsz) (own_dec hnI)
        · skip
          refine go (fun t kt' => by refine XS.ifNo X112.here hx rfl (hb hby at_227) rfl ((if0 _ _).trans (feq c227_164).1) ?_; exact kt') ?_
          show Go p e below _ (T112.setTop (mkF m 230 #[.val (.int p0), .val (.int p1), .val (.int p2), .val (.int p3), .val (.int p4), .val (.int c1), .val (.int c2), .val (.int c3), .val (.int c4), .val (.int w1), .val (.int w2), .val (.int w3), .val (.int w4), .val (.int t3), .val (.int t2), .val (.ref s3), .val (.ref s6), .val (.ref s11), .val (.ref s18), .val (.ref b27), .val (.ref b38), .val (.ref b50), .val (.int (nI - (1 : Int32))), .unset, .unset] []))
          refine go (fun t kt' => by refine XS.iload X112.here hx rfl (hb hby at_230) rfl ?_; exact kt') ?_
          show Go p e below _ (T112.setTop (mkF m 232 #[.val (.int p0), .val (.int p1), .val (.int p2), .val (.int p3), .val (.int p4), .val (.int c1), .val (.int c2), .val (.int c3), .val (.int c4), .val (.int w1), .val (.int w2), .val (.int w3), .val (.int w4), .val (.int t3), .val (.int t2), .val (.ref s3), .val (.ref s6), .val (.ref s11), .val (.ref s18), .val (.ref b27), .val (.ref b38), .val (.ref b50), .val (.int (nI - (1 : Int32))), .unset, .unset] [(.int (nI - (1 : Int32)))]))
          by_cases c232_165 : ¬ (0 : Int32) < (nI - (1 : Int32))
          · skip
            refine go (fun t kt' => by refine XS.ifYes X112.here hx rfl (pc0 := 232) (pc' := 246) rfl (hb hby at_232) rfl ((if0 _ _).trans (flt c232_165).2.2.2) (by decide) (by decide) ?_; exact kt') ?_
            show Go p e below _ (T112.setTop (mkF m 246 #[.val (.int p0), .val (.int p1), .val (.int p2), .val (.int p3), .val (.int p4), .val (.int c1), .val (.int c2), .val (.int c3), .val (.int c4), .val (.int w1), .val (.int w2), .val (.int w3), .val (.int w4), .val (.int t3), .val (.int t2), .val (.ref s3), .val (.ref s6), .val (.ref s11), .val (.ref s18), .val (.ref b27), .val (.ref b38), .val (.ref b50), .val (.int (nI - (1 : Int32))), .unset, .unset] []))
            exact J246 T112 T112.heap _ (upI pl sn112 0) hs tk (sz - (1 : Int32)) fh112 _ M112 _ _ X112 rfl N112 OO112 HX112 f115_T_s3 f116_T_s6 f117_T_s11 f118_T_s18 f113_A_b27 f114_A_b38 hI112 (by omega) (own_dec hsz) (own_dec hnI)
          · skip
            refine go (fun t kt' => by refine XS.ifNo X112.here hx rfl (hb hby at_232) rfl ((if0 _ _).trans (tlt (Decidable.not_not.mp c232_165)).2.2.2) ?_; exact kt') ?_
            show Go p e below _ (T112.setTop (mkF m 235 #[.val (.int p0), .val (.int p1), .val (.int p2), .val (.int p3), .val (.int p4), .val (.int c1), .val (.int c2), .val (.int c3), .val (.int c4), .val (.int w1), .val (.int w2), .val (.int w3), .val (.int w4), .val (.int t3), .val (.int t2), .val (.ref s3), .val (.ref s6), .val (.ref s11), .val (.ref s18), .val (.ref b27), .val (.ref b38), .val (.ref b50), .val (.int (nI - (1 : Int32))), .unset, .unset] []))
            refine go (fun t kt' => by refine XS.aload X112.here hx rfl (hb hby at_235) rfl rfl ?_; exact kt') ?_
            show Go p e below _ (T112.setTop (mkF m 237 #[.val (.int p0), .val (.int p1), .val (.int p2), .val (.int p3), .val (.int p4), .val (.int c1), .val (.int c2), .val (.int c3), .val (.int c4), .val (.int w1), .val (.int w2), .val (.int w3), .val (.int w4), .val (.int t3), .val (.int t2), .val (.ref s3), .val (.ref s6), .val (.ref s11), .val (.ref s18), .val (.ref b27), .val (.ref b38), .val (.ref b50), .val (.int (nI - (1 : Int32))), .unset, .unset] [(.ref b50)]))
            have hpos166 := own_lt0 (own_dec hnI) (Decidable.not_not.mp c232_165)
            obtain ⟨M166, rfl⟩ : ∃ z, M112 = z + 1 := ⟨M112 - 1, by omega⟩
            obtain ⟨sn166, hsn166, htk166, hI166⟩ := own_rem hI112
            obtain ⟨cq166, kq166, q166a, q166b, q166c⟩ := isOf hZ rfl EX_HX112
            obtain ⟨_, _, ⟨T166, L166, k166, n166⟩, -, X166, ⟨Lc166, hQ166, l166, y166, z166⟩, st166⟩ := X112.virtualBack hx (y := (⟨"com/example/casewright/casewright/formats/HashIndex", "removeLast", "()V"⟩ : MethodName)) (z := (⟨"com/example/casewright/casewright/formats/HashIndex", "removeLast", "()V"⟩ : MethodName)) hown (mvT hZ (hw _ (List.mem_of_getElem? (i := 111) rfl))) (mvT hZ (hw _ (List.mem_of_getElem? (i := 112) rfl))) (notFace_of_selects (args := #[]) (mvT hZ (hw _ (List.mem_of_getElem? (i := 114) rfl)))) (mvT hZ (hw _ (List.mem_of_getElem? (i := 114) rfl))) (mvT hZ (hw _ (List.mem_of_getElem? (i := 113) rfl))) (by decide) (backOf (W := 0) (rm_rl l Z a0 hw [] b50 cs rd (upI pl sn112 0) hs tk (sz - (1 : Int32)) fh112 M166 sn166 T112.heap n0 Z112 HS OO112 HX112 (own_dec hsz) (by omega) htk166 hsn166) hZ (hw _ (List.mem_of_getElem? (i := 115) rfl)) (hw _ (List.mem_of_getElem? (i := 30) rfl)) (by decide) (by decide)) q166a q166c (g := (mkF m 237 #[.val (.int p0), .val (.int p1), .val (.int p2), .val (.int p3), .val (.int p4), .val (.int c1), .val (.int c2), .val (.int c3), .val (.int c4), .val (.int w1), .val (.int w2), .val (.int w3), .val (.int w4), .val (.int t3), .val (.int t2), .val (.ref s3), .val (.ref s6), .val (.ref s11), .val (.ref s18), .val (.ref b27), .val (.ref b38), .val (.ref b50), .val (.int (nI - (1 : Int32))), .unset, .unset] [(.ref b50)])) rfl (by rw [hml]; rfl) (Steps.refl _) (argsL := []) (rest := []) (lenOf pd_16 rfl) rfl (by show 2 * 0 + _ ≤ _; exact Nat.le_of_eq rfl) (hb hby at_237) (fun _ _ => ⟨rfl, rfl, (by decide : 16 + 0 ≤ _), (by decide : 107 + 0 ≤ _)⟩)
            dsimp only [Pt.U, Pt.locs, Pt.cells, Pt.slots] at X166 l166 y166 z166 st166 hQ166
            rw [l166, y166, z166] at X166
            obtain ⟨rfl, ⟨N166q, OO166, PS166, KA166⟩, fh166, HX166⟩ := hQ166
            have N166 := Fr.app N112 N166q
            have f167_A_b27 := KA166 _ _ _ _ lt19 f113_A_b27
            have f168_A_b38 := KA166 _ _ _ _ lt20 f114_A_b38
            have f169_T_s3 := PS166 _ _ f115_T_s3
            have f170_T_s6 := PS166 _ _ f116_T_s6
            have f171_T_s11 := PS166 _ _ f117_T_s11
            have f172_T_s18 := PS166 _ _ f118_T_s18
            have Z166 := own_z OO166
            have E166_s3 := f169_T_s3.2.1
            have E166_s6 := f170_T_s6.2.1
            have E166_s11 := f171_T_s11.2.1
            have E166_s18 := f172_T_s18.2.1
            have EX_HX166 := HX166.2.1
            refine go (fun t kt => st166.trans kt) ?_
            show Go p e below _ (T166.setTop (mkF m 240 #[.val (.int p0), .val (.int p1), .val (.int p2), .val (.int p3), .val (.int p4), .val (.int c1), .val (.int c2), .val (.int c3), .val (.int c4), .val (.int w1), .val (.int w2), .val (.int w3), .val (.int w4), .val (.int t3), .val (.int t2), .val (.ref s3), .val (.ref s6), .val (.ref s11), .val (.ref s18), .val (.ref b27), .val (.ref b38), .val (.ref b50), .val (.int (nI - (1 : Int32))), .unset, .unset] []))
            refine go (fun t kt' => by refine XS.iload X166.here hx rfl (hb hby at_240) rfl ?_; exact kt') ?_
            show Go p e below _ (T166.setTop (mkF m 242 #[.val (.int p0), .val (.int p1), .val (.int p2), .val (.int p3), .val (.int p4), .val (.int c1), .val (.int c2), .val (.int c3), .val (.int c4), .val (.int w1), .val (.int w2), .val (.int w3), .val (.int w4), .val (.int t3), .val (.int t2), .val (.ref s3), .val (.ref s6), .val (.ref s11), .val (.ref s18), .val (.ref b27), .val (.ref b38), .val (.ref b50), .val (.int (nI - (1 : Int32))), .unset, .unset] [(.int (nI - (1 : Int32)))]))
            refine go (fun t kt' => by refine XS.iconst X166.here hx rfl (hb hby at_242) ?_; exact kt') ?_
            show Go p e below _ (T166.setTop (mkF m 243 #[.val (.int p0), .val (.int p1), .val (.int p2), .val (.int p3), .val (.int p4), .val (.int c1), .val (.int c2), .val (.int c3), .val (.int c4), .val (.int w1), .val (.int w2), .val (.int w3), .val (.int w4), .val (.int t3), .val (.int t2), .val (.ref s3), .val (.ref s6), .val (.ref s11), .val (.ref s18), .val (.ref b27), .val (.ref b38), .val (.ref b50), .val (.int (nI - (1 : Int32))), .unset, .unset] [(.int (1 : Int32)), (.int (nI - (1 : Int32)))]))
            refine go (fun t kt' => by refine XS.isub X166.here hx rfl (hb hby at_243) rfl ?_; exact kt') ?_
            show Go p e below _ (T166.setTop (mkF m 244 #[.val (.int p0), .val (.int p1), .val (.int p2), .val (.int p3), .val (.int p4), .val (.int c1), .val (.int c2), .val (.int c3), .val (.int c4), .val (.int w1), .val (.int w2), .val (.int w3), .val (.int w4), .val (.int t3), .val (.int t2), .val (.ref s3), .val (.ref s6), .val (.ref s11), .val (.ref s18), .val (.ref b27), .val (.ref b38), .val (.ref b50), .val (.int (nI - (1 : Int32))), .unset, .unset] [(.int ((nI - (1 : Int32)) - (1 : Int32)))]))
            refine go (fun t kt' => by refine XS.istore X166.here hx rfl (hb hby at_244) rfl (l' := #[.val (.int p0), .val (.int p1), .val (.int p2), .val (.int p3), .val (.int p4), .val (.int c1), .val (.int c2), .val (.int c3), .val (.int c4), .val (.int w1), .val (.int w2), .val (.int w3), .val (.int w4), .val (.int t3), .val (.int t2), .val (.ref s3), .val (.ref s6), .val (.ref s11), .val (.ref s18), .val (.ref b27), .val (.ref b38), .val (.ref b50), .val (.int ((nI - (1 : Int32)) - (1 : Int32))), .unset, .unset]) rfl ?_; exact kt') ?_
            show Go p e below _ (T166.setTop (mkF m 246 #[.val (.int p0), .val (.int p1), .val (.int p2), .val (.int p3), .val (.int p4), .val (.int c1), .val (.int c2), .val (.int c3), .val (.int c4), .val (.int w1), .val (.int w2), .val (.int w3), .val (.int w4), .val (.int t3), .val (.int t2), .val (.ref s3), .val (.ref s6), .val (.ref s11), .val (.ref s18), .val (.ref b27), .val (.ref b38), .val (.ref b50), .val (.int ((nI - (1 : Int32)) - (1 : Int32))), .unset, .unset] []))
            exact J246 T166 T166.heap _ (upI (upI pl sn112 0) sn166 0) hs tk ((sz - (1 : Int32)) - (1 : Int32)) fh166 _ M166 _ _ X166 rfl N166 OO166 HX166 f169_T_s3 f170_T_s6 f171_T_s11 f172_T_s18 f167_A_b27 f168_A_b38 hI166 (by omega) (own_dec (own_dec hsz)) (own_dec (own_dec hnI))
      show Go p e below _ (T101.setTop (mkF m 184 #[.val (.int p0), .val (.int p1), .val (.int p2), .val (.int p3), .val (.int p4), .val (.int c1), .val (.int c2), .val (.int c3), .val (.int c4), .val (.int w1), .val (.int w2), .val (.int w3), .val (.int w4), .val (.int t3), .val (.int t2), .val (.ref s3), .val (.ref s6), .val (.ref s11), .val (.ref s18), .val (.ref b27), .val (.ref b38), .val (.ref b50), .val (.int r101), .unset, .unset] []))
      refine go (fun t kt' => by refine XS.iload X101.here hx rfl (hb hby at_184) rfl ?_; exact kt') ?_
      show Go p e below _ (T101.setTop (mkF m 186 #[.val (.int p0), .val (.int p1), .val (.int p2), .val (.int p3), .val (.int p4), .val (.int c1), .val (.int c2), .val (.int c3), .val (.int c4), .val (.int w1), .val (.int w2), .val (.int w3), .val (.int w4), .val (.int t3), .val (.int t2), .val (.ref s3), .val (.ref s6), .val (.ref s11), .val (.ref s18), .val (.ref b27), .val (.ref b38), .val (.ref b50), .val (.int r101), .unset, .unset] [(.int t3)]))
      by_cases c186_173 : t3 = (0 : Int32)
      · skip
        refine go (fun t kt' => by refine XS.ifYes X101.here hx rfl (pc0 := 186) (pc' := 214) rfl (hb hby at_186) rfl ((if0 _ _).trans (teq c186_173).1) (by decide) (by decide) ?_; exact kt') ?_
        show Go p e below _ (T101.setTop (mkF m 214 #[.val (.int p0), .val (.int p1), .val (.int p2), .val (.int p3), .val (.int p4), .val (.int c1), .val (.int c2), .val (.int c3), .val (.int c4), .val (.int w1), .val (.int w2), .val (.int w3), .val (.int w4), .val (.int t3), .val (.int t2), .val (.ref s3), .val (.ref s6), .val (.ref s11), .val (.ref s18), .val (.ref b27), .val (.ref b38), .val (.ref b50), .val (.int r101), .unset, .unset] []))
        exact J214 T101 T101.heap _ pl94 hs94 tk94 sz94 fh94 _ N101n _ _ X101 rfl N101 OO101 HX101 f102_T_s3 f103_T_s6 f104_T_s11 f105_T_s18 VK101 VP101 hI101 (by omega) hz101 hr101
      · skip
        refine go (fun t kt' => by refine XS.ifNo X101.here hx rfl (hb hby at_186) rfl ((if0 _ _).trans (feq c186_173).1) ?_; exact kt') ?_
        show Go p e below _ (T101.setTop (mkF m 189 #[.val (.int p0), .val (.int p1), .val (.int p2), .val (.int p3), .val (.int p4), .val (.int c1), .val (.int c2), .val (.int c3), .val (.int c4), .val (.int w1), .val (.int w2), .val (.int w3), .val (.int w4), .val (.int t3), .val (.int t2), .val (.ref s3), .val (.ref s6), .val (.ref s11), .val (.ref s18), .val (.ref b27), .val (.ref b38), .val (.ref b50), .val (.int r101), .unset, .unset] []))
        refine go (fun t kt' => by refine XS.aload X101.here hx rfl (hb hby at_189) rfl rfl ?_; exact kt') ?_
        show Go p e below _ (T101.setTop (mkF m 191 #[.val (.int p0), .val (.int p1), .val (.int p2), .val (.int p3), .val (.int p4), .val (.int c1), .val (.int c2), .val (.int c3), .val (.int c4), .val (.int w1), .val (.int w2), .val (.int w3), .val (.int w4), .val (.int t3), .val (.int t2), .val (.ref s3), .val (.ref s6), .val (.ref s11), .val (.ref s18), .val (.ref b27), .val (.ref b38), .val (.ref b50), .val (.int r101), .unset, .unset] [(.ref b50)]))
        refine go (fun t kt' => by refine XS.iload X101.here hx rfl (hb hby at_191) rfl ?_; exact kt') ?_
        show Go p e below _ (T101.setTop (mkF m 193 #[.val (.int p0), .val (.int p1), .val (.int p2), .val (.int p3), .val (.int p4), .val (.int c1), .val (.int c2), .val (.int c3), .val (.int c4), .val (.int w1), .val (.int w2), .val (.int w3), .val (.int w4), .val (.int t3), .val (.int t2), .val (.ref s3), .val (.ref s6), .val (.ref s11), .val (.ref s18), .val (.ref b27), .val (.ref b38), .val (.ref b50), .val (.int r101), .unset, .unset] [(.int w3), (.ref b50)]))
        refine go (fun t kt' => by refine XS.aload X101.here hx rfl (hb hby at_193) rfl rfl ?_; exact kt') ?_
        show Go p e below _ (T101.setTop (mkF m 195 #[.val (.int p0), .val (.int p1), .val (.int p2), .val (.int p3), .val (.int p4), .val (.int c1), .val (.int c2), .val (.int c3), .val (.int c4), .val (.int w1), .val (.int w2), .val (.int w3), .val (.int w4), .val (.int t3), .val (.int t2), .val (.ref s3), .val (.ref s6), .val (.ref s11), .val (.ref s18), .val (.ref b27), .val (.ref b38), .val (.ref b50), .val (.int r101), .unset, .unset] [(.ref s11), (.int w3), (.ref b50)]))
        obtain ⟨cq174, kq174, q174a, q174b, q174c⟩ := isOf hZ rfl EX_HX101
        obtain ⟨_, _, ⟨T174, L174, k174, n174⟩, -, X174, ⟨Lc174, hQ174, l174, y174, z174⟩, st174⟩ := X101.virtualBack hx (y := (⟨"com/example/casewright/casewright/formats/HashIndex", "put", "(ILjava/lang/String;)I"⟩ : MethodName)) (z := (⟨"com/example/casewright/casewright/formats/HashIndex", "put", "(ILjava/lang/String;)I"⟩ : MethodName)) hown (mvT hZ (hw _ (List.mem_of_getElem? (i := 58) rfl))) (mvT hZ (hw _ (List.mem_of_getElem? (i := 59) rfl))) (notFace_of_selects (args := #[]) (mvT hZ (hw _ (List.mem_of_getElem? (i := 61) rfl)))) (mvT hZ (hw _ (List.mem_of_getElem? (i := 61) rfl))) (mvT hZ (hw _ (List.mem_of_getElem? (i := 60) rfl))) (by decide) (backOf (W := 0) (rm_pu l Z a0 hw [] b50 w3 s11 cs rd pl94 hs94 tk94 sz94 fh94 (c3.toInt8.toInt32) T101.heap n0 f106_Z HS OO101 HX101 f104_T_s11 (own_free hI101 (by omega) _) (by omega)) hZ (hw _ (List.mem_of_getElem? (i := 62) rfl)) (hw _ (List.mem_of_getElem? (i := 30) rfl)) (by decide) (by decide)) q174a q174c (g := (mkF m 195 #[.val (.int p0), .val (.int p1), .val (.int p2), .val (.int p3), .val (.int p4), .val (.int c1), .val (.int c2), .val (.int c3), .val (.int c4), .val (.int w1), .val (.int w2), .val (.int w3), .val (.int w4), .val (.int t3), .val (.int t2), .val (.ref s3), .val (.ref s6), .val (.ref s11), .val (.ref s18), .val (.ref b27), .val (.ref b38), .val (.ref b50), .val (.int r101), .unset, .unset] [(.ref s11), (.int w3), (.ref b50)])) rfl (by rw [hml]; rfl) (Steps.refl _) (argsL := [(.int w3), (.ref s11)]) (rest := []) (lenOf pd_17 rfl) rfl (by show 2 * 0 + _ ≤ _; exact Nat.le_of_eq rfl) (hb hby at_195) (fun _ _ => ⟨rfl, rfl, (by decide : 16 + 0 ≤ _), (by decide : 107 + 0 ≤ _)⟩)
        dsimp only [Pt.U, Pt.locs, Pt.cells, Pt.slots] at X174 l174 y174 z174 st174 hQ174
        rw [l174, y174, z174] at X174
        obtain ⟨r174, pl174, hs174, tk174, sz174, fh174, rfl, hP174, ⟨N174q, OO174, PS174, KA174⟩, HX174⟩ := hQ174
        have N174 := Fr.app N101 N174q
        have f175_T_s3 := PS174 _ _ f102_T_s3
        have f176_T_s6 := PS174 _ _ f103_T_s6
        have f177_T_s11 := PS174 _ _ f104_T_s11
        have f178_T_s18 := PS174 _ _ f105_T_s18
        have f179_A_b27 := KA174 _ _ _ _ lt19 VK101
        have f180_A_b38 := KA174 _ _ _ _ lt20 VP101
        have Z174 := own_z OO174
        have E174_s3 := f175_T_s3.2.1
        have E174_s6 := f176_T_s6.2.1
        have E174_s11 := f177_T_s11.2.1
        have E174_s18 := f178_T_s18.2.1
        rw [hH3] at hP174
        have EX_HX174 := HX174.2.1
        refine go (fun t kt => st174.trans kt) ?_
        show Go p e below _ (T174.setTop (mkF m 198 #[.val (.int p0), .val (.int p1), .val (.int p2), .val (.int p3), .val (.int p4), .val (.int c1), .val (.int c2), .val (.int c3), .val (.int c4), .val (.int w1), .val (.int w2), .val (.int w3), .val (.int w4), .val (.int t3), .val (.int t2), .val (.ref s3), .val (.ref s6), .val (.ref s11), .val (.ref s18), .val (.ref b27), .val (.ref b38), .val (.ref b50), .val (.int r101), .unset, .unset] [(.int r174)]))
        refine go (fun t kt' => by refine XS.pop X174.here hx rfl (hb hby at_198) rfl rfl ?_; exact kt') ?_
        show Go p e below _ (T174.setTop (mkF m 199 #[.val (.int p0), .val (.int p1), .val (.int p2), .val (.int p3), .val (.int p4), .val (.int c1), .val (.int c2), .val (.int c3), .val (.int c4), .val (.int w1), .val (.int w2), .val (.int w3), .val (.int w4), .val (.int t3), .val (.int t2), .val (.ref s3), .val (.ref s6), .val (.ref s11), .val (.ref s18), .val (.ref b27), .val (.ref b38), .val (.ref b50), .val (.int r101), .unset, .unset] []))
        refine go (fun t kt' => by refine XS.aload X174.here hx rfl (hb hby at_199) rfl rfl ?_; exact kt') ?_
        show Go p e below _ (T174.setTop (mkF m 201 #[.val (.int p0), .val (.int p1), .val (.int p2), .val (.int p3), .val (.int p4), .val (.int c1), .val (.int c2), .val (.int c3), .val (.int c4), .val (.int w1), .val (.int w2), .val (.int w3), .val (.int w4), .val (.int t3), .val (.int t2), .val (.ref s3), .val (.ref s6), .val (.ref s11), .val (.ref s18), .val (.ref b27), .val (.ref b38), .val (.ref b50), .val (.int r101), .unset, .unset] [(.ref b27)]))
        refine go (fun t kt' => by refine XS.aload X174.here hx rfl (hb hby at_201) rfl rfl ?_; exact kt') ?_
        show Go p e below _ (T174.setTop (mkF m 203 #[.val (.int p0), .val (.int p1), .val (.int p2), .val (.int p3), .val (.int p4), .val (.int c1), .val (.int c2), .val (.int c3), .val (.int c4), .val (.int w1), .val (.int w2), .val (.int w3), .val (.int w4), .val (.int t3), .val (.int t2), .val (.ref s3), .val (.ref s6), .val (.ref s11), .val (.ref s18), .val (.ref b27), .val (.ref b38), .val (.ref b50), .val (.int r101), .unset, .unset] [(.ref b38), (.ref b27)]))
        refine go (fun t kt' => by refine XS.iload X174.here hx rfl (hb hby at_203) rfl ?_; exact kt') ?_
        show Go p e below _ (T174.setTop (mkF m 205 #[.val (.int p0), .val (.int p1), .val (.int p2), .val (.int p3), .val (.int p4), .val (.int c1), .val (.int c2), .val (.int c3), .val (.int c4), .val (.int w1), .val (.int w2), .val (.int w3), .val (.int w4), .val (.int t3), .val (.int t2), .val (.ref s3), .val (.ref s6), .val (.ref s11), .val (.ref s18), .val (.ref b27), .val (.ref b38), .val (.ref b50), .val (.int r101), .unset, .unset] [(.int r101), (.ref b38), (.ref b27)]))
        refine go (fun t kt' => by refine XS.iload X174.here hx rfl (hb hby at_205) rfl ?_; exact kt') ?_
        show Go p e below _ (T174.setTop (mkF m 207 #[.val (.int p0), .val (.int p1), .val (.int p2), .val (.int p3), .val (.int p4), .val (.int c1), .val (.int c2), .val (.int c3), .val (.int c4), .val (.int w1), .val (.int w2), .val (.int w3), .val (.int w4), .val (.int t3), .val (.int t2), .val (.ref s3), .val (.ref s6), .val (.ref s11), .val (.ref s18), .val (.ref b27), .val (.ref b38), .val (.ref b50), .val (.int r101), .unset, .unset] [(.int c3), (.int r101), (.ref b38), (.ref b27)]))
        refine go (fun t kt' => by refine XS.iload X174.here hx rfl (hb hby at_207) rfl ?_; exact kt') ?_
        show Go p e below _ (T174.setTop (mkF m 209 #[.val (.int p0), .val (.int p1), .val (.int p2), .val (.int p3), .val (.int p4), .val (.int c1), .val (.int c2), .val (.int c3), .val (.int c4), .val (.int w1), .val (.int w2), .val (.int w3), .val (.int w4), .val (.int t3), .val (.int t2), .val (.ref s3), .val (.ref s6), .val (.ref s11), .val (.ref s18), .val (.ref b27), .val (.ref b38), .val (.ref b50), .val (.int r101), .unset, .unset] [(.int w3), (.int c3), (.int r101), (.ref b38), (.ref b27)]))
        obtain ⟨_, _, ⟨T181, L181, k181, n181⟩, -, X181, ⟨Lc181, hQ181, l181, y181, z181⟩, st181⟩ := Jvm.LawKit.callS X174 hx (y := (⟨"com/example/casewright/casewright/formats/HashIndexRemoveLastPinLaw", "apply", "([C[IICI)I"⟩ : MethodName)) hown (mvT hZ (hw _ (List.mem_of_getElem? (i := 107) rfl))) (mvT hZ (hw _ (List.mem_of_getElem? (i := 108) rfl))) (mvT hZ (hw _ (List.mem_of_getElem? (i := 109) rfl))) (mvT hZ (hw _ (List.mem_of_getElem? (i := 110) rfl))) (by decide) (backOf (W := 0) (rm_ap l Z a0 hw [] b27 b38 r101 c3 w3 cs rd fk101 fp101 N101n T174.heap n0 Z174 HS OO174 n0_b27 n0_b38 f179_A_b27 f180_A_b38 hr101 (by omega) rc3) hZ (hw _ (List.mem_of_getElem? (i := 110) rfl)) (hw _ (List.mem_of_getElem? (i := 109) rfl)) (by decide) (by decide)) (g := (mkF m 209 #[.val (.int p0), .val (.int p1), .val (.int p2), .val (.int p3), .val (.int p4), .val (.int c1), .val (.int c2), .val (.int c3), .val (.int c4), .val (.int w1), .val (.int w2), .val (.int w3), .val (.int w4), .val (.int t3), .val (.int t2), .val (.ref s3), .val (.ref s6), .val (.ref s11), .val (.ref s18), .val (.ref b27), .val (.ref b38), .val (.ref b50), .val (.int r101), .unset, .unset] [(.int w3), (.int c3), (.int r101), (.ref b38), (.ref b27)])) rfl (by rw [hml]; rfl) (argsL := [(.ref b27), (.ref b38), (.int r101), (.int c3), (.int w3)]) (rest := []) (lenOf pd_18 rfl) rfl (by show 2 * 0 + _ ≤ _; exact Nat.le_of_eq rfl) (hb hby at_209) (fun _ _ => ⟨rfl, rfl, (by decide : 16 + 0 ≤ _), (by decide : 107 + 0 ≤ _)⟩)
        dsimp only [Pt.U, Pt.locs, Pt.cells, Pt.slots] at X181 l181 y181 z181 st181 hQ181
        rw [l181, y181, z181] at X181
        obtain ⟨r181, N181n, fk181, fp181, rfl, hr181, hA181, N181q, OO181, K181, PS181, VK181, VP181⟩ := hQ181
        have N181 := Fr.app N174 N181q
        have f182_T_s3 := PS181 _ _ f175_T_s3
        have f183_T_s6 := PS181 _ _ f176_T_s6
        have f184_T_s11 := PS181 _ _ f177_T_s11
        have f185_T_s18 := PS181 _ _ f178_T_s18
        have f186_Z := Nat.le_trans Z174 K181.1
        have f187_E_s3 := E174_s3.keep K181
        have f188_E_s6 := E174_s6.keep K181
        have f189_E_s11 := E174_s11.keep K181
        have f190_E_s18 := E174_s18.keep K181
        have f191_E_b50 := EX_HX174.keep K181
        have HX181 := own_HX.keep HX174 K181 (allS lt19 (allS lt20 all0)) PS181
        have EX_HX181 := HX181.2.1
        obtain ⟨hI181, hz181, hu181, hv181, hw181⟩ := own_put hI101 hz101 (by omega) rw3 hP174 hA181
        refine go st181 ?_
        show Go p e below _ (T181.setTop (mkF m 212 #[.val (.int p0), .val (.int p1), .val (.int p2), .val (.int p3), .val (.int p4), .val (.int c1), .val (.int c2), .val (.int c3), .val (.int c4), .val (.int w1), .val (.int w2), .val (.int w3), .val (.int w4), .val (.int t3), .val (.int t2), .val (.ref s3), .val (.ref s6), .val (.ref s11), .val (.ref s18), .val (.ref b27), .val (.ref b38), .val (.ref b50), .val (.int r101), .unset, .unset] [(.int r181)]))
        refine go (fun t kt' => by refine XS.istore X181.here hx rfl (hb hby at_212) rfl (l' := #[.val (.int p0), .val (.int p1), .val (.int p2), .val (.int p3), .val (.int p4), .val (.int c1), .val (.int c2), .val (.int c3), .val (.int c4), .val (.int w1), .val (.int w2), .val (.int w3), .val (.int w4), .val (.int t3), .val (.int t2), .val (.ref s3), .val (.ref s6), .val (.ref s11), .val (.ref s18), .val (.ref b27), .val (.ref b38), .val (.ref b50), .val (.int r181), .unset, .unset]) rfl ?_; exact kt') ?_
        show Go p e below _ (T181.setTop (mkF m 214 #[.val (.int p0), .val (.int p1), .val (.int p2), .val (.int p3), .val (.int p4), .val (.int c1), .val (.int c2), .val (.int c3), .val (.int c4), .val (.int w1), .val (.int w2), .val (.int w3), .val (.int w4), .val (.int t3), .val (.int t2), .val (.ref s3), .val (.ref s6), .val (.ref s11), .val (.ref s18), .val (.ref b27), .val (.ref b38), .val (.ref b50), .val (.int r181), .unset, .unset] []))
        exact J214 T181 T181.heap _ pl174 hs174 tk174 sz174 fh174 _ N181n _ _ X181 rfl N181 OO181 HX181 f182_T_s3 f183_T_s6 f184_T_s11 f185_T_s18 VK181 VP181 hI181 (by omega) hz181 hr181
    by_cases c74_192 : (p4 &&& (2 : Int32)) = (0 : Int32)
    · skip
      refine go (fun t kt' => by refine XS.ifYes X0.here hx rfl (pc0 := 74) (pc' := 81) rfl (hb hby at_74) rfl ((if0 _ _).trans (teq c74_192).1) (by decide) (by decide) ?_; exact kt') ?_
      show Go p e below _ (s₁.setTop (mkF m 81 #[.val (.int p0), .val (.int p1), .val (.int p2), .val (.int p3), .val (.int p4), .val (.int c1), .val (.int c2), .val (.int c3), .val (.int c4), .val (.int w1), .val (.int w2), .val (.int w3), .val (.int w4), .val (.int t3), .unset, .unset, .unset, .unset, .unset, .unset, .unset, .unset, .unset, .unset, .unset] []))
      refine go (fun t kt' => by refine XS.iconst X0.here hx rfl (hb hby at_81) ?_; exact kt') ?_
      show Go p e below _ (s₁.setTop (mkF m 82 #[.val (.int p0), .val (.int p1), .val (.int p2), .val (.int p3), .val (.int p4), .val (.int c1), .val (.int c2), .val (.int c3), .val (.int c4), .val (.int w1), .val (.int w2), .val (.int w3), .val (.int w4), .val (.int t3), .unset, .unset, .unset, .unset, .unset, .unset, .unset, .unset, .unset, .unset, .unset] [(.int (0 : Int32))]))
      exact J82_2 _
    · skip
      refine go (fun t kt' => by refine XS.ifNo X0.here hx rfl (hb hby at_74) rfl ((if0 _ _).trans (feq c74_192).1) ?_; exact kt') ?_
      show Go p e below _ (s₁.setTop (mkF m 77 #[.val (.int p0), .val (.int p1), .val (.int p2), .val (.int p3), .val (.int p4), .val (.int c1), .val (.int c2), .val (.int c3), .val (.int c4), .val (.int w1), .val (.int w2), .val (.int w3), .val (.int w4), .val (.int t3), .unset, .unset, .unset, .unset, .unset, .unset, .unset, .unset, .unset, .unset, .unset] []))
      refine go (fun t kt' => by refine XS.iconst X0.here hx rfl (hb hby at_77) ?_; exact kt') ?_
      show Go p e below _ (s₁.setTop (mkF m 78 #[.val (.int p0), .val (.int p1), .val (.int p2), .val (.int p3), .val (.int p4), .val (.int c1), .val (.int c2), .val (.int c3), .val (.int c4), .val (.int w1), .val (.int w2), .val (.int w3), .val (.int w4), .val (.int t3), .unset, .unset, .unset, .unset, .unset, .unset, .unset, .unset, .unset, .unset, .unset] [(.int (1 : Int32))]))
      refine go (fun t kt' => by refine XS.goto X0.here hx rfl (pc0 := 78) (pc' := 82) rfl (hb hby at_78) (by decide) (by decide) ?_; exact kt') ?_
      show Go p e below _ (s₁.setTop (mkF m 82 #[.val (.int p0), .val (.int p1), .val (.int p2), .val (.int p3), .val (.int p4), .val (.int c1), .val (.int c2), .val (.int c3), .val (.int c4), .val (.int w1), .val (.int w2), .val (.int w3), .val (.int w4), .val (.int t3), .unset, .unset, .unset, .unset, .unset, .unset, .unset, .unset, .unset, .unset, .unset] [(.int (1 : Int32))]))
      exact J82_2 _
  by_cases c60_193 : (p4 &&& (1 : Int32)) = (0 : Int32)
  · skip
    refine go (fun t kt' => by refine XS.ifYes X0.here hx rfl (pc0 := 60) (pc' := 67) rfl (hb hby at_60) rfl ((if0 _ _).trans (teq c60_193).1) (by decide) (by decide) ?_; exact kt') ?_
    show Go p e below _ (s₁.setTop (mkF m 67 #[.val (.int p0), .val (.int p1), .val (.int p2), .val (.int p3), .val (.int p4), .val (.int c1), .val (.int c2), .val (.int c3), .val (.int c4), .val (.int w1), .val (.int w2), .val (.int w3), .val (.int w4), .unset, .unset, .unset, .unset, .unset, .unset, .unset, .unset, .unset, .unset, .unset, .unset] []))
    refine go (fun t kt' => by refine XS.iconst X0.here hx rfl (hb hby at_67) ?_; exact kt') ?_
    show Go p e below _ (s₁.setTop (mkF m 68 #[.val (.int p0), .val (.int p1), .val (.int p2), .val (.int p3), .val (.int p4), .val (.int c1), .val (.int c2), .val (.int c3), .val (.int c4), .val (.int w1), .val (.int w2), .val (.int w3), .val (.int w4), .unset, .unset, .unset, .unset, .unset, .unset, .unset, .unset, .unset, .unset, .unset, .unset] [(.int (0 : Int32))]))
    exact J68_1 _
  · skip
    refine go (fun t kt' => by refine XS.ifNo X0.here hx rfl (hb hby at_60) rfl ((if0 _ _).trans (feq c60_193).1) ?_; exact kt') ?_
    show Go p e below _ (s₁.setTop (mkF m 63 #[.val (.int p0), .val (.int p1), .val (.int p2), .val (.int p3), .val (.int p4), .val (.int c1), .val (.int c2), .val (.int c3), .val (.int c4), .val (.int w1), .val (.int w2), .val (.int w3), .val (.int w4), .unset, .unset, .unset, .unset, .unset, .unset, .unset, .unset, .unset, .unset, .unset, .unset] []))
    refine go (fun t kt' => by refine XS.iconst X0.here hx rfl (hb hby at_63) ?_; exact kt') ?_
    show Go p e below _ (s₁.setTop (mkF m 64 #[.val (.int p0), .val (.int p1), .val (.int p2), .val (.int p3), .val (.int p4), .val (.int c1), .val (.int c2), .val (.int c3), .val (.int c4), .val (.int w1), .val (.int w2), .val (.int w3), .val (.int w4), .unset, .unset, .unset, .unset, .unset, .unset, .unset, .unset, .unset, .unset, .unset, .unset] [(.int (1 : Int32))]))
    refine go (fun t kt' => by refine XS.goto X0.here hx rfl (pc0 := 64) (pc' := 68) rfl (hb hby at_64) (by decide) (by decide) ?_; exact kt') ?_
    show Go p e below _ (s₁.setTop (mkF m 68 #[.val (.int p0), .val (.int p1), .val (.int p2), .val (.int p3), .val (.int p4), .val (.int c1), .val (.int c2), .val (.int c3), .val (.int c4), .val (.int w1), .val (.int w2), .val (.int w3), .val (.int w4), .unset, .unset, .unset, .unset, .unset, .unset, .unset, .unset, .unset, .unset, .unset, .unset] [(.int (1 : Int32))]))
    exact J68_1 _
set_option maxRecDepth 65536 in
set_option maxHeartbeats 40000000 in
theorem comes_1 {Post : Tables → Env → Array Value → State → Outcome → State → Prop} (hpost : ∀ tb e args s v u, (limb_1_1.after args s (.returned v) u = true ∧ limb_1_2.after args s (.returned v) u = true ∧ True) → FrameEnd s (.returned v) u (Jvm.fieldLocs frame_1_writes args s ++ Jvm.arrayLocs frame_1_arrays args s ++ Jvm.staticLocs frame_1_statics s) 40 320 → Post tb e args s (.returned v) u) :
    ArmFor flags0 classFile x code maxLocals ret World_1 tables_1 room_1 Calls_1 rest_1 Pre_1 Post := by
  intro l hfl _ _ p e ha hc hk s m args below hf hA hF happ hP
  obtain ⟨hcalls, hrest, hpre⟩ := hP
  obtain ⟨-, -, -, hnamed, -, -, -, hat⟩ := (Spec.applies_iff hf).mp happ
  obtain ⟨hg, hn⟩ := and_e (Cond.before_iff.mp (show (Jvm.Cond.and given_1 narrow_1).before args s = true from hpre))
  obtain ⟨g1, g2⟩ := and_e hg
  obtain ⟨g3, g4⟩ := and_e g2
  obtain ⟨g5, g6⟩ := and_e g4
  obtain ⟨g7, g8⟩ := and_e g6
  obtain ⟨g9, g10⟩ := and_e g8
  obtain ⟨w0, w1, w2, w3, w4, rfl⟩ : ∃ w0 w1 w2 w3 w4 : Value, args = #[w0, w1, w2, w3, w4] := by
    have hs : args.size = 5 := by simpa [Cond.value, given_1] using g1
    obtain ⟨L⟩ := args
    match L, hs with
    | [w0, w1, w2, w3, w4], _ => exact ⟨w0, w1, w2, w3, w4, rfl⟩
  have hw := fun d (hd : d ∈ tables_1) => atoms_spec (ws := Jvm.Cond.code x code maxLocals ret :: tables_1) hat d (List.mem_cons_of_mem _ hd)
  have hfit : Fit s := fun {y c} hc i hi => by
    obtain ⟨ha, rfl⟩ := Array.getElem?_eq_some_iff.mp hc
    have q := List.all_eq_true.mp ((Array.all_eq_true_iff_forall_mem.mp hF) _ (Array.getElem_mem ha)) i (List.mem_range.mpr hi)
    simpa [Array.getElem?_eq_getElem hi] using q
  obtain ⟨hsets, hown0⟩ := atoms_of _ (rest_1_c_eq ▸ (show rest_1_c.before _ s = true from hrest))
  have hr0 := Cond.before_iff.mp hown0
  obtain ⟨i0, ei0⟩ := is_v g3
  obtain rfl : w0 = (.int i0) := Option.some.inj ei0
  obtain ⟨i1, ei1⟩ := is_v g5
  obtain rfl : w1 = (.int i1) := Option.some.inj ei1
  obtain ⟨i2, ei2⟩ := is_v g7
  obtain rfl : w2 = (.int i2) := Option.some.inj ei2
  obtain ⟨i3, ei3⟩ := is_v g9
  obtain rfl : w3 = (.int i3) := Option.some.inj ei3
  obtain ⟨i4, ei4⟩ := is_v g10
  obtain rfl : w4 = (.int i4) := Option.some.inj ei4
  obtain ⟨cs, ecs⟩ := is_v (Cond.before_iff.mp (hsets _ (List.mem_of_getElem? (i := 1) rfl)))
  have S1 := Sta.start ecs (Or.inl (hsets _ (List.mem_of_getElem? (i := 0) rfl)))
  have hcs := own_cs0 ecs (Cond.before_iff.mp (hsets _ (List.mem_of_getElem? (i := 2) rfl)))
  obtain ⟨rd, erd⟩ := exa_v hn
  have S2 := Sta.start erd (Or.inr ⟨(hw _ (List.mem_of_getElem? (i := 36) rfl)), (hw _ (List.mem_of_getElem? (i := 39) rfl))⟩)
  have HS : own_sets s cs rd := ⟨S1, hcs, S2⟩
  have OO := Old.start s
  obtain ⟨n, o, h1, h2, h3, _, L, rfl, ⟨rfl, N⟩, hq⟩ := rm0 l s _ hw tables_1 i0 i1 i2 i3 i4 cs rd s.heap s.heap.size (Nat.le_refl _) HS OO p e ha hc hk s m _ below hf ((Spec.applies_iff_loose hf).mp happ).1 ⟨rfl, State.Warmed39.refl s, rfl⟩ trivial
  refine ⟨n, _, h1, h2, h3, hpost _ _ _ _ _ _ ⟨Cond.after_iff.mpr rfl, Cond.after_iff.mpr (eq_i res_at (Term.int_eval (1)) rfl), trivial⟩ ⟨hq.1, hq.2.1, (hq.2.2.sift fun y hy => Or.inr (N y hy)).mono (by decide) (by decide)⟩⟩
theorem main_1_1 : Claimed_1_1 := comes_1 fun _ _ _ _ _ _ h hF => ⟨h.1, hF⟩
theorem main_1_2 : Claimed_1_2 := comes_1 fun _ _ _ _ _ _ h hF => ⟨h.2.1, hF⟩
end Jvm.Pilot.@@N@@
namespace Jvm.Pilot.@@N@@
open Jvm Jvm.ClassFile Sem Op Lib Jvm.Free Jvm.Stand Jvm.Pilot.@@N@@.Jvm.D
/-! MADE BY PROGRAM (witnessworld.py) out of the Statement's table words and the real class files: 24 classes; the members and pool entries that the words name. The judged class is class 1, her method 3. -/
namespace start1
open Jvm.ClassFile
def u (s : String) : CpInfo := .utf8 (stringToUtf16 s)
/-- a pool by its gaps: so many unusable entries, then the entry; so many at the end -/
def gap : Nat → List CpInfo → List CpInfo
  | 0, r => r
  | n + 1, r => .unusable :: gap n r
def poolList (es : List (Nat × CpInfo)) (last : Nat) : List CpInfo := es.foldr (fun e r => gap e.1 (e.2 :: r)) (gap last [])
def pool (es : List (Nat × CpInfo)) (last : Nat) : Array CpInfo := ⟨poolList es last⟩
def fileOf (pool : Array CpInfo) (this : Nat) (attrs : Array Attribute := #[]) (ms : Array MethodInfo := #[]) (fl : Nat := 33) (sup : Nat := 0) (ifs : Array Nat := #[]) (fds : Array FieldInfo := #[]) : ClassFile where
  minorVersion := 0
  majorVersion := 65
  constantPool := pool
  accessFlags := fl
  thisClass := this
  superClass := sup
  interfaces := ifs
  fields := fds
  methods := ms
  attributes := attrs
def plain (name : String) (sup : Option ClassId) : Class where
  name := name
  kind := .ordinary
  loader := none
  accessFlags := 33
  super := sup
  interfaces := #[]
  cf := none
  fields := #[]
  methods := #[]
  instanceTypes := #[]
  staticTypes := #[]
  resolved := #[]
  callSites := []
  init := .initialized
  statics := none
  mirror := none

def pool0 : Array CpInfo := pool [(5, u "<init>"), (0, u "()V"), (1, .class_ 10), (1, u "java/lang/Object")] 113

def k0c0 : Code := { maxStack := 0, maxLocals := 1, code := object_method_1_code, exceptionTable := #[], attributes := #[] }
def k0m0 : Method := { name := "<init>", desc := "()V", sig := { parameters := [], returnType := none }, accessFlags := 1, code := some k0c0 }
/-- java/lang/Object -/
def k0 : Class := { plain "java/lang/Object" none with
  accessFlags := 33
  interfaces := #[]
  cf := some (fileOf pool0 8 #[] #[{ accessFlags := 1, nameIndex := 5, descriptorIndex := 6, attributes := #[] }] 33 0 #[] #[])
  fields := #[]
  methods := #[k0m0]
  instanceTypes := #[]
  staticTypes := #[]
  resolved := Array.replicate 124 none
  statics := none }

def pool1 : Array CpInfo := pool [(2, .class_ 4), (0, .nameAndType 5 6), (0, u "java/lang/Object"), (0, u "<init>"), (0, u "()V"), (0, .methodref 8 9), (0, .class_ 10), (0, .nameAndType 11 12), (0, u "java/lang/String"), (0, u "valueOf"), (0, u "(C)Ljava/lang/String;"), (0, .class_ 14), (0, u "com/example/casewright/casewright/formats/HashIndex"), (0, .methodref 13 3), (0, .methodref 13 17), (0, .nameAndType 18 19), (0, u "put"), (0, u "(ILjava/lang/String;)I"), (0, .methodref 21 22), (0, .class_ 23), (0, .nameAndType 24 25), (0, u "com/example/casewright/casewright/formats/HashIndexRemoveLastPinLaw"), (0, u "apply"), (0, u "([C[IICI)I"), (0, .methodref 13 27), (0, .nameAndType 28 6), (0, u "removeLast"), (0, .methodref 13 30), (0, .nameAndType 31 32), (0, u "get"), (0, u "(Ljava/lang/String;)I"), (0, .methodref 21 34), (0, .nameAndType 35 36), (0, u "lookup"), (0, u "([C[IIC)I"), (3, u "law"), (0, u "(IIIII)Z")] 6

def k1m0 : Method := { name := "<init>", desc := "()V", sig := { parameters := [], returnType := none }, accessFlags := 1, code := none }
def k1c1 : Code := { maxStack := 3, maxLocals := 5, code := method_2_code, exceptionTable := #[], attributes := #[] }
def k1m1 : Method := { name := "apply", desc := "([C[IICI)I", sig := { parameters := [(.array .char), (.array .int), .int, .char, .int], returnType := some .int }, accessFlags := 10, code := some k1c1 }
def k1c2 : Code := { maxStack := 2, maxLocals := 4, code := method_3_code, exceptionTable := #[], attributes := #[] }
def k1m2 : Method := { name := "lookup", desc := "([C[IIC)I", sig := { parameters := [(.array .char), (.array .int), .int, .char], returnType := some .int }, accessFlags := 10, code := some k1c2 }
def k1c3 : Code := { maxStack := 5, maxLocals := 25, code := code, exceptionTable := #[], attributes := #[] }
def k1m3 : Method := { name := "law", desc := "(IIIII)Z", sig := { parameters := [.int, .int, .int, .int, .int], returnType := some .boolean }, accessFlags := 9, code := some k1c3 }
/-- com/example/casewright/casewright/formats/HashIndexRemoveLastPinLaw -/
def k1 : Class := { plain "com/example/casewright/casewright/formats/HashIndexRemoveLastPinLaw" (some 0) with
  accessFlags := 49
  interfaces := #[]
  cf := some (fileOf pool1 21 #[] #[{ accessFlags := 1, nameIndex := 5, descriptorIndex := 6, attributes := #[] }, { accessFlags := 10, nameIndex := 24, descriptorIndex := 25, attributes := #[] }, { accessFlags := 10, nameIndex := 35, descriptorIndex := 36, attributes := #[] }, { accessFlags := 9, nameIndex := 40, descriptorIndex := 41, attributes := #[] }] 49 2 #[] #[])
  fields := #[]
  methods := #[k1m0, k1m1, k1m2, k1m3]
  instanceTypes := #[]
  staticTypes := #[]
  resolved := Array.replicate 48 none
  statics := none }

def pool2 : Array CpInfo := pool [(1, .class_ 2), (0, u "java/io/Serializable"), (0, .class_ 4), (0, u "java/lang/Object")] 2

/-- java/io/Serializable -/
def k2 : Class := { plain "java/io/Serializable" (some 0) with
  accessFlags := 1537
  interfaces := #[]
  cf := some (fileOf pool2 1 #[] #[] 1537 3 #[] #[])
  fields := #[]
  methods := #[]
  instanceTypes := #[]
  staticTypes := #[]
  resolved := Array.replicate 7 none
  statics := none }

def pool3 : Array CpInfo := pool [(1, .class_ 2), (0, u "java/lang/Comparable"), (0, .class_ 4), (0, u "java/lang/Object")] 7

/-- java/lang/Comparable -/
def k3 : Class := { plain "java/lang/Comparable" (some 0) with
  accessFlags := 1537
  interfaces := #[]
  cf := some (fileOf pool3 1 #[] #[] 1537 3 #[] #[])
  fields := #[]
  methods := #[]
  instanceTypes := #[]
  staticTypes := #[]
  resolved := Array.replicate 12 none
  statics := none }

def pool4 : Array CpInfo := pool [(2, .class_ 4), (1, u "java/lang/CharSequence"), (42, .class_ 48), (0, u "java/lang/CharSequence$1CodePointIterator"), (10, .class_ 60), (0, u "java/lang/CharSequence$1CharIterator"), (5, .class_ 67), (0, u "java/lang/Object")] 63

/-- java/lang/CharSequence -/
def k4 : Class := { plain "java/lang/CharSequence" (some 0) with
  accessFlags := 1537
  interfaces := #[]
  cf := some (fileOf pool4 2 #[.nestMembers #[47, 59]] #[] 1537 66 #[] #[])
  fields := #[]
  methods := #[]
  instanceTypes := #[]
  staticTypes := #[]
  resolved := Array.replicate 131 none
  statics := none }

def pool5 : Array CpInfo := pool [(1, .class_ 2), (0, u "java/lang/constant/Constable"), (0, .class_ 4), (0, u "java/lang/Object")] 6

/-- java/lang/constant/Constable -/
def k5 : Class := { plain "java/lang/constant/Constable" (some 0) with
  accessFlags := 1537
  interfaces := #[]
  cf := some (fileOf pool5 1 #[] #[] 1537 3 #[] #[])
  fields := #[]
  methods := #[]
  instanceTypes := #[]
  staticTypes := #[]
  resolved := Array.replicate 11 none
  statics := none }

def pool6 : Array CpInfo := pool [(1, .class_ 2), (0, u "java/lang/constant/ConstantDesc"), (0, .class_ 4), (0, u "java/lang/Object")] 32

/-- java/lang/constant/ConstantDesc -/
def k6 : Class := { plain "java/lang/constant/ConstantDesc" (some 0) with
  accessFlags := 1537
  interfaces := #[]
  cf := some (fileOf pool6 1 #[] #[] 1537 3 #[] #[])
  fields := #[]
  methods := #[]
  instanceTypes := #[]
  staticTypes := #[]
  resolved := Array.replicate 37 none
  statics := none }

def pool7 : Array CpInfo := pool [(1, .methodref 2 3), (0, .class_ 4), (0, .nameAndType 5 6), (0, u "java/lang/Object"), (0, u "<init>"), (0, u "()V"), (2, .fieldref 10 11), (0, .class_ 12), (0, .nameAndType 13 14), (0, u "java/lang/String"), (0, u "value"), (0, u "[B"), (0, .fieldref 10 16), (0, .nameAndType 17 18), (0, u "coder"), (0, u "B"), (0, .fieldref 10 20), (0, .nameAndType 21 22), (0, u "hash"), (0, u "I"), (0, .fieldref 10 24), (0, .nameAndType 25 26), (0, u "hashIsZero"), (0, u "Z"), (11, .fieldref 10 39), (0, .nameAndType 40 26), (0, u "COMPACT_STRINGS"), (12, u "toBytes"), (53, .class_ 109), (1, u "java/lang/StringLatin1"), (32, u "()Z"), (66, .methodref 10 210), (0, .nameAndType 5 211), (0, u "([BB)V"), (122, u "()I"), (34, u "(C)Z"), (122, .methodref 10 493), (0, .nameAndType 494 142), (0, u "isLatin1"), (46, .methodref 107 542), (0, .nameAndType 543 544), (0, u "equals"), (0, u "([B[B)Z"), (28, u "(Ljava/lang/Object;)Z"), (1, .class_ 576), (0, u "java/lang/CharSequence"), (22, u "CASE_INSENSITIVE_ORDER"), (0, u "Ljava/util/Comparator;"), (27, .methodref 107 629), (0, .nameAndType 630 631), (0, u "hashCode"), (0, u "([B)I"), (150, u "valueOf"), (0, u "(C)Ljava/lang/String;"), (231, .methodref 107 1016), (0, .nameAndType 1017 369), (0, u "canEncode"), (0, .methodref 107 1019), (0, .nameAndType 53 1020), (0, u "(C)[B"), (80, u "serialPersistentFields"), (0, u "[Ljava/io/ObjectStreamField;"), (0, .class_ 1104), (0, u "java/lang/String$CaseInsensitiveComparator"), (1, .class_ 1107), (0, u "java/io/Serializable"), (0, .class_ 1109), (0, u "java/lang/Comparable"), (0, .class_ 1111), (0, u "java/lang/constant/Constable"), (0, .class_ 1113), (0, u "java/lang/constant/ConstantDesc"), (2, u "serialVersionUID"), (0, u "J"), (3, u "REPL"), (0, u "C"), (2, u "LATIN1"), (1, u "UTF16")] 323

def k7m0 : Method := { name := "<init>", desc := "()V", sig := { parameters := [], returnType := none }, accessFlags := 1, code := none }
def k7c1 : Code := { maxStack := 2, maxLocals := 3, code := jdk_42_method_66_code, exceptionTable := #[], attributes := #[] }
def k7m1 : Method := { name := "equals", desc := "(Ljava/lang/Object;)Z", sig := { parameters := [(.object "java/lang/Object")], returnType := some .boolean }, accessFlags := 1, code := some k7c1 }
def k7c2 : Code := { maxStack := 2, maxLocals := 2, code := jdk_42_method_78_code, exceptionTable := #[], attributes := #[] }
def k7m2 : Method := { name := "hashCode", desc := "()I", sig := { parameters := [], returnType := some .int }, accessFlags := 1, code := some k7c2 }
def k7c3 : Code := { maxStack := 4, maxLocals := 1, code := jdk_42_method_139_code, exceptionTable := #[], attributes := #[] }
def k7m3 : Method := { name := "valueOf", desc := "(C)Ljava/lang/String;", sig := { parameters := [.char], returnType := some (.object "java/lang/String") }, accessFlags := 9, code := some k7c3 }
def k7c4 : Code := { maxStack := 2, maxLocals := 3, code := jdk_42_method_151_code, exceptionTable := #[], attributes := #[] }
def k7m4 : Method := { name := "<init>", desc := "([BB)V", sig := { parameters := [(.array .byte), .byte], returnType := none }, accessFlags := 0, code := some k7c4 }
def k7c5 : Code := { maxStack := 1, maxLocals := 1, code := jdk_42_method_154_code, exceptionTable := #[], attributes := #[] }
def k7m5 : Method := { name := "isLatin1", desc := "()Z", sig := { parameters := [], returnType := some .boolean }, accessFlags := 0, code := some k7c5 }
/-- java/lang/String -/
def k7 : Class := { plain "java/lang/String" (some 0) with
  accessFlags := 49
  interfaces := #[2, 3, 4, 5, 6]
  cf := some (fileOf pool7 10 #[.nestMembers #[1103]] #[{ accessFlags := 1, nameIndex := 5, descriptorIndex := 6, attributes := #[] }, { accessFlags := 1, nameIndex := 543, descriptorIndex := 573, attributes := #[] }, { accessFlags := 1, nameIndex := 630, descriptorIndex := 334, attributes := #[] }, { accessFlags := 9, nameIndex := 782, descriptorIndex := 783, attributes := #[] }, { accessFlags := 0, nameIndex := 5, descriptorIndex := 211, attributes := #[] }, { accessFlags := 0, nameIndex := 494, descriptorIndex := 142, attributes := #[] }] 49 2 #[1106, 1108, 575, 1110, 1112] #[{ accessFlags := 18, nameIndex := 13, descriptorIndex := 14, attributes := #[] }, { accessFlags := 18, nameIndex := 17, descriptorIndex := 18, attributes := #[] }, { accessFlags := 2, nameIndex := 21, descriptorIndex := 22, attributes := #[] }, { accessFlags := 2, nameIndex := 25, descriptorIndex := 26, attributes := #[] }, { accessFlags := 26, nameIndex := 1116, descriptorIndex := 1117, attributes := #[] }, { accessFlags := 24, nameIndex := 40, descriptorIndex := 26, attributes := #[] }, { accessFlags := 26, nameIndex := 1101, descriptorIndex := 1102, attributes := #[] }, { accessFlags := 26, nameIndex := 1121, descriptorIndex := 1122, attributes := #[] }, { accessFlags := 25, nameIndex := 599, descriptorIndex := 600, attributes := #[] }, { accessFlags := 24, nameIndex := 1125, descriptorIndex := 18, attributes := #[] }, { accessFlags := 24, nameIndex := 1127, descriptorIndex := 18, attributes := #[] }])
  fields := #[{ name := "value", type := (.array .byte), accessFlags := 18, slot := 0, constantValue := 0 }, { name := "coder", type := .byte, accessFlags := 18, slot := 1, constantValue := 0 }, { name := "hash", type := .int, accessFlags := 2, slot := 2, constantValue := 0 }, { name := "hashIsZero", type := .boolean, accessFlags := 2, slot := 3, constantValue := 0 }, { name := "serialVersionUID", type := .long, accessFlags := 26, slot := 0, constantValue := 0 }, { name := "COMPACT_STRINGS", type := .boolean, accessFlags := 24, slot := 1, constantValue := 0 }, { name := "serialPersistentFields", type := (.array (.object "java/io/ObjectStreamField")), accessFlags := 26, slot := 2, constantValue := 0 }, { name := "REPL", type := .char, accessFlags := 26, slot := 3, constantValue := 0 }, { name := "CASE_INSENSITIVE_ORDER", type := (.object "java/util/Comparator"), accessFlags := 25, slot := 4, constantValue := 0 }, { name := "LATIN1", type := .byte, accessFlags := 24, slot := 5, constantValue := 0 }, { name := "UTF16", type := .byte, accessFlags := 24, slot := 6, constantValue := 0 }]
  methods := #[k7m0, k7m1, k7m2, k7m3, k7m4, k7m5]
  instanceTypes := #[(.array .byte), .byte, .int, .boolean]
  staticTypes := #[.long, .boolean, (.array (.object "java/io/ObjectStreamField")), .char, (.object "java/util/Comparator"), .byte, .byte]
  resolved := Array.replicate 1451 none
  statics := some 0 }

def pool8 : Array CpInfo := pool [(4, .class_ 6), (1, u "java/lang/Object"), (0, u "<init>"), (0, u "()V"), (5, .class_ 16), (1, u "java/lang/StringLatin1"), (40, u "([B)I"), (32, u "canEncode"), (14, u "(C)Z"), (15, u "$assertionsDisabled"), (0, u "Z"), (98, .class_ 223), (1, u "java/lang/StringLatin1$LinesSpliterator"), (57, u "equals"), (0, u "([B[B)Z"), (15, u "hashCode"), (81, u "toBytes"), (1, u "(C)[B"), (7, .class_ 391), (0, u "java/lang/StringLatin1$CharsSpliterator")] 3

def k8m0 : Method := { name := "<init>", desc := "()V", sig := { parameters := [], returnType := none }, accessFlags := 0, code := none }
def k8c1 : Code := { maxStack := 2, maxLocals := 1, code := jdk_43_method_3_code, exceptionTable := #[], attributes := #[] }
def k8m1 : Method := { name := "canEncode", desc := "(C)Z", sig := { parameters := [.char], returnType := some .boolean }, accessFlags := 9, code := some k8c1 }
def k8c2 : Code := { maxStack := 3, maxLocals := 3, code := jdk_43_method_13_code, exceptionTable := #[], attributes := #[] }
def k8m2 : Method := { name := "equals", desc := "([B[B)Z", sig := { parameters := [(.array .byte), (.array .byte)], returnType := some .boolean }, accessFlags := 9, code := some k8c2 }
def k8c3 : Code := { maxStack := 5, maxLocals := 1, code := jdk_43_method_21_code, exceptionTable := #[], attributes := #[] }
def k8m3 : Method := { name := "hashCode", desc := "([B)I", sig := { parameters := [(.array .byte)], returnType := some .int }, accessFlags := 9, code := some k8c3 }
def k8c4 : Code := { maxStack := 4, maxLocals := 1, code := jdk_43_method_46_code, exceptionTable := #[], attributes := #[] }
def k8m4 : Method := { name := "toBytes", desc := "(C)[B", sig := { parameters := [.char], returnType := some (.array .byte) }, accessFlags := 9, code := some k8c4 }
/-- java/lang/StringLatin1 -/
def k8 : Class := { plain "java/lang/StringLatin1" (some 0) with
  accessFlags := 48
  interfaces := #[]
  cf := some (fileOf pool8 14 #[.nestMembers #[390, 221]] #[{ accessFlags := 0, nameIndex := 7, descriptorIndex := 8, attributes := #[] }, { accessFlags := 9, nameIndex := 90, descriptorIndex := 105, attributes := #[] }, { accessFlags := 9, nameIndex := 281, descriptorIndex := 282, attributes := #[] }, { accessFlags := 9, nameIndex := 298, descriptorIndex := 57, attributes := #[] }, { accessFlags := 9, nameIndex := 380, descriptorIndex := 382, attributes := #[] }] 48 4 #[] #[{ accessFlags := 4120, nameIndex := 121, descriptorIndex := 122, attributes := #[] }])
  fields := #[{ name := "$assertionsDisabled", type := .boolean, accessFlags := 4120, slot := 0, constantValue := 0 }]
  methods := #[k8m0, k8m1, k8m2, k8m3, k8m4]
  instanceTypes := #[]
  staticTypes := #[.boolean]
  resolved := Array.replicate 395 none
  statics := none }

def pool9 : Array CpInfo := pool [(1, .methodref 2 3), (0, .class_ 4), (0, .nameAndType 5 6), (0, u "com/example/casewright/casewright/formats/StringHash"), (0, u "random"), (0, u "()Lcom/example/casewright/casewright/formats/StringHash;"), (0, .methodref 8 9), (0, .class_ 10), (0, .nameAndType 11 12), (0, u "com/example/casewright/casewright/formats/HashIndex"), (0, u "<init>"), (0, u "(Lcom/example/casewright/casewright/formats/StringHash;)V"), (0, .methodref 14 15), (0, .class_ 16), (0, .nameAndType 11 17), (0, u "java/lang/Object"), (0, u "()V"), (0, .fieldref 8 19), (0, .nameAndType 20 21), (0, u "places"), (0, u "[I"), (0, .fieldref 8 23), (0, .nameAndType 24 21), (0, u "hashes"), (0, .class_ 26), (0, u "java/lang/String"), (0, .fieldref 8 28), (0, .nameAndType 29 30), (0, u "keys"), (0, u "[Ljava/lang/String;"), (0, .fieldref 8 32), (0, .nameAndType 33 30), (0, u "seconds"), (0, .fieldref 8 35), (0, .nameAndType 36 21), (0, u "taken"), (0, .fieldref 8 38), (0, .nameAndType 39 40), (0, u "randomHash"), (0, u "Lcom/example/casewright/casewright/formats/StringHash;"), (0, .fieldref 8 42), (0, .nameAndType 43 44), (0, u "size"), (0, u "I"), (0, .fieldref 8 46), (0, .nameAndType 47 48), (0, u "hashedAtRandom"), (0, u "Z"), (0, .methodref 8 50), (0, .nameAndType 51 52), (0, u "find"), (0, u "(Ljava/lang/String;Ljava/lang/String;)I"), (8, .methodref 8 62), (0, .nameAndType 63 64), (0, u "add"), (0, u "(IILjava/lang/String;Ljava/lang/String;)V"), (0, .fieldref 8 66), (0, .nameAndType 67 44), (0, u "foundHash"), (3, u "(Ljava/lang/String;)I"), (2, .methodref 25 75), (0, .nameAndType 76 77), (0, u "hashCode"), (0, u "()I"), (0, .methodref 8 79), (0, .nameAndType 80 52), (0, u "hash"), (0, .methodref 2 82), (0, .nameAndType 83 84), (0, u "home"), (0, u "(II)I"), (0, .methodref 25 86), (0, .nameAndType 87 88), (0, u "equals"), (0, u "(Ljava/lang/Object;)Z"), (0, .methodref 90 91), (0, .class_ 92), (0, .nameAndType 87 93), (0, u "java/util/Objects"), (0, u "(Ljava/lang/Object;Ljava/lang/Object;)Z"), (6, u "LONG_PROBE"), (2, u "INITIAL_SLOTS"), (5, u "get"), (0, u "(ILjava/lang/String;)I"), (0, u "put"), (0, u "removeLast")] 4

def k9c0 : Code := { maxStack := 2, maxLocals := 1, code := prog_120_method_1_code, exceptionTable := #[], attributes := #[] }
def k9m0 : Method := { name := "<init>", desc := "()V", sig := { parameters := [], returnType := none }, accessFlags := 0, code := some k9c0 }
def k9c1 : Code := { maxStack := 2, maxLocals := 2, code := prog_120_method_2_code, exceptionTable := #[], attributes := #[] }
def k9m1 : Method := { name := "<init>", desc := "(Lcom/example/casewright/casewright/formats/StringHash;)V", sig := { parameters := [(.object "com/example/casewright/casewright/formats/StringHash")], returnType := none }, accessFlags := 0, code := some k9c1 }
def k9c2 : Code := { maxStack := 3, maxLocals := 3, code := prog_120_method_4_code, exceptionTable := #[], attributes := #[] }
def k9m2 : Method := { name := "get", desc := "(Ljava/lang/String;)I", sig := { parameters := [(.object "java/lang/String")], returnType := some .int }, accessFlags := 0, code := some k9c2 }
def k9c3 : Code := { maxStack := 5, maxLocals := 5, code := prog_120_method_7_code, exceptionTable := #[], attributes := #[] }
def k9m3 : Method := { name := "put", desc := "(ILjava/lang/String;)I", sig := { parameters := [.int, (.object "java/lang/String")], returnType := some .int }, accessFlags := 0, code := some k9c3 }
def k9c4 : Code := { maxStack := 3, maxLocals := 2, code := prog_120_method_8_code, exceptionTable := #[], attributes := #[] }
def k9m4 : Method := { name := "removeLast", desc := "()V", sig := { parameters := [], returnType := none }, accessFlags := 0, code := some k9c4 }
def k9c5 : Code := { maxStack := 4, maxLocals := 5, code := prog_120_method_9_code, exceptionTable := #[], attributes := #[] }
def k9m5 : Method := { name := "add", desc := "(IILjava/lang/String;Ljava/lang/String;)V", sig := { parameters := [.int, .int, (.object "java/lang/String"), (.object "java/lang/String")], returnType := none }, accessFlags := 2, code := some k9c5 }
def k9c6 : Code := { maxStack := 3, maxLocals := 3, code := prog_120_method_10_code, exceptionTable := #[], attributes := #[] }
def k9m6 : Method := { name := "hash", desc := "(Ljava/lang/String;Ljava/lang/String;)I", sig := { parameters := [(.object "java/lang/String"), (.object "java/lang/String")], returnType := some .int }, accessFlags := 2, code := some k9c6 }
def k9c7 : Code := { maxStack := 3, maxLocals := 7, code := prog_120_method_11_code, exceptionTable := #[], attributes := #[] }
def k9m7 : Method := { name := "find", desc := "(Ljava/lang/String;Ljava/lang/String;)I", sig := { parameters := [(.object "java/lang/String"), (.object "java/lang/String")], returnType := some .int }, accessFlags := 2, code := some k9c7 }
/-- com/example/casewright/casewright/formats/HashIndex -/
def k9 : Class := { plain "com/example/casewright/casewright/formats/HashIndex" (some 0) with
  accessFlags := 48
  interfaces := #[]
  cf := some (fileOf pool9 8 #[] #[{ accessFlags := 0, nameIndex := 11, descriptorIndex := 17, attributes := #[] }, { accessFlags := 0, nameIndex := 11, descriptorIndex := 12, attributes := #[] }, { accessFlags := 0, nameIndex := 109, descriptorIndex := 71, attributes := #[] }, { accessFlags := 0, nameIndex := 111, descriptorIndex := 110, attributes := #[] }, { accessFlags := 0, nameIndex := 112, descriptorIndex := 17, attributes := #[] }, { accessFlags := 2, nameIndex := 63, descriptorIndex := 64, attributes := #[] }, { accessFlags := 2, nameIndex := 80, descriptorIndex := 52, attributes := #[] }, { accessFlags := 2, nameIndex := 51, descriptorIndex := 52, attributes := #[] }] 48 14 #[] #[{ accessFlags := 24, nameIndex := 100, descriptorIndex := 44, attributes := #[] }, { accessFlags := 26, nameIndex := 103, descriptorIndex := 44, attributes := #[] }, { accessFlags := 18, nameIndex := 39, descriptorIndex := 40, attributes := #[] }, { accessFlags := 2, nameIndex := 47, descriptorIndex := 48, attributes := #[] }, { accessFlags := 2, nameIndex := 20, descriptorIndex := 21, attributes := #[] }, { accessFlags := 2, nameIndex := 24, descriptorIndex := 21, attributes := #[] }, { accessFlags := 2, nameIndex := 29, descriptorIndex := 30, attributes := #[] }, { accessFlags := 2, nameIndex := 33, descriptorIndex := 30, attributes := #[] }, { accessFlags := 2, nameIndex := 36, descriptorIndex := 21, attributes := #[] }, { accessFlags := 2, nameIndex := 43, descriptorIndex := 44, attributes := #[] }, { accessFlags := 2, nameIndex := 67, descriptorIndex := 44, attributes := #[] }])
  fields := #[{ name := "LONG_PROBE", type := .int, accessFlags := 24, slot := 0, constantValue := 0 }, { name := "INITIAL_SLOTS", type := .int, accessFlags := 26, slot := 1, constantValue := 0 }, { name := "randomHash", type := (.object "com/example/casewright/casewright/formats/StringHash"), accessFlags := 18, slot := 0, constantValue := 0 }, { name := "hashedAtRandom", type := .boolean, accessFlags := 2, slot := 1, constantValue := 0 }, { name := "places", type := (.array .int), accessFlags := 2, slot := 2, constantValue := 0 }, { name := "hashes", type := (.array .int), accessFlags := 2, slot := 3, constantValue := 0 }, { name := "keys", type := (.array (.object "java/lang/String")), accessFlags := 2, slot := 4, constantValue := 0 }, { name := "seconds", type := (.array (.object "java/lang/String")), accessFlags := 2, slot := 5, constantValue := 0 }, { name := "taken", type := (.array .int), accessFlags := 2, slot := 6, constantValue := 0 }, { name := "size", type := .int, accessFlags := 2, slot := 7, constantValue := 0 }, { name := "foundHash", type := .int, accessFlags := 2, slot := 8, constantValue := 0 }]
  methods := #[k9m0, k9m1, k9m2, k9m3, k9m4, k9m5, k9m6, k9m7]
  instanceTypes := #[(.object "com/example/casewright/casewright/formats/StringHash"), .boolean, (.array .int), (.array .int), (.array (.object "java/lang/String")), (.array (.object "java/lang/String")), (.array .int), .int, .int]
  staticTypes := #[.int, .int]
  resolved := Array.replicate 117 none
  statics := none }

def pool10 : Array CpInfo := pool [(2, .class_ 4), (1, u "java/lang/Object"), (3, .class_ 10), (1, u "com/example/casewright/casewright/formats/StringHash"), (0, u "point"), (0, u "J"), (0, .fieldref 8 14), (0, .nameAndType 15 16), (0, u "RANDOM"), (0, u "Lcom/example/casewright/casewright/formats/StringHash;"), (0, .integer 2654435769), (0, .methodref 19 20), (0, .class_ 21), (0, .nameAndType 22 23), (0, u "java/lang/Integer"), (0, u "numberOfLeadingZeros"), (0, u "(I)I"), (53, u "MODULUS"), (3, u "random"), (0, u "()Lcom/example/casewright/casewright/formats/StringHash;"), (0, u "home"), (0, u "(II)I")] 7

def k10c0 : Code := { maxStack := 1, maxLocals := 0, code := prog_131_method_2_code, exceptionTable := #[], attributes := #[] }
def k10m0 : Method := { name := "random", desc := "()Lcom/example/casewright/casewright/formats/StringHash;", sig := { parameters := [], returnType := some (.object "com/example/casewright/casewright/formats/StringHash") }, accessFlags := 8, code := some k10c0 }
def k10c1 : Code := { maxStack := 3, maxLocals := 2, code := prog_131_method_3_code, exceptionTable := #[], attributes := #[] }
def k10m1 : Method := { name := "home", desc := "(II)I", sig := { parameters := [.int, .int], returnType := some .int }, accessFlags := 8, code := some k10c1 }
/-- com/example/casewright/casewright/formats/StringHash -/
def k10 : Class := { plain "com/example/casewright/casewright/formats/StringHash" (some 0) with
  accessFlags := 48
  interfaces := #[]
  cf := some (fileOf pool10 8 #[] #[{ accessFlags := 8, nameIndex := 81, descriptorIndex := 82, attributes := #[] }, { accessFlags := 8, nameIndex := 83, descriptorIndex := 84, attributes := #[] }] 48 2 #[] #[{ accessFlags := 26, nameIndex := 77, descriptorIndex := 12, attributes := #[] }, { accessFlags := 26, nameIndex := 15, descriptorIndex := 16, attributes := #[] }, { accessFlags := 18, nameIndex := 11, descriptorIndex := 12, attributes := #[] }])
  fields := #[{ name := "MODULUS", type := .long, accessFlags := 26, slot := 0, constantValue := 0 }, { name := "RANDOM", type := (.object "com/example/casewright/casewright/formats/StringHash"), accessFlags := 26, slot := 1, constantValue := 0 }, { name := "point", type := .long, accessFlags := 18, slot := 0, constantValue := 0 }]
  methods := #[k10m0, k10m1]
  instanceTypes := #[.long]
  staticTypes := #[.long, (.object "com/example/casewright/casewright/formats/StringHash")]
  resolved := Array.replicate 92 none
  statics := some 1 }

def pool11 : Array CpInfo := pool [(2, .class_ 4), (1, u "java/lang/Object"), (0, u "<init>"), (0, u "()V"), (1, .class_ 10), (1, u "java/lang/Number"), (2, .class_ 14), (0, u "java/io/Serializable"), (0, u "serialVersionUID"), (0, u "J")] 20

def k11m0 : Method := { name := "<init>", desc := "()V", sig := { parameters := [], returnType := none }, accessFlags := 1, code := none }
/-- java/lang/Number -/
def k11 : Class := { plain "java/lang/Number" (some 0) with
  accessFlags := 1057
  interfaces := #[2]
  cf := some (fileOf pool11 8 #[] #[{ accessFlags := 1, nameIndex := 5, descriptorIndex := 6, attributes := #[] }] 1057 2 #[13] #[{ accessFlags := 26, nameIndex := 15, descriptorIndex := 16, attributes := #[] }])
  fields := #[{ name := "serialVersionUID", type := .long, accessFlags := 26, slot := 0, constantValue := 0 }]
  methods := #[k11m0]
  instanceTypes := #[]
  staticTypes := #[.long]
  resolved := Array.replicate 37 none
  statics := none }

def pool12 : Array CpInfo := pool [(1, .class_ 2), (0, u "java/lang/Integer"), (16, u "digits"), (0, u "[C"), (32, u "numberOfLeadingZeros"), (0, u "(I)I"), (30, u "DigitOnes"), (0, u "[B"), (2, u "DigitTens"), (99, .class_ 190), (0, u "java/lang/Integer$IntegerCache"), (3, u "I"), (8, .class_ 204), (0, u "java/lang/Number"), (2, u "value"), (56, .integer 65536), (37, u "TYPE"), (0, u "Ljava/lang/Class;"), (0, .class_ 305), (0, u "java/lang/Comparable"), (0, .class_ 307), (0, u "java/lang/constant/Constable"), (0, .class_ 309), (0, u "java/lang/constant/ConstantDesc"), (0, u "MIN_VALUE"), (1, u "MAX_VALUE"), (3, u "SIZE"), (1, u "BYTES"), (1, u "serialVersionUID"), (0, u "J")] 131

def k12c0 : Code := { maxStack := 3, maxLocals := 2, code := jdk_33_method_47_code, exceptionTable := #[], attributes := #[] }
def k12m0 : Method := { name := "numberOfLeadingZeros", desc := "(I)I", sig := { parameters := [.int], returnType := some .int }, accessFlags := 9, code := some k12c0 }
/-- java/lang/Integer -/
def k12 : Class := { plain "java/lang/Integer" (some 11) with
  accessFlags := 49
  interfaces := #[3, 5, 6]
  cf := some (fileOf pool12 1 #[.nestMembers #[189]] #[{ accessFlags := 9, nameIndex := 53, descriptorIndex := 54, attributes := #[] }] 49 203 #[304, 306, 308] #[{ accessFlags := 25, nameIndex := 310, descriptorIndex := 194, attributes := #[] }, { accessFlags := 25, nameIndex := 312, descriptorIndex := 194, attributes := #[] }, { accessFlags := 25, nameIndex := 302, descriptorIndex := 303, attributes := #[] }, { accessFlags := 24, nameIndex := 19, descriptorIndex := 20, attributes := #[] }, { accessFlags := 24, nameIndex := 89, descriptorIndex := 86, attributes := #[] }, { accessFlags := 24, nameIndex := 85, descriptorIndex := 86, attributes := #[] }, { accessFlags := 18, nameIndex := 207, descriptorIndex := 194, attributes := #[] }, { accessFlags := 25, nameIndex := 316, descriptorIndex := 194, attributes := #[] }, { accessFlags := 25, nameIndex := 318, descriptorIndex := 194, attributes := #[] }, { accessFlags := 26, nameIndex := 320, descriptorIndex := 321, attributes := #[] }])
  fields := #[{ name := "MIN_VALUE", type := .int, accessFlags := 25, slot := 0, constantValue := 0 }, { name := "MAX_VALUE", type := .int, accessFlags := 25, slot := 1, constantValue := 0 }, { name := "TYPE", type := (.object "java/lang/Class"), accessFlags := 25, slot := 2, constantValue := 0 }, { name := "digits", type := (.array .char), accessFlags := 24, slot := 3, constantValue := 0 }, { name := "DigitTens", type := (.array .byte), accessFlags := 24, slot := 4, constantValue := 0 }, { name := "DigitOnes", type := (.array .byte), accessFlags := 24, slot := 5, constantValue := 0 }, { name := "value", type := .int, accessFlags := 18, slot := 0, constantValue := 0 }, { name := "SIZE", type := .int, accessFlags := 25, slot := 6, constantValue := 0 }, { name := "BYTES", type := .int, accessFlags := 25, slot := 7, constantValue := 0 }, { name := "serialVersionUID", type := .long, accessFlags := 26, slot := 8, constantValue := 0 }]
  methods := #[k12m0]
  instanceTypes := #[.int]
  staticTypes := #[.int, .int, (.object "java/lang/Class"), (.array .char), (.array .byte), (.array .byte), .int, .int, .long]
  resolved := Array.replicate 453 none
  statics := none }

def pool13 : Array CpInfo := pool [(2, .class_ 4), (1, u "java/lang/Object"), (0, u "<init>"), (0, u "()V"), (9, u "equals"), (6, u "(Ljava/lang/Object;Ljava/lang/Object;)Z"), (18, .class_ 44), (1, u "java/util/Objects")] 139

def k13m0 : Method := { name := "<init>", desc := "()V", sig := { parameters := [], returnType := none }, accessFlags := 2, code := none }
def k13c1 : Code := { maxStack := 2, maxLocals := 2, code := jdk_31_method_2_code, exceptionTable := #[], attributes := #[] }
def k13m1 : Method := { name := "equals", desc := "(Ljava/lang/Object;Ljava/lang/Object;)Z", sig := { parameters := [(.object "java/lang/Object"), (.object "java/lang/Object")], returnType := some .boolean }, accessFlags := 9, code := some k13c1 }
/-- java/util/Objects -/
def k13 : Class := { plain "java/util/Objects" (some 0) with
  accessFlags := 49
  interfaces := #[]
  cf := some (fileOf pool13 42 #[] #[{ accessFlags := 2, nameIndex := 5, descriptorIndex := 6, attributes := #[] }, { accessFlags := 9, nameIndex := 16, descriptorIndex := 23, attributes := #[] }] 49 2 #[] #[])
  fields := #[]
  methods := #[k13m0, k13m1]
  instanceTypes := #[]
  staticTypes := #[]
  resolved := Array.replicate 184 none
  statics := none }

def pool14 : Array CpInfo := pool [(2, .class_ 4), (1, u "java/lang/Object"), (0, u "<init>"), (0, u "()V"), (17, .class_ 26), (1, u "jdk/internal/util/Preconditions"), (28, .class_ 56), (0, u "jdk/internal/util/Preconditions$4"), (57, .class_ 115), (0, u "jdk/internal/util/Preconditions$1"), (7, u "SIOOBE_FORMATTER"), (0, u "Ljava/util/function/BiFunction;"), (0, .class_ 126), (0, u "jdk/internal/util/Preconditions$2"), (3, u "AIOOBE_FORMATTER"), (0, .class_ 132), (0, u "jdk/internal/util/Preconditions$3"), (3, u "IOOBE_FORMATTER")] 57

def k14m0 : Method := { name := "<init>", desc := "()V", sig := { parameters := [], returnType := none }, accessFlags := 1, code := none }
/-- jdk/internal/util/Preconditions -/
def k14 : Class := { plain "jdk/internal/util/Preconditions" (some 0) with
  accessFlags := 33
  interfaces := #[]
  cf := some (fileOf pool14 24 #[.nestMembers #[55, 131, 125, 114]] #[{ accessFlags := 1, nameIndex := 5, descriptorIndex := 6, attributes := #[] }] 33 2 #[] #[{ accessFlags := 25, nameIndex := 123, descriptorIndex := 124, attributes := #[] }, { accessFlags := 25, nameIndex := 130, descriptorIndex := 124, attributes := #[] }, { accessFlags := 25, nameIndex := 136, descriptorIndex := 124, attributes := #[] }])
  fields := #[{ name := "SIOOBE_FORMATTER", type := (.object "java/util/function/BiFunction"), accessFlags := 25, slot := 0, constantValue := 0 }, { name := "AIOOBE_FORMATTER", type := (.object "java/util/function/BiFunction"), accessFlags := 25, slot := 1, constantValue := 0 }, { name := "IOOBE_FORMATTER", type := (.object "java/util/function/BiFunction"), accessFlags := 25, slot := 2, constantValue := 0 }]
  methods := #[k14m0]
  instanceTypes := #[]
  staticTypes := #[(.object "java/util/function/BiFunction"), (.object "java/util/function/BiFunction"), (.object "java/util/function/BiFunction")]
  resolved := Array.replicate 194 none
  statics := some 2 }

def pool15 : Array CpInfo := pool [(9, u "<init>"), (6, .class_ 18), (1, u "java/lang/Object"), (0, u "()V"), (1, .class_ 23), (1, u "jdk/internal/util/ArraysSupport"), (0, u "LOG2_ARRAY_LONG_INDEX_SCALE"), (0, u "I"), (2, u "U"), (0, u "Ljdk/internal/misc/Unsafe;"), (8, u "BIG_ENDIAN"), (0, u "Z"), (8, u "LOG2_BYTE_BIT_SIZE"), (4, u "LOG2_ARRAY_INT_INDEX_SCALE"), (54, u "JLA"), (0, u "Ljdk/internal/access/JavaLangAccess;"), (11, u "LOG2_ARRAY_BOOLEAN_INDEX_SCALE"), (9, u "LOG2_ARRAY_BYTE_INDEX_SCALE"), (5, u "LOG2_ARRAY_CHAR_INDEX_SCALE"), (5, u "LOG2_ARRAY_SHORT_INDEX_SCALE"), (18, u "LOG2_ARRAY_FLOAT_INDEX_SCALE"), (24, u "LOG2_ARRAY_DOUBLE_INDEX_SCALE"), (89, u "T_BOOLEAN"), (2, u "T_CHAR"), (1, u "T_FLOAT"), (1, u "T_DOUBLE"), (1, u "T_BYTE"), (1, u "T_SHORT"), (1, u "T_INT"), (1, u "T_LONG"), (1, u "SOFT_MAX_ARRAY_LENGTH")] 83

def k15m0 : Method := { name := "<init>", desc := "()V", sig := { parameters := [], returnType := none }, accessFlags := 2, code := none }
/-- jdk/internal/util/ArraysSupport -/
def k15 : Class := { plain "jdk/internal/util/ArraysSupport" (some 0) with
  accessFlags := 33
  interfaces := #[]
  cf := some (fileOf pool15 21 #[] #[{ accessFlags := 2, nameIndex := 9, descriptorIndex := 19, attributes := #[] }] 33 16 #[] #[{ accessFlags := 24, nameIndex := 28, descriptorIndex := 29, attributes := #[] }, { accessFlags := 26, nameIndex := 38, descriptorIndex := 39, attributes := #[] }, { accessFlags := 25, nameIndex := 121, descriptorIndex := 25, attributes := #[] }, { accessFlags := 25, nameIndex := 131, descriptorIndex := 25, attributes := #[] }, { accessFlags := 25, nameIndex := 137, descriptorIndex := 25, attributes := #[] }, { accessFlags := 25, nameIndex := 143, descriptorIndex := 25, attributes := #[] }, { accessFlags := 25, nameIndex := 53, descriptorIndex := 25, attributes := #[] }, { accessFlags := 25, nameIndex := 24, descriptorIndex := 25, attributes := #[] }, { accessFlags := 25, nameIndex := 162, descriptorIndex := 25, attributes := #[] }, { accessFlags := 25, nameIndex := 187, descriptorIndex := 25, attributes := #[] }, { accessFlags := 26, nameIndex := 48, descriptorIndex := 25, attributes := #[] }, { accessFlags := 25, nameIndex := 277, descriptorIndex := 25, attributes := #[] }, { accessFlags := 25, nameIndex := 280, descriptorIndex := 25, attributes := #[] }, { accessFlags := 25, nameIndex := 282, descriptorIndex := 25, attributes := #[] }, { accessFlags := 25, nameIndex := 284, descriptorIndex := 25, attributes := #[] }, { accessFlags := 25, nameIndex := 286, descriptorIndex := 25, attributes := #[] }, { accessFlags := 25, nameIndex := 288, descriptorIndex := 25, attributes := #[] }, { accessFlags := 25, nameIndex := 290, descriptorIndex := 25, attributes := #[] }, { accessFlags := 25, nameIndex := 292, descriptorIndex := 25, attributes := #[] }, { accessFlags := 26, nameIndex := 108, descriptorIndex := 109, attributes := #[] }, { accessFlags := 25, nameIndex := 294, descriptorIndex := 25, attributes := #[] }])
  fields := #[{ name := "U", type := (.object "jdk/internal/misc/Unsafe"), accessFlags := 24, slot := 0, constantValue := 0 }, { name := "BIG_ENDIAN", type := .boolean, accessFlags := 26, slot := 1, constantValue := 0 }, { name := "LOG2_ARRAY_BOOLEAN_INDEX_SCALE", type := .int, accessFlags := 25, slot := 2, constantValue := 0 }, { name := "LOG2_ARRAY_BYTE_INDEX_SCALE", type := .int, accessFlags := 25, slot := 3, constantValue := 0 }, { name := "LOG2_ARRAY_CHAR_INDEX_SCALE", type := .int, accessFlags := 25, slot := 4, constantValue := 0 }, { name := "LOG2_ARRAY_SHORT_INDEX_SCALE", type := .int, accessFlags := 25, slot := 5, constantValue := 0 }, { name := "LOG2_ARRAY_INT_INDEX_SCALE", type := .int, accessFlags := 25, slot := 6, constantValue := 0 }, { name := "LOG2_ARRAY_LONG_INDEX_SCALE", type := .int, accessFlags := 25, slot := 7, constantValue := 0 }, { name := "LOG2_ARRAY_FLOAT_INDEX_SCALE", type := .int, accessFlags := 25, slot := 8, constantValue := 0 }, { name := "LOG2_ARRAY_DOUBLE_INDEX_SCALE", type := .int, accessFlags := 25, slot := 9, constantValue := 0 }, { name := "LOG2_BYTE_BIT_SIZE", type := .int, accessFlags := 26, slot := 10, constantValue := 0 }, { name := "T_BOOLEAN", type := .int, accessFlags := 25, slot := 11, constantValue := 0 }, { name := "T_CHAR", type := .int, accessFlags := 25, slot := 12, constantValue := 0 }, { name := "T_FLOAT", type := .int, accessFlags := 25, slot := 13, constantValue := 0 }, { name := "T_DOUBLE", type := .int, accessFlags := 25, slot := 14, constantValue := 0 }, { name := "T_BYTE", type := .int, accessFlags := 25, slot := 15, constantValue := 0 }, { name := "T_SHORT", type := .int, accessFlags := 25, slot := 16, constantValue := 0 }, { name := "T_INT", type := .int, accessFlags := 25, slot := 17, constantValue := 0 }, { name := "T_LONG", type := .int, accessFlags := 25, slot := 18, constantValue := 0 }, { name := "JLA", type := (.object "jdk/internal/access/JavaLangAccess"), accessFlags := 26, slot := 19, constantValue := 0 }, { name := "SOFT_MAX_ARRAY_LENGTH", type := .int, accessFlags := 25, slot := 20, constantValue := 0 }]
  methods := #[k15m0]
  instanceTypes := #[]
  staticTypes := #[(.object "jdk/internal/misc/Unsafe"), .boolean, .int, .int, .int, .int, .int, .int, .int, .int, .int, .int, .int, .int, .int, .int, .int, .int, .int, (.object "jdk/internal/access/JavaLangAccess"), .int]
  resolved := Array.replicate 378 none
  statics := none }

def pool16 : Array CpInfo := pool [(1, u "java/lang/Cloneable"), (0, .class_ 1), (0, u "java/lang/Object"), (0, .class_ 3)] 3

/-- java/lang/Cloneable -/
def k16 : Class := { plain "java/lang/Cloneable" (some 0) with
  accessFlags := 1537
  interfaces := #[]
  cf := some (fileOf pool16 2 #[] #[] 1537 4 #[] #[])
  fields := #[]
  methods := #[]
  instanceTypes := #[]
  staticTypes := #[]
  resolved := Array.replicate 8 none
  statics := none }

/-- the primitive byte -/
def k17 : Class := { plain "byte" none with kind := .primitive 'B', accessFlags := 0x411 }
/-- [B -/
def k18 : Class := { plain "[B" (some 0) with kind := .array 17 .byte, interfaces := #[16, 2], accessFlags := 1041 }

/-- the primitive char -/
def k19 : Class := { plain "char" none with kind := .primitive 'C', accessFlags := 0x411 }
/-- [C -/
def k20 : Class := { plain "[C" (some 0) with kind := .array 19 .char, interfaces := #[16, 2], accessFlags := 1041 }

/-- the primitive int -/
def k21 : Class := { plain "int" none with kind := .primitive 'I', accessFlags := 0x411 }
/-- [I -/
def k22 : Class := { plain "[I" (some 0) with kind := .array 21 .int, interfaces := #[16, 2], accessFlags := 1041 }

/-- [Ljava/lang/String; -/
def k23 : Class := { plain "[Ljava/lang/String;" (some 0) with kind := .array 7 (.object "java/lang/String"), interfaces := #[16, 2], accessFlags := 1041 }

def heap : Heap := #[{ cls := 7, slots := #[.long 0, .int 1, .null, .int 0, .null, .int 0, .int 0], vm := .statics 7 },
  { cls := 10, slots := #[.long 0, .ref 3], vm := .statics 10 },
  { cls := 14, slots := #[.null, .null, .null], vm := .statics 14 },
  { cls := 10, slots := #[.long 0], vm := .none }]
def classes : Array Class := #[k0, k1, k2, k3, k4, k5, k6, k7, k8, k9, k10, k11, k12, k13, k14, k15, k16, k17, k18, k19, k20, k21, k22, k23]
def interned : List (Array UInt16 × Addr) := []
def slotsUsed : Nat := 13
def theMethod : MethodId := ⟨1, 3⟩
def args0 : Array Value := #[.int 5, .int 7, .int 1, .int 2, .int 3]
def aboutOver (below : List Frame) : State where
  vm := { classes := classes, interned := interned.toArray }
  heap := heap
  slotsUsed := slotsUsed
  threads := #[{ frames := .invoking theMethod args0 :: below }]
def below0 : List Frame := [.native { method := ⟨0, 0⟩, args := #[] }]
def about1 : State := aboutOver below0
def p0 : Program := .bare "" "" ""
def e0 : Env := launch0.env 0 0 0
theorem w_frames : about1.frames = Frame.invoking theMethod args0 :: below0 := rfl
set_option maxRecDepth 65536 in
theorem w_args : argsFit about1.vm theMethod args0 = true := by decide +kernel
set_option maxRecDepth 65536 in
theorem w_heap : heapFits about1 = true := by decide +kernel
set_option maxRecDepth 65536 in
theorem w_runnable : about1.curStatus? = some .runnable := by decide +kernel
set_option maxRecDepth 65536 in
theorem w_alone : about1.alone = true := by decide +kernel
set_option maxRecDepth 65536 in
theorem w_named : about1.methodNamed? x = some theMethod := by decide +kernel
set_option maxRecDepth 65536 in
theorem w_hears : about1.hears theMethod below0 = true := by decide +kernel
set_option maxRecDepth 65536 in
theorem w_ripe : about1.ripe theMethod args0 below0 = true := by decide +kernel
theorem w_running : about1.status = .running := rfl
set_option maxRecDepth 65536 in
theorem w_room : about1.hasRoom e0.platform room_1 = true :=
  launch0.hasRoom_least _ room_1 (by decide +kernel) (by decide +kernel) (by decide +kernel) (by decide +kernel) (by decide +kernel) (by decide +kernel)
theorem allAtoms_all (ts : List Jvm.Cond) (a : Array Jvm.Value) (st : Jvm.State) : (allAtoms ts).before a st = ts.all (fun c => c.before a st) := by
  induction ts with
  | nil => rfl
  | cons c t ih =>
    show (Jvm.Cond.and c (allAtoms t)).before a st = _
    rw [Jvm.Cond.before_and, ih, List.all_cons]
def words1 : List Jvm.Cond := Jvm.Cond.code x code maxLocals ret :: tables_1
/-- a 'code' word, met by the world's own term for the bytes: nothing is compared byte by byte -/
theorem code_word {y : MethodName} {bytes : ByteArray} {mx : Nat} {rt : Option FieldType} {a : Array Value} {s : State} {m : MethodId} {meth : Method} {c : Code} (h1 : s.methodNamed? y = some m) (h2 : s.vm.method? m = some meth) (h3 : meth.code = some c) (h4 : c.code = bytes)
    (h5 : (c.maxLocals == mx && c.exceptionTable.isEmpty && decide (c.maxStack ≤ mostOperands) && decide (meth.sig.returnType = rt) && !meth.locks && decide (parseMethodDescriptor y.desc = some meth.sig)) = true) : (Jvm.Cond.code y bytes mx rt).before a s = true := by
  simp only [Bool.and_eq_true, beq_iff_eq, Bool.not_eq_true', decide_eq_true_eq] at h5
  obtain ⟨⟨⟨⟨⟨g1, g2⟩, g3⟩, g4⟩, g5⟩, g6⟩ := h5
  simp [Cond.before, Cond.holds, Cond.value, h1, h2, h3, h4, g1, g2, g3, g4, g5, g6]
def isCode : Jvm.Cond → Bool
  | .code _ _ _ _ => true
  | _ => false
theorem all_split {L : List Jvm.Cond} {P : Jvm.Cond → Bool} (h1 : L.all (fun c => isCode c || P c) = true) (h2 : ∀ c ∈ L.filter isCode, P c = true) : L.all P = true := by
  refine List.all_eq_true.mpr fun c hc => ?_
  have h := List.all_eq_true.mp h1 c hc
  rcases Bool.eq_false_or_eq_true (isCode c) with hi | hi
  · exact h2 c (List.mem_filter.mpr ⟨hc, hi⟩)
  · simpa [hi] using h
set_option maxRecDepth 65536 in
theorem w_c0 : (Jvm.Cond.code x code maxLocals ret).before args0 about1 = true := code_word (m := ⟨1, 3⟩) (meth := k1m3) (c := k1c3) (by decide +kernel) rfl rfl rfl (by decide +kernel)
set_option maxRecDepth 65536 in
theorem w_c1 : (Jvm.Cond.code ({ cls := "java/lang/String", name := "valueOf", desc := "(C)Ljava/lang/String;" } : Jvm.MethodName) jdk_42_method_139_code (1 : Nat) (Option.some (Jvm.ClassFile.FieldType.object "java/lang/String"))).before args0 about1 = true := code_word (m := ⟨7, 3⟩) (meth := k7m3) (c := k7c3) (by decide +kernel) rfl rfl rfl (by decide +kernel)
set_option maxRecDepth 65536 in
theorem w_c2 : (Jvm.Cond.code ({ cls := "java/lang/StringLatin1", name := "canEncode", desc := "(C)Z" } : Jvm.MethodName) jdk_43_method_3_code (1 : Nat) (Option.some Jvm.ClassFile.FieldType.boolean)).before args0 about1 = true := code_word (m := ⟨8, 1⟩) (meth := k8m1) (c := k8c1) (by decide +kernel) rfl rfl rfl (by decide +kernel)
set_option maxRecDepth 65536 in
theorem w_c3 : (Jvm.Cond.code ({ cls := "java/lang/StringLatin1", name := "toBytes", desc := "(C)[B" } : Jvm.MethodName) jdk_43_method_46_code (1 : Nat) (Option.some (Jvm.ClassFile.FieldType.array Jvm.ClassFile.FieldType.byte))).before args0 about1 = true := code_word (m := ⟨8, 4⟩) (meth := k8m4) (c := k8c4) (by decide +kernel) rfl rfl rfl (by decide +kernel)
set_option maxRecDepth 65536 in
theorem w_c4 : (Jvm.Cond.code ({ cls := "java/lang/String", name := "<init>", desc := "([BB)V" } : Jvm.MethodName) jdk_42_method_151_code (3 : Nat) (Option.none : Option Jvm.ClassFile.FieldType)).before args0 about1 = true := code_word (m := ⟨7, 4⟩) (meth := k7m4) (c := k7c4) (by decide +kernel) rfl rfl rfl (by decide +kernel)
set_option maxRecDepth 65536 in
theorem w_c5 : (Jvm.Cond.code ({ cls := "java/lang/Object", name := "<init>", desc := "()V" } : Jvm.MethodName) object_method_1_code (1 : Nat) (Option.none : Option Jvm.ClassFile.FieldType)).before args0 about1 = true := code_word (m := ⟨0, 0⟩) (meth := k0m0) (c := k0c0) (by decide +kernel) rfl rfl rfl (by decide +kernel)
set_option maxRecDepth 65536 in
theorem w_c6 : (Jvm.Cond.code ({ cls := "com/example/casewright/casewright/formats/HashIndex", name := "<init>", desc := "()V" } : Jvm.MethodName) prog_120_method_1_code (1 : Nat) (Option.none : Option Jvm.ClassFile.FieldType)).before args0 about1 = true := code_word (m := ⟨9, 0⟩) (meth := k9m0) (c := k9c0) (by decide +kernel) rfl rfl rfl (by decide +kernel)
set_option maxRecDepth 65536 in
theorem w_c7 : (Jvm.Cond.code ({ cls := "com/example/casewright/casewright/formats/StringHash", name := "random", desc := "()Lcom/example/casewright/casewright/formats/StringHash;" } : Jvm.MethodName) prog_131_method_2_code (0 : Nat) (Option.some (Jvm.ClassFile.FieldType.object "com/example/casewright/casewright/formats/StringHash"))).before args0 about1 = true := code_word (m := ⟨10, 0⟩) (meth := k10m0) (c := k10c0) (by decide +kernel) rfl rfl rfl (by decide +kernel)
set_option maxRecDepth 65536 in
theorem w_c8 : (Jvm.Cond.code ({ cls := "com/example/casewright/casewright/formats/HashIndex", name := "<init>", desc := "(Lcom/example/casewright/casewright/formats/StringHash;)V" } : Jvm.MethodName) prog_120_method_2_code (2 : Nat) (Option.none : Option Jvm.ClassFile.FieldType)).before args0 about1 = true := code_word (m := ⟨9, 1⟩) (meth := k9m1) (c := k9c1) (by decide +kernel) rfl rfl rfl (by decide +kernel)
set_option maxRecDepth 65536 in
theorem w_c9 : (Jvm.Cond.code ({ cls := "com/example/casewright/casewright/formats/HashIndex", name := "put", desc := "(ILjava/lang/String;)I" } : Jvm.MethodName) prog_120_method_7_code (5 : Nat) (Option.some Jvm.ClassFile.FieldType.int)).before args0 about1 = true := code_word (m := ⟨9, 3⟩) (meth := k9m3) (c := k9c3) (by decide +kernel) rfl rfl rfl (by decide +kernel)
set_option maxRecDepth 65536 in
theorem w_c10 : (Jvm.Cond.code ({ cls := "com/example/casewright/casewright/formats/HashIndex", name := "find", desc := "(Ljava/lang/String;Ljava/lang/String;)I" } : Jvm.MethodName) prog_120_method_11_code (7 : Nat) (Option.some Jvm.ClassFile.FieldType.int)).before args0 about1 = true := code_word (m := ⟨9, 7⟩) (meth := k9m7) (c := k9c7) (by decide +kernel) rfl rfl rfl (by decide +kernel)
set_option maxRecDepth 65536 in
theorem w_c11 : (Jvm.Cond.code ({ cls := "com/example/casewright/casewright/formats/HashIndex", name := "hash", desc := "(Ljava/lang/String;Ljava/lang/String;)I" } : Jvm.MethodName) prog_120_method_10_code (3 : Nat) (Option.some Jvm.ClassFile.FieldType.int)).before args0 about1 = true := code_word (m := ⟨9, 6⟩) (meth := k9m6) (c := k9c6) (by decide +kernel) rfl rfl rfl (by decide +kernel)
set_option maxRecDepth 65536 in
theorem w_c12 : (Jvm.Cond.code ({ cls := "java/lang/String", name := "hashCode", desc := "()I" } : Jvm.MethodName) jdk_42_method_78_code (2 : Nat) (Option.some Jvm.ClassFile.FieldType.int)).before args0 about1 = true := code_word (m := ⟨7, 2⟩) (meth := k7m2) (c := k7c2) (by decide +kernel) rfl rfl rfl (by decide +kernel)
set_option maxRecDepth 65536 in
theorem w_c13 : (Jvm.Cond.code ({ cls := "java/lang/String", name := "isLatin1", desc := "()Z" } : Jvm.MethodName) jdk_42_method_154_code (1 : Nat) (Option.some Jvm.ClassFile.FieldType.boolean)).before args0 about1 = true := code_word (m := ⟨7, 5⟩) (meth := k7m5) (c := k7c5) (by decide +kernel) rfl rfl rfl (by decide +kernel)
set_option maxRecDepth 65536 in
theorem w_c14 : (Jvm.Cond.code ({ cls := "java/lang/StringLatin1", name := "hashCode", desc := "([B)I" } : Jvm.MethodName) jdk_43_method_21_code (1 : Nat) (Option.some Jvm.ClassFile.FieldType.int)).before args0 about1 = true := code_word (m := ⟨8, 3⟩) (meth := k8m3) (c := k8c3) (by decide +kernel) rfl rfl rfl (by decide +kernel)
set_option maxRecDepth 65536 in
theorem w_c15 : (Jvm.Cond.code ({ cls := "com/example/casewright/casewright/formats/StringHash", name := "home", desc := "(II)I" } : Jvm.MethodName) prog_131_method_3_code (2 : Nat) (Option.some Jvm.ClassFile.FieldType.int)).before args0 about1 = true := code_word (m := ⟨10, 1⟩) (meth := k10m1) (c := k10c1) (by decide +kernel) rfl rfl rfl (by decide +kernel)
set_option maxRecDepth 65536 in
theorem w_c16 : (Jvm.Cond.code ({ cls := "java/lang/Integer", name := "numberOfLeadingZeros", desc := "(I)I" } : Jvm.MethodName) jdk_33_method_47_code (2 : Nat) (Option.some Jvm.ClassFile.FieldType.int)).before args0 about1 = true := code_word (m := ⟨12, 0⟩) (meth := k12m0) (c := k12c0) (by decide +kernel) rfl rfl rfl (by decide +kernel)
set_option maxRecDepth 65536 in
theorem w_c17 : (Jvm.Cond.code ({ cls := "com/example/casewright/casewright/formats/HashIndex", name := "add", desc := "(IILjava/lang/String;Ljava/lang/String;)V" } : Jvm.MethodName) prog_120_method_9_code (5 : Nat) (Option.none : Option Jvm.ClassFile.FieldType)).before args0 about1 = true := code_word (m := ⟨9, 5⟩) (meth := k9m5) (c := k9c5) (by decide +kernel) rfl rfl rfl (by decide +kernel)
set_option maxRecDepth 65536 in
theorem w_c18 : (Jvm.Cond.code ({ cls := "com/example/casewright/casewright/formats/HashIndexRemoveLastPinLaw", name := "apply", desc := "([C[IICI)I" } : Jvm.MethodName) method_2_code (5 : Nat) (Option.some Jvm.ClassFile.FieldType.int)).before args0 about1 = true := code_word (m := ⟨1, 1⟩) (meth := k1m1) (c := k1c1) (by decide +kernel) rfl rfl rfl (by decide +kernel)
set_option maxRecDepth 65536 in
theorem w_c19 : (Jvm.Cond.code ({ cls := "com/example/casewright/casewright/formats/HashIndex", name := "removeLast", desc := "()V" } : Jvm.MethodName) prog_120_method_8_code (2 : Nat) (Option.none : Option Jvm.ClassFile.FieldType)).before args0 about1 = true := code_word (m := ⟨9, 4⟩) (meth := k9m4) (c := k9c4) (by decide +kernel) rfl rfl rfl (by decide +kernel)
set_option maxRecDepth 65536 in
theorem w_c20 : (Jvm.Cond.code ({ cls := "com/example/casewright/casewright/formats/HashIndex", name := "get", desc := "(Ljava/lang/String;)I" } : Jvm.MethodName) prog_120_method_4_code (3 : Nat) (Option.some Jvm.ClassFile.FieldType.int)).before args0 about1 = true := code_word (m := ⟨9, 2⟩) (meth := k9m2) (c := k9c2) (by decide +kernel) rfl rfl rfl (by decide +kernel)
set_option maxRecDepth 65536 in
theorem w_c21 : (Jvm.Cond.code ({ cls := "java/lang/String", name := "equals", desc := "(Ljava/lang/Object;)Z" } : Jvm.MethodName) jdk_42_method_66_code (3 : Nat) (Option.some Jvm.ClassFile.FieldType.boolean)).before args0 about1 = true := code_word (m := ⟨7, 1⟩) (meth := k7m1) (c := k7c1) (by decide +kernel) rfl rfl rfl (by decide +kernel)
set_option maxRecDepth 65536 in
theorem w_c22 : (Jvm.Cond.code ({ cls := "java/util/Objects", name := "equals", desc := "(Ljava/lang/Object;Ljava/lang/Object;)Z" } : Jvm.MethodName) jdk_31_method_2_code (2 : Nat) (Option.some Jvm.ClassFile.FieldType.boolean)).before args0 about1 = true := code_word (m := ⟨13, 1⟩) (meth := k13m1) (c := k13c1) (by decide +kernel) rfl rfl rfl (by decide +kernel)
set_option maxRecDepth 65536 in
theorem w_c23 : (Jvm.Cond.code ({ cls := "com/example/casewright/casewright/formats/HashIndexRemoveLastPinLaw", name := "lookup", desc := "([C[IIC)I" } : Jvm.MethodName) method_3_code (4 : Nat) (Option.some Jvm.ClassFile.FieldType.int)).before args0 about1 = true := code_word (m := ⟨1, 2⟩) (meth := k1m2) (c := k1c2) (by decide +kernel) rfl rfl rfl (by decide +kernel)
set_option maxRecDepth 65536 in
theorem w_c24 : (Jvm.Cond.code ({ cls := "java/lang/StringLatin1", name := "equals", desc := "([B[B)Z" } : Jvm.MethodName) jdk_43_method_13_code (3 : Nat) (Option.some Jvm.ClassFile.FieldType.boolean)).before args0 about1 = true := code_word (m := ⟨8, 2⟩) (meth := k8m2) (c := k8c2) (by decide +kernel) rfl rfl rfl (by decide +kernel)
def codes1 : List Jvm.Cond := [Jvm.Cond.code x code maxLocals ret, Jvm.Cond.code ({ cls := "java/lang/String", name := "valueOf", desc := "(C)Ljava/lang/String;" } : Jvm.MethodName) jdk_42_method_139_code (1 : Nat) (Option.some (Jvm.ClassFile.FieldType.object "java/lang/String")), Jvm.Cond.code ({ cls := "java/lang/StringLatin1", name := "canEncode", desc := "(C)Z" } : Jvm.MethodName) jdk_43_method_3_code (1 : Nat) (Option.some Jvm.ClassFile.FieldType.boolean), Jvm.Cond.code ({ cls := "java/lang/StringLatin1", name := "toBytes", desc := "(C)[B" } : Jvm.MethodName) jdk_43_method_46_code (1 : Nat) (Option.some (Jvm.ClassFile.FieldType.array Jvm.ClassFile.FieldType.byte)), Jvm.Cond.code ({ cls := "java/lang/String", name := "<init>", desc := "([BB)V" } : Jvm.MethodName) jdk_42_method_151_code (3 : Nat) (Option.none : Option Jvm.ClassFile.FieldType), Jvm.Cond.code ({ cls := "java/lang/Object", name := "<init>", desc := "()V" } : Jvm.MethodName) object_method_1_code (1 : Nat) (Option.none : Option Jvm.ClassFile.FieldType), Jvm.Cond.code ({ cls := "com/example/casewright/casewright/formats/HashIndex", name := "<init>", desc := "()V" } : Jvm.MethodName) prog_120_method_1_code (1 : Nat) (Option.none : Option Jvm.ClassFile.FieldType), Jvm.Cond.code ({ cls := "com/example/casewright/casewright/formats/StringHash", name := "random", desc := "()Lcom/example/casewright/casewright/formats/StringHash;" } : Jvm.MethodName) prog_131_method_2_code (0 : Nat) (Option.some (Jvm.ClassFile.FieldType.object "com/example/casewright/casewright/formats/StringHash")), Jvm.Cond.code ({ cls := "com/example/casewright/casewright/formats/HashIndex", name := "<init>", desc := "(Lcom/example/casewright/casewright/formats/StringHash;)V" } : Jvm.MethodName) prog_120_method_2_code (2 : Nat) (Option.none : Option Jvm.ClassFile.FieldType), Jvm.Cond.code ({ cls := "com/example/casewright/casewright/formats/HashIndex", name := "put", desc := "(ILjava/lang/String;)I" } : Jvm.MethodName) prog_120_method_7_code (5 : Nat) (Option.some Jvm.ClassFile.FieldType.int), Jvm.Cond.code ({ cls := "com/example/casewright/casewright/formats/HashIndex", name := "find", desc := "(Ljava/lang/String;Ljava/lang/String;)I" } : Jvm.MethodName) prog_120_method_11_code (7 : Nat) (Option.some Jvm.ClassFile.FieldType.int), Jvm.Cond.code ({ cls := "com/example/casewright/casewright/formats/HashIndex", name := "hash", desc := "(Ljava/lang/String;Ljava/lang/String;)I" } : Jvm.MethodName) prog_120_method_10_code (3 : Nat) (Option.some Jvm.ClassFile.FieldType.int), Jvm.Cond.code ({ cls := "java/lang/String", name := "hashCode", desc := "()I" } : Jvm.MethodName) jdk_42_method_78_code (2 : Nat) (Option.some Jvm.ClassFile.FieldType.int), Jvm.Cond.code ({ cls := "java/lang/String", name := "isLatin1", desc := "()Z" } : Jvm.MethodName) jdk_42_method_154_code (1 : Nat) (Option.some Jvm.ClassFile.FieldType.boolean), Jvm.Cond.code ({ cls := "java/lang/StringLatin1", name := "hashCode", desc := "([B)I" } : Jvm.MethodName) jdk_43_method_21_code (1 : Nat) (Option.some Jvm.ClassFile.FieldType.int), Jvm.Cond.code ({ cls := "com/example/casewright/casewright/formats/StringHash", name := "home", desc := "(II)I" } : Jvm.MethodName) prog_131_method_3_code (2 : Nat) (Option.some Jvm.ClassFile.FieldType.int), Jvm.Cond.code ({ cls := "java/lang/Integer", name := "numberOfLeadingZeros", desc := "(I)I" } : Jvm.MethodName) jdk_33_method_47_code (2 : Nat) (Option.some Jvm.ClassFile.FieldType.int), Jvm.Cond.code ({ cls := "com/example/casewright/casewright/formats/HashIndex", name := "add", desc := "(IILjava/lang/String;Ljava/lang/String;)V" } : Jvm.MethodName) prog_120_method_9_code (5 : Nat) (Option.none : Option Jvm.ClassFile.FieldType), Jvm.Cond.code ({ cls := "com/example/casewright/casewright/formats/HashIndexRemoveLastPinLaw", name := "apply", desc := "([C[IICI)I" } : Jvm.MethodName) method_2_code (5 : Nat) (Option.some Jvm.ClassFile.FieldType.int), Jvm.Cond.code ({ cls := "com/example/casewright/casewright/formats/HashIndex", name := "removeLast", desc := "()V" } : Jvm.MethodName) prog_120_method_8_code (2 : Nat) (Option.none : Option Jvm.ClassFile.FieldType), Jvm.Cond.code ({ cls := "com/example/casewright/casewright/formats/HashIndex", name := "get", desc := "(Ljava/lang/String;)I" } : Jvm.MethodName) prog_120_method_4_code (3 : Nat) (Option.some Jvm.ClassFile.FieldType.int), Jvm.Cond.code ({ cls := "java/lang/String", name := "equals", desc := "(Ljava/lang/Object;)Z" } : Jvm.MethodName) jdk_42_method_66_code (3 : Nat) (Option.some Jvm.ClassFile.FieldType.boolean), Jvm.Cond.code ({ cls := "java/util/Objects", name := "equals", desc := "(Ljava/lang/Object;Ljava/lang/Object;)Z" } : Jvm.MethodName) jdk_31_method_2_code (2 : Nat) (Option.some Jvm.ClassFile.FieldType.boolean), Jvm.Cond.code ({ cls := "com/example/casewright/casewright/formats/HashIndexRemoveLastPinLaw", name := "lookup", desc := "([C[IIC)I" } : Jvm.MethodName) method_3_code (4 : Nat) (Option.some Jvm.ClassFile.FieldType.int), Jvm.Cond.code ({ cls := "java/lang/StringLatin1", name := "equals", desc := "([B[B)Z" } : Jvm.MethodName) jdk_43_method_13_code (3 : Nat) (Option.some Jvm.ClassFile.FieldType.boolean)]
set_option maxRecDepth 65536 in
theorem codes_eq : words1.filter isCode = codes1 := rfl
theorem w_codes : ∀ c ∈ words1.filter isCode, c.before args0 about1 = true := by
  rw [codes_eq]
  intro c hc
  simp only [codes1, List.mem_cons, List.not_mem_nil, or_false] at hc
  rcases hc with rfl | rfl | rfl | rfl | rfl | rfl | rfl | rfl | rfl | rfl | rfl | rfl | rfl | rfl | rfl | rfl | rfl | rfl | rfl | rfl | rfl | rfl | rfl | rfl | rfl
  · exact w_c0
  · exact w_c1
  · exact w_c2
  · exact w_c3
  · exact w_c4
  · exact w_c5
  · exact w_c6
  · exact w_c7
  · exact w_c8
  · exact w_c9
  · exact w_c10
  · exact w_c11
  · exact w_c12
  · exact w_c13
  · exact w_c14
  · exact w_c15
  · exact w_c16
  · exact w_c17
  · exact w_c18
  · exact w_c19
  · exact w_c20
  · exact w_c21
  · exact w_c22
  · exact w_c23
  · exact w_c24
set_option maxRecDepth 65536 in
theorem w_t1 : (words1.take 24).all (fun c => isCode c || c.before args0 about1) = true := by decide +kernel
set_option maxRecDepth 65536 in
theorem w_t2 : ((words1.drop 24).take 24).all (fun c => isCode c || c.before args0 about1) = true := by decide +kernel
set_option maxRecDepth 65536 in
theorem w_t3 : (((words1.drop 24).drop 24).take 24).all (fun c => isCode c || c.before args0 about1) = true := by decide +kernel
set_option maxRecDepth 65536 in
theorem w_t4 : ((((words1.drop 24).drop 24).drop 24).take 24).all (fun c => isCode c || c.before args0 about1) = true := by decide +kernel
set_option maxRecDepth 65536 in
theorem w_t5 : (((((words1.drop 24).drop 24).drop 24).drop 24).take 24).all (fun c => isCode c || c.before args0 about1) = true := by decide +kernel
set_option maxRecDepth 65536 in
theorem w_t6 : (((((words1.drop 24).drop 24).drop 24).drop 24).drop 24).all (fun c => isCode c || c.before args0 about1) = true := by decide +kernel
theorem w_tables : (allAtoms (Jvm.Cond.code x code maxLocals ret :: tables_1)).before args0 about1 = true := by
  rw [allAtoms_all]
  show words1.all (fun c => c.before args0 about1) = true
  refine all_split ?_ w_codes
  rw [← List.take_append_drop 24 words1, List.all_append, w_t1, ← List.take_append_drop 24 (words1.drop 24), List.all_append, w_t2, ← List.take_append_drop 24 ((words1.drop 24).drop 24), List.all_append, w_t3, ← List.take_append_drop 24 (((words1.drop 24).drop 24).drop 24), List.all_append, w_t4, ← List.take_append_drop 24 ((((words1.drop 24).drop 24).drop 24).drop 24), List.all_append, w_t5, w_t6]
  rfl
set_option maxRecDepth 65536 in
theorem w_rest : rest_1_c.before args0 about1 = true := by decide +kernel
set_option maxRecDepth 65536 in
theorem w_case : (Jvm.Cond.and given_1 narrow_1).before args0 about1 = true := by decide +kernel
theorem w_applies : (headSpec (Jvm.Cond.code x code maxLocals ret :: tables_1) room_1).applies x e0.platform about1 = true :=
  (Spec.applies_iff w_frames).mpr ⟨w_running, w_runnable, w_alone, w_named, w_hears, w_ripe, w_room, w_tables⟩
theorem atStart : AtStart classFile x code maxLocals ret World_1 tables_1 room_1 Calls_1 rest_1 Pre_1 launch0 p0 e0 about1 theMethod args0 below0 :=
  ⟨lists_1, trivial, launch0.admits_env _ _ _, launch0.least_env, fairChoices_fair.cas, fairChoices_fair.clock, w_frames, w_args, w_heap, w_applies, trivial, w_rest, w_case⟩
end start1
theorem witness_1 : WitnessClaimed_1 := ⟨start1.p0, start1.e0, start1.about1, start1.theMethod, start1.args0, start1.below0, start1.atStart⟩
end Jvm.Pilot.@@N@@
