import JvmDerived
import JvmDerived.Pilot.@@N@@Statement
import JvmDerived.Pilot.@@N@@Code
set_option linter.unusedVariables false
set_option linter.unusedSimpArgs false
namespace Jvm.RoadKit
open Sem ClassFile Op Lib Jvm.Stand Jvm.Free Jvm.LawKit
section Own
variable {p : Program} {l : Launch} {e : Env} {R : Room} {s : State} {m : MethodId} {args : Array Value} {below : List Frame} {meth : Method} {c : Code} {T : State} {locs : List Loc} {cells slots : Nat}
/-- from S the run comes to the end of the call, and K holds there -/
def Go (p : Program) (e : Env) (below : List Frame) (K : State → Outcome → Prop) (S : State) : Prop := ∃ s₂ o, Steps p.tables e below S s₂ ∧ s₂.status = .running ∧ Ended s₂ below o ∧ K s₂ o
def Kq (s : State) (Q : Option Value → Heap → List Loc → Prop) (k n : Nat) (t : State) (o : Outcome) : Prop := ∃ v L, o = .returned v ∧ Q v t.heap L ∧ FrameEnd s o t L k n
theorem go {K : State → Outcome → Prop} {S S' : State} (h : ∀ t, Steps p.tables e below S' t → Steps p.tables e below S t) (g : Go p e below K S') : Go p e below K S := by
  obtain ⟨t, o, h1, h2⟩ := g
  exact ⟨t, o, h _ h1, h2⟩
theorem goOut (X : Stand p l e R s m args below meth c T locs cells slots) {Q : Option Value → Heap → List Loc → Prop} {k n : Nat} {S : State} {v : Option Value} (hv : meth.sig.returnType = none → v = none) (hlocks : meth.locks = false)
    (hs : ∀ fs, (∀ (f : JFrame) (acts : List Action), f.method = m → f.locked = none → f.entered = [] → (doReturn e (T.setTop f) acts v).1 = T.setFrames fs) → Steps p.tables e below S (T.setFrames fs))
    (hk : cells ≤ k) (hn : slots ≤ n) (hq : Q v T.heap locs) : Go p e below (Kq s Q k n) S := by
  obtain ⟨fs, hr, hrun, hended, hW, hsame⟩ := X.leave (v := v) hv hlocks
  exact ⟨_, _, hs fs hr, hrun, hended, _, _, rfl, hq, ⟨_, rfl⟩, hW, hsame.mono hk hn⟩
end Own
end Jvm.RoadKit
namespace Jvm.RoadKit
open Sem ClassFile Op Lib Jvm.Stand Jvm.Free Jvm.LawKit
section OwnArr
variable {p : Program} {l : Launch} {e : Env} {R : Room} {s : State} {m : MethodId} {args : Array Value} {below : List Frame} {meth : Method} {c : Code} {T : State} {locs : List Loc} {cells slots : Nat} {Z : State} {h h' : Heap} {a b : Addr} {ty : FieldType} {n : Nat} {f : Nat → Int32} {v : Value} {sl : Nat} {ws : List Addr}
/-- an array of n places, of a kind that lies on the stack as an int, that holds f -/
def IA (Z : State) (h : Heap) (a : Addr) (ty : FieldType) (n : Nat) (f : Nat → Int32) : Prop := ∃ c : Cell, Arr Z h a c ty ∧ c.slots.size = n ∧ ∀ j, j < n → c.slots[j]? = some (.int (f j))
def upI (f : Nat → Int32) (j : Nat) (x : Int32) : Nat → Int32 := fun i => if i = j then x else f i
theorem IA.lt (F : IA Z h a ty n f) : a < h.size := by obtain ⟨c, A, -⟩ := F; exact A.lt
theorem IA.ext (F : IA Z h a ty n f) (E : Ext h h') : IA Z h' a ty n f := by obtain ⟨c, A, r⟩ := F; exact ⟨c, A.ext E, r⟩
theorem IA.other (F : IA Z h b ty n f) (W : Wr h h' a sl v) (q : b ≠ a) : IA Z h' b ty n f := by obtain ⟨c, A, r⟩ := F; exact ⟨c, A.other W q, r⟩
theorem IA.keep (F : IA Z h a ty n f) (K : Keep h h' ws) (q : a ∉ ws) : IA Z h' a ty n f := by obtain ⟨c, A, r⟩ := F; exact ⟨c, ⟨K.2.1 a c A.1 q, A.2⟩, r⟩
theorem IA.new {k : ClassId} {z : Int32} (A : Arr Z h a (newA k ty z) ty) (q : z.toNatClampNeg = n) (hd : defaultValue ty = .int 0) : IA Z h a ty n (fun _ => 0) := by
  refine ⟨_, A, (sz_new _ _ _).trans q, fun j hj => ?_⟩
  simp [newA, hd, q, hj]
theorem IA.put {j x : Int32} {cl : Cell} (A : Arr Z h a cl ty) (S : cl.slots.size = n) (H : ∀ j, j < n → cl.slots[j]? = some (.int (f j))) (W : Wr h h' a j.toNatClampNeg (.int x)) : IA Z h' a ty n (upI f j.toNatClampNeg x) := by
  refine ⟨_, A.same W, by rw [sz_set]; exact S, fun i hi => ?_⟩
  by_cases q : i = j.toNatClampNeg
  · subst q; simp [upI, Cell.setSlot, S, hi]
  · rw [show (cl.setSlot j.toNatClampNeg (.int x)).slots[i]? = cl.slots[i]? from Array.getElem?_setIfInBounds_ne (Ne.symm q), H i hi]; simp [upI, q]
theorem in_of {j : Int32} {cl : Cell} (S : cl.slots.size = n) (hj : 0 ≤ j.toInt ∧ j.toInt < n) : ¬ (j < 0 ∨ cl.slots.size ≤ j.toNatClampNeg) := by
  have h0 : ¬ j < 0 := by rw [Int32.lt_iff_toInt_lt]; have : (0 : Int32).toInt = 0 := rfl; omega
  have h1 := nat_of h0
  rw [S]; intro q; rcases q with q | q
  · exact h0 q
  · omega
theorem nat_in {j : Int32} (hj : 0 ≤ j.toInt ∧ j.toInt < n) : j.toNatClampNeg < n := by
  have h0 : ¬ j < 0 := by rw [Int32.lt_iff_toInt_lt]; have : (0 : Int32).toInt = 0 := rfl; omega
  have h1 := nat_of h0; omega
theorem ldIA (X : Stand p l e R s m args below meth c T locs cells slots) (hx : p.tables.exec = Jvm.exec) (hZ : Z.Warmed39 s.vm) (eT : T.heap = h) (A : IA Z h a .int n f) {j : Int32} (hj : 0 ≤ j.toInt ∧ j.toInt < n) {g : JFrame} (hg : g.method = m) {rest : List Value} (hs : g.stack = .int j :: .ref a :: rest) (hd : decode c.code g.pc = .ok (.iaload, 1)) :
    ∀ target, Steps p.tables e below (T.setTop { g with pc := g.pc + 1, stack := .int (f j.toNatClampNeg) :: rest }) target → Steps p.tables e below (T.setTop g) target := by
  obtain ⟨cl, A, S, H⟩ := A
  exact X.iaload hx (by rw [eT]; exact A.1) (State.isArrayOf_alike hZ.alike A.2.1) A.2.2 (in_of S hj) (H _ (nat_in hj)) hg hs hd
theorem ldCA (X : Stand p l e R s m args below meth c T locs cells slots) (hx : p.tables.exec = Jvm.exec) (hZ : Z.Warmed39 s.vm) (eT : T.heap = h) (A : IA Z h a .char n f) {j : Int32} (hj : 0 ≤ j.toInt ∧ j.toInt < n) {g : JFrame} (hg : g.method = m) {rest : List Value} (hs : g.stack = .int j :: .ref a :: rest) (hd : decode c.code g.pc = .ok (.caload, 1)) :
    ∀ target, Steps p.tables e below (T.setTop { g with pc := g.pc + 1, stack := .int (f j.toNatClampNeg) :: rest }) target → Steps p.tables e below (T.setTop g) target := by
  obtain ⟨cl, A, S, H⟩ := A
  exact X.caload hx (by rw [eT]; exact A.1) (State.isArrayOf_alike hZ.alike A.2.1) A.2.2 (in_of S hj) (H _ (nat_in hj)) hg hs hd
theorem lenIA (X : Stand p l e R s m args below meth c T locs cells slots) (hx : p.tables.exec = Jvm.exec) (hZ : Z.Warmed39 s.vm) (eT : T.heap = h) (A : IA Z h a ty n f) {g : JFrame} (hg : g.method = m) {rest : List Value} (hs : g.stack = .ref a :: rest) (hd : decode c.code g.pc = .ok (.arraylength, 1)) :
    ∀ target, Steps p.tables e below (T.setTop { g with pc := g.pc + 1, stack := .int n.toInt32 :: rest }) target → Steps p.tables e below (T.setTop g) target := by
  obtain ⟨cl, A, S, H⟩ := A
  intro target k
  refine X.arraylength hx (by rw [eT]; exact A.1) (State.isArrayOf_alike hZ.alike A.2.1) hg hs hd target ?_
  rw [S]; exact k
theorem stIA (X : Stand p l e R s m args below meth c T locs cells slots) (hx : p.tables.exec = Jvm.exec) (hZ : Z.Warmed39 s.vm) (eT : T.heap = h) (A : IA Z h a .int n f) {j x : Int32} (hj : 0 ≤ j.toInt ∧ j.toInt < n) {g : JFrame} (hg : g.method = m) {rest : List Value} (hs : g.stack = .int x :: .int j :: .ref a :: rest) (hd : decode c.code g.pc = .ok (.iastore, 1)) :
    ∃ T' h', Stand p l e R s m args below meth c T' (locs ++ [⟨a, j.toNatClampNeg⟩]) cells slots ∧ T'.heap = h' ∧ Wr h h' a j.toNatClampNeg (.int x) ∧ IA Z h' a .int n (upI f j.toNatClampNeg x) ∧ ∀ target, Steps p.tables e below (T'.setTop { g with pc := g.pc + 1, stack := rest }) target → Steps p.tables e below (T.setTop g) target := by
  obtain ⟨cl, A, S, H⟩ := A
  obtain ⟨T', h', X', e', W, st⟩ := stI X hx hZ eT A (in_of S hj) hg hs hd
  exact ⟨T', h', X', e', W, IA.put A S H W, st⟩
theorem stCA (X : Stand p l e R s m args below meth c T locs cells slots) (hx : p.tables.exec = Jvm.exec) (hZ : Z.Warmed39 s.vm) (eT : T.heap = h) (A : IA Z h a .char n f) {j x : Int32} (hj : 0 ≤ j.toInt ∧ j.toInt < n) {g : JFrame} (hg : g.method = m) {rest : List Value} (hs : g.stack = .int x :: .int j :: .ref a :: rest) (hd : decode c.code g.pc = .ok (.castore, 1)) :
    ∃ T' h', Stand p l e R s m args below meth c T' (locs ++ [⟨a, j.toNatClampNeg⟩]) cells slots ∧ T'.heap = h' ∧ Wr h h' a j.toNatClampNeg (.int (nar .char x)) ∧ IA Z h' a .char n (upI f j.toNatClampNeg (nar .char x)) ∧ ∀ target, Steps p.tables e below (T'.setTop { g with pc := g.pc + 1, stack := rest }) target → Steps p.tables e below (T.setTop g) target := by
  obtain ⟨cl, A, S, H⟩ := A
  obtain ⟨T', h', X', e', W, st⟩ := stC X hx hZ eT A (in_of S hj) hg hs hd
  exact ⟨T', h', X', e', W, IA.put A S H W, st⟩
theorem stBA (X : Stand p l e R s m args below meth c T locs cells slots) (hx : p.tables.exec = Jvm.exec) (hZ : Z.Warmed39 s.vm) (eT : T.heap = h) (A : IA Z h a .byte n f) {j x : Int32} (hj : 0 ≤ j.toInt ∧ j.toInt < n) {g : JFrame} (hg : g.method = m) {rest : List Value} (hs : g.stack = .int x :: .int j :: .ref a :: rest) (hd : decode c.code g.pc = .ok (.bastore, 1)) :
    ∃ T' h', Stand p l e R s m args below meth c T' (locs ++ [⟨a, j.toNatClampNeg⟩]) cells slots ∧ T'.heap = h' ∧ Wr h h' a j.toNatClampNeg (.int (nar .byte x)) ∧ IA Z h' a .byte n (upI f j.toNatClampNeg (nar .byte x)) ∧ ∀ target, Steps p.tables e below (T'.setTop { g with pc := g.pc + 1, stack := rest }) target → Steps p.tables e below (T.setTop g) target := by
  obtain ⟨cl, A, S, H⟩ := A
  obtain ⟨T', h', X', e', W, st⟩ := stB X hx hZ eT A (in_of S hj) hg hs hd
  exact ⟨T', h', X', e', W, IA.put A S H W, st⟩
end OwnArr
end Jvm.RoadKit
namespace Jvm.RoadKit
open Sem ClassFile Op Lib Jvm.Stand Jvm.Free Jvm.LawKit
section OwnArr2
variable {p : Program} {l : Launch} {e : Env} {R : Room} {s : State} {m : MethodId} {args : Array Value} {below : List Frame} {meth : Method} {c : Code} {T : State} {locs : List Loc} {cells slots : Nat} {Z : State} {h h' : Heap} {a b : Addr} {ty : FieldType} {n : Nat} {f g : Nat → Int32} {v : Value} {sl : Nat} {ws : List Addr} {C : String} {fr : Nat → Value}
theorem cat_of_ref {w : Value} (q : w.isRef = true) : w.category = 1 := by cases w <;> simp_all [Value.isRef, Value.category]
theorem IA.congr (F : IA Z h a ty n f) (q : ∀ j, j < n → f j = g j) : IA Z h a ty n g := by obtain ⟨c, A, S, H⟩ := F; exact ⟨c, A, S, fun j hj => by rw [H j hj, q j hj]⟩
theorem ldBA (X : Stand p l e R s m args below meth c T locs cells slots) (hx : p.tables.exec = Jvm.exec) (hZ : Z.Warmed39 s.vm) (eT : T.heap = h) (A : IA Z h a .byte n f) {j : Int32} (hj : 0 ≤ j.toInt ∧ j.toInt < n) {g : JFrame} (hg : g.method = m) {rest : List Value} (hs : g.stack = .int j :: .ref a :: rest) (hd : decode c.code g.pc = .ok (.baload, 1)) :
    ∀ target, Steps p.tables e below (T.setTop { g with pc := g.pc + 1, stack := .int (f j.toNatClampNeg) :: rest }) target → Steps p.tables e below (T.setTop g) target := by
  obtain ⟨cl, A, S, H⟩ := A
  exact X.baloadBytes hx (by rw [eT]; exact A.1) (State.isArrayOf_alike hZ.alike A.2.1) A.2.2 (in_of S hj) (H _ (nat_in hj)) hg hs hd
/-- an array of n references, over C, that holds fr -/
def RA (Z : State) (h : Heap) (a : Addr) (C : String) (n : Nat) (fr : Nat → Value) : Prop := ∃ c : Cell, Arr Z h a c (.object C) ∧ Ovr Z c.cls C ∧ c.slots.size = n ∧ ∀ j, j < n → c.slots[j]? = some (fr j)
def upV (f : Nat → Value) (j : Nat) (x : Value) : Nat → Value := fun i => if i = j then x else f i
theorem RA.lt (F : RA Z h a C n fr) : a < h.size := by obtain ⟨c, A, -⟩ := F; exact A.lt
theorem RA.ext (F : RA Z h a C n fr) (E : Ext h h') : RA Z h' a C n fr := by obtain ⟨c, A, r⟩ := F; exact ⟨c, A.ext E, r⟩
theorem RA.other (F : RA Z h b C n fr) (W : Wr h h' a sl v) (q : b ≠ a) : RA Z h' b C n fr := by obtain ⟨c, A, r⟩ := F; exact ⟨c, A.other W q, r⟩
theorem RA.keep (F : RA Z h a C n fr) (K : Keep h h' ws) (q : a ∉ ws) : RA Z h' a C n fr := by obtain ⟨c, A, r⟩ := F; exact ⟨c, ⟨K.2.1 a c A.1 q, A.2⟩, r⟩
theorem RA.new {k : ClassId} {z : Int32} (A : Arr Z h a (newA k (.object C) z) (.object C)) (O : Ovr Z k C) (q : z.toNatClampNeg = n) : RA Z h a C n (fun _ => .null) := by
  refine ⟨_, A, O, (sz_new _ _ _).trans q, fun j hj => ?_⟩
  simp [newA, defaultValue, q, hj]
theorem RA.put {j : Int32} {cl : Cell} (A : Arr Z h a cl (.object C)) (O : Ovr Z cl.cls C) (S : cl.slots.size = n) (H : ∀ j, j < n → cl.slots[j]? = some (fr j)) (W : Wr h h' a j.toNatClampNeg v) : RA Z h' a C n (upV fr j.toNatClampNeg v) := by
  refine ⟨_, A.same W, O, by rw [sz_set]; exact S, fun i hi => ?_⟩
  by_cases q : i = j.toNatClampNeg
  · subst q; simp [upV, Cell.setSlot, S, hi]
  · rw [show (cl.setSlot j.toNatClampNeg v).slots[i]? = cl.slots[i]? from Array.getElem?_setIfInBounds_ne (Ne.symm q), H i hi]; simp [upV, q]
theorem ldRA (X : Stand p l e R s m args below meth c T locs cells slots) (hx : p.tables.exec = Jvm.exec) (hZ : Z.Warmed39 s.vm) (eT : T.heap = h) (A : RA Z h a C n fr) {j : Int32} (hj : 0 ≤ j.toInt ∧ j.toInt < n) {g : JFrame} (hg : g.method = m) {rest : List Value} (hs : g.stack = .int j :: .ref a :: rest) (hd : decode c.code g.pc = .ok (.aaload, 1)) :
    ∀ target, Steps p.tables e below (T.setTop { g with pc := g.pc + 1, stack := (fr j.toNatClampNeg) :: rest }) target → Steps p.tables e below (T.setTop g) target := by
  obtain ⟨cl, A, O, S, H⟩ := A
  exact X.aaload hx (by rw [eT]; exact A.1) (State.isArrayOf_alike hZ.alike A.2.1) rfl A.2.2 (in_of S hj) (H _ (nat_in hj)) hg hs hd
theorem stRA (X : Stand p l e R s m args below meth c T locs cells slots) (hx : p.tables.exec = Jvm.exec) (hZ : Z.Warmed39 s.vm) (eT : T.heap = h) (A : RA Z h a C n fr) (hv : v = .null ∨ ∃ y, v = .ref y ∧ Ins Z h y C true) {j : Int32} (hj : 0 ≤ j.toInt ∧ j.toInt < n) {g : JFrame} (hg : g.method = m) {rest : List Value} (hs : g.stack = v :: .int j :: .ref a :: rest) (hd : decode c.code g.pc = .ok (.aastore, 1)) :
    ∃ T' h', Stand p l e R s m args below meth c T' (locs ++ [⟨a, j.toNatClampNeg⟩]) cells slots ∧ T'.heap = h' ∧ Wr h h' a j.toNatClampNeg v ∧ RA Z h' a C n (upV fr j.toNatClampNeg v) ∧ ∀ target, Steps p.tables e below (T'.setTop { g with pc := g.pc + 1, stack := rest }) target → Steps p.tables e below (T.setTop g) target := by
  obtain ⟨cl, A, O, S, H⟩ := A
  obtain ⟨T', h', X', e', W, st⟩ := stR X hx hZ eT A (in_of S hj) rfl (by
    rcases hv with hv | ⟨y, rfl, I⟩
    · exact Or.inl hv
    · exact Sto.of A O I) hg hs hd
  exact ⟨T', h', X', e', W, RA.put A O S H W, st⟩
theorem lookHit (X : Stand p l e R s m args below meth c T locs cells slots) (hx : p.tables.exec = Jvm.exec) {g : JFrame} (hg : g.method = m) {k : Int32} {rest : List Value} {pc0 pc' : Nat} (hpc : g.pc = pc0)
    (hs : g.stack = .int k :: rest) {default : Int} {pairs : Array (Int × Int)} {len : Nat} (hd : decode c.code g.pc = .ok (.lookupswitch default pairs, len))
    (hsorted : (pairs.toList.zip (pairs.toList.drop 1)).all (fun (a, next) => a.1 < next.1) = true) {a off : Int} (hfind : pairs.find? (·.1 == k.toInt) = some (a, off)) (ho : 0 ≤ (pc0 : Int) + off) (hp : ((pc0 : Int) + off).toNat = pc')
    {target : State} (hr : Steps p.tables e below (T.setTop { g with pc := pc', stack := rest }) target) : Steps p.tables e below (T.setTop g) target := by
  subst hpc; subst hp
  exact X.lookupswitchHit hx hg hs hd hsorted hfind ho target hr
theorem lookMiss (X : Stand p l e R s m args below meth c T locs cells slots) (hx : p.tables.exec = Jvm.exec) {g : JFrame} (hg : g.method = m) {k : Int32} {rest : List Value} {pc0 pc' : Nat} (hpc : g.pc = pc0)
    (hs : g.stack = .int k :: rest) {default : Int} {pairs : Array (Int × Int)} {len : Nat} (hd : decode c.code g.pc = .ok (.lookupswitch default pairs, len))
    (hsorted : (pairs.toList.zip (pairs.toList.drop 1)).all (fun (a, next) => a.1 < next.1) = true) (hfind : pairs.find? (·.1 == k.toInt) = none) (ho : 0 ≤ (pc0 : Int) + default) (hp : ((pc0 : Int) + default).toNat = pc')
    {target : State} (hr : Steps p.tables e below (T.setTop { g with pc := pc', stack := rest }) target) : Steps p.tables e below (T.setTop g) target := by
  subst hpc; subst hp
  exact X.lookupswitchMiss hx hg hs hd hsorted hfind ho target hr
theorem tabHit (X : Stand p l e R s m args below meth c T locs cells slots) (hx : p.tables.exec = Jvm.exec) {g : JFrame} (hg : g.method = m) {k : Int32} {rest : List Value} {pc0 pc' : Nat} (hpc : g.pc = pc0)
    (hs : g.stack = .int k :: rest) {default low high : Int} {offsets : Array Int} {len : Nat} (hd : decode c.code g.pc = .ok (.tableswitch default low high offsets, len))
    (hin : ¬ (k.toInt < low ∨ k.toInt > high)) {off : Int} (hoffs : offsets[(k.toInt - low).toNat]? = some off) (ho : 0 ≤ (pc0 : Int) + off) (hp : ((pc0 : Int) + off).toNat = pc')
    {target : State} (hr : Steps p.tables e below (T.setTop { g with pc := pc', stack := rest }) target) : Steps p.tables e below (T.setTop g) target := by
  subst hpc; subst hp
  exact X.tableswitchIn hx hg hs hd hin hoffs ho target hr
end OwnArr2
end Jvm.RoadKit
namespace Jvm.RoadKit
open Sem ClassFile Op Lib Jvm.Stand Jvm.Free Jvm.LawKit
section OwnW
variable {p : Program} {l : Launch} {e : Env} {R : Room} {s : State} {m : MethodId} {args : Array Value} {below : List Frame} {meth : Method} {c : Code} {T : State} {locs : List Loc} {cells slots : Nat} {Z : State} {EL : List (String × Nat)}
def KqW (Z : State) (EL : List (String × Nat)) (s : State) (Q : Option Value → Heap → List Loc → Prop) (k n : Nat) (t : State) (o : Outcome) : Prop := ∃ v L, o = .returned v ∧ Q v t.heap L ∧ CHr Z EL s.vm s.heap t.vm t.heap ∧ ReturnedEndW s o t L k n
theorem goOutN (X : Stand p l e R s m args below meth c T locs cells slots) (hC : CHr Z EL s.vm s.heap T.vm T.heap) {Q : Option Value → Heap → List Loc → Prop} {k n : Nat} {S : State} {v : Option Value} (hv : meth.sig.returnType = none → v = none) (hlocks : meth.locks = false)
    (hs : ∀ fs, (∀ (f : JFrame) (acts : List Action), f.method = m → f.locked = none → f.entered = [] → (doReturn e (T.setTop f) acts v).1 = T.setFrames fs) → Steps p.tables e below S (T.setFrames fs))
    (hk : cells ≤ k) (hn : slots ≤ n) (hq : Q v T.heap locs) : Go p e below (KqW Z EL s Q k n) S := by
  obtain ⟨fs, hr, hrun, hended, hW, hsame⟩ := X.leave (v := v) hv hlocks
  exact ⟨_, _, hs fs hr, hrun, hended, _, _, rfl, hq, hC, ReturnedEndW.of_narrow ⟨_, rfl⟩ hW (hsame.mono hk hn)⟩
theorem goOutW {vm1 : Vm} {n1 : Nat} (X : Stand p l e R (s.setVm vm1) m args below meth c T locs cells slots) (hS : s.Since vm1 n1) (hn1 : n1 ≤ T.heap.size) (hC : CHr Z EL s.vm s.heap T.vm T.heap) {Q : Option Value → Heap → List Loc → Prop} {k n : Nat} {S : State} {v : Option Value} (hv : meth.sig.returnType = none → v = none) (hlocks : meth.locks = false)
    (hs : ∀ fs, (∀ (f : JFrame) (acts : List Action), f.method = m → f.locked = none → f.entered = [] → (doReturn e (T.setTop f) acts v).1 = T.setFrames fs) → Steps p.tables e below S (T.setFrames fs))
    (hk : cells ≤ k) (hn : slots ≤ n) (hq : Q v T.heap locs) : Go p e below (KqW Z EL s Q k n) S := by
  obtain ⟨fs, hr, hrun, hended, hE⟩ := X.leaveW hS hn1 (v := v) hv hlocks
  exact ⟨_, _, hs fs hr, hrun, hended, _, _, rfl, hq, hC, ⟨hE.1, hE.2.1, hE.2.2.1, hE.2.2.2.mono hk hn⟩⟩
end OwnW
end Jvm.RoadKit
namespace Jvm.Pilot.@@N@@
open Jvm Jvm.ClassFile Sem Op Lib Jvm.Free Jvm.Stand Jvm.LawKit Jvm.RoadKit Bundle Jvm.Pilot.@@N@@.Jvm.D
def own_EL : List (String × Nat) := [("java/lang/StringLatin1", 151)]
theorem own_hel {Z : State} {a0 : Array Value} (hw : ∀ d ∈ tables_1, d.before a0 Z = true) : EW Z a0 own_EL := EW.cons (hw _ (List.mem_of_getElem? (i := 140) rfl)) (by simp) EW.nil
theorem own_wS {Z : State} {a0 : Array Value} (hw : ∀ d ∈ tables_1, d.before a0 Z = true) : ∀ a ∈ Bundle.stringAtoms, a.before a0 Z = true := by
  intro a ha
  simp only [Bundle.stringAtoms, Bundle.sN, List.mem_cons, List.not_mem_nil, or_false] at ha
  rcases ha with rfl | rfl | rfl | rfl | rfl | rfl | rfl
  · exact (hw _ (List.mem_of_getElem? (i := 3) rfl))
  · exact (hw _ (List.mem_of_getElem? (i := 2) rfl))
  · exact (hw _ (List.mem_of_getElem? (i := 19) rfl))
  · exact (hw _ (List.mem_of_getElem? (i := 29) rfl))
  · exact (hw _ (List.mem_of_getElem? (i := 27) rfl))
  · exact (hw _ (List.mem_of_getElem? (i := 141) rfl))
  · exact (hw _ (List.mem_of_getElem? (i := 142) rfl))
def own_sets (Z : State) (cs : Int32) (fm : Value) (kd1 kd2 kd3 kd4 : Addr) : Prop := Sta Z Z.heap "java/lang/String" "COMPACT_STRINGS" "Z" (.int cs) ∧ ¬ cs = 0 ∧ Sta Z Z.heap "jdk/internal/util/Preconditions" "SIOOBE_FORMATTER" "Ljava/util/function/BiFunction;" fm ∧ fm.isRef = true ∧ Sta Z Z.heap "com/example/backfill/backfill/postgres/SqlLexer$Kind" "WORD" "Lcom/example/backfill/backfill/postgres/SqlLexer$Kind;" (.ref kd1) ∧ Sta Z Z.heap "com/example/backfill/backfill/postgres/SqlLexer$Kind" "QUOTED_NAME" "Lcom/example/backfill/backfill/postgres/SqlLexer$Kind;" (.ref kd2) ∧ Sta Z Z.heap "com/example/backfill/backfill/postgres/SqlLexer$Kind" "STRING" "Lcom/example/backfill/backfill/postgres/SqlLexer$Kind;" (.ref kd3) ∧ Sta Z Z.heap "com/example/backfill/backfill/postgres/SqlLexer$Kind" "SIGN" "Lcom/example/backfill/backfill/postgres/SqlLexer$Kind;" (.ref kd4)
theorem own_cl {j : Int32} {s : Nat} (h : j.toInt = s) : j.toNatClampNeg = s := by simp only [Int32.toNatClampNeg]; omega
theorem own_ge {j : Int32} {s : Nat} (h : j.toInt = s) : ¬ j < 0 := by
  rw [Int32.lt_iff_toInt_lt, h]; have : (0 : Int32).toInt = 0 := rfl; omega
theorem own_nlt {x : Int32} (h : 0 ≤ x.toInt) : ¬ x < (0 : Int32) := by
  rw [Int32.lt_iff_toInt_lt]; have : (0 : Int32).toInt = 0 := rfl; omega
theorem own_ngt {x y : Int32} (h : x.toInt ≤ y.toInt) : ¬ y < x := by rw [Int32.lt_iff_toInt_lt]; omega
theorem own_lt {x y : Int32} (h : x.toInt < y.toInt) : x < y := by rw [Int32.lt_iff_toInt_lt]; exact h
theorem own_lt256 {p : Int32} (h : 0 ≤ p.toInt ∧ p.toInt < 256) : ¬ (255 : Int32) < p := by
  have o : (255 : Int32).toInt = 255 := rfl
  rw [Int32.lt_iff_toInt_lt, o]; omega
theorem own_up4 (f g : Nat → Int32) (j : Nat) (hj : j < 4) : upI (upI (upI (upI f 0 (g 0)) 1 (g 1)) 2 (g 2)) 3 (g 3) j = g j := by
  match j, hj with
  | 0, _ => simp [upI]
  | 1, _ => simp [upI]
  | 2, _ => simp [upI]
  | 3, _ => simp [upI]
theorem own_nb (p : Int32) : nar .byte (p.toInt8.toInt32) = p.toInt8.toInt32 := by
  show (p.toInt8.toInt32).toInt8.toInt32 = p.toInt8.toInt32
  have a := c_i2b p
  have b := c_i2b (p.toInt8.toInt32)
  rw [← Int32.toInt_inj]
  omega
theorem own_nc {p : Int32} (h : 0 ≤ p.toInt ∧ p.toInt < 256) : nar .char p = p := by
  show p.toUInt32.toUInt16.toUInt32.toInt32 = p
  have a := c_i2c p
  rw [← Int32.toInt_inj]
  omega
theorem own_c255 (x : Int32) : 0 ≤ ((x &&& (255 : Int32)).toUInt32.toUInt16.toUInt32.toInt32).toInt ∧ ((x &&& (255 : Int32)).toUInt32.toUInt16.toUInt32.toInt32).toInt < 256 := by
  rw [i2c_mask]
  have m : (x &&& (255 : Int32)).toInt = x.toInt % (2 ^ 8 : Nat) := c_mask _ _ 8 (by decide) (by decide)
  omega
theorem own_narc (u : Int32) : nar .char (u &&& (255 : Int32)) = u &&& (255 : Int32) := by
  have m : (u &&& (255 : Int32)).toInt = u.toInt % (2 ^ 8 : Nat) := c_mask _ _ 8 (by decide) (by decide)
  exact own_nc (by omega)
theorem own_chr (u : Int32) : nar .char ((u &&& (255 : Int32)).toUInt32.toUInt16.toUInt32.toInt32) = u &&& (255 : Int32) := by rw [i2c_mask]; exact own_narc u
theorem own_fill (f : Nat → Int32) (a b c d : Int32) (ha : 0 ≤ a.toInt ∧ a.toInt < 256) (hb : 0 ≤ b.toInt ∧ b.toInt < 256) (hc : 0 ≤ c.toInt ∧ c.toInt < 256) (hd : 0 ≤ d.toInt ∧ d.toInt < 256) :
    ∀ j, j < 4 → 0 ≤ (upI (upI (upI (upI f 0 (nar .char a)) 1 (nar .char b)) 2 (nar .char c)) 3 (nar .char d) j).toInt ∧ (upI (upI (upI (upI f 0 (nar .char a)) 1 (nar .char b)) 2 (nar .char c)) 3 (nar .char d) j).toInt < 256 := by
  intro j hj
  rw [own_nc ha, own_nc hb, own_nc hc, own_nc hd]
  match j, hj with
  | 0, _ => simpa [upI] using ha
  | 1, _ => simpa [upI] using hb
  | 2, _ => simpa [upI] using hc
  | 3, _ => simpa [upI] using hd
def own_min (a b : Int32) : Int32 := if b < a then b else a
def own_max (a b : Int32) : Int32 := if a < b then b else a
theorem own_m5 (x : Int32) : 0 ≤ ((x &&& (2147483647 : Int32)) % (5 : Int32)).toInt ∧ ((x &&& (2147483647 : Int32)) % (5 : Int32)).toInt ≤ 4 := by
  have h1 : (x &&& (2147483647 : Int32)).toInt = x.toInt % (2 ^ 31 : Nat) := c_mask x 2147483647 31 (by decide) (by decide)
  have h2 := (c_irem (x &&& (2147483647 : Int32)) 5 5 rfl).1 (by omega)
  omega
theorem own_lohi {sa sb lw hi : Int32} (h1 : 0 ≤ sa.toInt ∧ sa.toInt ≤ 4) (h2 : 0 ≤ sb.toInt ∧ sb.toInt ≤ 4) (e1 : own_min sa sb = lw) (e2 : own_max sa sb = hi) : ∃ lo N : Nat, lw.toInt = lo ∧ hi.toInt = ((lo + N : Nat) : Int) ∧ lo + N ≤ 4 := by
  subst e1; subst e2
  refine ⟨(own_min sa sb).toInt.toNat, ((own_max sa sb).toInt - (own_min sa sb).toInt).toNat, ?_⟩
  unfold own_min own_max
  simp only [Int32.lt_iff_toInt_lt]
  split <;> split <;> omega
theorem own_sub {p1 p2 : Int32} {lo N : Nat} (h1 : p1.toInt = lo) (h2 : p2.toInt = ((lo + N : Nat) : Int)) (hle : lo + N ≤ 4) : (p2 - p1).toInt = N := by
  have a := c_isub p2 p1
  have r := rng32 (p2 - p1)
  omega
theorem own_addi {p1 p2 : Int32} {lo N : Nat} (h1 : p1.toInt = lo) (h2 : p2.toInt = N) (hle : lo + N ≤ 4) : (p1 + p2).toInt = ((lo + N : Nat) : Int) := by
  have a := c_iadd p1 p2
  have r := rng32 (p1 + p2)
  omega
theorem own_shr0 (x : Int32) : x >>> ((0 : Int32) &&& 31) = x := by
  have h : (x >>> ((0 : Int32) &&& 31)).toInt = x.toInt / (2 ^ 0 : Nat) := c_ishr x 0 0 (by decide)
  rw [← Int32.toInt_inj, h]; omega
theorem own_cib {p1 : Int32} {J N : Nat} (h : p1.toInt = J) (hJ : J < N) (hN : N ≤ 4) : 0 ≤ p1.toInt ∧ p1.toInt < (Nat.toInt32 N).toInt := by
  have := len_toInt (n := N) (by omega)
  omega
theorem own_bbb {p1 p2 : Int32} {lo N : Nat} (h1 : p1.toInt = lo) (h2 : p2.toInt = ((lo + N : Nat) : Int)) (hle : lo + N ≤ 4) : 0 ≤ p1.toInt ∧ p1.toInt ≤ p2.toInt ∧ p2.toInt ≤ (4 : Int32).toInt := by
  have o : (4 : Int32).toInt = 4 := rfl
  omega
theorem own_mineq {p1 p2 : Int32} {lo N : Nat} (h1 : p1.toInt = lo) (h2 : p2.toInt = ((lo + N : Nat) : Int)) (hle : lo + N ≤ 4) : own_min ((4 : Int32) - p1) (p2 - p1) = p2 - p1 := by
  have a := c_isub 4 p1
  have r := rng32 (4 - p1)
  have o : (4 : Int32).toInt = 4 := rfl
  have b := own_sub h1 h2 hle
  unfold own_min
  split
  · rfl
  · rename_i q
    rw [Int32.lt_iff_toInt_lt] at q
    rw [← Int32.toInt_inj]; omega
theorem own_nfull {p1 p2 : Int32} {lo N : Nat} (h1 : p1.toInt = lo) (h2 : p2.toInt = ((lo + N : Nat) : Int)) (hnf : ¬ (lo = 0 ∧ N = 4)) (hz : p1 = 0) : ¬ p2 = (4 : Int32) := by
  intro q
  have o : (4 : Int32).toInt = 4 := rfl
  have z : (0 : Int32).toInt = 0 := rfl
  rw [q, o] at h2; rw [hz, z] at h1
  exact hnf ⟨by omega, by omega⟩
theorem own_nf0 {p1 : Int32} {lo N : Nat} (h1 : p1.toInt = lo) (h : ¬ p1 = (0 : Int32)) : ¬ (lo = 0 ∧ N = 4) := by
  intro q
  have z : (0 : Int32).toInt = 0 := rfl
  exact h (Int32.toInt_inj.mp (by omega))
theorem own_nf1 {p2 : Int32} {lo N : Nat} (h2 : p2.toInt = ((lo + N : Nat) : Int)) (h : ¬ p2 = (4 : Int32)) : ¬ (lo = 0 ∧ N = 4) := by
  intro q
  have z : (4 : Int32).toInt = 4 := rfl
  exact h (Int32.toInt_inj.mp (by omega))
theorem own_full {p1 p2 : Int32} {lo N : Nat} (h1 : p1.toInt = lo) (h2 : p2.toInt = ((lo + N : Nat) : Int)) (e1 : p1 = (0 : Int32)) (e2 : p2 = (4 : Int32)) : lo = 0 ∧ N = 4 := by
  have o : (4 : Int32).toInt = 4 := rfl
  have z : (0 : Int32).toInt = 0 := rfl
  rw [e1, z] at h1; rw [e2, o] at h2
  omega
theorem own_lenz {p2 : Int32} {N : Nat} (h : p2.toInt = N) (e : p2 = (0 : Int32)) : N = 0 := by
  have z : (0 : Int32).toInt = 0 := rfl
  rw [e, z] at h; omega
theorem own_brng {fk : Nat → Int32} (hr : ∀ j, j < 4 → 0 ≤ (fk j).toInt ∧ (fk j).toInt < 256) : ∀ j, j < 4 → -128 ≤ ((fun j => (fk j).toInt8.toInt32) j).toInt ∧ ((fun j => (fk j).toInt8.toInt32) j).toInt < 128 := fun j _ => (c_i2b (fk j)).2
theorem own_leq {ln : Int32} {N : Nat} (h : ln.toInt = N) (hN : N ≤ 4) : Nat.toInt32 N = ln := by
  rw [← Int32.toInt_inj, h]; exact len_toInt (by omega)
theorem own_gt {ln q : Int32} {N k : Nat} (h : ln.toInt = N) (hq : q.toInt = k) (h' : q < ln) : k < N := by
  rw [Int32.lt_iff_toInt_lt] at h'; omega
theorem own_skip {ln a b : Int32} (h : ¬ a < ln) (hab : a.toInt ≤ b.toInt) : ¬ b < ln := by
  rw [Int32.lt_iff_toInt_lt] at h ⊢; omega
theorem own_in0 {lw : Int32} {lo N k : Nat} (h : lw.toInt = lo) (hle : lo + N ≤ 4) (hJ : k < N) : 0 ≤ lw.toInt ∧ lw.toInt < (4 : Nat) := by omega
theorem own_ink {lw q : Int32} {lo N k : Nat} (hq : q.toInt = k) (h : lw.toInt = lo) (hle : lo + N ≤ 4) (hJ : k < N) : (lw + q).toInt = ((lo + k : Nat) : Int) := by
  have a := c_iadd lw q
  have r := rng32 (lw + q)
  omega
theorem own_ink' {lw q : Int32} {lo N k : Nat} (hq : q.toInt = k) (h : lw.toInt = lo) (hle : lo + N ≤ 4) (hJ : k < N) : 0 ≤ (lw + q).toInt ∧ (lw + q).toInt < (4 : Nat) := by
  have := own_ink hq h hle hJ; omega
theorem own_b2c {u : Int32} (h : 0 ≤ u.toInt ∧ u.toInt < 256) : (u.toInt8.toInt32 &&& (255 : Int32)) = u := by
  have b := c_i2b u
  have m : (u.toInt8.toInt32 &&& (255 : Int32)).toInt = (u.toInt8.toInt32).toInt % (2 ^ 8 : Nat) := c_mask _ _ 8 (by decide) (by decide)
  rw [← Int32.toInt_inj, m]; omega
theorem own_chk0 {fk rg : Nat → Int32} {lw : Int32} {lo N : Nat} (hr : ∀ j, j < 4 → 0 ≤ (fk j).toInt ∧ (fk j).toInt < 256) (h : lw.toInt = lo) (hle : lo + N ≤ 4) (hg : ∀ j, j < N → rg j = (fun j => (fk j).toInt8.toInt32) (lo + j)) (hJ : 0 < N) : (rg 0 &&& (255 : Int32)) = fk (lw).toNatClampNeg := by
  rw [hg 0 hJ, own_cl h]; exact own_b2c (hr lo (by omega))
theorem own_chkk {fk rg : Nat → Int32} {lw q : Int32} {lo N k : Nat} (hq : q.toInt = k) (hr : ∀ j, j < 4 → 0 ≤ (fk j).toInt ∧ (fk j).toInt < 256) (h : lw.toInt = lo) (hle : lo + N ≤ 4) (hg : ∀ j, j < N → rg j = (fun j => (fk j).toInt8.toInt32) (lo + j)) (hJ : k < N) : (rg k &&& (255 : Int32)) = fk ((lw + q)).toNatClampNeg := by
  rw [hg k hJ, own_cl (own_ink hq h hle hJ)]; exact own_b2c (hr (lo + k) (by omega))
theorem own_arv {Z : State} {h : Heap} {a : Addr} {f : Nat → Int32} (A : IA Z h a .byte 4 f) (hr : ∀ j, j < 4 → -128 ≤ (f j).toInt ∧ (f j).toInt < 128) : ∃ k, Arv Z h a k .byte (4 : Int32) [.int (f 0), .int (f 1), .int (f 2), .int (f 3)] (.int 0) := by
  obtain ⟨c, A, S, H⟩ := A
  have ft : ∀ j, j < 4 → fits .byte (.int (f j)) = true := fun j hj => by
    have e : (f j).toInt8.toInt32 = f j := by
      have b := c_i2b (f j)
      have := hr j hj
      rw [← Int32.toInt_inj]; omega
    rw [← e]; exact fits_nar_byte (f j)
  refine ⟨c.cls, c, A, rfl, S, by decide, fun k hk => ?_, fun i hi => ?_⟩
  · rw [S] at hk
    match k, hk with
    | 0, _ => exact H 0 (by decide)
    | 1, _ => exact H 1 (by decide)
    | 2, _ => exact H 2 (by decide)
    | 3, _ => exact H 3 (by decide)
  · rw [S] at hi
    match i, hi with
    | 0, _ => exact ft 0 (by decide)
    | 1, _ => exact ft 1 (by decide)
    | 2, _ => exact ft 2 (by decide)
    | 3, _ => exact ft 3 (by decide)
theorem own_get4 (f : Nat → Int32) (j : Nat) (hj : j < 4) : [Value.int (f 0), .int (f 1), .int (f 2), .int (f 3)].getD j (.int 0) = .int (f j) := by
  match j, hj with
  | 0, _ => rfl
  | 1, _ => rfl
  | 2, _ => rfl
  | 3, _ => rfl
theorem own_arb {Z : State} {h : Heap} {b : Addr} {k : ClassId} {f : Nat → Int32} {p1 q : Int32} {lo N : Nat} {vd : List Value} {dd : Value} (hlo : p1.toNatClampNeg = lo) (hd : q.toNatClampNeg = N) (hle : lo + N ≤ 4)
    (B : Arv Z h b k .byte q (vd.take (0 : Int32).toNatClampNeg ++ (List.range q.toNatClampNeg).map (fun i => [Value.int (f 0), .int (f 1), .int (f 2), .int (f 3)].getD (p1.toNatClampNeg + i) (.int 0)) ++ vd.drop ((0 : Int32).toNatClampNeg + q.toNatClampNeg)) dd) : IA Z h b .byte N (fun j => f (lo + j)) := by
  obtain ⟨c, A, -, S, -, H, -⟩ := B
  refine ⟨c, A, S.trans hd, fun j hj => ?_⟩
  rw [H j (by rw [S, hd]; exact hj)]
  congr 1
  rw [hd, hlo]
  show (([] ++ (List.range N).map (fun i => [Value.int (f 0), .int (f 1), .int (f 2), .int (f 3)].getD (lo + i) (.int 0))) ++ _).getD j dd = _
  rw [List.nil_append, List.getD_eq_getElem?_getD, List.getElem?_append_left (by simp; exact hj), List.getElem?_map, List.getElem?_range hj]
  exact own_get4 f (lo + j) (by omega)
theorem own_lit0 {Z : State} {h : Heap} {b : Addr} {k : ClassId} {N : Nat} {dv : Value} {g : Nat → Int32} (hN : N = 0) (A : Arv Z h b k .byte (0 : Int32) [] dv) : IA Z h b .byte N g := by
  subst hN
  obtain ⟨c, A, -, S, -⟩ := A
  exact ⟨c, A, S, fun j hj => absurd hj (Nat.not_lt_zero _)⟩

theorem d6_0 : decode jdk_52_method_15_code 0 = .ok (.iload_n 1, 1) := by decide +kernel
theorem d6_1 : decode jdk_52_method_15_code 1 = .ok (.aload_n 0, 1) := by decide +kernel
theorem d6_2 : decode jdk_52_method_15_code 2 = .ok (.arraylength, 1) := by decide +kernel
theorem d6_3 : decode jdk_52_method_15_code 3 = .ok (.isub, 1) := by decide +kernel
theorem d6_4 : decode jdk_52_method_15_code 4 = .ok (.bipush 31, 2) := by decide +kernel
theorem d6_6 : decode jdk_52_method_15_code 6 = .ok (.iushr, 1) := by decide +kernel
theorem d6_7 : decode jdk_52_method_15_code 7 = .ok (.i2b, 1) := by decide +kernel
theorem d6_8 : decode jdk_52_method_15_code 8 = .ok (.ireturn, 1) := by decide +kernel
theorem pn_java_lang_StringUTF16 : plainName "java/lang/StringUTF16" = true := by first | (simp [plainName, overriddenIn]; done) | decide +kernel
theorem ef_rm_cl (m : MethodId) (x0 : Addr) : entryFrame m #[(.ref x0), (.int (4 : Int32))] 2 = mkF m 0 #[.val (.ref x0), .val (.int (4 : Int32))] [] := by first | (simp [entryFrame, mkF, argsToLocals, Value.category]; done) | rfl
def Q_cl (Z : State)  (h0 : Heap) (n0 : Nat) (v : Option Value) (h : Heap) (L : List Loc) : Prop := v = some (.int (0 : Int32)) ∧ Fr n0 L ∧ h = h0
set_option maxRecDepth 65536 in
set_option maxHeartbeats 40000000 in
theorem rm_cl (l : Launch) (Z : State) (a0 : Array Value) (hw : ∀ d ∈ tables_1, d.before a0 Z = true) (ws : List Jvm.Cond) (b : Addr) (cs : Int32) (fm : Value) (kd1 kd2 kd3 kd4 : Addr) (f : Nat → Int32) (h0 : Heap) (n0 : Nat) (Z0 : n0 ≤ h0.size) (HS : own_sets Z cs fm kd1 kd2 kd3 kd4) (OO : Old Z n0 h0) (V_b : IA Z h0 b .byte 4 f) :
    MetFree l (⟨"java/lang/StringUTF16", "coderFromArrayLen", "([BI)B"⟩ : MethodName) (head1 (Jvm.Cond.code (⟨"java/lang/StringUTF16", "coderFromArrayLen", "([BI)B"⟩ : MethodName) jdk_52_method_15_code 2 (some .byte) :: ws) ({ frames := 0, cells := 0, slots := 0, locals := 0 } : Room)) (fun av' U => av' = #[(.ref b), (.int (4 : Int32))] ∧ Z.Warmed39 U.vm ∧ U.heap = h0) (fun _ _ _ _ _ => True) (fun _ U o U' => ∃ v L, o = .returned v ∧ Q_cl Z  h0 n0 v U'.heap L ∧ FrameEnd U o U' L ({ frames := 0, cells := 0, slots := 0, locals := 0 } : Room).cells ({ frames := 0, cells := 0, slots := 0, locals := 0 } : Room).slots) := by
  refine MetFree.of_bodySF (plainFor_of_name pn_java_lang_StringUTF16) hisR ?_
  intro p e s m args below meth c s₁ Bd hml0 hP hK
  obtain ⟨rfl, hZ, hh⟩ := hP
  have hx := Bd.exec
  have hby := Bd.bytes
  have hlk := Bd.notSynchronized
  have hml : c.maxLocals = 2 := hml0
  have hown : s.vm.findClass "java/lang/StringUTF16" = some m.cls := findClass_of_methodNamed Bd.named
  have hnm := (name_of_methodNamed Bd.named Bd.method).1
  have X0 : Stand p l e ({ frames := 0, cells := 0, slots := 0, locals := 0 } : Room) s m #[(.ref b), (.int (4 : Int32))] below meth c s₁ [] 0 0 := Stand.of_body Bd
  have e0 : s₁.heap = h0 := by rw [← hh, Bd.state]; rfl
  have N0 := Fr.nil n0
  show Go p e below (Kq s (Q_cl Z  h0 n0) ({ frames := 0, cells := 0, slots := 0, locals := 0 } : Room).cells ({ frames := 0, cells := 0, slots := 0, locals := 0 } : Room).slots) _
  refine go (fun t kt => castTop (ef_rm_cl m b) kt) ?_
  have HS0 := HS
  obtain ⟨S_cs, hcs, S_fm, hfm, S_k1, S_k2, S_k3, S_k4⟩ := HS0
  show Go p e below _ (s₁.setTop (mkF m 0 #[.val (.ref b), .val (.int (4 : Int32))] []))
  refine go (fun t kt' => by refine XS.iloadN X0.here hx rfl (hb hby d6_0) rfl ?_; exact kt') ?_
  show Go p e below _ (s₁.setTop (mkF m 1 #[.val (.ref b), .val (.int (4 : Int32))] [(.int (4 : Int32))]))
  refine go (fun t kt' => by refine XS.aloadN X0.here hx rfl (hb hby d6_1) rfl rfl ?_; exact kt') ?_
  show Go p e below _ (s₁.setTop (mkF m 2 #[.val (.ref b), .val (.int (4 : Int32))] [(.ref b), (.int (4 : Int32))]))
  refine go (fun t kt' => by refine lenIA X0 hx hZ e0 V_b (g := (mkF m 2 #[.val (.ref b), .val (.int (4 : Int32))] [(.ref b), (.int (4 : Int32))])) rfl rfl (hb hby d6_2) t ?_; exact kt') ?_
  show Go p e below _ (s₁.setTop (mkF m 3 #[.val (.ref b), .val (.int (4 : Int32))] [(.int (4 : Int32)), (.int (4 : Int32))]))
  refine go (fun t kt' => by refine XS.isub X0.here hx rfl (hb hby d6_3) rfl ?_; exact kt') ?_
  show Go p e below _ (s₁.setTop (mkF m 4 #[.val (.ref b), .val (.int (4 : Int32))] [(.int ((4 : Int32) - (4 : Int32)))]))
  refine go (fun t kt' => by refine XS.bipush X0.here hx rfl (hb hby d6_4) ?_; exact kt') ?_
  show Go p e below _ (s₁.setTop (mkF m 6 #[.val (.ref b), .val (.int (4 : Int32))] [(.int (31 : Int32)), (.int ((4 : Int32) - (4 : Int32)))]))
  refine go (fun t kt' => by refine XS.iushr X0.here hx rfl (hb hby d6_6) rfl ?_; exact kt') ?_
  show Go p e below _ (s₁.setTop (mkF m 7 #[.val (.ref b), .val (.int (4 : Int32))] [(.int ((((4 : Int32) - (4 : Int32)).toUInt32 >>> ((31 : Int32) &&& 31).toUInt32).toInt32))]))
  refine go (fun t kt' => by refine XS.i2b X0.here hx rfl (hb hby d6_7) rfl ?_; exact kt') ?_
  show Go p e below _ (s₁.setTop (mkF m 8 #[.val (.ref b), .val (.int (4 : Int32))] [(.int (((((4 : Int32) - (4 : Int32)).toUInt32 >>> ((31 : Int32) &&& 31).toUInt32).toInt32).toInt8.toInt32))]))
  refine goOut X0 (fun h => by rw [Bd.returns] at h; cases h) hlk (fun fs hr => retN X0 hx (t := .byte) Bd.returns (by simp) (hb hby d6_8) hr) (by decide) (by decide) ?_
  rw [e0]
  exact ⟨congrArg some (congrArg Value.int (by decide)), N0, rfl⟩
theorem d5_0 : decode jdk_52_method_21_code 0 = .ok (.iconst 0, 1) := by decide +kernel
theorem d5_1 : decode jdk_52_method_21_code 1 = .ok (.istore 5, 2) := by decide +kernel
theorem d5_3 : decode jdk_52_method_21_code 3 = .ok (.iload 5, 2) := by decide +kernel
theorem d5_5 : decode jdk_52_method_21_code 5 = .ok (.iload 4, 2) := by decide +kernel
theorem d5_7 : decode jdk_52_method_21_code 7 = .ok (.if_icmp .ge 37, 3) := by decide +kernel
theorem d5_10 : decode jdk_52_method_21_code 10 = .ok (.aload_n 0, 1) := by decide +kernel
theorem d5_11 : decode jdk_52_method_21_code 11 = .ok (.iload_n 1, 1) := by decide +kernel
theorem d5_12 : decode jdk_52_method_21_code 12 = .ok (.caload, 1) := by decide +kernel
theorem d5_13 : decode jdk_52_method_21_code 13 = .ok (.istore 6, 2) := by decide +kernel
theorem d5_15 : decode jdk_52_method_21_code 15 = .ok (.iload 6, 2) := by decide +kernel
theorem d5_17 : decode jdk_52_method_21_code 17 = .ok (.sipush 255, 3) := by decide +kernel
theorem d5_20 : decode jdk_52_method_21_code 20 = .ok (.if_icmp .le 6, 3) := by decide +kernel
theorem d5_26 : decode jdk_52_method_21_code 26 = .ok (.aload_n 2, 1) := by decide +kernel
theorem d5_27 : decode jdk_52_method_21_code 27 = .ok (.iload_n 3, 1) := by decide +kernel
theorem d5_28 : decode jdk_52_method_21_code 28 = .ok (.iload 6, 2) := by decide +kernel
theorem d5_30 : decode jdk_52_method_21_code 30 = .ok (.i2b, 1) := by decide +kernel
theorem d5_31 : decode jdk_52_method_21_code 31 = .ok (.bastore, 1) := by decide +kernel
theorem d5_32 : decode jdk_52_method_21_code 32 = .ok (.iinc 1 1, 3) := by decide +kernel
theorem d5_35 : decode jdk_52_method_21_code 35 = .ok (.iinc 3 1, 3) := by decide +kernel
theorem d5_38 : decode jdk_52_method_21_code 38 = .ok (.iinc 5 1, 3) := by decide +kernel
theorem d5_41 : decode jdk_52_method_21_code 41 = .ok (.goto (-38), 3) := by decide +kernel
theorem d5_44 : decode jdk_52_method_21_code 44 = .ok (.iload 4, 2) := by decide +kernel
theorem d5_46 : decode jdk_52_method_21_code 46 = .ok (.ireturn, 1) := by decide +kernel
theorem ef_rm_cp (m : MethodId) (x0 : Addr) (x1 : Addr) : entryFrame m #[(.ref x0), (.int (0 : Int32)), (.ref x1), (.int (0 : Int32)), (.int (4 : Int32))] 7 = mkF m 0 #[.val (.ref x0), .val (.int (0 : Int32)), .val (.ref x1), .val (.int (0 : Int32)), .val (.int (4 : Int32)), .unset, .unset] [] := by first | (simp [entryFrame, mkF, argsToLocals, Value.category]; done) | rfl
def Q_cp (Z : State) (b : Addr) (fk : Nat → Int32) (h0 : Heap) (n0 : Nat) (v : Option Value) (h : Heap) (L : List Loc) : Prop := v = some (.int (4 : Int32)) ∧ Fr n0 L ∧ Keep h0 h [b] ∧ IA Z h b .byte 4 (fun j => (fk j).toInt8.toInt32)
set_option maxRecDepth 65536 in
set_option maxHeartbeats 40000000 in
theorem rm_cp (l : Launch) (Z : State) (a0 : Array Value) (hw : ∀ d ∈ tables_1, d.before a0 Z = true) (ws : List Jvm.Cond) (ks : Addr) (b : Addr) (cs : Int32) (fm : Value) (kd1 kd2 kd3 kd4 : Addr) (fk fb : Nat → Int32) (h0 : Heap) (n0 : Nat) (Z0 : n0 ≤ h0.size) (HS : own_sets Z cs fm kd1 kd2 kd3 kd4) (OO : Old Z n0 h0) (V_ks : IA Z h0 ks .char 4 fk) (V_b : IA Z h0 b .byte 4 fb) (nkb : ks ≠ b) (g_b : n0 ≤ b) (hr : ∀ j, j < 4 → 0 ≤ (fk j).toInt ∧ (fk j).toInt < 256) :
    MetFree l (⟨"java/lang/StringUTF16", "compress", "([CI[BII)I"⟩ : MethodName) (head1 (Jvm.Cond.code (⟨"java/lang/StringUTF16", "compress", "([CI[BII)I"⟩ : MethodName) jdk_52_method_21_code 7 (some .int) :: ws) ({ frames := 0, cells := 0, slots := 0, locals := 0 } : Room)) (fun av' U => av' = #[(.ref ks), (.int (0 : Int32)), (.ref b), (.int (0 : Int32)), (.int (4 : Int32))] ∧ Z.Warmed39 U.vm ∧ U.heap = h0) (fun _ _ _ _ _ => True) (fun _ U o U' => ∃ v L, o = .returned v ∧ Q_cp Z b fk h0 n0 v U'.heap L ∧ FrameEnd U o U' L ({ frames := 0, cells := 0, slots := 0, locals := 0 } : Room).cells ({ frames := 0, cells := 0, slots := 0, locals := 0 } : Room).slots) := by
  refine MetFree.of_bodySF (plainFor_of_name pn_java_lang_StringUTF16) hisR ?_
  intro p e s m args below meth c s₁ Bd hml0 hP hK
  obtain ⟨rfl, hZ, hh⟩ := hP
  have hx := Bd.exec
  have hby := Bd.bytes
  have hlk := Bd.notSynchronized
  have hml : c.maxLocals = 7 := hml0
  have hown : s.vm.findClass "java/lang/StringUTF16" = some m.cls := findClass_of_methodNamed Bd.named
  have hnm := (name_of_methodNamed Bd.named Bd.method).1
  have X0 : Stand p l e ({ frames := 0, cells := 0, slots := 0, locals := 0 } : Room) s m #[(.ref ks), (.int (0 : Int32)), (.ref b), (.int (0 : Int32)), (.int (4 : Int32))] below meth c s₁ [] 0 0 := Stand.of_body Bd
  have e0 : s₁.heap = h0 := by rw [← hh, Bd.state]; rfl
  have N0 := Fr.nil n0
  show Go p e below (Kq s (Q_cp Z b fk h0 n0) ({ frames := 0, cells := 0, slots := 0, locals := 0 } : Room).cells ({ frames := 0, cells := 0, slots := 0, locals := 0 } : Room).slots) _
  refine go (fun t kt => castTop (ef_rm_cp m ks b) kt) ?_
  have HS0 := HS
  obtain ⟨S_cs, hcs, S_fm, hfm, S_k1, S_k2, S_k3, S_k4⟩ := HS0
  have K0 := Keep.refl h0 [b]
  show Go p e below _ (s₁.setTop (mkF m 0 #[.val (.ref ks), .val (.int (0 : Int32)), .val (.ref b), .val (.int (0 : Int32)), .val (.int (4 : Int32)), .unset, .unset] []))
  refine go (fun t kt' => by refine XS.iconst X0.here hx rfl (hb hby d5_0) ?_; exact kt') ?_
  show Go p e below _ (s₁.setTop (mkF m 1 #[.val (.ref ks), .val (.int (0 : Int32)), .val (.ref b), .val (.int (0 : Int32)), .val (.int (4 : Int32)), .unset, .unset] [(.int (0 : Int32))]))
  refine go (fun t kt' => by refine XS.istore X0.here hx rfl (hb hby d5_1) rfl (l' := #[.val (.ref ks), .val (.int (0 : Int32)), .val (.ref b), .val (.int (0 : Int32)), .val (.int (4 : Int32)), .val (.int (0 : Int32)), .unset]) rfl ?_; exact kt') ?_
  show Go p e below _ (s₁.setTop (mkF m 3 #[.val (.ref ks), .val (.int (0 : Int32)), .val (.ref b), .val (.int (0 : Int32)), .val (.int (4 : Int32)), .val (.int (0 : Int32)), .unset] []))
  refine go (fun t kt' => by refine XS.iload X0.here hx rfl (hb hby d5_3) rfl ?_; exact kt') ?_
  show Go p e below _ (s₁.setTop (mkF m 5 #[.val (.ref ks), .val (.int (0 : Int32)), .val (.ref b), .val (.int (0 : Int32)), .val (.int (4 : Int32)), .val (.int (0 : Int32)), .unset] [(.int (0 : Int32))]))
  refine go (fun t kt' => by refine XS.iload X0.here hx rfl (hb hby d5_5) rfl ?_; exact kt') ?_
  show Go p e below _ (s₁.setTop (mkF m 7 #[.val (.ref ks), .val (.int (0 : Int32)), .val (.ref b), .val (.int (0 : Int32)), .val (.int (4 : Int32)), .val (.int (0 : Int32)), .unset] [(.int (4 : Int32)), (.int (0 : Int32))]))
  have c7_1 : ¬ (¬ (0 : Int32) < (4 : Int32)) := by decide
  refine go (fun t kt' => by refine XS.icmpNo X0.here hx rfl (hb hby d5_7) rfl (tlt (Decidable.not_not.mp c7_1)).2.1 ?_; exact kt') ?_
  show Go p e below _ (s₁.setTop (mkF m 10 #[.val (.ref ks), .val (.int (0 : Int32)), .val (.ref b), .val (.int (0 : Int32)), .val (.int (4 : Int32)), .val (.int (0 : Int32)), .unset] []))
  refine go (fun t kt' => by refine XS.aloadN X0.here hx rfl (hb hby d5_10) rfl rfl ?_; exact kt') ?_
  show Go p e below _ (s₁.setTop (mkF m 11 #[.val (.ref ks), .val (.int (0 : Int32)), .val (.ref b), .val (.int (0 : Int32)), .val (.int (4 : Int32)), .val (.int (0 : Int32)), .unset] [(.ref ks)]))
  refine go (fun t kt' => by refine XS.iloadN X0.here hx rfl (hb hby d5_11) rfl ?_; exact kt') ?_
  show Go p e below _ (s₁.setTop (mkF m 12 #[.val (.ref ks), .val (.int (0 : Int32)), .val (.ref b), .val (.int (0 : Int32)), .val (.int (4 : Int32)), .val (.int (0 : Int32)), .unset] [(.int (0 : Int32)), (.ref ks)]))
  refine go (fun t kt' => by refine ldCA X0 hx hZ e0 V_ks (j := (0 : Int32)) ⟨by decide, by decide⟩ (g := (mkF m 12 #[.val (.ref ks), .val (.int (0 : Int32)), .val (.ref b), .val (.int (0 : Int32)), .val (.int (4 : Int32)), .val (.int (0 : Int32)), .unset] [(.int (0 : Int32)), (.ref ks)])) rfl rfl (hb hby d5_12) t ?_; exact kt') ?_
  show Go p e below _ (s₁.setTop (mkF m 13 #[.val (.ref ks), .val (.int (0 : Int32)), .val (.ref b), .val (.int (0 : Int32)), .val (.int (4 : Int32)), .val (.int (0 : Int32)), .unset] [(.int (fk 0))]))
  refine go (fun t kt' => by refine XS.istore X0.here hx rfl (hb hby d5_13) rfl (l' := #[.val (.ref ks), .val (.int (0 : Int32)), .val (.ref b), .val (.int (0 : Int32)), .val (.int (4 : Int32)), .val (.int (0 : Int32)), .val (.int (fk 0))]) rfl ?_; exact kt') ?_
  show Go p e below _ (s₁.setTop (mkF m 15 #[.val (.ref ks), .val (.int (0 : Int32)), .val (.ref b), .val (.int (0 : Int32)), .val (.int (4 : Int32)), .val (.int (0 : Int32)), .val (.int (fk 0))] []))
  refine go (fun t kt' => by refine XS.iload X0.here hx rfl (hb hby d5_15) rfl ?_; exact kt') ?_
  show Go p e below _ (s₁.setTop (mkF m 17 #[.val (.ref ks), .val (.int (0 : Int32)), .val (.ref b), .val (.int (0 : Int32)), .val (.int (4 : Int32)), .val (.int (0 : Int32)), .val (.int (fk 0))] [(.int (fk 0))]))
  refine go (fun t kt' => by refine XS.sipush X0.here hx rfl (hb hby d5_17) ?_; exact kt') ?_
  show Go p e below _ (s₁.setTop (mkF m 20 #[.val (.ref ks), .val (.int (0 : Int32)), .val (.ref b), .val (.int (0 : Int32)), .val (.int (4 : Int32)), .val (.int (0 : Int32)), .val (.int (fk 0))] [(.int (255 : Int32)), (.int (fk 0))]))
  have c20_2 : ¬ (255 : Int32) < (fk 0) := own_lt256 (hr 0 (by decide))
  refine go (fun t kt' => by refine XS.icmpYes X0.here hx rfl (pc0 := 20) (pc' := 26) rfl (hb hby d5_20) rfl (flt c20_2).2.2.2 (by decide) (by decide) ?_; exact kt') ?_
  show Go p e below _ (s₁.setTop (mkF m 26 #[.val (.ref ks), .val (.int (0 : Int32)), .val (.ref b), .val (.int (0 : Int32)), .val (.int (4 : Int32)), .val (.int (0 : Int32)), .val (.int (fk 0))] []))
  refine go (fun t kt' => by refine XS.aloadN X0.here hx rfl (hb hby d5_26) rfl rfl ?_; exact kt') ?_
  show Go p e below _ (s₁.setTop (mkF m 27 #[.val (.ref ks), .val (.int (0 : Int32)), .val (.ref b), .val (.int (0 : Int32)), .val (.int (4 : Int32)), .val (.int (0 : Int32)), .val (.int (fk 0))] [(.ref b)]))
  refine go (fun t kt' => by refine XS.iloadN X0.here hx rfl (hb hby d5_27) rfl ?_; exact kt') ?_
  show Go p e below _ (s₁.setTop (mkF m 28 #[.val (.ref ks), .val (.int (0 : Int32)), .val (.ref b), .val (.int (0 : Int32)), .val (.int (4 : Int32)), .val (.int (0 : Int32)), .val (.int (fk 0))] [(.int (0 : Int32)), (.ref b)]))
  refine go (fun t kt' => by refine XS.iload X0.here hx rfl (hb hby d5_28) rfl ?_; exact kt') ?_
  show Go p e below _ (s₁.setTop (mkF m 30 #[.val (.ref ks), .val (.int (0 : Int32)), .val (.ref b), .val (.int (0 : Int32)), .val (.int (4 : Int32)), .val (.int (0 : Int32)), .val (.int (fk 0))] [(.int (fk 0)), (.int (0 : Int32)), (.ref b)]))
  refine go (fun t kt' => by refine XS.i2b X0.here hx rfl (hb hby d5_30) rfl ?_; exact kt') ?_
  show Go p e below _ (s₁.setTop (mkF m 31 #[.val (.ref ks), .val (.int (0 : Int32)), .val (.ref b), .val (.int (0 : Int32)), .val (.int (4 : Int32)), .val (.int (0 : Int32)), .val (.int (fk 0))] [(.int ((fk 0).toInt8.toInt32)), (.int (0 : Int32)), (.ref b)]))
  obtain ⟨T3, h3, X3, e3, W3, V3, st3⟩ := stBA X0 hx hZ e0 V_b (j := (0 : Int32)) (x := ((fk 0).toInt8.toInt32)) ⟨by decide, by decide⟩ (g := (mkF m 31 #[.val (.ref ks), .val (.int (0 : Int32)), .val (.ref b), .val (.int (0 : Int32)), .val (.int (4 : Int32)), .val (.int (0 : Int32)), .val (.int (fk 0))] [(.int ((fk 0).toInt8.toInt32)), (.int (0 : Int32)), (.ref b)])) rfl rfl (hb hby d5_31)
  have N3 := Fr.snoc X3 N0 g_b
  have f4_Z := Nat.le_trans Z0 (Keep.of_wr W3).1
  have f5_O := OO.wr W3 g_b
  have f6_K := K0.wr W3 (Or.inl (List.mem_of_getElem? (i := 0) rfl))
  have f7_A_ks := V_ks.other W3 nkb
  have f8_A_b := V3
  refine go st3 ?_
  show Go p e below _ (T3.setTop (mkF m 32 #[.val (.ref ks), .val (.int (0 : Int32)), .val (.ref b), .val (.int (0 : Int32)), .val (.int (4 : Int32)), .val (.int (0 : Int32)), .val (.int (fk 0))] []))
  refine go (fun t kt' => by refine XS.iinc X3.here hx rfl (hb hby d5_32) rfl (l' := #[.val (.ref ks), .val (.int (1 : Int32)), .val (.ref b), .val (.int (0 : Int32)), .val (.int (4 : Int32)), .val (.int (0 : Int32)), .val (.int (fk 0))]) rfl ?_; exact kt') ?_
  show Go p e below _ (T3.setTop (mkF m 35 #[.val (.ref ks), .val (.int (1 : Int32)), .val (.ref b), .val (.int (0 : Int32)), .val (.int (4 : Int32)), .val (.int (0 : Int32)), .val (.int (fk 0))] []))
  refine go (fun t kt' => by refine XS.iinc X3.here hx rfl (hb hby d5_35) rfl (l' := #[.val (.ref ks), .val (.int (1 : Int32)), .val (.ref b), .val (.int (1 : Int32)), .val (.int (4 : Int32)), .val (.int (0 : Int32)), .val (.int (fk 0))]) rfl ?_; exact kt') ?_
  show Go p e below _ (T3.setTop (mkF m 38 #[.val (.ref ks), .val (.int (1 : Int32)), .val (.ref b), .val (.int (1 : Int32)), .val (.int (4 : Int32)), .val (.int (0 : Int32)), .val (.int (fk 0))] []))
  refine go (fun t kt' => by refine XS.iinc X3.here hx rfl (hb hby d5_38) rfl (l' := #[.val (.ref ks), .val (.int (1 : Int32)), .val (.ref b), .val (.int (1 : Int32)), .val (.int (4 : Int32)), .val (.int (1 : Int32)), .val (.int (fk 0))]) rfl ?_; exact kt') ?_
  show Go p e below _ (T3.setTop (mkF m 41 #[.val (.ref ks), .val (.int (1 : Int32)), .val (.ref b), .val (.int (1 : Int32)), .val (.int (4 : Int32)), .val (.int (1 : Int32)), .val (.int (fk 0))] []))
  refine go (fun t kt' => by refine XS.goto X3.here hx rfl (pc0 := 41) (pc' := 3) rfl (hb hby d5_41) (by decide) (by decide) ?_; exact kt') ?_
  show Go p e below _ (T3.setTop (mkF m 3 #[.val (.ref ks), .val (.int (1 : Int32)), .val (.ref b), .val (.int (1 : Int32)), .val (.int (4 : Int32)), .val (.int (1 : Int32)), .val (.int (fk 0))] []))
  refine go (fun t kt' => by refine XS.iload X3.here hx rfl (hb hby d5_3) rfl ?_; exact kt') ?_
  show Go p e below _ (T3.setTop (mkF m 5 #[.val (.ref ks), .val (.int (1 : Int32)), .val (.ref b), .val (.int (1 : Int32)), .val (.int (4 : Int32)), .val (.int (1 : Int32)), .val (.int (fk 0))] [(.int (1 : Int32))]))
  refine go (fun t kt' => by refine XS.iload X3.here hx rfl (hb hby d5_5) rfl ?_; exact kt') ?_
  show Go p e below _ (T3.setTop (mkF m 7 #[.val (.ref ks), .val (.int (1 : Int32)), .val (.ref b), .val (.int (1 : Int32)), .val (.int (4 : Int32)), .val (.int (1 : Int32)), .val (.int (fk 0))] [(.int (4 : Int32)), (.int (1 : Int32))]))
  have c7_9 : ¬ (¬ (1 : Int32) < (4 : Int32)) := by decide
  refine go (fun t kt' => by refine XS.icmpNo X3.here hx rfl (hb hby d5_7) rfl (tlt (Decidable.not_not.mp c7_9)).2.1 ?_; exact kt') ?_
  show Go p e below _ (T3.setTop (mkF m 10 #[.val (.ref ks), .val (.int (1 : Int32)), .val (.ref b), .val (.int (1 : Int32)), .val (.int (4 : Int32)), .val (.int (1 : Int32)), .val (.int (fk 0))] []))
  refine go (fun t kt' => by refine XS.aloadN X3.here hx rfl (hb hby d5_10) rfl rfl ?_; exact kt') ?_
  show Go p e below _ (T3.setTop (mkF m 11 #[.val (.ref ks), .val (.int (1 : Int32)), .val (.ref b), .val (.int (1 : Int32)), .val (.int (4 : Int32)), .val (.int (1 : Int32)), .val (.int (fk 0))] [(.ref ks)]))
  refine go (fun t kt' => by refine XS.iloadN X3.here hx rfl (hb hby d5_11) rfl ?_; exact kt') ?_
  show Go p e below _ (T3.setTop (mkF m 12 #[.val (.ref ks), .val (.int (1 : Int32)), .val (.ref b), .val (.int (1 : Int32)), .val (.int (4 : Int32)), .val (.int (1 : Int32)), .val (.int (fk 0))] [(.int (1 : Int32)), (.ref ks)]))
  refine go (fun t kt' => by refine ldCA X3 hx hZ e3 f7_A_ks (j := (1 : Int32)) ⟨by decide, by decide⟩ (g := (mkF m 12 #[.val (.ref ks), .val (.int (1 : Int32)), .val (.ref b), .val (.int (1 : Int32)), .val (.int (4 : Int32)), .val (.int (1 : Int32)), .val (.int (fk 0))] [(.int (1 : Int32)), (.ref ks)])) rfl rfl (hb hby d5_12) t ?_; exact kt') ?_
  show Go p e below _ (T3.setTop (mkF m 13 #[.val (.ref ks), .val (.int (1 : Int32)), .val (.ref b), .val (.int (1 : Int32)), .val (.int (4 : Int32)), .val (.int (1 : Int32)), .val (.int (fk 0))] [(.int (fk 1))]))
  refine go (fun t kt' => by refine XS.istore X3.here hx rfl (hb hby d5_13) rfl (l' := #[.val (.ref ks), .val (.int (1 : Int32)), .val (.ref b), .val (.int (1 : Int32)), .val (.int (4 : Int32)), .val (.int (1 : Int32)), .val (.int (fk 1))]) rfl ?_; exact kt') ?_
  show Go p e below _ (T3.setTop (mkF m 15 #[.val (.ref ks), .val (.int (1 : Int32)), .val (.ref b), .val (.int (1 : Int32)), .val (.int (4 : Int32)), .val (.int (1 : Int32)), .val (.int (fk 1))] []))
  refine go (fun t kt' => by refine XS.iload X3.here hx rfl (hb hby d5_15) rfl ?_; exact kt') ?_
  show Go p e below _ (T3.setTop (mkF m 17 #[.val (.ref ks), .val (.int (1 : Int32)), .val (.ref b), .val (.int (1 : Int32)), .val (.int (4 : Int32)), .val (.int (1 : Int32)), .val (.int (fk 1))] [(.int (fk 1))]))
  refine go (fun t kt' => by refine XS.sipush X3.here hx rfl (hb hby d5_17) ?_; exact kt') ?_
  show Go p e below _ (T3.setTop (mkF m 20 #[.val (.ref ks), .val (.int (1 : Int32)), .val (.ref b), .val (.int (1 : Int32)), .val (.int (4 : Int32)), .val (.int (1 : Int32)), .val (.int (fk 1))] [(.int (255 : Int32)), (.int (fk 1))]))
  have c20_10 : ¬ (255 : Int32) < (fk 1) := own_lt256 (hr 1 (by decide))
  refine go (fun t kt' => by refine XS.icmpYes X3.here hx rfl (pc0 := 20) (pc' := 26) rfl (hb hby d5_20) rfl (flt c20_10).2.2.2 (by decide) (by decide) ?_; exact kt') ?_
  show Go p e below _ (T3.setTop (mkF m 26 #[.val (.ref ks), .val (.int (1 : Int32)), .val (.ref b), .val (.int (1 : Int32)), .val (.int (4 : Int32)), .val (.int (1 : Int32)), .val (.int (fk 1))] []))
  refine go (fun t kt' => by refine XS.aloadN X3.here hx rfl (hb hby d5_26) rfl rfl ?_; exact kt') ?_
  show Go p e below _ (T3.setTop (mkF m 27 #[.val (.ref ks), .val (.int (1 : Int32)), .val (.ref b), .val (.int (1 : Int32)), .val (.int (4 : Int32)), .val (.int (1 : Int32)), .val (.int (fk 1))] [(.ref b)]))
  refine go (fun t kt' => by refine XS.iloadN X3.here hx rfl (hb hby d5_27) rfl ?_; exact kt') ?_
  show Go p e below _ (T3.setTop (mkF m 28 #[.val (.ref ks), .val (.int (1 : Int32)), .val (.ref b), .val (.int (1 : Int32)), .val (.int (4 : Int32)), .val (.int (1 : Int32)), .val (.int (fk 1))] [(.int (1 : Int32)), (.ref b)]))
  refine go (fun t kt' => by refine XS.iload X3.here hx rfl (hb hby d5_28) rfl ?_; exact kt') ?_
  show Go p e below _ (T3.setTop (mkF m 30 #[.val (.ref ks), .val (.int (1 : Int32)), .val (.ref b), .val (.int (1 : Int32)), .val (.int (4 : Int32)), .val (.int (1 : Int32)), .val (.int (fk 1))] [(.int (fk 1)), (.int (1 : Int32)), (.ref b)]))
  refine go (fun t kt' => by refine XS.i2b X3.here hx rfl (hb hby d5_30) rfl ?_; exact kt') ?_
  show Go p e below _ (T3.setTop (mkF m 31 #[.val (.ref ks), .val (.int (1 : Int32)), .val (.ref b), .val (.int (1 : Int32)), .val (.int (4 : Int32)), .val (.int (1 : Int32)), .val (.int (fk 1))] [(.int ((fk 1).toInt8.toInt32)), (.int (1 : Int32)), (.ref b)]))
  obtain ⟨T11, h11, X11, e11, W11, V11, st11⟩ := stBA X3 hx hZ e3 f8_A_b (j := (1 : Int32)) (x := ((fk 1).toInt8.toInt32)) ⟨by decide, by decide⟩ (g := (mkF m 31 #[.val (.ref ks), .val (.int (1 : Int32)), .val (.ref b), .val (.int (1 : Int32)), .val (.int (4 : Int32)), .val (.int (1 : Int32)), .val (.int (fk 1))] [(.int ((fk 1).toInt8.toInt32)), (.int (1 : Int32)), (.ref b)])) rfl rfl (hb hby d5_31)
  have N11 := Fr.snoc X11 N3 g_b
  have f12_Z := Nat.le_trans f4_Z (Keep.of_wr W11).1
  have f13_O := f5_O.wr W11 g_b
  have f14_K := f6_K.wr W11 (Or.inl (List.mem_of_getElem? (i := 0) rfl))
  have f15_A_ks := f7_A_ks.other W11 nkb
  have f16_A_b := V11
  refine go st11 ?_
  show Go p e below _ (T11.setTop (mkF m 32 #[.val (.ref ks), .val (.int (1 : Int32)), .val (.ref b), .val (.int (1 : Int32)), .val (.int (4 : Int32)), .val (.int (1 : Int32)), .val (.int (fk 1))] []))
  refine go (fun t kt' => by refine XS.iinc X11.here hx rfl (hb hby d5_32) rfl (l' := #[.val (.ref ks), .val (.int (2 : Int32)), .val (.ref b), .val (.int (1 : Int32)), .val (.int (4 : Int32)), .val (.int (1 : Int32)), .val (.int (fk 1))]) rfl ?_; exact kt') ?_
  show Go p e below _ (T11.setTop (mkF m 35 #[.val (.ref ks), .val (.int (2 : Int32)), .val (.ref b), .val (.int (1 : Int32)), .val (.int (4 : Int32)), .val (.int (1 : Int32)), .val (.int (fk 1))] []))
  refine go (fun t kt' => by refine XS.iinc X11.here hx rfl (hb hby d5_35) rfl (l' := #[.val (.ref ks), .val (.int (2 : Int32)), .val (.ref b), .val (.int (2 : Int32)), .val (.int (4 : Int32)), .val (.int (1 : Int32)), .val (.int (fk 1))]) rfl ?_; exact kt') ?_
  show Go p e below _ (T11.setTop (mkF m 38 #[.val (.ref ks), .val (.int (2 : Int32)), .val (.ref b), .val (.int (2 : Int32)), .val (.int (4 : Int32)), .val (.int (1 : Int32)), .val (.int (fk 1))] []))
  refine go (fun t kt' => by refine XS.iinc X11.here hx rfl (hb hby d5_38) rfl (l' := #[.val (.ref ks), .val (.int (2 : Int32)), .val (.ref b), .val (.int (2 : Int32)), .val (.int (4 : Int32)), .val (.int (2 : Int32)), .val (.int (fk 1))]) rfl ?_; exact kt') ?_
  show Go p e below _ (T11.setTop (mkF m 41 #[.val (.ref ks), .val (.int (2 : Int32)), .val (.ref b), .val (.int (2 : Int32)), .val (.int (4 : Int32)), .val (.int (2 : Int32)), .val (.int (fk 1))] []))
  refine go (fun t kt' => by refine XS.goto X11.here hx rfl (pc0 := 41) (pc' := 3) rfl (hb hby d5_41) (by decide) (by decide) ?_; exact kt') ?_
  show Go p e below _ (T11.setTop (mkF m 3 #[.val (.ref ks), .val (.int (2 : Int32)), .val (.ref b), .val (.int (2 : Int32)), .val (.int (4 : Int32)), .val (.int (2 : Int32)), .val (.int (fk 1))] []))
  refine go (fun t kt' => by refine XS.iload X11.here hx rfl (hb hby d5_3) rfl ?_; exact kt') ?_
  show Go p e below _ (T11.setTop (mkF m 5 #[.val (.ref ks), .val (.int (2 : Int32)), .val (.ref b), .val (.int (2 : Int32)), .val (.int (4 : Int32)), .val (.int (2 : Int32)), .val (.int (fk 1))] [(.int (2 : Int32))]))
  refine go (fun t kt' => by refine XS.iload X11.here hx rfl (hb hby d5_5) rfl ?_; exact kt') ?_
  show Go p e below _ (T11.setTop (mkF m 7 #[.val (.ref ks), .val (.int (2 : Int32)), .val (.ref b), .val (.int (2 : Int32)), .val (.int (4 : Int32)), .val (.int (2 : Int32)), .val (.int (fk 1))] [(.int (4 : Int32)), (.int (2 : Int32))]))
  have c7_17 : ¬ (¬ (2 : Int32) < (4 : Int32)) := by decide
  refine go (fun t kt' => by refine XS.icmpNo X11.here hx rfl (hb hby d5_7) rfl (tlt (Decidable.not_not.mp c7_17)).2.1 ?_; exact kt') ?_
  show Go p e below _ (T11.setTop (mkF m 10 #[.val (.ref ks), .val (.int (2 : Int32)), .val (.ref b), .val (.int (2 : Int32)), .val (.int (4 : Int32)), .val (.int (2 : Int32)), .val (.int (fk 1))] []))
  refine go (fun t kt' => by refine XS.aloadN X11.here hx rfl (hb hby d5_10) rfl rfl ?_; exact kt') ?_
  show Go p e below _ (T11.setTop (mkF m 11 #[.val (.ref ks), .val (.int (2 : Int32)), .val (.ref b), .val (.int (2 : Int32)), .val (.int (4 : Int32)), .val (.int (2 : Int32)), .val (.int (fk 1))] [(.ref ks)]))
  refine go (fun t kt' => by refine XS.iloadN X11.here hx rfl (hb hby d5_11) rfl ?_; exact kt') ?_
  show Go p e below _ (T11.setTop (mkF m 12 #[.val (.ref ks), .val (.int (2 : Int32)), .val (.ref b), .val (.int (2 : Int32)), .val (.int (4 : Int32)), .val (.int (2 : Int32)), .val (.int (fk 1))] [(.int (2 : Int32)), (.ref ks)]))
  refine go (fun t kt' => by refine ldCA X11 hx hZ e11 f15_A_ks (j := (2 : Int32)) ⟨by decide, by decide⟩ (g := (mkF m 12 #[.val (.ref ks), .val (.int (2 : Int32)), .val (.ref b), .val (.int (2 : Int32)), .val (.int (4 : Int32)), .val (.int (2 : Int32)), .val (.int (fk 1))] [(.int (2 : Int32)), (.ref ks)])) rfl rfl (hb hby d5_12) t ?_; exact kt') ?_
  show Go p e below _ (T11.setTop (mkF m 13 #[.val (.ref ks), .val (.int (2 : Int32)), .val (.ref b), .val (.int (2 : Int32)), .val (.int (4 : Int32)), .val (.int (2 : Int32)), .val (.int (fk 1))] [(.int (fk 2))]))
  refine go (fun t kt' => by refine XS.istore X11.here hx rfl (hb hby d5_13) rfl (l' := #[.val (.ref ks), .val (.int (2 : Int32)), .val (.ref b), .val (.int (2 : Int32)), .val (.int (4 : Int32)), .val (.int (2 : Int32)), .val (.int (fk 2))]) rfl ?_; exact kt') ?_
  show Go p e below _ (T11.setTop (mkF m 15 #[.val (.ref ks), .val (.int (2 : Int32)), .val (.ref b), .val (.int (2 : Int32)), .val (.int (4 : Int32)), .val (.int (2 : Int32)), .val (.int (fk 2))] []))
  refine go (fun t kt' => by refine XS.iload X11.here hx rfl (hb hby d5_15) rfl ?_; exact kt') ?_
  show Go p e below _ (T11.setTop (mkF m 17 #[.val (.ref ks), .val (.int (2 : Int32)), .val (.ref b), .val (.int (2 : Int32)), .val (.int (4 : Int32)), .val (.int (2 : Int32)), .val (.int (fk 2))] [(.int (fk 2))]))
  refine go (fun t kt' => by refine XS.sipush X11.here hx rfl (hb hby d5_17) ?_; exact kt') ?_
  show Go p e below _ (T11.setTop (mkF m 20 #[.val (.ref ks), .val (.int (2 : Int32)), .val (.ref b), .val (.int (2 : Int32)), .val (.int (4 : Int32)), .val (.int (2 : Int32)), .val (.int (fk 2))] [(.int (255 : Int32)), (.int (fk 2))]))
  have c20_18 : ¬ (255 : Int32) < (fk 2) := own_lt256 (hr 2 (by decide))
  refine go (fun t kt' => by refine XS.icmpYes X11.here hx rfl (pc0 := 20) (pc' := 26) rfl (hb hby d5_20) rfl (flt c20_18).2.2.2 (by decide) (by decide) ?_; exact kt') ?_
  show Go p e below _ (T11.setTop (mkF m 26 #[.val (.ref ks), .val (.int (2 : Int32)), .val (.ref b), .val (.int (2 : Int32)), .val (.int (4 : Int32)), .val (.int (2 : Int32)), .val (.int (fk 2))] []))
  refine go (fun t kt' => by refine XS.aloadN X11.here hx rfl (hb hby d5_26) rfl rfl ?_; exact kt') ?_
  show Go p e below _ (T11.setTop (mkF m 27 #[.val (.ref ks), .val (.int (2 : Int32)), .val (.ref b), .val (.int (2 : Int32)), .val (.int (4 : Int32)), .val (.int (2 : Int32)), .val (.int (fk 2))] [(.ref b)]))
  refine go (fun t kt' => by refine XS.iloadN X11.here hx rfl (hb hby d5_27) rfl ?_; exact kt') ?_
  show Go p e below _ (T11.setTop (mkF m 28 #[.val (.ref ks), .val (.int (2 : Int32)), .val (.ref b), .val (.int (2 : Int32)), .val (.int (4 : Int32)), .val (.int (2 : Int32)), .val (.int (fk 2))] [(.int (2 : Int32)), (.ref b)]))
  refine go (fun t kt' => by refine XS.iload X11.here hx rfl (hb hby d5_28) rfl ?_; exact kt') ?_
  show Go p e below _ (T11.setTop (mkF m 30 #[.val (.ref ks), .val (.int (2 : Int32)), .val (.ref b), .val (.int (2 : Int32)), .val (.int (4 : Int32)), .val (.int (2 : Int32)), .val (.int (fk 2))] [(.int (fk 2)), (.int (2 : Int32)), (.ref b)]))
  refine go (fun t kt' => by refine XS.i2b X11.here hx rfl (hb hby d5_30) rfl ?_; exact kt') ?_
  show Go p e below _ (T11.setTop (mkF m 31 #[.val (.ref ks), .val (.int (2 : Int32)), .val (.ref b), .val (.int (2 : Int32)), .val (.int (4 : Int32)), .val (.int (2 : Int32)), .val (.int (fk 2))] [(.int ((fk 2).toInt8.toInt32)), (.int (2 : Int32)), (.ref b)]))
  obtain ⟨T19, h19, X19, e19, W19, V19, st19⟩ := stBA X11 hx hZ e11 f16_A_b (j := (2 : Int32)) (x := ((fk 2).toInt8.toInt32)) ⟨by decide, by decide⟩ (g := (mkF m 31 #[.val (.ref ks), .val (.int (2 : Int32)), .val (.ref b), .val (.int (2 : Int32)), .val (.int (4 : Int32)), .val (.int (2 : Int32)), .val (.int (fk 2))] [(.int ((fk 2).toInt8.toInt32)), (.int (2 : Int32)), (.ref b)])) rfl rfl (hb hby d5_31)
  have N19 := Fr.snoc X19 N11 g_b
  have f20_Z := Nat.le_trans f12_Z (Keep.of_wr W19).1
  have f21_O := f13_O.wr W19 g_b
  have f22_K := f14_K.wr W19 (Or.inl (List.mem_of_getElem? (i := 0) rfl))
  have f23_A_ks := f15_A_ks.other W19 nkb
  have f24_A_b := V19
  refine go st19 ?_
  show Go p e below _ (T19.setTop (mkF m 32 #[.val (.ref ks), .val (.int (2 : Int32)), .val (.ref b), .val (.int (2 : Int32)), .val (.int (4 : Int32)), .val (.int (2 : Int32)), .val (.int (fk 2))] []))
  refine go (fun t kt' => by refine XS.iinc X19.here hx rfl (hb hby d5_32) rfl (l' := #[.val (.ref ks), .val (.int (3 : Int32)), .val (.ref b), .val (.int (2 : Int32)), .val (.int (4 : Int32)), .val (.int (2 : Int32)), .val (.int (fk 2))]) rfl ?_; exact kt') ?_
  show Go p e below _ (T19.setTop (mkF m 35 #[.val (.ref ks), .val (.int (3 : Int32)), .val (.ref b), .val (.int (2 : Int32)), .val (.int (4 : Int32)), .val (.int (2 : Int32)), .val (.int (fk 2))] []))
  refine go (fun t kt' => by refine XS.iinc X19.here hx rfl (hb hby d5_35) rfl (l' := #[.val (.ref ks), .val (.int (3 : Int32)), .val (.ref b), .val (.int (3 : Int32)), .val (.int (4 : Int32)), .val (.int (2 : Int32)), .val (.int (fk 2))]) rfl ?_; exact kt') ?_
  show Go p e below _ (T19.setTop (mkF m 38 #[.val (.ref ks), .val (.int (3 : Int32)), .val (.ref b), .val (.int (3 : Int32)), .val (.int (4 : Int32)), .val (.int (2 : Int32)), .val (.int (fk 2))] []))
  refine go (fun t kt' => by refine XS.iinc X19.here hx rfl (hb hby d5_38) rfl (l' := #[.val (.ref ks), .val (.int (3 : Int32)), .val (.ref b), .val (.int (3 : Int32)), .val (.int (4 : Int32)), .val (.int (3 : Int32)), .val (.int (fk 2))]) rfl ?_; exact kt') ?_
  show Go p e below _ (T19.setTop (mkF m 41 #[.val (.ref ks), .val (.int (3 : Int32)), .val (.ref b), .val (.int (3 : Int32)), .val (.int (4 : Int32)), .val (.int (3 : Int32)), .val (.int (fk 2))] []))
  refine go (fun t kt' => by refine XS.goto X19.here hx rfl (pc0 := 41) (pc' := 3) rfl (hb hby d5_41) (by decide) (by decide) ?_; exact kt') ?_
  show Go p e below _ (T19.setTop (mkF m 3 #[.val (.ref ks), .val (.int (3 : Int32)), .val (.ref b), .val (.int (3 : Int32)), .val (.int (4 : Int32)), .val (.int (3 : Int32)), .val (.int (fk 2))] []))
  refine go (fun t kt' => by refine XS.iload X19.here hx rfl (hb hby d5_3) rfl ?_; exact kt') ?_
  show Go p e below _ (T19.setTop (mkF m 5 #[.val (.ref ks), .val (.int (3 : Int32)), .val (.ref b), .val (.int (3 : Int32)), .val (.int (4 : Int32)), .val (.int (3 : Int32)), .val (.int (fk 2))] [(.int (3 : Int32))]))
  refine go (fun t kt' => by refine XS.iload X19.here hx rfl (hb hby d5_5) rfl ?_; exact kt') ?_
  show Go p e below _ (T19.setTop (mkF m 7 #[.val (.ref ks), .val (.int (3 : Int32)), .val (.ref b), .val (.int (3 : Int32)), .val (.int (4 : Int32)), .val (.int (3 : Int32)), .val (.int (fk 2))] [(.int (4 : Int32)), (.int (3 : Int32))]))
  have c7_25 : ¬ (¬ (3 : Int32) < (4 : Int32)) := by decide
  refine go (fun t kt' => by refine XS.icmpNo X19.here hx rfl (hb hby d5_7) rfl (tlt (Decidable.not_not.mp c7_25)).2.1 ?_; exact kt') ?_
  show Go p e below _ (T19.setTop (mkF m 10 #[.val (.ref ks), .val (.int (3 : Int32)), .val (.ref b), .val (.int (3 : Int32)), .val (.int (4 : Int32)), .val (.int (3 : Int32)), .val (.int (fk 2))] []))
  refine go (fun t kt' => by refine XS.aloadN X19.here hx rfl (hb hby d5_10) rfl rfl ?_; exact kt') ?_
  show Go p e below _ (T19.setTop (mkF m 11 #[.val (.ref ks), .val (.int (3 : Int32)), .val (.ref b), .val (.int (3 : Int32)), .val (.int (4 : Int32)), .val (.int (3 : Int32)), .val (.int (fk 2))] [(.ref ks)]))
  refine go (fun t kt' => by refine XS.iloadN X19.here hx rfl (hb hby d5_11) rfl ?_; exact kt') ?_
  show Go p e below _ (T19.setTop (mkF m 12 #[.val (.ref ks), .val (.int (3 : Int32)), .val (.ref b), .val (.int (3 : Int32)), .val (.int (4 : Int32)), .val (.int (3 : Int32)), .val (.int (fk 2))] [(.int (3 : Int32)), (.ref ks)]))
  refine go (fun t kt' => by refine ldCA X19 hx hZ e19 f23_A_ks (j := (3 : Int32)) ⟨by decide, by decide⟩ (g := (mkF m 12 #[.val (.ref ks), .val (.int (3 : Int32)), .val (.ref b), .val (.int (3 : Int32)), .val (.int (4 : Int32)), .val (.int (3 : Int32)), .val (.int (fk 2))] [(.int (3 : Int32)), (.ref ks)])) rfl rfl (hb hby d5_12) t ?_; exact kt') ?_
  show Go p e below _ (T19.setTop (mkF m 13 #[.val (.ref ks), .val (.int (3 : Int32)), .val (.ref b), .val (.int (3 : Int32)), .val (.int (4 : Int32)), .val (.int (3 : Int32)), .val (.int (fk 2))] [(.int (fk 3))]))
  refine go (fun t kt' => by refine XS.istore X19.here hx rfl (hb hby d5_13) rfl (l' := #[.val (.ref ks), .val (.int (3 : Int32)), .val (.ref b), .val (.int (3 : Int32)), .val (.int (4 : Int32)), .val (.int (3 : Int32)), .val (.int (fk 3))]) rfl ?_; exact kt') ?_
  show Go p e below _ (T19.setTop (mkF m 15 #[.val (.ref ks), .val (.int (3 : Int32)), .val (.ref b), .val (.int (3 : Int32)), .val (.int (4 : Int32)), .val (.int (3 : Int32)), .val (.int (fk 3))] []))
  refine go (fun t kt' => by refine XS.iload X19.here hx rfl (hb hby d5_15) rfl ?_; exact kt') ?_
  show Go p e below _ (T19.setTop (mkF m 17 #[.val (.ref ks), .val (.int (3 : Int32)), .val (.ref b), .val (.int (3 : Int32)), .val (.int (4 : Int32)), .val (.int (3 : Int32)), .val (.int (fk 3))] [(.int (fk 3))]))
  refine go (fun t kt' => by refine XS.sipush X19.here hx rfl (hb hby d5_17) ?_; exact kt') ?_
  show Go p e below _ (T19.setTop (mkF m 20 #[.val (.ref ks), .val (.int (3 : Int32)), .val (.ref b), .val (.int (3 : Int32)), .val (.int (4 : Int32)), .val (.int (3 : Int32)), .val (.int (fk 3))] [(.int (255 : Int32)), (.int (fk 3))]))
  have c20_26 : ¬ (255 : Int32) < (fk 3) := own_lt256 (hr 3 (by decide))
  refine go (fun t kt' => by refine XS.icmpYes X19.here hx rfl (pc0 := 20) (pc' := 26) rfl (hb hby d5_20) rfl (flt c20_26).2.2.2 (by decide) (by decide) ?_; exact kt') ?_
  show Go p e below _ (T19.setTop (mkF m 26 #[.val (.ref ks), .val (.int (3 : Int32)), .val (.ref b), .val (.int (3 : Int32)), .val (.int (4 : Int32)), .val (.int (3 : Int32)), .val (.int (fk 3))] []))
  refine go (fun t kt' => by refine XS.aloadN X19.here hx rfl (hb hby d5_26) rfl rfl ?_; exact kt') ?_
  show Go p e below _ (T19.setTop (mkF m 27 #[.val (.ref ks), .val (.int (3 : Int32)), .val (.ref b), .val (.int (3 : Int32)), .val (.int (4 : Int32)), .val (.int (3 : Int32)), .val (.int (fk 3))] [(.ref b)]))
  refine go (fun t kt' => by refine XS.iloadN X19.here hx rfl (hb hby d5_27) rfl ?_; exact kt') ?_
  show Go p e below _ (T19.setTop (mkF m 28 #[.val (.ref ks), .val (.int (3 : Int32)), .val (.ref b), .val (.int (3 : Int32)), .val (.int (4 : Int32)), .val (.int (3 : Int32)), .val (.int (fk 3))] [(.int (3 : Int32)), (.ref b)]))
  refine go (fun t kt' => by refine XS.iload X19.here hx rfl (hb hby d5_28) rfl ?_; exact kt') ?_
  show Go p e below _ (T19.setTop (mkF m 30 #[.val (.ref ks), .val (.int (3 : Int32)), .val (.ref b), .val (.int (3 : Int32)), .val (.int (4 : Int32)), .val (.int (3 : Int32)), .val (.int (fk 3))] [(.int (fk 3)), (.int (3 : Int32)), (.ref b)]))
  refine go (fun t kt' => by refine XS.i2b X19.here hx rfl (hb hby d5_30) rfl ?_; exact kt') ?_
  show Go p e below _ (T19.setTop (mkF m 31 #[.val (.ref ks), .val (.int (3 : Int32)), .val (.ref b), .val (.int (3 : Int32)), .val (.int (4 : Int32)), .val (.int (3 : Int32)), .val (.int (fk 3))] [(.int ((fk 3).toInt8.toInt32)), (.int (3 : Int32)), (.ref b)]))
  obtain ⟨T27, h27, X27, e27, W27, V27, st27⟩ := stBA X19 hx hZ e19 f24_A_b (j := (3 : Int32)) (x := ((fk 3).toInt8.toInt32)) ⟨by decide, by decide⟩ (g := (mkF m 31 #[.val (.ref ks), .val (.int (3 : Int32)), .val (.ref b), .val (.int (3 : Int32)), .val (.int (4 : Int32)), .val (.int (3 : Int32)), .val (.int (fk 3))] [(.int ((fk 3).toInt8.toInt32)), (.int (3 : Int32)), (.ref b)])) rfl rfl (hb hby d5_31)
  have N27 := Fr.snoc X27 N19 g_b
  have f28_Z := Nat.le_trans f20_Z (Keep.of_wr W27).1
  have f29_O := f21_O.wr W27 g_b
  have f30_K := f22_K.wr W27 (Or.inl (List.mem_of_getElem? (i := 0) rfl))
  have f31_A_ks := f23_A_ks.other W27 nkb
  have f32_A_b := V27
  refine go st27 ?_
  show Go p e below _ (T27.setTop (mkF m 32 #[.val (.ref ks), .val (.int (3 : Int32)), .val (.ref b), .val (.int (3 : Int32)), .val (.int (4 : Int32)), .val (.int (3 : Int32)), .val (.int (fk 3))] []))
  refine go (fun t kt' => by refine XS.iinc X27.here hx rfl (hb hby d5_32) rfl (l' := #[.val (.ref ks), .val (.int (4 : Int32)), .val (.ref b), .val (.int (3 : Int32)), .val (.int (4 : Int32)), .val (.int (3 : Int32)), .val (.int (fk 3))]) rfl ?_; exact kt') ?_
  show Go p e below _ (T27.setTop (mkF m 35 #[.val (.ref ks), .val (.int (4 : Int32)), .val (.ref b), .val (.int (3 : Int32)), .val (.int (4 : Int32)), .val (.int (3 : Int32)), .val (.int (fk 3))] []))
  refine go (fun t kt' => by refine XS.iinc X27.here hx rfl (hb hby d5_35) rfl (l' := #[.val (.ref ks), .val (.int (4 : Int32)), .val (.ref b), .val (.int (4 : Int32)), .val (.int (4 : Int32)), .val (.int (3 : Int32)), .val (.int (fk 3))]) rfl ?_; exact kt') ?_
  show Go p e below _ (T27.setTop (mkF m 38 #[.val (.ref ks), .val (.int (4 : Int32)), .val (.ref b), .val (.int (4 : Int32)), .val (.int (4 : Int32)), .val (.int (3 : Int32)), .val (.int (fk 3))] []))
  refine go (fun t kt' => by refine XS.iinc X27.here hx rfl (hb hby d5_38) rfl (l' := #[.val (.ref ks), .val (.int (4 : Int32)), .val (.ref b), .val (.int (4 : Int32)), .val (.int (4 : Int32)), .val (.int (4 : Int32)), .val (.int (fk 3))]) rfl ?_; exact kt') ?_
  show Go p e below _ (T27.setTop (mkF m 41 #[.val (.ref ks), .val (.int (4 : Int32)), .val (.ref b), .val (.int (4 : Int32)), .val (.int (4 : Int32)), .val (.int (4 : Int32)), .val (.int (fk 3))] []))
  refine go (fun t kt' => by refine XS.goto X27.here hx rfl (pc0 := 41) (pc' := 3) rfl (hb hby d5_41) (by decide) (by decide) ?_; exact kt') ?_
  show Go p e below _ (T27.setTop (mkF m 3 #[.val (.ref ks), .val (.int (4 : Int32)), .val (.ref b), .val (.int (4 : Int32)), .val (.int (4 : Int32)), .val (.int (4 : Int32)), .val (.int (fk 3))] []))
  refine go (fun t kt' => by refine XS.iload X27.here hx rfl (hb hby d5_3) rfl ?_; exact kt') ?_
  show Go p e below _ (T27.setTop (mkF m 5 #[.val (.ref ks), .val (.int (4 : Int32)), .val (.ref b), .val (.int (4 : Int32)), .val (.int (4 : Int32)), .val (.int (4 : Int32)), .val (.int (fk 3))] [(.int (4 : Int32))]))
  refine go (fun t kt' => by refine XS.iload X27.here hx rfl (hb hby d5_5) rfl ?_; exact kt') ?_
  show Go p e below _ (T27.setTop (mkF m 7 #[.val (.ref ks), .val (.int (4 : Int32)), .val (.ref b), .val (.int (4 : Int32)), .val (.int (4 : Int32)), .val (.int (4 : Int32)), .val (.int (fk 3))] [(.int (4 : Int32)), (.int (4 : Int32))]))
  have c7_33 : ¬ (4 : Int32) < (4 : Int32) := by decide
  refine go (fun t kt' => by refine XS.icmpYes X27.here hx rfl (pc0 := 7) (pc' := 44) rfl (hb hby d5_7) rfl (flt c7_33).2.1 (by decide) (by decide) ?_; exact kt') ?_
  show Go p e below _ (T27.setTop (mkF m 44 #[.val (.ref ks), .val (.int (4 : Int32)), .val (.ref b), .val (.int (4 : Int32)), .val (.int (4 : Int32)), .val (.int (4 : Int32)), .val (.int (fk 3))] []))
  refine go (fun t kt' => by refine XS.iload X27.here hx rfl (hb hby d5_44) rfl ?_; exact kt') ?_
  show Go p e below _ (T27.setTop (mkF m 46 #[.val (.ref ks), .val (.int (4 : Int32)), .val (.ref b), .val (.int (4 : Int32)), .val (.int (4 : Int32)), .val (.int (4 : Int32)), .val (.int (fk 3))] [(.int (4 : Int32))]))
  refine goOut X27 (fun h => by rw [Bd.returns] at h; cases h) hlk (fun fs hr => retOut X27 hx Bd.returns rfl (Or.inl ⟨rfl, Or.inl rfl, _, rfl⟩) (hb hby d5_46) hr) (by decide) (by decide) ?_
  rw [e27]
  exact ⟨rfl, N27, f30_K, IA.congr f32_A_b fun j hj => (own_up4 fb (fun j => nar .byte ((fk j).toInt8.toInt32)) j hj).trans (own_nb _)⟩
theorem d4_0 : decode jdk_52_method_16_code 0 = .ok (.iload_n 2, 1) := by decide +kernel
theorem d4_1 : decode jdk_52_method_16_code 1 = .ok (.newarray .byte, 2) := by decide +kernel
theorem d4_3 : decode jdk_52_method_16_code 3 = .ok (.astore_n 3, 1) := by decide +kernel
theorem d4_4 : decode jdk_52_method_16_code 4 = .ok (.aload_n 0, 1) := by decide +kernel
theorem d4_5 : decode jdk_52_method_16_code 5 = .ok (.iload_n 1, 1) := by decide +kernel
theorem d4_6 : decode jdk_52_method_16_code 6 = .ok (.aload_n 3, 1) := by decide +kernel
theorem d4_7 : decode jdk_52_method_16_code 7 = .ok (.iconst 0, 1) := by decide +kernel
theorem d4_8 : decode jdk_52_method_16_code 8 = .ok (.iload_n 2, 1) := by decide +kernel
theorem d4_9 : decode jdk_52_method_16_code 9 = .ok (.invokestatic 115, 3) := by decide +kernel
theorem pd_0 : parseMethodDescriptor "([CI[BII)I" = some ⟨[(.array .char), .int, (.array .byte), .int, .int], some .int⟩ := by decide +kernel
theorem d4_12 : decode jdk_52_method_16_code 12 = .ok (.istore 4, 2) := by decide +kernel
theorem d4_14 : decode jdk_52_method_16_code 14 = .ok (.iload 4, 2) := by decide +kernel
theorem d4_16 : decode jdk_52_method_16_code 16 = .ok (.iload_n 2, 1) := by decide +kernel
theorem d4_17 : decode jdk_52_method_16_code 17 = .ok (.if_icmp .eq 40, 3) := by decide +kernel
theorem d4_57 : decode jdk_52_method_16_code 57 = .ok (.aload_n 3, 1) := by decide +kernel
theorem d4_58 : decode jdk_52_method_16_code 58 = .ok (.areturn, 1) := by decide +kernel
theorem ef_rm_c3 (m : MethodId) (x0 : Addr) : entryFrame m #[(.ref x0), (.int (0 : Int32)), (.int (4 : Int32))] 6 = mkF m 0 #[.val (.ref x0), .val (.int (0 : Int32)), .val (.int (4 : Int32)), .unset, .unset, .unset] [] := by first | (simp [entryFrame, mkF, argsToLocals, Value.category]; done) | rfl
def Q_c3 (Z : State) (fk : Nat → Int32) (h0 : Heap) (n0 : Nat) (v : Option Value) (h : Heap) (L : List Loc) : Prop := ∃ b : Addr, v = some (.ref b) ∧ Fr n0 L ∧ Keep h0 h [] ∧ n0 ≤ b ∧ h0.size ≤ b ∧ IA Z h b .byte 4 (fun j => (fk j).toInt8.toInt32)
set_option maxRecDepth 65536 in
set_option maxHeartbeats 40000000 in
theorem rm_c3 (l : Launch) (Z : State) (a0 : Array Value) (hw : ∀ d ∈ tables_1, d.before a0 Z = true) (ws : List Jvm.Cond) (ks : Addr) (cs : Int32) (fm : Value) (kd1 kd2 kd3 kd4 : Addr) (fk : Nat → Int32) (h0 : Heap) (n0 : Nat) (Z0 : n0 ≤ h0.size) (HS : own_sets Z cs fm kd1 kd2 kd3 kd4) (OO : Old Z n0 h0) (V_ks : IA Z h0 ks .char 4 fk) (hr : ∀ j, j < 4 → 0 ≤ (fk j).toInt ∧ (fk j).toInt < 256) :
    MetFree l (⟨"java/lang/StringUTF16", "compress", "([CII)[B"⟩ : MethodName) (head1 (Jvm.Cond.code (⟨"java/lang/StringUTF16", "compress", "([CII)[B"⟩ : MethodName) jdk_52_method_16_code 6 (some (.array .byte)) :: ws) ({ frames := 1, cells := 1, slots := 4, locals := 18 } : Room)) (fun av' U => av' = #[(.ref ks), (.int (0 : Int32)), (.int (4 : Int32))] ∧ Z.Warmed39 U.vm ∧ U.heap = h0) (fun _ _ _ _ _ => True) (fun _ U o U' => ∃ v L, o = .returned v ∧ Q_c3 Z fk h0 n0 v U'.heap L ∧ FrameEnd U o U' L ({ frames := 1, cells := 1, slots := 4, locals := 18 } : Room).cells ({ frames := 1, cells := 1, slots := 4, locals := 18 } : Room).slots) := by
  refine MetFree.of_bodySF (plainFor_of_name pn_java_lang_StringUTF16) hisR ?_
  intro p e s m args below meth c s₁ Bd hml0 hP hK
  obtain ⟨rfl, hZ, hh⟩ := hP
  have hx := Bd.exec
  have hby := Bd.bytes
  have hlk := Bd.notSynchronized
  have hml : c.maxLocals = 6 := hml0
  have hown : s.vm.findClass "java/lang/StringUTF16" = some m.cls := findClass_of_methodNamed Bd.named
  have hnm := (name_of_methodNamed Bd.named Bd.method).1
  have X0 : Stand p l e ({ frames := 1, cells := 1, slots := 4, locals := 18 } : Room) s m #[(.ref ks), (.int (0 : Int32)), (.int (4 : Int32))] below meth c s₁ [] 0 0 := Stand.of_body Bd
  have e0 : s₁.heap = h0 := by rw [← hh, Bd.state]; rfl
  have N0 := Fr.nil n0
  show Go p e below (Kq s (Q_c3 Z fk h0 n0) ({ frames := 1, cells := 1, slots := 4, locals := 18 } : Room).cells ({ frames := 1, cells := 1, slots := 4, locals := 18 } : Room).slots) _
  refine go (fun t kt => castTop (ef_rm_c3 m ks) kt) ?_
  have HS0 := HS
  obtain ⟨S_cs, hcs, S_fm, hfm, S_k1, S_k2, S_k3, S_k4⟩ := HS0
  have K0 := Keep.refl h0 []
  show Go p e below _ (s₁.setTop (mkF m 0 #[.val (.ref ks), .val (.int (0 : Int32)), .val (.int (4 : Int32)), .unset, .unset, .unset] []))
  refine go (fun t kt' => by refine XS.iloadN X0.here hx rfl (hb hby d4_0) rfl ?_; exact kt') ?_
  show Go p e below _ (s₁.setTop (mkF m 1 #[.val (.ref ks), .val (.int (0 : Int32)), .val (.int (4 : Int32)), .unset, .unset, .unset] [(.int (4 : Int32))]))
  obtain ⟨T1, h1, k1, X1, e1, E1, A1, st1⟩ := newP X0 hx hZ (hw _ (List.mem_of_getElem? (i := 19) rfl)) e0 (g := (mkF m 1 #[.val (.ref ks), .val (.int (0 : Int32)), .val (.int (4 : Int32)), .unset, .unset, .unset] [(.int (4 : Int32))])) rfl (hb hby d4_1) rfl (by decide) (cap := 4) (by decide) (by decide) (by decide) (by decide)
  obtain ⟨b1, g1⟩ : ∃ z, z = h0.size := ⟨_, rfl⟩
  have n0_b1 : n0 ≤ b1 := Nat.le_trans Z0 (Nat.le_of_eq g1.symm)
  have sz_b1 : h0.size ≤ b1 := Nat.le_trans K0.1 (Nat.le_of_eq g1.symm)
  have ne1_ks_b1 : ks ≠ b1 := Nat.ne_of_lt (Nat.lt_of_lt_of_le V_ks.lt (Nat.le_of_eq g1.symm))
  rw [← g1] at A1 st1
  have f2_Z := Nat.le_trans Z0 E1.1
  have f3_O := OO.ext E1
  have f4_K := K0.ext E1
  have f5_A_ks := V_ks.ext E1
  have V1 : IA Z h1 b1 .byte 4 (fun _ => 0) := IA.new A1 rfl rfl
  refine go st1 ?_
  show Go p e below _ (T1.setTop (mkF m 3 #[.val (.ref ks), .val (.int (0 : Int32)), .val (.int (4 : Int32)), .unset, .unset, .unset] [(.ref b1)]))
  refine go (fun t kt' => by refine XS.astoreN X1.here hx rfl (hb hby d4_3) rfl rfl (l' := #[.val (.ref ks), .val (.int (0 : Int32)), .val (.int (4 : Int32)), .val (.ref b1), .unset, .unset]) rfl ?_; exact kt') ?_
  show Go p e below _ (T1.setTop (mkF m 4 #[.val (.ref ks), .val (.int (0 : Int32)), .val (.int (4 : Int32)), .val (.ref b1), .unset, .unset] []))
  refine go (fun t kt' => by refine XS.aloadN X1.here hx rfl (hb hby d4_4) rfl rfl ?_; exact kt') ?_
  show Go p e below _ (T1.setTop (mkF m 5 #[.val (.ref ks), .val (.int (0 : Int32)), .val (.int (4 : Int32)), .val (.ref b1), .unset, .unset] [(.ref ks)]))
  refine go (fun t kt' => by refine XS.iloadN X1.here hx rfl (hb hby d4_5) rfl ?_; exact kt') ?_
  show Go p e below _ (T1.setTop (mkF m 6 #[.val (.ref ks), .val (.int (0 : Int32)), .val (.int (4 : Int32)), .val (.ref b1), .unset, .unset] [(.int (0 : Int32)), (.ref ks)]))
  refine go (fun t kt' => by refine XS.aloadN X1.here hx rfl (hb hby d4_6) rfl rfl ?_; exact kt') ?_
  show Go p e below _ (T1.setTop (mkF m 7 #[.val (.ref ks), .val (.int (0 : Int32)), .val (.int (4 : Int32)), .val (.ref b1), .unset, .unset] [(.ref b1), (.int (0 : Int32)), (.ref ks)]))
  refine go (fun t kt' => by refine XS.iconst X1.here hx rfl (hb hby d4_7) ?_; exact kt') ?_
  show Go p e below _ (T1.setTop (mkF m 8 #[.val (.ref ks), .val (.int (0 : Int32)), .val (.int (4 : Int32)), .val (.ref b1), .unset, .unset] [(.int (0 : Int32)), (.ref b1), (.int (0 : Int32)), (.ref ks)]))
  refine go (fun t kt' => by refine XS.iloadN X1.here hx rfl (hb hby d4_8) rfl ?_; exact kt') ?_
  show Go p e below _ (T1.setTop (mkF m 9 #[.val (.ref ks), .val (.int (0 : Int32)), .val (.int (4 : Int32)), .val (.ref b1), .unset, .unset] [(.int (4 : Int32)), (.int (0 : Int32)), (.ref b1), (.int (0 : Int32)), (.ref ks)]))
  obtain ⟨_, _, ⟨T6, L6, k6, n6⟩, -, X6, ⟨Lc6, hQ6, l6, y6, z6⟩, st6⟩ := Jvm.LawKit.callS X1 hx (y := (⟨"java/lang/StringUTF16", "compress", "([CI[BII)I"⟩ : MethodName)) hown (mvT hZ (hw _ (List.mem_of_getElem? (i := 20) rfl))) (mvT hZ (hw _ (List.mem_of_getElem? (i := 21) rfl))) (mvT hZ (hw _ (List.mem_of_getElem? (i := 17) rfl))) (mvT hZ (hw _ (List.mem_of_getElem? (i := 22) rfl))) (by decide) (backOf (W := 0) (rm_cp l Z a0 hw [] ks b1 cs fm kd1 kd2 kd3 kd4 fk (fun _ => (0 : Int32)) h1 n0 f2_Z HS f3_O f5_A_ks V1 ne1_ks_b1 n0_b1 hr) hZ (hw _ (List.mem_of_getElem? (i := 22) rfl)) (hw _ (List.mem_of_getElem? (i := 17) rfl)) (by decide) (by decide)) (g := (mkF m 9 #[.val (.ref ks), .val (.int (0 : Int32)), .val (.int (4 : Int32)), .val (.ref b1), .unset, .unset] [(.int (4 : Int32)), (.int (0 : Int32)), (.ref b1), (.int (0 : Int32)), (.ref ks)])) rfl (by rw [hml]; rfl) (argsL := [(.ref ks), (.int (0 : Int32)), (.ref b1), (.int (0 : Int32)), (.int (4 : Int32))]) (rest := []) (lenOf pd_0 rfl) rfl (by show 2 * 0 + _ ≤ _; exact Nat.le_of_eq rfl) (hb hby d4_9) (fun _ _ => ⟨rfl, e1, (by decide : 1 + 0 ≤ _), (by decide : 4 + 0 ≤ _)⟩)
  dsimp only [Pt.U, Pt.locs, Pt.cells, Pt.slots] at X6 l6 y6 z6 st6 hQ6
  rw [l6, y6, z6] at X6
  obtain ⟨rfl, N6q, K6, P6_0⟩ := hQ6
  have N6 := Fr.app N0 N6q
  have f7_Z := Nat.le_trans f2_Z K6.1
  have f8_O := f3_O.keep K6 (allS n0_b1 all0)
  have f9_K := f4_K.trans K6 (allS (Or.inr sz_b1) all0)
  have f10_A_ks := f5_A_ks.keep K6 (ninS ne1_ks_b1 nin0)
  refine go st6 ?_
  show Go p e below _ (T6.setTop (mkF m 12 #[.val (.ref ks), .val (.int (0 : Int32)), .val (.int (4 : Int32)), .val (.ref b1), .unset, .unset] [(.int (4 : Int32))]))
  refine go (fun t kt' => by refine XS.istore X6.here hx rfl (hb hby d4_12) rfl (l' := #[.val (.ref ks), .val (.int (0 : Int32)), .val (.int (4 : Int32)), .val (.ref b1), .val (.int (4 : Int32)), .unset]) rfl ?_; exact kt') ?_
  show Go p e below _ (T6.setTop (mkF m 14 #[.val (.ref ks), .val (.int (0 : Int32)), .val (.int (4 : Int32)), .val (.ref b1), .val (.int (4 : Int32)), .unset] []))
  refine go (fun t kt' => by refine XS.iload X6.here hx rfl (hb hby d4_14) rfl ?_; exact kt') ?_
  show Go p e below _ (T6.setTop (mkF m 16 #[.val (.ref ks), .val (.int (0 : Int32)), .val (.int (4 : Int32)), .val (.ref b1), .val (.int (4 : Int32)), .unset] [(.int (4 : Int32))]))
  refine go (fun t kt' => by refine XS.iloadN X6.here hx rfl (hb hby d4_16) rfl ?_; exact kt') ?_
  show Go p e below _ (T6.setTop (mkF m 17 #[.val (.ref ks), .val (.int (0 : Int32)), .val (.int (4 : Int32)), .val (.ref b1), .val (.int (4 : Int32)), .unset] [(.int (4 : Int32)), (.int (4 : Int32))]))
  have c17_11 : (4 : Int32) = (4 : Int32) := by decide
  refine go (fun t kt' => by refine XS.icmpYes X6.here hx rfl (pc0 := 17) (pc' := 57) rfl (hb hby d4_17) rfl (teq c17_11).1 (by decide) (by decide) ?_; exact kt') ?_
  show Go p e below _ (T6.setTop (mkF m 57 #[.val (.ref ks), .val (.int (0 : Int32)), .val (.int (4 : Int32)), .val (.ref b1), .val (.int (4 : Int32)), .unset] []))
  refine go (fun t kt' => by refine XS.aloadN X6.here hx rfl (hb hby d4_57) rfl rfl ?_; exact kt') ?_
  show Go p e below _ (T6.setTop (mkF m 58 #[.val (.ref ks), .val (.int (0 : Int32)), .val (.int (4 : Int32)), .val (.ref b1), .val (.int (4 : Int32)), .unset] [(.ref b1)]))
  refine goOut X6 (fun h => by rw [Bd.returns] at h; cases h) hlk (fun fs hr => retOut X6 hx Bd.returns rfl (Or.inr (Or.inr (Or.inr (Or.inr ⟨rfl, rfl, rfl⟩)))) (hb hby d4_58) hr) (by decide) (by decide) ?_
  exact ⟨b1, rfl, N6, f9_K, n0_b1, sz_b1, P6_0⟩
theorem d2_0 : decode jdk_42_method_149_code 0 = .ok (.aload_n 0, 1) := by decide +kernel
theorem d2_1 : decode jdk_42_method_149_code 1 = .ok (.invokespecial 1, 3) := by decide +kernel
theorem d2_4 : decode jdk_42_method_149_code 4 = .ok (.iload_n 3, 1) := by decide +kernel
theorem d2_5 : decode jdk_42_method_149_code 5 = .ok (.ifCond .ne 22, 3) := by decide +kernel
theorem d2_27 : decode jdk_42_method_149_code 27 = .ok (.getstatic 38, 3) := by decide +kernel
theorem d2_30 : decode jdk_42_method_149_code 30 = .ok (.ifCond .eq 28, 3) := by decide +kernel
theorem d2_33 : decode jdk_42_method_149_code 33 = .ok (.aload_n 1, 1) := by decide +kernel
theorem d2_34 : decode jdk_42_method_149_code 34 = .ok (.iload_n 2, 1) := by decide +kernel
theorem d2_35 : decode jdk_42_method_149_code 35 = .ok (.iload_n 3, 1) := by decide +kernel
theorem d2_36 : decode jdk_42_method_149_code 36 = .ok (.invokestatic 177, 3) := by decide +kernel
theorem pd_1 : parseMethodDescriptor "([CII)[B" = some ⟨[(.array .char), .int, .int], some (.array .byte)⟩ := by decide +kernel
theorem d2_39 : decode jdk_42_method_149_code 39 = .ok (.astore 5, 2) := by decide +kernel
theorem d2_41 : decode jdk_42_method_149_code 41 = .ok (.aload_n 0, 1) := by decide +kernel
theorem d2_42 : decode jdk_42_method_149_code 42 = .ok (.aload 5, 2) := by decide +kernel
theorem d2_44 : decode jdk_42_method_149_code 44 = .ok (.iload_n 3, 1) := by decide +kernel
theorem d2_45 : decode jdk_42_method_149_code 45 = .ok (.invokestatic 47, 3) := by decide +kernel
theorem pd_2 : parseMethodDescriptor "([BI)B" = some ⟨[(.array .byte), .int], some .byte⟩ := by decide +kernel
theorem d2_48 : decode jdk_42_method_149_code 48 = .ok (.putfield 15, 3) := by decide +kernel
theorem d2_51 : decode jdk_42_method_149_code 51 = .ok (.aload_n 0, 1) := by decide +kernel
theorem d2_52 : decode jdk_42_method_149_code 52 = .ok (.aload 5, 2) := by decide +kernel
theorem d2_54 : decode jdk_42_method_149_code 54 = .ok (.putfield 9, 3) := by decide +kernel
theorem d2_57 : decode jdk_42_method_149_code 57 = .ok (.return_, 1) := by decide +kernel
theorem pn_java_lang_String : plainName "java/lang/String" = true := by first | (simp [plainName, overriddenIn]; done) | decide +kernel
theorem ef_rm_s4 (m : MethodId) (x0 : Addr) (x1 : Addr) : entryFrame m #[(.ref x0), (.ref x1), (.int (0 : Int32)), (.int (4 : Int32)), .null] 6 = mkF m 0 #[.val (.ref x0), .val (.ref x1), .val (.int (0 : Int32)), .val (.int (4 : Int32)), .val .null, .unset] [] := by first | (simp [entryFrame, mkF, argsToLocals, Value.category]; done) | rfl
def Q_s4 (Z : State) (a : Addr) (fk : Nat → Int32) (h0 : Heap) (n0 : Nat) (v : Option Value) (h : Heap) (L : List Loc) : Prop := v = none ∧ Fr n0 L ∧ Keep h0 h [a] ∧ Exa Z h a "java/lang/String" ∧ Fld Z h a "java/lang/String" "coder" "B" (.int (0 : Int32)) ∧ ∃ b : Addr, Fld Z h a "java/lang/String" "value" "[B" (.ref b) ∧ IA Z h b .byte 4 (fun j => (fk j).toInt8.toInt32)
set_option maxRecDepth 65536 in
set_option maxHeartbeats 40000000 in
theorem rm_s4 (l : Launch) (Z : State) (a0 : Array Value) (hw : ∀ d ∈ tables_1, d.before a0 Z = true) (ws : List Jvm.Cond) (a : Addr) (ks : Addr) (cs : Int32) (fm : Value) (kd1 kd2 kd3 kd4 : Addr) (fk : Nat → Int32) (h0 : Heap) (n0 : Nat) (Z0 : n0 ≤ h0.size) (HS : own_sets Z cs fm kd1 kd2 kd3 kd4) (OO : Old Z n0 h0) (E_a : Exa Z h0 a "java/lang/String") (g_a : n0 ≤ a) (F_value_a : Fld Z h0 a "java/lang/String" "value" "[B" .null) (F_coder_a : Fld Z h0 a "java/lang/String" "coder" "B" (.int (0 : Int32))) (V_ks : IA Z h0 ks .char 4 fk) (nka : ks ≠ a) (hr : ∀ j, j < 4 → 0 ≤ (fk j).toInt ∧ (fk j).toInt < 256) :
    MetFree l (⟨"java/lang/String", "<init>", "([CIILjava/lang/Void;)V"⟩ : MethodName) (head1 (Jvm.Cond.code (⟨"java/lang/String", "<init>", "([CIILjava/lang/Void;)V"⟩ : MethodName) jdk_42_method_149_code 6 none :: ws) ({ frames := 2, cells := 1, slots := 4, locals := 35 } : Room)) (fun av' U => av' = #[(.ref a), (.ref ks), (.int (0 : Int32)), (.int (4 : Int32)), .null] ∧ Z.Warmed39 U.vm ∧ U.heap = h0) (fun _ _ _ _ _ => True) (fun _ U o U' => ∃ v L, o = .returned v ∧ Q_s4 Z a fk h0 n0 v U'.heap L ∧ FrameEnd U o U' L ({ frames := 2, cells := 1, slots := 4, locals := 35 } : Room).cells ({ frames := 2, cells := 1, slots := 4, locals := 35 } : Room).slots) := by
  refine MetFree.of_bodySF (plainFor_of_name pn_java_lang_String) hisR ?_
  intro p e s m args below meth c s₁ Bd hml0 hP hK
  obtain ⟨rfl, hZ, hh⟩ := hP
  have hx := Bd.exec
  have hby := Bd.bytes
  have hlk := Bd.notSynchronized
  have hml : c.maxLocals = 6 := hml0
  have hown : s.vm.findClass "java/lang/String" = some m.cls := findClass_of_methodNamed Bd.named
  have hnm := (name_of_methodNamed Bd.named Bd.method).1
  have X0 : Stand p l e ({ frames := 2, cells := 1, slots := 4, locals := 35 } : Room) s m #[(.ref a), (.ref ks), (.int (0 : Int32)), (.int (4 : Int32)), .null] below meth c s₁ [] 0 0 := Stand.of_body Bd
  have e0 : s₁.heap = h0 := by rw [← hh, Bd.state]; rfl
  have N0 := Fr.nil n0
  show Go p e below (Kq s (Q_s4 Z a fk h0 n0) ({ frames := 2, cells := 1, slots := 4, locals := 35 } : Room).cells ({ frames := 2, cells := 1, slots := 4, locals := 35 } : Room).slots) _
  refine go (fun t kt => castTop (ef_rm_s4 m a ks) kt) ?_
  have HS0 := HS
  obtain ⟨S_cs, hcs, S_fm, hfm, S_k1, S_k2, S_k3, S_k4⟩ := HS0
  have K0 := Keep.refl h0 [a]
  show Go p e below _ (s₁.setTop (mkF m 0 #[.val (.ref a), .val (.ref ks), .val (.int (0 : Int32)), .val (.int (4 : Int32)), .val .null, .unset] []))
  refine go (fun t kt' => by refine XS.aloadN X0.here hx rfl (hb hby d2_0) rfl rfl ?_; exact kt') ?_
  show Go p e below _ (s₁.setTop (mkF m 1 #[.val (.ref a), .val (.ref ks), .val (.int (0 : Int32)), .val (.int (4 : Int32)), .val .null, .unset] [(.ref a)]))
  obtain ⟨T1, X1, e1, st1⟩ := initO X0 hx hZ hown (hw _ (List.mem_of_getElem? (i := 11) rfl)) (hw _ (List.mem_of_getElem? (i := 12) rfl)) (hw _ (List.mem_of_getElem? (i := 13) rfl)) e0 (g := (mkF m 1 #[.val (.ref a), .val (.ref ks), .val (.int (0 : Int32)), .val (.int (4 : Int32)), .val .null, .unset] [(.ref a)])) rfl (by rw [hml]; rfl) rfl (hb hby d2_1) (by decide) (W := 0) (by show 2 * 0 + _ ≤ _; exact Nat.le_of_eq rfl) (by decide)
  refine go st1 ?_
  show Go p e below _ (T1.setTop (mkF m 4 #[.val (.ref a), .val (.ref ks), .val (.int (0 : Int32)), .val (.int (4 : Int32)), .val .null, .unset] []))
  refine go (fun t kt' => by refine XS.iloadN X1.here hx rfl (hb hby d2_4) rfl ?_; exact kt') ?_
  show Go p e below _ (T1.setTop (mkF m 5 #[.val (.ref a), .val (.ref ks), .val (.int (0 : Int32)), .val (.int (4 : Int32)), .val .null, .unset] [(.int (4 : Int32))]))
  have c5_2 : ¬ (4 : Int32) = (0 : Int32) := by decide
  refine go (fun t kt' => by refine XS.ifYes X1.here hx rfl (pc0 := 5) (pc' := 27) rfl (hb hby d2_5) rfl ((if0 _ _).trans (feq c5_2).2) (by decide) (by decide) ?_; exact kt') ?_
  show Go p e below _ (T1.setTop (mkF m 27 #[.val (.ref a), .val (.ref ks), .val (.int (0 : Int32)), .val (.int (4 : Int32)), .val .null, .unset] []))
  obtain ⟨T3, X3, e3, st3⟩ := getS2 X1 hx hZ hown (host := "") (Or.inl (hw _ (List.mem_of_getElem? (i := 14) rfl))) Via.refl e1 (Sta.ext OO.2 S_cs) (g := (mkF m 27 #[.val (.ref a), .val (.ref ks), .val (.int (0 : Int32)), .val (.int (4 : Int32)), .val .null, .unset] [])) rfl (hb hby d2_27)
  refine go st3 ?_
  show Go p e below _ (T3.setTop (mkF m 30 #[.val (.ref a), .val (.ref ks), .val (.int (0 : Int32)), .val (.int (4 : Int32)), .val .null, .unset] [(.int cs)]))
  have c30_4 : ¬ (cs = (0 : Int32)) := hcs
  refine go (fun t kt' => by refine XS.ifNo X3.here hx rfl (hb hby d2_30) rfl ((if0 _ _).trans (feq c30_4).1) ?_; exact kt') ?_
  show Go p e below _ (T3.setTop (mkF m 33 #[.val (.ref a), .val (.ref ks), .val (.int (0 : Int32)), .val (.int (4 : Int32)), .val .null, .unset] []))
  refine go (fun t kt' => by refine XS.aloadN X3.here hx rfl (hb hby d2_33) rfl rfl ?_; exact kt') ?_
  show Go p e below _ (T3.setTop (mkF m 34 #[.val (.ref a), .val (.ref ks), .val (.int (0 : Int32)), .val (.int (4 : Int32)), .val .null, .unset] [(.ref ks)]))
  refine go (fun t kt' => by refine XS.iloadN X3.here hx rfl (hb hby d2_34) rfl ?_; exact kt') ?_
  show Go p e below _ (T3.setTop (mkF m 35 #[.val (.ref a), .val (.ref ks), .val (.int (0 : Int32)), .val (.int (4 : Int32)), .val .null, .unset] [(.int (0 : Int32)), (.ref ks)]))
  refine go (fun t kt' => by refine XS.iloadN X3.here hx rfl (hb hby d2_35) rfl ?_; exact kt') ?_
  show Go p e below _ (T3.setTop (mkF m 36 #[.val (.ref a), .val (.ref ks), .val (.int (0 : Int32)), .val (.int (4 : Int32)), .val .null, .unset] [(.int (4 : Int32)), (.int (0 : Int32)), (.ref ks)]))
  obtain ⟨_, _, ⟨T5, L5, k5, n5⟩, -, X5, ⟨Lc5, hQ5, l5, y5, z5⟩, st5⟩ := Jvm.LawKit.callS X3 hx (y := (⟨"java/lang/StringUTF16", "compress", "([CII)[B"⟩ : MethodName)) hown (mvT hZ (hw _ (List.mem_of_getElem? (i := 15) rfl))) (mvT hZ (hw _ (List.mem_of_getElem? (i := 16) rfl))) (mvT hZ (hw _ (List.mem_of_getElem? (i := 17) rfl))) (mvT hZ (hw _ (List.mem_of_getElem? (i := 18) rfl))) (by decide) (backOf (W := 0) (rm_c3 l Z a0 hw [] ks cs fm kd1 kd2 kd3 kd4 fk h0 n0 Z0 HS OO V_ks hr) hZ (hw _ (List.mem_of_getElem? (i := 18) rfl)) (hw _ (List.mem_of_getElem? (i := 17) rfl)) (by decide) (by decide)) (g := (mkF m 36 #[.val (.ref a), .val (.ref ks), .val (.int (0 : Int32)), .val (.int (4 : Int32)), .val .null, .unset] [(.int (4 : Int32)), (.int (0 : Int32)), (.ref ks)])) rfl (by rw [hml]; rfl) (argsL := [(.ref ks), (.int (0 : Int32)), (.int (4 : Int32))]) (rest := []) (lenOf pd_1 rfl) rfl (by show 2 * 0 + _ ≤ _; exact Nat.le_of_eq rfl) (hb hby d2_36) (fun _ _ => ⟨rfl, e3, (by decide : 0 + 1 ≤ _), (by decide : 0 + 4 ≤ _)⟩)
  dsimp only [Pt.U, Pt.locs, Pt.cells, Pt.slots] at X5 l5 y5 z5 st5 hQ5
  rw [l5, y5, z5] at X5
  obtain ⟨r5, rfl, N5q, K5, n0_r5, sq5, V5⟩ := hQ5
  have N5 := Fr.app N0 N5q
  have ne5_a : a ≠ r5 := Nat.ne_of_lt (Nat.lt_of_lt_of_le E_a.lt sq5)
  have ne5_ks : ks ≠ r5 := Nat.ne_of_lt (Nat.lt_of_lt_of_le V_ks.lt sq5)
  have sz_r5 : h0.size ≤ r5 := Nat.le_trans K0.1 sq5
  have f6_Z := Nat.le_trans Z0 K5.1
  have f7_O := OO.keep K5 all0
  have f8_K := K0.trans K5 all0
  have f9_E_a := E_a.keep K5
  have f10_F_a_value := F_value_a.keep K5 nin0
  have f11_F_a_coder := F_coder_a.keep K5 nin0
  have f12_A_ks := V_ks.keep K5 nin0
  refine go st5 ?_
  show Go p e below _ (T5.setTop (mkF m 39 #[.val (.ref a), .val (.ref ks), .val (.int (0 : Int32)), .val (.int (4 : Int32)), .val .null, .unset] [(.ref r5)]))
  refine go (fun t kt' => by refine XS.astore X5.here hx rfl (hb hby d2_39) rfl rfl (l' := #[.val (.ref a), .val (.ref ks), .val (.int (0 : Int32)), .val (.int (4 : Int32)), .val .null, .val (.ref r5)]) rfl ?_; exact kt') ?_
  show Go p e below _ (T5.setTop (mkF m 41 #[.val (.ref a), .val (.ref ks), .val (.int (0 : Int32)), .val (.int (4 : Int32)), .val .null, .val (.ref r5)] []))
  refine go (fun t kt' => by refine XS.aloadN X5.here hx rfl (hb hby d2_41) rfl rfl ?_; exact kt') ?_
  show Go p e below _ (T5.setTop (mkF m 42 #[.val (.ref a), .val (.ref ks), .val (.int (0 : Int32)), .val (.int (4 : Int32)), .val .null, .val (.ref r5)] [(.ref a)]))
  refine go (fun t kt' => by refine XS.aload X5.here hx rfl (hb hby d2_42) rfl rfl ?_; exact kt') ?_
  show Go p e below _ (T5.setTop (mkF m 44 #[.val (.ref a), .val (.ref ks), .val (.int (0 : Int32)), .val (.int (4 : Int32)), .val .null, .val (.ref r5)] [(.ref r5), (.ref a)]))
  refine go (fun t kt' => by refine XS.iloadN X5.here hx rfl (hb hby d2_44) rfl ?_; exact kt') ?_
  show Go p e below _ (T5.setTop (mkF m 45 #[.val (.ref a), .val (.ref ks), .val (.int (0 : Int32)), .val (.int (4 : Int32)), .val .null, .val (.ref r5)] [(.int (4 : Int32)), (.ref r5), (.ref a)]))
  obtain ⟨_, _, ⟨T13, L13, k13, n13⟩, -, X13, ⟨Lc13, hQ13, l13, y13, z13⟩, st13⟩ := Jvm.LawKit.callS X5 hx (y := (⟨"java/lang/StringUTF16", "coderFromArrayLen", "([BI)B"⟩ : MethodName)) hown (mvT hZ (hw _ (List.mem_of_getElem? (i := 23) rfl))) (mvT hZ (hw _ (List.mem_of_getElem? (i := 24) rfl))) (mvT hZ (hw _ (List.mem_of_getElem? (i := 17) rfl))) (mvT hZ (hw _ (List.mem_of_getElem? (i := 25) rfl))) (by decide) (backOf (W := 1) (rm_cl l Z a0 hw [] r5 cs fm kd1 kd2 kd3 kd4 (fun j => (fk j).toInt8.toInt32) T5.heap n0 f6_Z HS f7_O V5) hZ (hw _ (List.mem_of_getElem? (i := 25) rfl)) (hw _ (List.mem_of_getElem? (i := 17) rfl)) (by decide) (by decide)) (g := (mkF m 45 #[.val (.ref a), .val (.ref ks), .val (.int (0 : Int32)), .val (.int (4 : Int32)), .val .null, .val (.ref r5)] [(.int (4 : Int32)), (.ref r5), (.ref a)])) rfl (by rw [hml]; rfl) (argsL := [(.ref r5), (.int (4 : Int32))]) (rest := [(.ref a)]) (lenOf pd_2 rfl) rfl (by show 2 * 0 + _ ≤ _; exact Nat.le_of_eq rfl) (hb hby d2_45) (fun _ _ => ⟨rfl, rfl, (by decide : 1 + 0 ≤ _), (by decide : 4 + 0 ≤ _)⟩)
  dsimp only [Pt.U, Pt.locs, Pt.cells, Pt.slots] at X13 l13 y13 z13 st13 hQ13
  rw [l13, y13, z13] at X13
  obtain ⟨rfl, N13q, e13⟩ := hQ13
  have N13 := Fr.app N5 N13q
  refine go st13 ?_
  show Go p e below _ (T13.setTop (mkF m 48 #[.val (.ref a), .val (.ref ks), .val (.int (0 : Int32)), .val (.int (4 : Int32)), .val .null, .val (.ref r5)] [(.int (0 : Int32)), (.ref a)]))
  obtain ⟨T14, h14, X14, e14, W14, st14⟩ := putFN X13 hx hZ hown (hw _ (List.mem_of_getElem? (i := 26) rfl)) Via.refl e13 f11_F_a_coder f9_E_a (Or.inr ⟨(hw _ (List.mem_of_getElem? (i := 27) rfl)), rfl, hnm⟩) (hw _ (List.mem_of_getElem? (i := 2) rfl)) (ty := .byte) (v' := (.int (nar .byte (0 : Int32)))) (by decide) rfl (fits_nar_byte _) (g := (mkF m 48 #[.val (.ref a), .val (.ref ks), .val (.int (0 : Int32)), .val (.int (4 : Int32)), .val .null, .val (.ref r5)] [(.int (0 : Int32)), (.ref a)])) rfl rfl (hb hby d2_48)
  have N14 := Fr.snoc X14 N13 g_a
  have f15_Z := Nat.le_trans f6_Z (Keep.of_wr W14).1
  have f16_O := f7_O.wr W14 g_a
  have f17_K := f8_K.wr W14 (Or.inl (List.mem_of_getElem? (i := 0) rfl))
  have f18_E_a := f9_E_a.wr W14
  have f19_F_a_value := f10_F_a_value.other W14 (Or.inr (slot_ne (Or.inr (hw _ (List.mem_of_getElem? (i := 29) rfl))) (Or.inr (hw _ (List.mem_of_getElem? (i := 27) rfl))) (by decide) (t := (.array .byte)) (t' := .byte) (by decide) (by decide)))
  have f20_F_a_coder := f11_F_a_coder.same W14
  have f21_A_ks := f12_A_ks.other W14 nka
  have f22_A_r5 := V5.other W14 (Ne.symm ne5_a)
  refine go st14 ?_
  show Go p e below _ (T14.setTop (mkF m 51 #[.val (.ref a), .val (.ref ks), .val (.int (0 : Int32)), .val (.int (4 : Int32)), .val .null, .val (.ref r5)] []))
  refine go (fun t kt' => by refine XS.aloadN X14.here hx rfl (hb hby d2_51) rfl rfl ?_; exact kt') ?_
  show Go p e below _ (T14.setTop (mkF m 52 #[.val (.ref a), .val (.ref ks), .val (.int (0 : Int32)), .val (.int (4 : Int32)), .val .null, .val (.ref r5)] [(.ref a)]))
  refine go (fun t kt' => by refine XS.aload X14.here hx rfl (hb hby d2_52) rfl rfl ?_; exact kt') ?_
  show Go p e below _ (T14.setTop (mkF m 54 #[.val (.ref a), .val (.ref ks), .val (.int (0 : Int32)), .val (.int (4 : Int32)), .val .null, .val (.ref r5)] [(.ref r5), (.ref a)]))
  obtain ⟨T23, h23, X23, e23, W23, st23⟩ := putF X14 hx hZ hown (host := "") (Or.inl (hw _ (List.mem_of_getElem? (i := 28) rfl))) Via.refl e14 f19_F_a_value f18_E_a (Or.inr ⟨(hw _ (List.mem_of_getElem? (i := 29) rfl)), rfl, hnm⟩) (hw _ (List.mem_of_getElem? (i := 2) rfl)) (ty := (.array .byte)) (by decide) rfl rfl (g := (mkF m 54 #[.val (.ref a), .val (.ref ks), .val (.int (0 : Int32)), .val (.int (4 : Int32)), .val .null, .val (.ref r5)] [(.ref r5), (.ref a)])) rfl rfl (hb hby d2_54)
  have N23 := Fr.snoc X23 N14 g_a
  have f24_Z := Nat.le_trans f15_Z (Keep.of_wr W23).1
  have f25_O := f16_O.wr W23 g_a
  have f26_K := f17_K.wr W23 (Or.inl (List.mem_of_getElem? (i := 0) rfl))
  have f27_E_a := f18_E_a.wr W23
  have f28_F_a_value := f19_F_a_value.same W23
  have f29_F_a_coder := f20_F_a_coder.other W23 (Or.inr (slot_ne (Or.inr (hw _ (List.mem_of_getElem? (i := 27) rfl))) (Or.inr (hw _ (List.mem_of_getElem? (i := 29) rfl))) (by decide) (t := .byte) (t' := (.array .byte)) (by decide) (by decide)))
  have f30_A_ks := f21_A_ks.other W23 nka
  have f31_A_r5 := f22_A_r5.other W23 (Ne.symm ne5_a)
  refine go st23 ?_
  show Go p e below _ (T23.setTop (mkF m 57 #[.val (.ref a), .val (.ref ks), .val (.int (0 : Int32)), .val (.int (4 : Int32)), .val .null, .val (.ref r5)] []))
  refine goOut X23 (fun _ => rfl) hlk (fun fs hr => X23.returnOut hx Bd.returns (hb hby d2_57) hr) (by decide) (by decide) ?_
  rw [e23]
  exact ⟨rfl, N23, f26_K, f27_E_a, f29_F_a_coder, r5, f28_F_a_value, f31_A_r5⟩
theorem d1_0 : decode jdk_42_method_3_code 0 = .ok (.aload_n 0, 1) := by decide +kernel
theorem d1_1 : decode jdk_42_method_3_code 1 = .ok (.aload_n 1, 1) := by decide +kernel
theorem d1_2 : decode jdk_42_method_3_code 2 = .ok (.iconst 0, 1) := by decide +kernel
theorem d1_3 : decode jdk_42_method_3_code 3 = .ok (.aload_n 1, 1) := by decide +kernel
theorem d1_4 : decode jdk_42_method_3_code 4 = .ok (.arraylength, 1) := by decide +kernel
theorem d1_5 : decode jdk_42_method_3_code 5 = .ok (.aconst_null, 1) := by decide +kernel
theorem d1_6 : decode jdk_42_method_3_code 6 = .ok (.invokespecial 27, 3) := by decide +kernel
theorem pd_3 : parseMethodDescriptor "([CIILjava/lang/Void;)V" = some ⟨[(.array .char), .int, .int, (.object "java/lang/Void")], none⟩ := by decide +kernel
theorem d1_9 : decode jdk_42_method_3_code 9 = .ok (.return_, 1) := by decide +kernel
theorem ef_rm_s1 (m : MethodId) (x0 : Addr) (x1 : Addr) : entryFrame m #[(.ref x0), (.ref x1)] 2 = mkF m 0 #[.val (.ref x0), .val (.ref x1)] [] := by first | (simp [entryFrame, mkF, argsToLocals, Value.category]; done) | rfl
def Q_s1 (Z : State) (a : Addr) (fk : Nat → Int32) (h0 : Heap) (n0 : Nat) (v : Option Value) (h : Heap) (L : List Loc) : Prop := v = none ∧ Fr n0 L ∧ Keep h0 h [a] ∧ Exa Z h a "java/lang/String" ∧ Fld Z h a "java/lang/String" "coder" "B" (.int (0 : Int32)) ∧ ∃ b : Addr, Fld Z h a "java/lang/String" "value" "[B" (.ref b) ∧ IA Z h b .byte 4 (fun j => (fk j).toInt8.toInt32)
set_option maxRecDepth 65536 in
set_option maxHeartbeats 40000000 in
theorem rm_s1 (l : Launch) (Z : State) (a0 : Array Value) (hw : ∀ d ∈ tables_1, d.before a0 Z = true) (ws : List Jvm.Cond) (a : Addr) (ks : Addr) (cs : Int32) (fm : Value) (kd1 kd2 kd3 kd4 : Addr) (fk : Nat → Int32) (h0 : Heap) (n0 : Nat) (Z0 : n0 ≤ h0.size) (HS : own_sets Z cs fm kd1 kd2 kd3 kd4) (OO : Old Z n0 h0) (E_a : Exa Z h0 a "java/lang/String") (g_a : n0 ≤ a) (F_value_a : Fld Z h0 a "java/lang/String" "value" "[B" .null) (F_coder_a : Fld Z h0 a "java/lang/String" "coder" "B" (.int (0 : Int32))) (V_ks : IA Z h0 ks .char 4 fk) (nka : ks ≠ a) (hr : ∀ j, j < 4 → 0 ≤ (fk j).toInt ∧ (fk j).toInt < 256) :
    MetFree l (⟨"java/lang/String", "<init>", "([C)V"⟩ : MethodName) (head1 (Jvm.Cond.code (⟨"java/lang/String", "<init>", "([C)V"⟩ : MethodName) jdk_42_method_3_code 2 none :: ws) ({ frames := 3, cells := 1, slots := 4, locals := 52 } : Room)) (fun av' U => av' = #[(.ref a), (.ref ks)] ∧ Z.Warmed39 U.vm ∧ U.heap = h0) (fun _ _ _ _ _ => True) (fun _ U o U' => ∃ v L, o = .returned v ∧ Q_s1 Z a fk h0 n0 v U'.heap L ∧ FrameEnd U o U' L ({ frames := 3, cells := 1, slots := 4, locals := 52 } : Room).cells ({ frames := 3, cells := 1, slots := 4, locals := 52 } : Room).slots) := by
  refine MetFree.of_bodySF (plainFor_of_name pn_java_lang_String) hisR ?_
  intro p e s m args below meth c s₁ Bd hml0 hP hK
  obtain ⟨rfl, hZ, hh⟩ := hP
  have hx := Bd.exec
  have hby := Bd.bytes
  have hlk := Bd.notSynchronized
  have hml : c.maxLocals = 2 := hml0
  have hown : s.vm.findClass "java/lang/String" = some m.cls := findClass_of_methodNamed Bd.named
  have hnm := (name_of_methodNamed Bd.named Bd.method).1
  have X0 : Stand p l e ({ frames := 3, cells := 1, slots := 4, locals := 52 } : Room) s m #[(.ref a), (.ref ks)] below meth c s₁ [] 0 0 := Stand.of_body Bd
  have e0 : s₁.heap = h0 := by rw [← hh, Bd.state]; rfl
  have N0 := Fr.nil n0
  show Go p e below (Kq s (Q_s1 Z a fk h0 n0) ({ frames := 3, cells := 1, slots := 4, locals := 52 } : Room).cells ({ frames := 3, cells := 1, slots := 4, locals := 52 } : Room).slots) _
  refine go (fun t kt => castTop (ef_rm_s1 m a ks) kt) ?_
  have HS0 := HS
  obtain ⟨S_cs, hcs, S_fm, hfm, S_k1, S_k2, S_k3, S_k4⟩ := HS0
  have K0 := Keep.refl h0 [a]
  show Go p e below _ (s₁.setTop (mkF m 0 #[.val (.ref a), .val (.ref ks)] []))
  refine go (fun t kt' => by refine XS.aloadN X0.here hx rfl (hb hby d1_0) rfl rfl ?_; exact kt') ?_
  show Go p e below _ (s₁.setTop (mkF m 1 #[.val (.ref a), .val (.ref ks)] [(.ref a)]))
  refine go (fun t kt' => by refine XS.aloadN X0.here hx rfl (hb hby d1_1) rfl rfl ?_; exact kt') ?_
  show Go p e below _ (s₁.setTop (mkF m 2 #[.val (.ref a), .val (.ref ks)] [(.ref ks), (.ref a)]))
  refine go (fun t kt' => by refine XS.iconst X0.here hx rfl (hb hby d1_2) ?_; exact kt') ?_
  show Go p e below _ (s₁.setTop (mkF m 3 #[.val (.ref a), .val (.ref ks)] [(.int (0 : Int32)), (.ref ks), (.ref a)]))
  refine go (fun t kt' => by refine XS.aloadN X0.here hx rfl (hb hby d1_3) rfl rfl ?_; exact kt') ?_
  show Go p e below _ (s₁.setTop (mkF m 4 #[.val (.ref a), .val (.ref ks)] [(.ref ks), (.int (0 : Int32)), (.ref ks), (.ref a)]))
  refine go (fun t kt' => by refine lenIA X0 hx hZ e0 V_ks (g := (mkF m 4 #[.val (.ref a), .val (.ref ks)] [(.ref ks), (.int (0 : Int32)), (.ref ks), (.ref a)])) rfl rfl (hb hby d1_4) t ?_; exact kt') ?_
  show Go p e below _ (s₁.setTop (mkF m 5 #[.val (.ref a), .val (.ref ks)] [(.int (4 : Int32)), (.int (0 : Int32)), (.ref ks), (.ref a)]))
  refine go (fun t kt' => by refine XS.aconstNull X0.here hx rfl (hb hby d1_5) ?_; exact kt') ?_
  show Go p e below _ (s₁.setTop (mkF m 6 #[.val (.ref a), .val (.ref ks)] [.null, (.int (4 : Int32)), (.int (0 : Int32)), (.ref ks), (.ref a)]))
  obtain ⟨_, _, ⟨T1, L1, k1, n1⟩, -, X1, ⟨Lc1, hQ1, l1, y1, z1⟩, st1⟩ := X0.specialBack hx (y := (⟨"java/lang/String", "<init>", "([CIILjava/lang/Void;)V"⟩ : MethodName)) rfl hown (mvT hZ (hw _ (List.mem_of_getElem? (i := 7) rfl))) (mvT hZ (hw _ (List.mem_of_getElem? (i := 8) rfl))) (mvT hZ (hw _ (List.mem_of_getElem? (i := 10) rfl))) (by decide) (backOf (W := 0) (rm_s4 l Z a0 hw [] a ks cs fm kd1 kd2 kd3 kd4 fk h0 n0 Z0 HS OO E_a g_a F_value_a F_coder_a V_ks nka hr) hZ (hw _ (List.mem_of_getElem? (i := 10) rfl)) (hw _ (List.mem_of_getElem? (i := 3) rfl)) (by decide) (by decide)) (g := (mkF m 6 #[.val (.ref a), .val (.ref ks)] [.null, (.int (4 : Int32)), (.int (0 : Int32)), (.ref ks), (.ref a)])) rfl (by rw [hml]; rfl) (Steps.refl _) (a := a) (argsL := [(.ref ks), (.int (0 : Int32)), (.int (4 : Int32)), .null]) (rest := []) (lenOf pd_3 rfl) rfl (by show 2 * 0 + _ ≤ _; exact Nat.le_of_eq rfl) (hb hby d1_6) (fun _ _ => ⟨rfl, e0, (by decide : 0 + 1 ≤ _), (by decide : 0 + 4 ≤ _)⟩)
  dsimp only [Pt.U, Pt.locs, Pt.cells, Pt.slots] at X1 l1 y1 z1 st1 hQ1
  rw [l1, y1, z1] at X1
  obtain ⟨rfl, N1q, K1, E1_, FC1, r1, FV1, VB1⟩ := hQ1
  have N1 := Fr.app N0 N1q
  have f2_Z := Nat.le_trans Z0 K1.1
  have f3_O := OO.keep K1 (allS g_a all0)
  have f4_K := K0.trans K1 (allS (Or.inl (List.mem_of_getElem? (i := 0) rfl)) all0)
  have f5_A_ks := V_ks.keep K1 (ninS nka nin0)
  refine go (fun t kt => st1.trans kt) ?_
  show Go p e below _ (T1.setTop (mkF m 9 #[.val (.ref a), .val (.ref ks)] []))
  refine goOut X1 (fun _ => rfl) hlk (fun fs hr => X1.returnOut hx Bd.returns (hb hby d1_9) hr) (by decide) (by decide) ?_
  exact ⟨rfl, N1, f4_K, E1_, FC1, r1, FV1, VB1⟩
theorem d7_0 : decode jdk_29_method_69_code 0 = .ok (.iload_n 0, 1) := by decide +kernel
theorem d7_1 : decode jdk_29_method_69_code 1 = .ok (.iload_n 1, 1) := by decide +kernel
theorem d7_2 : decode jdk_29_method_69_code 2 = .ok (.if_icmp .gt 7, 3) := by decide +kernel
theorem d7_9 : decode jdk_29_method_69_code 9 = .ok (.iload_n 1, 1) := by decide +kernel
theorem d7_10 : decode jdk_29_method_69_code 10 = .ok (.ireturn, 1) := by decide +kernel
theorem d7_5 : decode jdk_29_method_69_code 5 = .ok (.iload_n 0, 1) := by decide +kernel
theorem d7_6 : decode jdk_29_method_69_code 6 = .ok (.goto 4, 3) := by decide +kernel
theorem ef_rm7 (m : MethodId) (x0 : Int32) (x1 : Int32) : entryFrame m #[(.int x0), (.int x1)] 2 = mkF m 0 #[.val (.int x0), .val (.int x1)] [] := by first | (simp [entryFrame, mkF, argsToLocals, Value.category]; done) | rfl
def Q7 (Z : State) (p0 : Int32) (p1 : Int32) (h0 : Heap) (n0 : Nat) (v : Option Value) (h : Heap) (L : List Loc) : Prop := v = some (.int (own_min p0 p1)) ∧ Fr n0 L ∧ h = h0
set_option maxRecDepth 65536 in
set_option maxHeartbeats 40000000 in
theorem rm7 (l : Launch) (Z : State) (a0 : Array Value) (hw : ∀ d ∈ tables_1, d.before a0 Z = true) (ws : List Jvm.Cond) (p0 : Int32) (p1 : Int32)  (h0 : Heap) (n0 : Nat) (Z0 : n0 ≤ h0.size)  :
    MetFree l (⟨"java/lang/Math", "min", "(II)I"⟩ : MethodName) (head1 (Jvm.Cond.code (⟨"java/lang/Math", "min", "(II)I"⟩ : MethodName) jdk_29_method_69_code 2 (some .int) :: ws) ({ frames := 0, cells := 0, slots := 0, locals := 0 } : Room)) (fun av' U => av' = #[(.int p0), (.int p1)] ∧ Z.Warmed39 U.vm ∧ U.heap = h0) (fun _ _ _ _ _ => True) (fun _ U o U' => ∃ v L, o = .returned v ∧ Q7 Z p0 p1 h0 n0 v U'.heap L ∧ FrameEnd U o U' L ({ frames := 0, cells := 0, slots := 0, locals := 0 } : Room).cells ({ frames := 0, cells := 0, slots := 0, locals := 0 } : Room).slots) := by
  refine MetFree.of_bodySF (Jvm.Free.JP.mathPlain rfl (by decide +kernel)) hisR ?_
  intro p e s m args below meth c s₁ Bd hml0 hP hK
  obtain ⟨rfl, hZ, hh⟩ := hP
  have hx := Bd.exec
  have hby := Bd.bytes
  have hlk := Bd.notSynchronized
  have hml : c.maxLocals = 2 := hml0
  have hown : s.vm.findClass "java/lang/Math" = some m.cls := findClass_of_methodNamed Bd.named
  have hnm := (name_of_methodNamed Bd.named Bd.method).1
  have X0 : Stand p l e ({ frames := 0, cells := 0, slots := 0, locals := 0 } : Room) s m #[(.int p0), (.int p1)] below meth c s₁ [] 0 0 := Stand.of_body Bd
  have e0 : s₁.heap = h0 := by rw [← hh, Bd.state]; rfl
  have N0 := Fr.nil n0
  show Go p e below (Kq s (Q7 Z p0 p1 h0 n0) ({ frames := 0, cells := 0, slots := 0, locals := 0 } : Room).cells ({ frames := 0, cells := 0, slots := 0, locals := 0 } : Room).slots) _
  refine go (fun t kt => castTop (ef_rm7 m p0 p1) kt) ?_
  show Go p e below _ (s₁.setTop (mkF m 0 #[.val (.int p0), .val (.int p1)] []))
  refine go (fun t kt' => by refine XS.iloadN X0.here hx rfl (hb hby d7_0) rfl ?_; exact kt') ?_
  show Go p e below _ (s₁.setTop (mkF m 1 #[.val (.int p0), .val (.int p1)] [(.int p0)]))
  refine go (fun t kt' => by refine XS.iloadN X0.here hx rfl (hb hby d7_1) rfl ?_; exact kt') ?_
  show Go p e below _ (s₁.setTop (mkF m 2 #[.val (.int p0), .val (.int p1)] [(.int p1), (.int p0)]))
  by_cases c2_1 : p1 < p0
  · skip
    refine go (fun t kt' => by refine XS.icmpYes X0.here hx rfl (pc0 := 2) (pc' := 9) rfl (hb hby d7_2) rfl (tlt c2_1).2.2.1 (by decide) (by decide) ?_; exact kt') ?_
    show Go p e below _ (s₁.setTop (mkF m 9 #[.val (.int p0), .val (.int p1)] []))
    refine go (fun t kt' => by refine XS.iloadN X0.here hx rfl (hb hby d7_9) rfl ?_; exact kt') ?_
    show Go p e below _ (s₁.setTop (mkF m 10 #[.val (.int p0), .val (.int p1)] [(.int p1)]))
    refine goOut X0 (fun h => by rw [Bd.returns] at h; cases h) hlk (fun fs hr => retOut X0 hx Bd.returns rfl (Or.inl ⟨rfl, Or.inl rfl, _, rfl⟩) (hb hby d7_10) hr) (by decide) (by decide) ?_
    rw [e0]
    exact ⟨by simp [own_min, c2_1, nar], N0, rfl⟩
  · skip
    refine go (fun t kt' => by refine XS.icmpNo X0.here hx rfl (hb hby d7_2) rfl (flt c2_1).2.2.1 ?_; exact kt') ?_
    show Go p e below _ (s₁.setTop (mkF m 5 #[.val (.int p0), .val (.int p1)] []))
    refine go (fun t kt' => by refine XS.iloadN X0.here hx rfl (hb hby d7_5) rfl ?_; exact kt') ?_
    show Go p e below _ (s₁.setTop (mkF m 6 #[.val (.int p0), .val (.int p1)] [(.int p0)]))
    refine go (fun t kt' => by refine XS.goto X0.here hx rfl (pc0 := 6) (pc' := 10) rfl (hb hby d7_6) (by decide) (by decide) ?_; exact kt') ?_
    show Go p e below _ (s₁.setTop (mkF m 10 #[.val (.int p0), .val (.int p1)] [(.int p0)]))
    refine goOut X0 (fun h => by rw [Bd.returns] at h; cases h) hlk (fun fs hr => retOut X0 hx Bd.returns rfl (Or.inl ⟨rfl, Or.inl rfl, _, rfl⟩) (hb hby d7_10) hr) (by decide) (by decide) ?_
    rw [e0]
    exact ⟨by simp [own_min, c2_1, nar], N0, rfl⟩
theorem d8_0 : decode jdk_29_method_65_code 0 = .ok (.iload_n 0, 1) := by decide +kernel
theorem d8_1 : decode jdk_29_method_65_code 1 = .ok (.iload_n 1, 1) := by decide +kernel
theorem d8_2 : decode jdk_29_method_65_code 2 = .ok (.if_icmp .lt 7, 3) := by decide +kernel
theorem d8_9 : decode jdk_29_method_65_code 9 = .ok (.iload_n 1, 1) := by decide +kernel
theorem d8_10 : decode jdk_29_method_65_code 10 = .ok (.ireturn, 1) := by decide +kernel
theorem d8_5 : decode jdk_29_method_65_code 5 = .ok (.iload_n 0, 1) := by decide +kernel
theorem d8_6 : decode jdk_29_method_65_code 6 = .ok (.goto 4, 3) := by decide +kernel
theorem ef_rm8 (m : MethodId) (x0 : Int32) (x1 : Int32) : entryFrame m #[(.int x0), (.int x1)] 2 = mkF m 0 #[.val (.int x0), .val (.int x1)] [] := by first | (simp [entryFrame, mkF, argsToLocals, Value.category]; done) | rfl
def Q8 (Z : State) (p0 : Int32) (p1 : Int32) (h0 : Heap) (n0 : Nat) (v : Option Value) (h : Heap) (L : List Loc) : Prop := v = some (.int (own_max p0 p1)) ∧ Fr n0 L ∧ h = h0
set_option maxRecDepth 65536 in
set_option maxHeartbeats 40000000 in
theorem rm8 (l : Launch) (Z : State) (a0 : Array Value) (hw : ∀ d ∈ tables_1, d.before a0 Z = true) (ws : List Jvm.Cond) (p0 : Int32) (p1 : Int32)  (h0 : Heap) (n0 : Nat) (Z0 : n0 ≤ h0.size)  :
    MetFree l (⟨"java/lang/Math", "max", "(II)I"⟩ : MethodName) (head1 (Jvm.Cond.code (⟨"java/lang/Math", "max", "(II)I"⟩ : MethodName) jdk_29_method_65_code 2 (some .int) :: ws) ({ frames := 0, cells := 0, slots := 0, locals := 0 } : Room)) (fun av' U => av' = #[(.int p0), (.int p1)] ∧ Z.Warmed39 U.vm ∧ U.heap = h0) (fun _ _ _ _ _ => True) (fun _ U o U' => ∃ v L, o = .returned v ∧ Q8 Z p0 p1 h0 n0 v U'.heap L ∧ FrameEnd U o U' L ({ frames := 0, cells := 0, slots := 0, locals := 0 } : Room).cells ({ frames := 0, cells := 0, slots := 0, locals := 0 } : Room).slots) := by
  refine MetFree.of_bodySF (Jvm.Free.JP.mathPlain rfl (by decide +kernel)) hisR ?_
  intro p e s m args below meth c s₁ Bd hml0 hP hK
  obtain ⟨rfl, hZ, hh⟩ := hP
  have hx := Bd.exec
  have hby := Bd.bytes
  have hlk := Bd.notSynchronized
  have hml : c.maxLocals = 2 := hml0
  have hown : s.vm.findClass "java/lang/Math" = some m.cls := findClass_of_methodNamed Bd.named
  have hnm := (name_of_methodNamed Bd.named Bd.method).1
  have X0 : Stand p l e ({ frames := 0, cells := 0, slots := 0, locals := 0 } : Room) s m #[(.int p0), (.int p1)] below meth c s₁ [] 0 0 := Stand.of_body Bd
  have e0 : s₁.heap = h0 := by rw [← hh, Bd.state]; rfl
  have N0 := Fr.nil n0
  show Go p e below (Kq s (Q8 Z p0 p1 h0 n0) ({ frames := 0, cells := 0, slots := 0, locals := 0 } : Room).cells ({ frames := 0, cells := 0, slots := 0, locals := 0 } : Room).slots) _
  refine go (fun t kt => castTop (ef_rm8 m p0 p1) kt) ?_
  show Go p e below _ (s₁.setTop (mkF m 0 #[.val (.int p0), .val (.int p1)] []))
  refine go (fun t kt' => by refine XS.iloadN X0.here hx rfl (hb hby d8_0) rfl ?_; exact kt') ?_
  show Go p e below _ (s₁.setTop (mkF m 1 #[.val (.int p0), .val (.int p1)] [(.int p0)]))
  refine go (fun t kt' => by refine XS.iloadN X0.here hx rfl (hb hby d8_1) rfl ?_; exact kt') ?_
  show Go p e below _ (s₁.setTop (mkF m 2 #[.val (.int p0), .val (.int p1)] [(.int p1), (.int p0)]))
  by_cases c2_1 : p0 < p1
  · skip
    refine go (fun t kt' => by refine XS.icmpYes X0.here hx rfl (pc0 := 2) (pc' := 9) rfl (hb hby d8_2) rfl (tlt c2_1).1 (by decide) (by decide) ?_; exact kt') ?_
    show Go p e below _ (s₁.setTop (mkF m 9 #[.val (.int p0), .val (.int p1)] []))
    refine go (fun t kt' => by refine XS.iloadN X0.here hx rfl (hb hby d8_9) rfl ?_; exact kt') ?_
    show Go p e below _ (s₁.setTop (mkF m 10 #[.val (.int p0), .val (.int p1)] [(.int p1)]))
    refine goOut X0 (fun h => by rw [Bd.returns] at h; cases h) hlk (fun fs hr => retOut X0 hx Bd.returns rfl (Or.inl ⟨rfl, Or.inl rfl, _, rfl⟩) (hb hby d8_10) hr) (by decide) (by decide) ?_
    rw [e0]
    exact ⟨by simp [own_max, c2_1, nar], N0, rfl⟩
  · skip
    refine go (fun t kt' => by refine XS.icmpNo X0.here hx rfl (hb hby d8_2) rfl (flt c2_1).1 ?_; exact kt') ?_
    show Go p e below _ (s₁.setTop (mkF m 5 #[.val (.int p0), .val (.int p1)] []))
    refine go (fun t kt' => by refine XS.iloadN X0.here hx rfl (hb hby d8_5) rfl ?_; exact kt') ?_
    show Go p e below _ (s₁.setTop (mkF m 6 #[.val (.int p0), .val (.int p1)] [(.int p0)]))
    refine go (fun t kt' => by refine XS.goto X0.here hx rfl (pc0 := 6) (pc' := 10) rfl (hb hby d8_6) (by decide) (by decide) ?_; exact kt') ?_
    show Go p e below _ (s₁.setTop (mkF m 10 #[.val (.int p0), .val (.int p1)] [(.int p0)]))
    refine goOut X0 (fun h => by rw [Bd.returns] at h; cases h) hlk (fun fs hr => retOut X0 hx Bd.returns rfl (Or.inl ⟨rfl, Or.inl rfl, _, rfl⟩) (hb hby d8_10) hr) (by decide) (by decide) ?_
    rw [e0]
    exact ⟨by simp [own_max, c2_1, nar], N0, rfl⟩
theorem d9_0 : decode method_2_code 0 = .ok (.iload_n 0, 1) := by decide +kernel
theorem d9_1 : decode method_2_code 1 = .ok (.iconst 3, 1) := by decide +kernel
theorem d9_2 : decode method_2_code 2 = .ok (.iand, 1) := by decide +kernel
theorem d9_3 : decode method_2_code 3 = .ok (.istore_n 1, 1) := by decide +kernel
theorem d9_4 : decode method_2_code 4 = .ok (.iload_n 1, 1) := by decide +kernel
theorem d9_5 : decode method_2_code 5 = .ok (.ifCond .ne 9, 3) := by decide +kernel
theorem d9_14 : decode method_2_code 14 = .ok (.iload_n 1, 1) := by decide +kernel
theorem d9_15 : decode method_2_code 15 = .ok (.iconst 1, 1) := by decide +kernel
theorem d9_16 : decode method_2_code 16 = .ok (.if_icmp .ne 9, 3) := by decide +kernel
theorem d9_25 : decode method_2_code 25 = .ok (.iload_n 1, 1) := by decide +kernel
theorem d9_26 : decode method_2_code 26 = .ok (.iconst 2, 1) := by decide +kernel
theorem d9_27 : decode method_2_code 27 = .ok (.if_icmp .ne 9, 3) := by decide +kernel
theorem d9_36 : decode method_2_code 36 = .ok (.getstatic 19, 3) := by decide +kernel
theorem d9_39 : decode method_2_code 39 = .ok (.areturn, 1) := by decide +kernel
theorem d9_30 : decode method_2_code 30 = .ok (.getstatic 16, 3) := by decide +kernel
theorem d9_33 : decode method_2_code 33 = .ok (.goto 6, 3) := by decide +kernel
theorem d9_19 : decode method_2_code 19 = .ok (.getstatic 13, 3) := by decide +kernel
theorem d9_22 : decode method_2_code 22 = .ok (.goto 17, 3) := by decide +kernel
theorem d9_8 : decode method_2_code 8 = .ok (.getstatic 7, 3) := by decide +kernel
theorem d9_11 : decode method_2_code 11 = .ok (.goto 28, 3) := by decide +kernel
theorem pn_com_example_backfill_backfill_postgres_TokenTextPinLaw : plainName "com/example/backfill/backfill/postgres/TokenTextPinLaw" = true := by first | (simp [plainName, overriddenIn]; done) | decide +kernel
theorem ef_rm_ko (m : MethodId) (x0 : Int32) : entryFrame m #[(.int x0)] 2 = mkF m 0 #[.val (.int x0), .unset] [] := by first | (simp [entryFrame, mkF, argsToLocals, Value.category]; done) | rfl
def Q_ko (Z : State)  (h0 : Heap) (n0 : Nat) (v : Option Value) (h : Heap) (L : List Loc) : Prop := ∃ r : Addr, v = some (.ref r) ∧ Fr n0 L ∧ h = h0
set_option maxRecDepth 65536 in
set_option maxHeartbeats 40000000 in
theorem rm_ko (l : Launch) (Z : State) (a0 : Array Value) (hw : ∀ d ∈ tables_1, d.before a0 Z = true) (ws : List Jvm.Cond) (p0 : Int32) (cs : Int32) (fm : Value) (kd1 kd2 kd3 kd4 : Addr)  (h0 : Heap) (n0 : Nat) (Z0 : n0 ≤ h0.size) (HS : own_sets Z cs fm kd1 kd2 kd3 kd4) (OO : Old Z n0 h0)  :
    MetFree l (⟨"com/example/backfill/backfill/postgres/TokenTextPinLaw", "kindOf", "(I)Lcom/example/backfill/backfill/postgres/SqlLexer$Kind;"⟩ : MethodName) (head1 (Jvm.Cond.code (⟨"com/example/backfill/backfill/postgres/TokenTextPinLaw", "kindOf", "(I)Lcom/example/backfill/backfill/postgres/SqlLexer$Kind;"⟩ : MethodName) method_2_code 2 (some (.object "com/example/backfill/backfill/postgres/SqlLexer$Kind")) :: ws) ({ frames := 0, cells := 0, slots := 0, locals := 0 } : Room)) (fun av' U => av' = #[(.int p0)] ∧ Z.Warmed39 U.vm ∧ U.heap = h0) (fun _ _ _ _ _ => True) (fun _ U o U' => ∃ v L, o = .returned v ∧ Q_ko Z  h0 n0 v U'.heap L ∧ FrameEnd U o U' L ({ frames := 0, cells := 0, slots := 0, locals := 0 } : Room).cells ({ frames := 0, cells := 0, slots := 0, locals := 0 } : Room).slots) := by
  refine MetFree.of_bodySF (plainFor_of_name pn_com_example_backfill_backfill_postgres_TokenTextPinLaw) hisR ?_
  intro p e s m args below meth c s₁ Bd hml0 hP hK
  obtain ⟨rfl, hZ, hh⟩ := hP
  have hx := Bd.exec
  have hby := Bd.bytes
  have hlk := Bd.notSynchronized
  have hml : c.maxLocals = 2 := hml0
  have hown : s.vm.findClass "com/example/backfill/backfill/postgres/TokenTextPinLaw" = some m.cls := findClass_of_methodNamed Bd.named
  have hnm := (name_of_methodNamed Bd.named Bd.method).1
  have X0 : Stand p l e ({ frames := 0, cells := 0, slots := 0, locals := 0 } : Room) s m #[(.int p0)] below meth c s₁ [] 0 0 := Stand.of_body Bd
  have e0 : s₁.heap = h0 := by rw [← hh, Bd.state]; rfl
  have N0 := Fr.nil n0
  show Go p e below (Kq s (Q_ko Z  h0 n0) ({ frames := 0, cells := 0, slots := 0, locals := 0 } : Room).cells ({ frames := 0, cells := 0, slots := 0, locals := 0 } : Room).slots) _
  refine go (fun t kt => castTop (ef_rm_ko m p0) kt) ?_
  have HS0 := HS
  obtain ⟨S_cs, hcs, S_fm, hfm, S_k1, S_k2, S_k3, S_k4⟩ := HS0
  show Go p e below _ (s₁.setTop (mkF m 0 #[.val (.int p0), .unset] []))
  refine go (fun t kt' => by refine XS.iloadN X0.here hx rfl (hb hby d9_0) rfl ?_; exact kt') ?_
  show Go p e below _ (s₁.setTop (mkF m 1 #[.val (.int p0), .unset] [(.int p0)]))
  refine go (fun t kt' => by refine XS.iconst X0.here hx rfl (hb hby d9_1) ?_; exact kt') ?_
  show Go p e below _ (s₁.setTop (mkF m 2 #[.val (.int p0), .unset] [(.int (3 : Int32)), (.int p0)]))
  refine go (fun t kt' => by refine XS.iand X0.here hx rfl (hb hby d9_2) rfl ?_; exact kt') ?_
  show Go p e below _ (s₁.setTop (mkF m 3 #[.val (.int p0), .unset] [(.int (p0 &&& (3 : Int32)))]))
  refine go (fun t kt' => by refine XS.istoreN X0.here hx rfl (hb hby d9_3) rfl (l' := #[.val (.int p0), .val (.int (p0 &&& (3 : Int32)))]) rfl ?_; exact kt') ?_
  show Go p e below _ (s₁.setTop (mkF m 4 #[.val (.int p0), .val (.int (p0 &&& (3 : Int32)))] []))
  refine go (fun t kt' => by refine XS.iloadN X0.here hx rfl (hb hby d9_4) rfl ?_; exact kt') ?_
  show Go p e below _ (s₁.setTop (mkF m 5 #[.val (.int p0), .val (.int (p0 &&& (3 : Int32)))] [(.int (p0 &&& (3 : Int32)))]))
  by_cases c5_1 : ¬ (p0 &&& (3 : Int32)) = (0 : Int32)
  · skip
    refine go (fun t kt' => by refine XS.ifYes X0.here hx rfl (pc0 := 5) (pc' := 14) rfl (hb hby d9_5) rfl ((if0 _ _).trans (feq c5_1).2) (by decide) (by decide) ?_; exact kt') ?_
    show Go p e below _ (s₁.setTop (mkF m 14 #[.val (.int p0), .val (.int (p0 &&& (3 : Int32)))] []))
    refine go (fun t kt' => by refine XS.iloadN X0.here hx rfl (hb hby d9_14) rfl ?_; exact kt') ?_
    show Go p e below _ (s₁.setTop (mkF m 15 #[.val (.int p0), .val (.int (p0 &&& (3 : Int32)))] [(.int (p0 &&& (3 : Int32)))]))
    refine go (fun t kt' => by refine XS.iconst X0.here hx rfl (hb hby d9_15) ?_; exact kt') ?_
    show Go p e below _ (s₁.setTop (mkF m 16 #[.val (.int p0), .val (.int (p0 &&& (3 : Int32)))] [(.int (1 : Int32)), (.int (p0 &&& (3 : Int32)))]))
    by_cases c16_2 : ¬ (p0 &&& (3 : Int32)) = (1 : Int32)
    · skip
      refine go (fun t kt' => by refine XS.icmpYes X0.here hx rfl (pc0 := 16) (pc' := 25) rfl (hb hby d9_16) rfl (feq c16_2).2 (by decide) (by decide) ?_; exact kt') ?_
      show Go p e below _ (s₁.setTop (mkF m 25 #[.val (.int p0), .val (.int (p0 &&& (3 : Int32)))] []))
      refine go (fun t kt' => by refine XS.iloadN X0.here hx rfl (hb hby d9_25) rfl ?_; exact kt') ?_
      show Go p e below _ (s₁.setTop (mkF m 26 #[.val (.int p0), .val (.int (p0 &&& (3 : Int32)))] [(.int (p0 &&& (3 : Int32)))]))
      refine go (fun t kt' => by refine XS.iconst X0.here hx rfl (hb hby d9_26) ?_; exact kt') ?_
      show Go p e below _ (s₁.setTop (mkF m 27 #[.val (.int p0), .val (.int (p0 &&& (3 : Int32)))] [(.int (2 : Int32)), (.int (p0 &&& (3 : Int32)))]))
      by_cases c27_3 : ¬ (p0 &&& (3 : Int32)) = (2 : Int32)
      · skip
        refine go (fun t kt' => by refine XS.icmpYes X0.here hx rfl (pc0 := 27) (pc' := 36) rfl (hb hby d9_27) rfl (feq c27_3).2 (by decide) (by decide) ?_; exact kt') ?_
        show Go p e below _ (s₁.setTop (mkF m 36 #[.val (.int p0), .val (.int (p0 &&& (3 : Int32)))] []))
        obtain ⟨T4, X4, e4, st4⟩ := getS2 X0 hx hZ hown (host := "") (Or.inl (hw _ (List.mem_of_getElem? (i := 143) rfl))) Via.refl e0 (Sta.ext OO.2 S_k4) (g := (mkF m 36 #[.val (.int p0), .val (.int (p0 &&& (3 : Int32)))] [])) rfl (hb hby d9_36)
        refine go st4 ?_
        show Go p e below _ (T4.setTop (mkF m 39 #[.val (.int p0), .val (.int (p0 &&& (3 : Int32)))] [(.ref kd4)]))
        refine goOut X4 (fun h => by rw [Bd.returns] at h; cases h) hlk (fun fs hr => retOut X4 hx Bd.returns rfl (Or.inr (Or.inr (Or.inr (Or.inr ⟨rfl, rfl, rfl⟩)))) (hb hby d9_39) hr) (by decide) (by decide) ?_
        rw [e4]
        exact ⟨_, rfl, N0, rfl⟩
      · skip
        refine go (fun t kt' => by refine XS.icmpNo X0.here hx rfl (hb hby d9_27) rfl (teq (Decidable.not_not.mp c27_3)).2 ?_; exact kt') ?_
        show Go p e below _ (s₁.setTop (mkF m 30 #[.val (.int p0), .val (.int (p0 &&& (3 : Int32)))] []))
        obtain ⟨T5, X5, e5, st5⟩ := getS2 X0 hx hZ hown (host := "") (Or.inl (hw _ (List.mem_of_getElem? (i := 136) rfl))) Via.refl e0 (Sta.ext OO.2 S_k3) (g := (mkF m 30 #[.val (.int p0), .val (.int (p0 &&& (3 : Int32)))] [])) rfl (hb hby d9_30)
        refine go st5 ?_
        show Go p e below _ (T5.setTop (mkF m 33 #[.val (.int p0), .val (.int (p0 &&& (3 : Int32)))] [(.ref kd3)]))
        refine go (fun t kt' => by refine XS.goto X5.here hx rfl (pc0 := 33) (pc' := 39) rfl (hb hby d9_33) (by decide) (by decide) ?_; exact kt') ?_
        show Go p e below _ (T5.setTop (mkF m 39 #[.val (.int p0), .val (.int (p0 &&& (3 : Int32)))] [(.ref kd3)]))
        refine goOut X5 (fun h => by rw [Bd.returns] at h; cases h) hlk (fun fs hr => retOut X5 hx Bd.returns rfl (Or.inr (Or.inr (Or.inr (Or.inr ⟨rfl, rfl, rfl⟩)))) (hb hby d9_39) hr) (by decide) (by decide) ?_
        rw [e5]
        exact ⟨_, rfl, N0, rfl⟩
    · skip
      refine go (fun t kt' => by refine XS.icmpNo X0.here hx rfl (hb hby d9_16) rfl (teq (Decidable.not_not.mp c16_2)).2 ?_; exact kt') ?_
      show Go p e below _ (s₁.setTop (mkF m 19 #[.val (.int p0), .val (.int (p0 &&& (3 : Int32)))] []))
      obtain ⟨T6, X6, e6, st6⟩ := getS2 X0 hx hZ hown (host := "") (Or.inl (hw _ (List.mem_of_getElem? (i := 45) rfl))) Via.refl e0 (Sta.ext OO.2 S_k2) (g := (mkF m 19 #[.val (.int p0), .val (.int (p0 &&& (3 : Int32)))] [])) rfl (hb hby d9_19)
      refine go st6 ?_
      show Go p e below _ (T6.setTop (mkF m 22 #[.val (.int p0), .val (.int (p0 &&& (3 : Int32)))] [(.ref kd2)]))
      refine go (fun t kt' => by refine XS.goto X6.here hx rfl (pc0 := 22) (pc' := 39) rfl (hb hby d9_22) (by decide) (by decide) ?_; exact kt') ?_
      show Go p e below _ (T6.setTop (mkF m 39 #[.val (.int p0), .val (.int (p0 &&& (3 : Int32)))] [(.ref kd2)]))
      refine goOut X6 (fun h => by rw [Bd.returns] at h; cases h) hlk (fun fs hr => retOut X6 hx Bd.returns rfl (Or.inr (Or.inr (Or.inr (Or.inr ⟨rfl, rfl, rfl⟩)))) (hb hby d9_39) hr) (by decide) (by decide) ?_
      rw [e6]
      exact ⟨_, rfl, N0, rfl⟩
  · skip
    refine go (fun t kt' => by refine XS.ifNo X0.here hx rfl (hb hby d9_5) rfl ((if0 _ _).trans (teq (Decidable.not_not.mp c5_1)).2) ?_; exact kt') ?_
    show Go p e below _ (s₁.setTop (mkF m 8 #[.val (.int p0), .val (.int (p0 &&& (3 : Int32)))] []))
    obtain ⟨T7, X7, e7, st7⟩ := getS2 X0 hx hZ hown (host := "") (Or.inl (hw _ (List.mem_of_getElem? (i := 138) rfl))) Via.refl e0 (Sta.ext OO.2 S_k1) (g := (mkF m 8 #[.val (.int p0), .val (.int (p0 &&& (3 : Int32)))] [])) rfl (hb hby d9_8)
    refine go st7 ?_
    show Go p e below _ (T7.setTop (mkF m 11 #[.val (.int p0), .val (.int (p0 &&& (3 : Int32)))] [(.ref kd1)]))
    refine go (fun t kt' => by refine XS.goto X7.here hx rfl (pc0 := 11) (pc' := 39) rfl (hb hby d9_11) (by decide) (by decide) ?_; exact kt') ?_
    show Go p e below _ (T7.setTop (mkF m 39 #[.val (.int p0), .val (.int (p0 &&& (3 : Int32)))] [(.ref kd1)]))
    refine goOut X7 (fun h => by rw [Bd.returns] at h; cases h) hlk (fun fs hr => retOut X7 hx Bd.returns rfl (Or.inr (Or.inr (Or.inr (Or.inr ⟨rfl, rfl, rfl⟩)))) (hb hby d9_39) hr) (by decide) (by decide) ?_
    rw [e7]
    exact ⟨_, rfl, N0, rfl⟩
theorem d11_0 : decode jdk_30_method_1_code 0 = .ok (.aload_n 0, 1) := by decide +kernel
theorem d11_1 : decode jdk_30_method_1_code 1 = .ok (.invokespecial 1, 3) := by decide +kernel
theorem d11_4 : decode jdk_30_method_1_code 4 = .ok (.return_, 1) := by decide +kernel
theorem pn_java_lang_Record : plainName "java/lang/Record" = true := by first | (simp [plainName, overriddenIn]; done) | decide +kernel
theorem ef_rm_rc (m : MethodId) (x0 : Addr) : entryFrame m #[(.ref x0)] 1 = mkF m 0 #[.val (.ref x0)] [] := by first | (simp [entryFrame, mkF, argsToLocals, Value.category]; done) | rfl
def Q_rc (Z : State)  (h0 : Heap) (n0 : Nat) (v : Option Value) (h : Heap) (L : List Loc) : Prop := v = none ∧ Fr n0 L ∧ h = h0
set_option maxRecDepth 65536 in
set_option maxHeartbeats 40000000 in
theorem rm_rc (l : Launch) (Z : State) (a0 : Array Value) (hw : ∀ d ∈ tables_1, d.before a0 Z = true) (ws : List Jvm.Cond) (a : Addr) (cs : Int32) (fm : Value) (kd1 kd2 kd3 kd4 : Addr)  (h0 : Heap) (n0 : Nat) (Z0 : n0 ≤ h0.size) (HS : own_sets Z cs fm kd1 kd2 kd3 kd4) (OO : Old Z n0 h0)  :
    MetFree l (⟨"java/lang/Record", "<init>", "()V"⟩ : MethodName) (head1 (Jvm.Cond.code (⟨"java/lang/Record", "<init>", "()V"⟩ : MethodName) jdk_30_method_1_code 1 none :: ws) ({ frames := 1, cells := 0, slots := 0, locals := 12 } : Room)) (fun av' U => av' = #[(.ref a)] ∧ Z.Warmed39 U.vm ∧ U.heap = h0) (fun _ _ _ _ _ => True) (fun _ U o U' => ∃ v L, o = .returned v ∧ Q_rc Z  h0 n0 v U'.heap L ∧ FrameEnd U o U' L ({ frames := 1, cells := 0, slots := 0, locals := 12 } : Room).cells ({ frames := 1, cells := 0, slots := 0, locals := 12 } : Room).slots) := by
  refine MetFree.of_bodySF (plainFor_of_name pn_java_lang_Record) hisR ?_
  intro p e s m args below meth c s₁ Bd hml0 hP hK
  obtain ⟨rfl, hZ, hh⟩ := hP
  have hx := Bd.exec
  have hby := Bd.bytes
  have hlk := Bd.notSynchronized
  have hml : c.maxLocals = 1 := hml0
  have hown : s.vm.findClass "java/lang/Record" = some m.cls := findClass_of_methodNamed Bd.named
  have hnm := (name_of_methodNamed Bd.named Bd.method).1
  have X0 : Stand p l e ({ frames := 1, cells := 0, slots := 0, locals := 12 } : Room) s m #[(.ref a)] below meth c s₁ [] 0 0 := Stand.of_body Bd
  have e0 : s₁.heap = h0 := by rw [← hh, Bd.state]; rfl
  have N0 := Fr.nil n0
  show Go p e below (Kq s (Q_rc Z  h0 n0) ({ frames := 1, cells := 0, slots := 0, locals := 12 } : Room).cells ({ frames := 1, cells := 0, slots := 0, locals := 12 } : Room).slots) _
  refine go (fun t kt => castTop (ef_rm_rc m a) kt) ?_
  have HS0 := HS
  obtain ⟨S_cs, hcs, S_fm, hfm, S_k1, S_k2, S_k3, S_k4⟩ := HS0
  show Go p e below _ (s₁.setTop (mkF m 0 #[.val (.ref a)] []))
  refine go (fun t kt' => by refine XS.aloadN X0.here hx rfl (hb hby d11_0) rfl rfl ?_; exact kt') ?_
  show Go p e below _ (s₁.setTop (mkF m 1 #[.val (.ref a)] [(.ref a)]))
  obtain ⟨T1, X1, e1, st1⟩ := initO X0 hx hZ hown (hw _ (List.mem_of_getElem? (i := 56) rfl)) (hw _ (List.mem_of_getElem? (i := 12) rfl)) (hw _ (List.mem_of_getElem? (i := 13) rfl)) e0 (g := (mkF m 1 #[.val (.ref a)] [(.ref a)])) rfl (by rw [hml]; rfl) rfl (hb hby d11_1) (by decide) (W := 0) (by show 2 * 0 + _ ≤ _; exact Nat.le_of_eq rfl) (by decide)
  refine go st1 ?_
  show Go p e below _ (T1.setTop (mkF m 4 #[.val (.ref a)] []))
  refine goOut X1 (fun _ => rfl) hlk (fun fs hr => X1.returnOut hx Bd.returns (hb hby d11_4) hr) (by decide) (by decide) ?_
  rw [e1]
  exact ⟨rfl, N0, rfl⟩
theorem d10_0 : decode prog_76_method_1_code 0 = .ok (.aload_n 0, 1) := by decide +kernel
theorem d10_1 : decode prog_76_method_1_code 1 = .ok (.invokespecial 1, 3) := by decide +kernel
theorem pd_4 : parseMethodDescriptor "()V" = some ⟨[], none⟩ := by decide +kernel
theorem d10_4 : decode prog_76_method_1_code 4 = .ok (.aload_n 0, 1) := by decide +kernel
theorem d10_5 : decode prog_76_method_1_code 5 = .ok (.aload_n 1, 1) := by decide +kernel
theorem d10_6 : decode prog_76_method_1_code 6 = .ok (.putfield 7, 3) := by decide +kernel
theorem d10_9 : decode prog_76_method_1_code 9 = .ok (.aload_n 0, 1) := by decide +kernel
theorem d10_10 : decode prog_76_method_1_code 10 = .ok (.aload_n 2, 1) := by decide +kernel
theorem d10_11 : decode prog_76_method_1_code 11 = .ok (.putfield 13, 3) := by decide +kernel
theorem d10_14 : decode prog_76_method_1_code 14 = .ok (.aload_n 0, 1) := by decide +kernel
theorem d10_15 : decode prog_76_method_1_code 15 = .ok (.iload_n 3, 1) := by decide +kernel
theorem d10_16 : decode prog_76_method_1_code 16 = .ok (.putfield 17, 3) := by decide +kernel
theorem d10_19 : decode prog_76_method_1_code 19 = .ok (.aload_n 0, 1) := by decide +kernel
theorem d10_20 : decode prog_76_method_1_code 20 = .ok (.iload 4, 2) := by decide +kernel
theorem d10_22 : decode prog_76_method_1_code 22 = .ok (.putfield 21, 3) := by decide +kernel
theorem d10_25 : decode prog_76_method_1_code 25 = .ok (.return_, 1) := by decide +kernel
theorem pn_com_example_backfill_backfill_postgres_SqlLexer_Token : plainName "com/example/backfill/backfill/postgres/SqlLexer$Token" = true := by first | (simp [plainName, overriddenIn]; done) | decide +kernel
theorem ef_rm_ti (m : MethodId) (x0 : Addr) (x1 : Addr) (x2 : Addr) (x3 : Int32) (x4 : Int32) : entryFrame m #[(.ref x0), (.ref x1), (.ref x2), (.int x3), (.int x4)] 5 = mkF m 0 #[.val (.ref x0), .val (.ref x1), .val (.ref x2), .val (.int x3), .val (.int x4)] [] := by first | (simp [entryFrame, mkF, argsToLocals, Value.category]; done) | rfl
def Q_ti (Z : State) (a a2 : Addr) (p3 p4 : Int32) (h0 : Heap) (n0 : Nat) (v : Option Value) (h : Heap) (L : List Loc) : Prop := v = none ∧ Fr n0 L ∧ Keep h0 h [a] ∧ Exa Z h a "com/example/backfill/backfill/postgres/SqlLexer$Token" ∧ Fld Z h a "com/example/backfill/backfill/postgres/SqlLexer$Token" "source" "Ljava/lang/String;" (.ref a2) ∧ Fld Z h a "com/example/backfill/backfill/postgres/SqlLexer$Token" "start" "I" (.int p3) ∧ Fld Z h a "com/example/backfill/backfill/postgres/SqlLexer$Token" "end" "I" (.int p4)
set_option maxRecDepth 65536 in
set_option maxHeartbeats 40000000 in
theorem rm_ti (l : Launch) (Z : State) (a0 : Array Value) (hw : ∀ d ∈ tables_1, d.before a0 Z = true) (ws : List Jvm.Cond) (a : Addr) (a1 : Addr) (a2 : Addr) (p3 : Int32) (p4 : Int32) (cs : Int32) (fm : Value) (kd1 kd2 kd3 kd4 : Addr)  (h0 : Heap) (n0 : Nat) (Z0 : n0 ≤ h0.size) (HS : own_sets Z cs fm kd1 kd2 kd3 kd4) (OO : Old Z n0 h0) (E_a : Exa Z h0 a "com/example/backfill/backfill/postgres/SqlLexer$Token") (g_a : n0 ≤ a) (F_kind_a : Fld Z h0 a "com/example/backfill/backfill/postgres/SqlLexer$Token" "kind" "Lcom/example/backfill/backfill/postgres/SqlLexer$Kind;" .null) (F_source_a : Fld Z h0 a "com/example/backfill/backfill/postgres/SqlLexer$Token" "source" "Ljava/lang/String;" .null) (F_start_a : Fld Z h0 a "com/example/backfill/backfill/postgres/SqlLexer$Token" "start" "I" (.int (0 : Int32))) (F_end_a : Fld Z h0 a "com/example/backfill/backfill/postgres/SqlLexer$Token" "end" "I" (.int (0 : Int32))) :
    MetFree l (⟨"com/example/backfill/backfill/postgres/SqlLexer$Token", "<init>", "(Lcom/example/backfill/backfill/postgres/SqlLexer$Kind;Ljava/lang/String;II)V"⟩ : MethodName) (head1 (Jvm.Cond.code (⟨"com/example/backfill/backfill/postgres/SqlLexer$Token", "<init>", "(Lcom/example/backfill/backfill/postgres/SqlLexer$Kind;Ljava/lang/String;II)V"⟩ : MethodName) prog_76_method_1_code 5 none :: ws) ({ frames := 2, cells := 0, slots := 0, locals := 24 } : Room)) (fun av' U => av' = #[(.ref a), (.ref a1), (.ref a2), (.int p3), (.int p4)] ∧ Z.Warmed39 U.vm ∧ U.heap = h0) (fun _ _ _ _ _ => True) (fun _ U o U' => ∃ v L, o = .returned v ∧ Q_ti Z a a2 p3 p4 h0 n0 v U'.heap L ∧ FrameEnd U o U' L ({ frames := 2, cells := 0, slots := 0, locals := 24 } : Room).cells ({ frames := 2, cells := 0, slots := 0, locals := 24 } : Room).slots) := by
  refine MetFree.of_bodySF (plainFor_of_name pn_com_example_backfill_backfill_postgres_SqlLexer_Token) hisR ?_
  intro p e s m args below meth c s₁ Bd hml0 hP hK
  obtain ⟨rfl, hZ, hh⟩ := hP
  have hx := Bd.exec
  have hby := Bd.bytes
  have hlk := Bd.notSynchronized
  have hml : c.maxLocals = 5 := hml0
  have hown : s.vm.findClass "com/example/backfill/backfill/postgres/SqlLexer$Token" = some m.cls := findClass_of_methodNamed Bd.named
  have hnm := (name_of_methodNamed Bd.named Bd.method).1
  have X0 : Stand p l e ({ frames := 2, cells := 0, slots := 0, locals := 24 } : Room) s m #[(.ref a), (.ref a1), (.ref a2), (.int p3), (.int p4)] below meth c s₁ [] 0 0 := Stand.of_body Bd
  have e0 : s₁.heap = h0 := by rw [← hh, Bd.state]; rfl
  have N0 := Fr.nil n0
  show Go p e below (Kq s (Q_ti Z a a2 p3 p4 h0 n0) ({ frames := 2, cells := 0, slots := 0, locals := 24 } : Room).cells ({ frames := 2, cells := 0, slots := 0, locals := 24 } : Room).slots) _
  refine go (fun t kt => castTop (ef_rm_ti m a a1 a2 p3 p4) kt) ?_
  have HS0 := HS
  obtain ⟨S_cs, hcs, S_fm, hfm, S_k1, S_k2, S_k3, S_k4⟩ := HS0
  have K0 := Keep.refl h0 [a]
  show Go p e below _ (s₁.setTop (mkF m 0 #[.val (.ref a), .val (.ref a1), .val (.ref a2), .val (.int p3), .val (.int p4)] []))
  refine go (fun t kt' => by refine XS.aloadN X0.here hx rfl (hb hby d10_0) rfl rfl ?_; exact kt') ?_
  show Go p e below _ (s₁.setTop (mkF m 1 #[.val (.ref a), .val (.ref a1), .val (.ref a2), .val (.int p3), .val (.int p4)] [(.ref a)]))
  obtain ⟨_, _, ⟨T1, L1, k1, n1⟩, -, X1, ⟨Lc1, hQ1, l1, y1, z1⟩, st1⟩ := X0.specialBack hx (y := (⟨"java/lang/Record", "<init>", "()V"⟩ : MethodName)) rfl hown (mvT hZ (hw _ (List.mem_of_getElem? (i := 51) rfl))) (mvT hZ (hw _ (List.mem_of_getElem? (i := 52) rfl))) (mvT hZ (hw _ (List.mem_of_getElem? (i := 55) rfl))) (by decide) (backOf (W := 0) (rm_rc l Z a0 hw [] a cs fm kd1 kd2 kd3 kd4  h0 n0 Z0 HS OO ) hZ (hw _ (List.mem_of_getElem? (i := 55) rfl)) (hw _ (List.mem_of_getElem? (i := 54) rfl)) (by decide) (by decide)) (g := (mkF m 1 #[.val (.ref a), .val (.ref a1), .val (.ref a2), .val (.int p3), .val (.int p4)] [(.ref a)])) rfl (by rw [hml]; rfl) (Steps.refl _) (a := a) (argsL := []) (rest := []) (lenOf pd_4 rfl) rfl (by show 2 * 0 + _ ≤ _; exact Nat.le_of_eq rfl) (hb hby d10_1) (fun _ _ => ⟨rfl, e0, (by decide : 0 + 0 ≤ _), (by decide : 0 + 0 ≤ _)⟩)
  dsimp only [Pt.U, Pt.locs, Pt.cells, Pt.slots] at X1 l1 y1 z1 st1 hQ1
  rw [l1, y1, z1] at X1
  obtain ⟨rfl, N1q, e1⟩ := hQ1
  have N1 := Fr.app N0 N1q
  refine go (fun t kt => st1.trans kt) ?_
  show Go p e below _ (T1.setTop (mkF m 4 #[.val (.ref a), .val (.ref a1), .val (.ref a2), .val (.int p3), .val (.int p4)] []))
  refine go (fun t kt' => by refine XS.aloadN X1.here hx rfl (hb hby d10_4) rfl rfl ?_; exact kt') ?_
  show Go p e below _ (T1.setTop (mkF m 5 #[.val (.ref a), .val (.ref a1), .val (.ref a2), .val (.int p3), .val (.int p4)] [(.ref a)]))
  refine go (fun t kt' => by refine XS.aloadN X1.here hx rfl (hb hby d10_5) rfl rfl ?_; exact kt') ?_
  show Go p e below _ (T1.setTop (mkF m 6 #[.val (.ref a), .val (.ref a1), .val (.ref a2), .val (.int p3), .val (.int p4)] [(.ref a1), (.ref a)]))
  obtain ⟨T2, h2, X2, e2, W2, st2⟩ := putF X1 hx hZ hown (host := "") (Or.inl (hw _ (List.mem_of_getElem? (i := 57) rfl))) Via.refl e1 F_kind_a E_a (Or.inr ⟨(hw _ (List.mem_of_getElem? (i := 58) rfl)), rfl, hnm⟩) (hw _ (List.mem_of_getElem? (i := 39) rfl)) (ty := (.object "com/example/backfill/backfill/postgres/SqlLexer$Kind")) (by decide) rfl rfl (g := (mkF m 6 #[.val (.ref a), .val (.ref a1), .val (.ref a2), .val (.int p3), .val (.int p4)] [(.ref a1), (.ref a)])) rfl rfl (hb hby d10_6)
  have N2 := Fr.snoc X2 N1 g_a
  have f3_Z := Nat.le_trans Z0 (Keep.of_wr W2).1
  have f4_O := OO.wr W2 g_a
  have f5_K := K0.wr W2 (Or.inl (List.mem_of_getElem? (i := 0) rfl))
  have f6_E_a := E_a.wr W2
  have f7_F_a_kind := F_kind_a.same W2
  have f8_F_a_source := F_source_a.other W2 (Or.inr (slot_ne (Or.inr (hw _ (List.mem_of_getElem? (i := 60) rfl))) (Or.inr (hw _ (List.mem_of_getElem? (i := 58) rfl))) (by decide) (t := (.object "java/lang/String")) (t' := (.object "com/example/backfill/backfill/postgres/SqlLexer$Kind")) (by decide) (by decide)))
  have f9_F_a_start := F_start_a.other W2 (Or.inr (slot_ne (Or.inr (hw _ (List.mem_of_getElem? (i := 62) rfl))) (Or.inr (hw _ (List.mem_of_getElem? (i := 58) rfl))) (by decide) (t := .int) (t' := (.object "com/example/backfill/backfill/postgres/SqlLexer$Kind")) (by decide) (by decide)))
  have f10_F_a_end := F_end_a.other W2 (Or.inr (slot_ne (Or.inr (hw _ (List.mem_of_getElem? (i := 64) rfl))) (Or.inr (hw _ (List.mem_of_getElem? (i := 58) rfl))) (by decide) (t := .int) (t' := (.object "com/example/backfill/backfill/postgres/SqlLexer$Kind")) (by decide) (by decide)))
  refine go st2 ?_
  show Go p e below _ (T2.setTop (mkF m 9 #[.val (.ref a), .val (.ref a1), .val (.ref a2), .val (.int p3), .val (.int p4)] []))
  refine go (fun t kt' => by refine XS.aloadN X2.here hx rfl (hb hby d10_9) rfl rfl ?_; exact kt') ?_
  show Go p e below _ (T2.setTop (mkF m 10 #[.val (.ref a), .val (.ref a1), .val (.ref a2), .val (.int p3), .val (.int p4)] [(.ref a)]))
  refine go (fun t kt' => by refine XS.aloadN X2.here hx rfl (hb hby d10_10) rfl rfl ?_; exact kt') ?_
  show Go p e below _ (T2.setTop (mkF m 11 #[.val (.ref a), .val (.ref a1), .val (.ref a2), .val (.int p3), .val (.int p4)] [(.ref a2), (.ref a)]))
  obtain ⟨T11, h11, X11, e11, W11, st11⟩ := putF X2 hx hZ hown (host := "") (Or.inl (hw _ (List.mem_of_getElem? (i := 59) rfl))) Via.refl e2 f8_F_a_source f6_E_a (Or.inr ⟨(hw _ (List.mem_of_getElem? (i := 60) rfl)), rfl, hnm⟩) (hw _ (List.mem_of_getElem? (i := 39) rfl)) (ty := (.object "java/lang/String")) (by decide) rfl rfl (g := (mkF m 11 #[.val (.ref a), .val (.ref a1), .val (.ref a2), .val (.int p3), .val (.int p4)] [(.ref a2), (.ref a)])) rfl rfl (hb hby d10_11)
  have N11 := Fr.snoc X11 N2 g_a
  have f12_Z := Nat.le_trans f3_Z (Keep.of_wr W11).1
  have f13_O := f4_O.wr W11 g_a
  have f14_K := f5_K.wr W11 (Or.inl (List.mem_of_getElem? (i := 0) rfl))
  have f15_E_a := f6_E_a.wr W11
  have f16_F_a_kind := f7_F_a_kind.other W11 (Or.inr (slot_ne (Or.inr (hw _ (List.mem_of_getElem? (i := 58) rfl))) (Or.inr (hw _ (List.mem_of_getElem? (i := 60) rfl))) (by decide) (t := (.object "com/example/backfill/backfill/postgres/SqlLexer$Kind")) (t' := (.object "java/lang/String")) (by decide) (by decide)))
  have f17_F_a_source := f8_F_a_source.same W11
  have f18_F_a_start := f9_F_a_start.other W11 (Or.inr (slot_ne (Or.inr (hw _ (List.mem_of_getElem? (i := 62) rfl))) (Or.inr (hw _ (List.mem_of_getElem? (i := 60) rfl))) (by decide) (t := .int) (t' := (.object "java/lang/String")) (by decide) (by decide)))
  have f19_F_a_end := f10_F_a_end.other W11 (Or.inr (slot_ne (Or.inr (hw _ (List.mem_of_getElem? (i := 64) rfl))) (Or.inr (hw _ (List.mem_of_getElem? (i := 60) rfl))) (by decide) (t := .int) (t' := (.object "java/lang/String")) (by decide) (by decide)))
  refine go st11 ?_
  show Go p e below _ (T11.setTop (mkF m 14 #[.val (.ref a), .val (.ref a1), .val (.ref a2), .val (.int p3), .val (.int p4)] []))
  refine go (fun t kt' => by refine XS.aloadN X11.here hx rfl (hb hby d10_14) rfl rfl ?_; exact kt') ?_
  show Go p e below _ (T11.setTop (mkF m 15 #[.val (.ref a), .val (.ref a1), .val (.ref a2), .val (.int p3), .val (.int p4)] [(.ref a)]))
  refine go (fun t kt' => by refine XS.iloadN X11.here hx rfl (hb hby d10_15) rfl ?_; exact kt') ?_
  show Go p e below _ (T11.setTop (mkF m 16 #[.val (.ref a), .val (.ref a1), .val (.ref a2), .val (.int p3), .val (.int p4)] [(.int p3), (.ref a)]))
  obtain ⟨T20, h20, X20, e20, W20, st20⟩ := putF X11 hx hZ hown (host := "") (Or.inl (hw _ (List.mem_of_getElem? (i := 61) rfl))) Via.refl e11 f18_F_a_start f15_E_a (Or.inr ⟨(hw _ (List.mem_of_getElem? (i := 62) rfl)), rfl, hnm⟩) (hw _ (List.mem_of_getElem? (i := 39) rfl)) (ty := .int) (by decide) rfl rfl (g := (mkF m 16 #[.val (.ref a), .val (.ref a1), .val (.ref a2), .val (.int p3), .val (.int p4)] [(.int p3), (.ref a)])) rfl rfl (hb hby d10_16)
  have N20 := Fr.snoc X20 N11 g_a
  have f21_Z := Nat.le_trans f12_Z (Keep.of_wr W20).1
  have f22_O := f13_O.wr W20 g_a
  have f23_K := f14_K.wr W20 (Or.inl (List.mem_of_getElem? (i := 0) rfl))
  have f24_E_a := f15_E_a.wr W20
  have f25_F_a_kind := f16_F_a_kind.other W20 (Or.inr (slot_ne (Or.inr (hw _ (List.mem_of_getElem? (i := 58) rfl))) (Or.inr (hw _ (List.mem_of_getElem? (i := 62) rfl))) (by decide) (t := (.object "com/example/backfill/backfill/postgres/SqlLexer$Kind")) (t' := .int) (by decide) (by decide)))
  have f26_F_a_source := f17_F_a_source.other W20 (Or.inr (slot_ne (Or.inr (hw _ (List.mem_of_getElem? (i := 60) rfl))) (Or.inr (hw _ (List.mem_of_getElem? (i := 62) rfl))) (by decide) (t := (.object "java/lang/String")) (t' := .int) (by decide) (by decide)))
  have f27_F_a_start := f18_F_a_start.same W20
  have f28_F_a_end := f19_F_a_end.other W20 (Or.inr (slot_ne (Or.inr (hw _ (List.mem_of_getElem? (i := 64) rfl))) (Or.inr (hw _ (List.mem_of_getElem? (i := 62) rfl))) (by decide) (t := .int) (t' := .int) (by decide) (by decide)))
  refine go st20 ?_
  show Go p e below _ (T20.setTop (mkF m 19 #[.val (.ref a), .val (.ref a1), .val (.ref a2), .val (.int p3), .val (.int p4)] []))
  refine go (fun t kt' => by refine XS.aloadN X20.here hx rfl (hb hby d10_19) rfl rfl ?_; exact kt') ?_
  show Go p e below _ (T20.setTop (mkF m 20 #[.val (.ref a), .val (.ref a1), .val (.ref a2), .val (.int p3), .val (.int p4)] [(.ref a)]))
  refine go (fun t kt' => by refine XS.iload X20.here hx rfl (hb hby d10_20) rfl ?_; exact kt') ?_
  show Go p e below _ (T20.setTop (mkF m 22 #[.val (.ref a), .val (.ref a1), .val (.ref a2), .val (.int p3), .val (.int p4)] [(.int p4), (.ref a)]))
  obtain ⟨T29, h29, X29, e29, W29, st29⟩ := putF X20 hx hZ hown (host := "") (Or.inl (hw _ (List.mem_of_getElem? (i := 63) rfl))) Via.refl e20 f28_F_a_end f24_E_a (Or.inr ⟨(hw _ (List.mem_of_getElem? (i := 64) rfl)), rfl, hnm⟩) (hw _ (List.mem_of_getElem? (i := 39) rfl)) (ty := .int) (by decide) rfl rfl (g := (mkF m 22 #[.val (.ref a), .val (.ref a1), .val (.ref a2), .val (.int p3), .val (.int p4)] [(.int p4), (.ref a)])) rfl rfl (hb hby d10_22)
  have N29 := Fr.snoc X29 N20 g_a
  have f30_Z := Nat.le_trans f21_Z (Keep.of_wr W29).1
  have f31_O := f22_O.wr W29 g_a
  have f32_K := f23_K.wr W29 (Or.inl (List.mem_of_getElem? (i := 0) rfl))
  have f33_E_a := f24_E_a.wr W29
  have f34_F_a_kind := f25_F_a_kind.other W29 (Or.inr (slot_ne (Or.inr (hw _ (List.mem_of_getElem? (i := 58) rfl))) (Or.inr (hw _ (List.mem_of_getElem? (i := 64) rfl))) (by decide) (t := (.object "com/example/backfill/backfill/postgres/SqlLexer$Kind")) (t' := .int) (by decide) (by decide)))
  have f35_F_a_source := f26_F_a_source.other W29 (Or.inr (slot_ne (Or.inr (hw _ (List.mem_of_getElem? (i := 60) rfl))) (Or.inr (hw _ (List.mem_of_getElem? (i := 64) rfl))) (by decide) (t := (.object "java/lang/String")) (t' := .int) (by decide) (by decide)))
  have f36_F_a_start := f27_F_a_start.other W29 (Or.inr (slot_ne (Or.inr (hw _ (List.mem_of_getElem? (i := 62) rfl))) (Or.inr (hw _ (List.mem_of_getElem? (i := 64) rfl))) (by decide) (t := .int) (t' := .int) (by decide) (by decide)))
  have f37_F_a_end := f28_F_a_end.same W29
  refine go st29 ?_
  show Go p e below _ (T29.setTop (mkF m 25 #[.val (.ref a), .val (.ref a1), .val (.ref a2), .val (.int p3), .val (.int p4)] []))
  refine goOut X29 (fun _ => rfl) hlk (fun fs hr => X29.returnOut hx Bd.returns (hb hby d10_25) hr) (by decide) (by decide) ?_
  rw [e29]
  exact ⟨rfl, N29, f32_K, f33_E_a, f35_F_a_source, f36_F_a_start, f37_F_a_end⟩
theorem d15_0 : decode jdk_42_method_152_code 0 = .ok (.getstatic 38, 3) := by decide +kernel
theorem d15_3 : decode jdk_42_method_152_code 3 = .ok (.ifCond .eq 10, 3) := by decide +kernel
theorem d15_6 : decode jdk_42_method_152_code 6 = .ok (.aload_n 0, 1) := by decide +kernel
theorem d15_7 : decode jdk_42_method_152_code 7 = .ok (.getfield 15, 3) := by decide +kernel
theorem d15_10 : decode jdk_42_method_152_code 10 = .ok (.goto 4, 3) := by decide +kernel
theorem d15_14 : decode jdk_42_method_152_code 14 = .ok (.ireturn, 1) := by decide +kernel
theorem ef_rm_co (m : MethodId) (x0 : Addr) : entryFrame m #[(.ref x0)] 1 = mkF m 0 #[.val (.ref x0)] [] := by first | (simp [entryFrame, mkF, argsToLocals, Value.category]; done) | rfl
def Q_co (Z : State)  (h0 : Heap) (n0 : Nat) (v : Option Value) (h : Heap) (L : List Loc) : Prop := v = some (.int (0 : Int32)) ∧ Fr n0 L ∧ h = h0
set_option maxRecDepth 65536 in
set_option maxHeartbeats 40000000 in
theorem rm_co (l : Launch) (Z : State) (a0 : Array Value) (hw : ∀ d ∈ tables_1, d.before a0 Z = true) (ws : List Jvm.Cond) (a : Addr) (cs : Int32) (fm : Value) (kd1 kd2 kd3 kd4 : Addr)  (h0 : Heap) (n0 : Nat) (Z0 : n0 ≤ h0.size) (HS : own_sets Z cs fm kd1 kd2 kd3 kd4) (OO : Old Z n0 h0) (E_a : Exa Z h0 a "java/lang/String") (F_coder_a : Fld Z h0 a "java/lang/String" "coder" "B" (.int (0 : Int32))) :
    MetFree l (⟨"java/lang/String", "coder", "()B"⟩ : MethodName) (head1 (Jvm.Cond.code (⟨"java/lang/String", "coder", "()B"⟩ : MethodName) jdk_42_method_152_code 1 (some .byte) :: ws) ({ frames := 0, cells := 0, slots := 0, locals := 0 } : Room)) (fun av' U => av' = #[(.ref a)] ∧ Z.Warmed39 U.vm ∧ U.heap = h0) (fun _ _ _ _ _ => True) (fun _ U o U' => ∃ v L, o = .returned v ∧ Q_co Z  h0 n0 v U'.heap L ∧ FrameEnd U o U' L ({ frames := 0, cells := 0, slots := 0, locals := 0 } : Room).cells ({ frames := 0, cells := 0, slots := 0, locals := 0 } : Room).slots) := by
  refine MetFree.of_bodySF (plainFor_of_name pn_java_lang_String) hisR ?_
  intro p e s m args below meth c s₁ Bd hml0 hP hK
  obtain ⟨rfl, hZ, hh⟩ := hP
  have hx := Bd.exec
  have hby := Bd.bytes
  have hlk := Bd.notSynchronized
  have hml : c.maxLocals = 1 := hml0
  have hown : s.vm.findClass "java/lang/String" = some m.cls := findClass_of_methodNamed Bd.named
  have hnm := (name_of_methodNamed Bd.named Bd.method).1
  have X0 : Stand p l e ({ frames := 0, cells := 0, slots := 0, locals := 0 } : Room) s m #[(.ref a)] below meth c s₁ [] 0 0 := Stand.of_body Bd
  have e0 : s₁.heap = h0 := by rw [← hh, Bd.state]; rfl
  have N0 := Fr.nil n0
  show Go p e below (Kq s (Q_co Z  h0 n0) ({ frames := 0, cells := 0, slots := 0, locals := 0 } : Room).cells ({ frames := 0, cells := 0, slots := 0, locals := 0 } : Room).slots) _
  refine go (fun t kt => castTop (ef_rm_co m a) kt) ?_
  have HS0 := HS
  obtain ⟨S_cs, hcs, S_fm, hfm, S_k1, S_k2, S_k3, S_k4⟩ := HS0
  show Go p e below _ (s₁.setTop (mkF m 0 #[.val (.ref a)] []))
  obtain ⟨T1, X1, e1, st1⟩ := getS2 X0 hx hZ hown (host := "") (Or.inl (hw _ (List.mem_of_getElem? (i := 14) rfl))) Via.refl e0 (Sta.ext OO.2 S_cs) (g := (mkF m 0 #[.val (.ref a)] [])) rfl (hb hby d15_0)
  refine go st1 ?_
  show Go p e below _ (T1.setTop (mkF m 3 #[.val (.ref a)] [(.int cs)]))
  have c3_2 : ¬ (cs = (0 : Int32)) := hcs
  refine go (fun t kt' => by refine XS.ifNo X1.here hx rfl (hb hby d15_3) rfl ((if0 _ _).trans (feq c3_2).1) ?_; exact kt') ?_
  show Go p e below _ (T1.setTop (mkF m 6 #[.val (.ref a)] []))
  refine go (fun t kt' => by refine XS.aloadN X1.here hx rfl (hb hby d15_6) rfl rfl ?_; exact kt') ?_
  show Go p e below _ (T1.setTop (mkF m 7 #[.val (.ref a)] [(.ref a)]))
  obtain ⟨T3, X3, e3, st3⟩ := getF X1 hx hZ hown (host := "") (Or.inl (hw _ (List.mem_of_getElem? (i := 26) rfl))) Via.refl e1 F_coder_a (g := (mkF m 7 #[.val (.ref a)] [(.ref a)])) rfl rfl (hb hby d15_7)
  refine go st3 ?_
  show Go p e below _ (T3.setTop (mkF m 10 #[.val (.ref a)] [(.int (0 : Int32))]))
  refine go (fun t kt' => by refine XS.goto X3.here hx rfl (pc0 := 10) (pc' := 14) rfl (hb hby d15_10) (by decide) (by decide) ?_; exact kt') ?_
  show Go p e below _ (T3.setTop (mkF m 14 #[.val (.ref a)] [(.int (0 : Int32))]))
  refine goOut X3 (fun h => by rw [Bd.returns] at h; cases h) hlk (fun fs hr => retN X3 hx (t := .byte) Bd.returns (by simp) (hb hby d15_14) hr) (by decide) (by decide) ?_
  rw [e3]
  exact ⟨rfl, N0, rfl⟩
theorem d18_0 : decode jdk_42_method_154_code 0 = .ok (.getstatic 38, 3) := by decide +kernel
theorem d18_3 : decode jdk_42_method_154_code 3 = .ok (.ifCond .eq 14, 3) := by decide +kernel
theorem d18_6 : decode jdk_42_method_154_code 6 = .ok (.aload_n 0, 1) := by decide +kernel
theorem d18_7 : decode jdk_42_method_154_code 7 = .ok (.getfield 15, 3) := by decide +kernel
theorem d18_10 : decode jdk_42_method_154_code 10 = .ok (.ifCond .ne 7, 3) := by decide +kernel
theorem d18_13 : decode jdk_42_method_154_code 13 = .ok (.iconst 1, 1) := by decide +kernel
theorem d18_14 : decode jdk_42_method_154_code 14 = .ok (.goto 4, 3) := by decide +kernel
theorem d18_18 : decode jdk_42_method_154_code 18 = .ok (.ireturn, 1) := by decide +kernel
theorem ef_rm_l1 (m : MethodId) (x0 : Addr) : entryFrame m #[(.ref x0)] 1 = mkF m 0 #[.val (.ref x0)] [] := by first | (simp [entryFrame, mkF, argsToLocals, Value.category]; done) | rfl
def Q_l1 (Z : State)  (h0 : Heap) (n0 : Nat) (v : Option Value) (h : Heap) (L : List Loc) : Prop := v = some (.int (1 : Int32)) ∧ Fr n0 L ∧ h = h0
set_option maxRecDepth 65536 in
set_option maxHeartbeats 40000000 in
theorem rm_l1 (l : Launch) (Z : State) (a0 : Array Value) (hw : ∀ d ∈ tables_1, d.before a0 Z = true) (ws : List Jvm.Cond) (a : Addr) (cs : Int32) (fm : Value) (kd1 kd2 kd3 kd4 : Addr)  (h0 : Heap) (n0 : Nat) (Z0 : n0 ≤ h0.size) (HS : own_sets Z cs fm kd1 kd2 kd3 kd4) (OO : Old Z n0 h0) (E_a : Exa Z h0 a "java/lang/String") (F_coder_a : Fld Z h0 a "java/lang/String" "coder" "B" (.int (0 : Int32))) :
    MetFree l (⟨"java/lang/String", "isLatin1", "()Z"⟩ : MethodName) (head1 (Jvm.Cond.code (⟨"java/lang/String", "isLatin1", "()Z"⟩ : MethodName) jdk_42_method_154_code 1 (some .boolean) :: ws) ({ frames := 0, cells := 0, slots := 0, locals := 0 } : Room)) (fun av' U => av' = #[(.ref a)] ∧ Z.Warmed39 U.vm ∧ U.heap = h0) (fun _ _ _ _ _ => True) (fun _ U o U' => ∃ v L, o = .returned v ∧ Q_l1 Z  h0 n0 v U'.heap L ∧ FrameEnd U o U' L ({ frames := 0, cells := 0, slots := 0, locals := 0 } : Room).cells ({ frames := 0, cells := 0, slots := 0, locals := 0 } : Room).slots) := by
  refine MetFree.of_bodySF (plainFor_of_name pn_java_lang_String) hisR ?_
  intro p e s m args below meth c s₁ Bd hml0 hP hK
  obtain ⟨rfl, hZ, hh⟩ := hP
  have hx := Bd.exec
  have hby := Bd.bytes
  have hlk := Bd.notSynchronized
  have hml : c.maxLocals = 1 := hml0
  have hown : s.vm.findClass "java/lang/String" = some m.cls := findClass_of_methodNamed Bd.named
  have hnm := (name_of_methodNamed Bd.named Bd.method).1
  have X0 : Stand p l e ({ frames := 0, cells := 0, slots := 0, locals := 0 } : Room) s m #[(.ref a)] below meth c s₁ [] 0 0 := Stand.of_body Bd
  have e0 : s₁.heap = h0 := by rw [← hh, Bd.state]; rfl
  have N0 := Fr.nil n0
  show Go p e below (Kq s (Q_l1 Z  h0 n0) ({ frames := 0, cells := 0, slots := 0, locals := 0 } : Room).cells ({ frames := 0, cells := 0, slots := 0, locals := 0 } : Room).slots) _
  refine go (fun t kt => castTop (ef_rm_l1 m a) kt) ?_
  have HS0 := HS
  obtain ⟨S_cs, hcs, S_fm, hfm, S_k1, S_k2, S_k3, S_k4⟩ := HS0
  show Go p e below _ (s₁.setTop (mkF m 0 #[.val (.ref a)] []))
  obtain ⟨T1, X1, e1, st1⟩ := getS2 X0 hx hZ hown (host := "") (Or.inl (hw _ (List.mem_of_getElem? (i := 14) rfl))) Via.refl e0 (Sta.ext OO.2 S_cs) (g := (mkF m 0 #[.val (.ref a)] [])) rfl (hb hby d18_0)
  refine go st1 ?_
  show Go p e below _ (T1.setTop (mkF m 3 #[.val (.ref a)] [(.int cs)]))
  have c3_2 : ¬ (cs = (0 : Int32)) := hcs
  refine go (fun t kt' => by refine XS.ifNo X1.here hx rfl (hb hby d18_3) rfl ((if0 _ _).trans (feq c3_2).1) ?_; exact kt') ?_
  show Go p e below _ (T1.setTop (mkF m 6 #[.val (.ref a)] []))
  refine go (fun t kt' => by refine XS.aloadN X1.here hx rfl (hb hby d18_6) rfl rfl ?_; exact kt') ?_
  show Go p e below _ (T1.setTop (mkF m 7 #[.val (.ref a)] [(.ref a)]))
  obtain ⟨T3, X3, e3, st3⟩ := getF X1 hx hZ hown (host := "") (Or.inl (hw _ (List.mem_of_getElem? (i := 26) rfl))) Via.refl e1 F_coder_a (g := (mkF m 7 #[.val (.ref a)] [(.ref a)])) rfl rfl (hb hby d18_7)
  refine go st3 ?_
  show Go p e below _ (T3.setTop (mkF m 10 #[.val (.ref a)] [(.int (0 : Int32))]))
  have c10_4 : ¬ (¬ (0 : Int32) = (0 : Int32)) := by decide
  refine go (fun t kt' => by refine XS.ifNo X3.here hx rfl (hb hby d18_10) rfl ((if0 _ _).trans (teq (Decidable.not_not.mp c10_4)).2) ?_; exact kt') ?_
  show Go p e below _ (T3.setTop (mkF m 13 #[.val (.ref a)] []))
  refine go (fun t kt' => by refine XS.iconst X3.here hx rfl (hb hby d18_13) ?_; exact kt') ?_
  show Go p e below _ (T3.setTop (mkF m 14 #[.val (.ref a)] [(.int (1 : Int32))]))
  refine go (fun t kt' => by refine XS.goto X3.here hx rfl (pc0 := 14) (pc' := 18) rfl (hb hby d18_14) (by decide) (by decide) ?_; exact kt') ?_
  show Go p e below _ (T3.setTop (mkF m 18 #[.val (.ref a)] [(.int (1 : Int32))]))
  refine goOut X3 (fun h => by rw [Bd.returns] at h; cases h) hlk (fun fs hr => retN X3 hx (t := .boolean) Bd.returns (by simp) (hb hby d18_18) hr) (by decide) (by decide) ?_
  rw [e3]
  exact ⟨rfl, N0, rfl⟩
theorem d14_0 : decode jdk_42_method_54_code 0 = .ok (.aload_n 0, 1) := by decide +kernel
theorem d14_1 : decode jdk_42_method_54_code 1 = .ok (.getfield 9, 3) := by decide +kernel
theorem d14_4 : decode jdk_42_method_54_code 4 = .ok (.arraylength, 1) := by decide +kernel
theorem d14_5 : decode jdk_42_method_54_code 5 = .ok (.aload_n 0, 1) := by decide +kernel
theorem d14_6 : decode jdk_42_method_54_code 6 = .ok (.invokevirtual 335, 3) := by decide +kernel
theorem pd_5 : parseMethodDescriptor "()B" = some ⟨[], some .byte⟩ := by decide +kernel
theorem d14_9 : decode jdk_42_method_54_code 9 = .ok (.ishr, 1) := by decide +kernel
theorem d14_10 : decode jdk_42_method_54_code 10 = .ok (.ireturn, 1) := by decide +kernel
theorem ef_rm_le (m : MethodId) (x0 : Addr) : entryFrame m #[(.ref x0)] 1 = mkF m 0 #[.val (.ref x0)] [] := by first | (simp [entryFrame, mkF, argsToLocals, Value.category]; done) | rfl
def Q_le (Z : State) (N : Nat) (h0 : Heap) (n0 : Nat) (v : Option Value) (h : Heap) (L : List Loc) : Prop := v = some (.int (Nat.toInt32 N)) ∧ Fr n0 L ∧ h = h0
set_option maxRecDepth 65536 in
set_option maxHeartbeats 40000000 in
theorem rm_le (l : Launch) (Z : State) (a0 : Array Value) (hw : ∀ d ∈ tables_1, d.before a0 Z = true) (ws : List Jvm.Cond) (a : Addr) (cs : Int32) (fm : Value) (kd1 kd2 kd3 kd4 : Addr) (b : Addr) (N : Nat) (f : Nat → Int32) (h0 : Heap) (n0 : Nat) (Z0 : n0 ≤ h0.size) (HS : own_sets Z cs fm kd1 kd2 kd3 kd4) (OO : Old Z n0 h0) (E_a : Exa Z h0 a "java/lang/String") (F_value_a : Fld Z h0 a "java/lang/String" "value" "[B" (.ref b)) (F_coder_a : Fld Z h0 a "java/lang/String" "coder" "B" (.int (0 : Int32))) (V_b : IA Z h0 b .byte N f) :
    MetFree l (⟨"java/lang/String", "length", "()I"⟩ : MethodName) (head1 (Jvm.Cond.code (⟨"java/lang/String", "length", "()I"⟩ : MethodName) jdk_42_method_54_code 1 (some .int) :: ws) ({ frames := 1, cells := 0, slots := 0, locals := 13 } : Room)) (fun av' U => av' = #[(.ref a)] ∧ Z.Warmed39 U.vm ∧ U.heap = h0) (fun _ _ _ _ _ => True) (fun _ U o U' => ∃ v L, o = .returned v ∧ Q_le Z N h0 n0 v U'.heap L ∧ FrameEnd U o U' L ({ frames := 1, cells := 0, slots := 0, locals := 13 } : Room).cells ({ frames := 1, cells := 0, slots := 0, locals := 13 } : Room).slots) := by
  refine MetFree.of_bodySF (plainFor_of_name pn_java_lang_String) hisR ?_
  intro p e s m args below meth c s₁ Bd hml0 hP hK
  obtain ⟨rfl, hZ, hh⟩ := hP
  have hx := Bd.exec
  have hby := Bd.bytes
  have hlk := Bd.notSynchronized
  have hml : c.maxLocals = 1 := hml0
  have hown : s.vm.findClass "java/lang/String" = some m.cls := findClass_of_methodNamed Bd.named
  have hnm := (name_of_methodNamed Bd.named Bd.method).1
  have X0 : Stand p l e ({ frames := 1, cells := 0, slots := 0, locals := 13 } : Room) s m #[(.ref a)] below meth c s₁ [] 0 0 := Stand.of_body Bd
  have e0 : s₁.heap = h0 := by rw [← hh, Bd.state]; rfl
  have N0 := Fr.nil n0
  show Go p e below (Kq s (Q_le Z N h0 n0) ({ frames := 1, cells := 0, slots := 0, locals := 13 } : Room).cells ({ frames := 1, cells := 0, slots := 0, locals := 13 } : Room).slots) _
  refine go (fun t kt => castTop (ef_rm_le m a) kt) ?_
  have HS0 := HS
  obtain ⟨S_cs, hcs, S_fm, hfm, S_k1, S_k2, S_k3, S_k4⟩ := HS0
  show Go p e below _ (s₁.setTop (mkF m 0 #[.val (.ref a)] []))
  refine go (fun t kt' => by refine XS.aloadN X0.here hx rfl (hb hby d14_0) rfl rfl ?_; exact kt') ?_
  show Go p e below _ (s₁.setTop (mkF m 1 #[.val (.ref a)] [(.ref a)]))
  obtain ⟨T1, X1, e1, st1⟩ := getF X0 hx hZ hown (host := "") (Or.inl (hw _ (List.mem_of_getElem? (i := 28) rfl))) Via.refl e0 F_value_a (g := (mkF m 1 #[.val (.ref a)] [(.ref a)])) rfl rfl (hb hby d14_1)
  refine go st1 ?_
  show Go p e below _ (T1.setTop (mkF m 4 #[.val (.ref a)] [(.ref b)]))
  refine go (fun t kt' => by refine lenIA X1 hx hZ e1 V_b (g := (mkF m 4 #[.val (.ref a)] [(.ref b)])) rfl rfl (hb hby d14_4) t ?_; exact kt') ?_
  show Go p e below _ (T1.setTop (mkF m 5 #[.val (.ref a)] [(.int (Nat.toInt32 N))]))
  refine go (fun t kt' => by refine XS.aloadN X1.here hx rfl (hb hby d14_5) rfl rfl ?_; exact kt') ?_
  show Go p e below _ (T1.setTop (mkF m 6 #[.val (.ref a)] [(.ref a), (.int (Nat.toInt32 N))]))
  obtain ⟨cq2, kq2, q2a, q2b, q2c⟩ := isOf hZ e1 E_a
  obtain ⟨_, _, ⟨T2, L2, k2, n2⟩, -, X2, ⟨Lc2, hQ2, l2, y2, z2⟩, st2⟩ := X1.virtualBack hx (y := (⟨"java/lang/String", "coder", "()B"⟩ : MethodName)) (z := (⟨"java/lang/String", "coder", "()B"⟩ : MethodName)) hown (mvT hZ (hw _ (List.mem_of_getElem? (i := 80) rfl))) (mvT hZ (hw _ (List.mem_of_getElem? (i := 81) rfl))) (notFace_of_selects (args := #[]) (mvT hZ (hw _ (List.mem_of_getElem? (i := 83) rfl)))) (mvT hZ (hw _ (List.mem_of_getElem? (i := 83) rfl))) (mvT hZ (hw _ (List.mem_of_getElem? (i := 82) rfl))) (by decide) (backOf (W := 1) (rm_co l Z a0 hw [] a cs fm kd1 kd2 kd3 kd4  h0 n0 Z0 HS OO E_a F_coder_a) hZ (hw _ (List.mem_of_getElem? (i := 84) rfl)) (hw _ (List.mem_of_getElem? (i := 3) rfl)) (by decide) (by decide)) q2a q2c (g := (mkF m 6 #[.val (.ref a)] [(.ref a), (.int (Nat.toInt32 N))])) rfl (by rw [hml]; rfl) (Steps.refl _) (argsL := []) (rest := [(.int (Nat.toInt32 N))]) (lenOf pd_5 rfl) rfl (by show 2 * 0 + _ ≤ _; exact Nat.le_of_eq rfl) (hb hby d14_6) (fun _ _ => ⟨rfl, e1, (by decide : 0 + 0 ≤ _), (by decide : 0 + 0 ≤ _)⟩)
  dsimp only [Pt.U, Pt.locs, Pt.cells, Pt.slots] at X2 l2 y2 z2 st2 hQ2
  rw [l2, y2, z2] at X2
  obtain ⟨rfl, N2q, e2⟩ := hQ2
  have N2 := Fr.app N0 N2q
  refine go (fun t kt => st2.trans kt) ?_
  show Go p e below _ (T2.setTop (mkF m 9 #[.val (.ref a)] [(.int (0 : Int32)), (.int (Nat.toInt32 N))]))
  refine go (fun t kt' => by refine XS.ishr X2.here hx rfl (hb hby d14_9) rfl ?_; exact kt') ?_
  show Go p e below _ (T2.setTop (mkF m 10 #[.val (.ref a)] [(.int ((Nat.toInt32 N) >>> ((0 : Int32) &&& 31)))]))
  refine goOut X2 (fun h => by rw [Bd.returns] at h; cases h) hlk (fun fs hr => retOut X2 hx Bd.returns rfl (Or.inl ⟨rfl, Or.inl rfl, _, rfl⟩) (hb hby d14_10) hr) (by decide) (by decide) ?_
  rw [e2]
  exact ⟨by rw [own_shr0], N2, rfl⟩
theorem d17_0 : decode jdk_41_method_12_code 0 = .ok (.iload_n 0, 1) := by decide +kernel
theorem d17_1 : decode jdk_41_method_12_code 1 = .ok (.ifCond .lt 13, 3) := by decide +kernel
theorem d17_4 : decode jdk_41_method_12_code 4 = .ok (.iload_n 0, 1) := by decide +kernel
theorem d17_5 : decode jdk_41_method_12_code 5 = .ok (.iload_n 1, 1) := by decide +kernel
theorem d17_6 : decode jdk_41_method_12_code 6 = .ok (.if_icmp .gt 8, 3) := by decide +kernel
theorem d17_9 : decode jdk_41_method_12_code 9 = .ok (.iload_n 1, 1) := by decide +kernel
theorem d17_10 : decode jdk_41_method_12_code 10 = .ok (.iload_n 2, 1) := by decide +kernel
theorem d17_11 : decode jdk_41_method_12_code 11 = .ok (.if_icmp .le 11, 3) := by decide +kernel
theorem d17_22 : decode jdk_41_method_12_code 22 = .ok (.iload_n 0, 1) := by decide +kernel
theorem d17_23 : decode jdk_41_method_12_code 23 = .ok (.ireturn, 1) := by decide +kernel
theorem pn_jdk_internal_util_Preconditions : plainName "jdk/internal/util/Preconditions" = true := by first | (simp [plainName, overriddenIn]; done) | decide +kernel
theorem ef_rm_ft (m : MethodId) (x0 : Int32) (x1 : Int32) (x2 : Int32) (x3 : Value) (hx3 : x3.category = 1) : entryFrame m #[(.int x0), (.int x1), (.int x2), x3] 4 = mkF m 0 #[.val (.int x0), .val (.int x1), .val (.int x2), .val x3] [] := by cases x3 <;> first | (simp [entryFrame, mkF, argsToLocals, Value.category, hx3]; done) | rfl | (simp [Value.category] at hx3)
def Q_ft (Z : State)  (h0 : Heap) (n0 : Nat) (v : Option Value) (h : Heap) (L : List Loc) : Prop := ∃ r : Int32, v = some (.int r) ∧ Fr n0 L ∧ h = h0
set_option maxRecDepth 65536 in
set_option maxHeartbeats 40000000 in
theorem rm_ft (l : Launch) (Z : State) (a0 : Array Value) (hw : ∀ d ∈ tables_1, d.before a0 Z = true) (ws : List Jvm.Cond) (p0 : Int32) (p1 : Int32) (p2 : Int32) (fm : Value) (hfm : fm.isRef = true) (cs : Int32) (kd1 kd2 kd3 kd4 : Addr)  (h0 : Heap) (n0 : Nat) (Z0 : n0 ≤ h0.size) (HS : own_sets Z cs fm kd1 kd2 kd3 kd4) (OO : Old Z n0 h0) (hbd : 0 ≤ p0.toInt ∧ p0.toInt ≤ p1.toInt ∧ p1.toInt ≤ p2.toInt) :
    MetFree l (⟨"jdk/internal/util/Preconditions", "checkFromToIndex", "(IIILjava/util/function/BiFunction;)I"⟩ : MethodName) (head1 (Jvm.Cond.code (⟨"jdk/internal/util/Preconditions", "checkFromToIndex", "(IIILjava/util/function/BiFunction;)I"⟩ : MethodName) jdk_41_method_12_code 4 (some .int) :: ws) ({ frames := 0, cells := 0, slots := 0, locals := 0 } : Room)) (fun av' U => av' = #[(.int p0), (.int p1), (.int p2), fm] ∧ Z.Warmed39 U.vm ∧ U.heap = h0) (fun _ _ _ _ _ => True) (fun _ U o U' => ∃ v L, o = .returned v ∧ Q_ft Z  h0 n0 v U'.heap L ∧ FrameEnd U o U' L ({ frames := 0, cells := 0, slots := 0, locals := 0 } : Room).cells ({ frames := 0, cells := 0, slots := 0, locals := 0 } : Room).slots) := by
  refine MetFree.of_bodySF (plainFor_of_name pn_jdk_internal_util_Preconditions) hisR ?_
  intro p e s m args below meth c s₁ Bd hml0 hP hK
  obtain ⟨rfl, hZ, hh⟩ := hP
  have hx := Bd.exec
  have hby := Bd.bytes
  have hlk := Bd.notSynchronized
  have hml : c.maxLocals = 4 := hml0
  have hown : s.vm.findClass "jdk/internal/util/Preconditions" = some m.cls := findClass_of_methodNamed Bd.named
  have hnm := (name_of_methodNamed Bd.named Bd.method).1
  have X0 : Stand p l e ({ frames := 0, cells := 0, slots := 0, locals := 0 } : Room) s m #[(.int p0), (.int p1), (.int p2), fm] below meth c s₁ [] 0 0 := Stand.of_body Bd
  have e0 : s₁.heap = h0 := by rw [← hh, Bd.state]; rfl
  have N0 := Fr.nil n0
  show Go p e below (Kq s (Q_ft Z  h0 n0) ({ frames := 0, cells := 0, slots := 0, locals := 0 } : Room).cells ({ frames := 0, cells := 0, slots := 0, locals := 0 } : Room).slots) _
  refine go (fun t kt => castTop (ef_rm_ft m p0 p1 p2 fm (cat_of_ref hfm)) kt) ?_
  have HS0 := HS
  obtain ⟨S_cs, hcs, S_fm, hfm, S_k1, S_k2, S_k3, S_k4⟩ := HS0
  show Go p e below _ (s₁.setTop (mkF m 0 #[.val (.int p0), .val (.int p1), .val (.int p2), .val fm] []))
  refine go (fun t kt' => by refine XS.iloadN X0.here hx rfl (hb hby d17_0) rfl ?_; exact kt') ?_
  show Go p e below _ (s₁.setTop (mkF m 1 #[.val (.int p0), .val (.int p1), .val (.int p2), .val fm] [(.int p0)]))
  have c1_1 : ¬ (p0 < (0 : Int32)) := own_nlt hbd.1
  refine go (fun t kt' => by refine XS.ifNo X0.here hx rfl (hb hby d17_1) rfl ((if0 _ _).trans (flt c1_1).1) ?_; exact kt') ?_
  show Go p e below _ (s₁.setTop (mkF m 4 #[.val (.int p0), .val (.int p1), .val (.int p2), .val fm] []))
  refine go (fun t kt' => by refine XS.iloadN X0.here hx rfl (hb hby d17_4) rfl ?_; exact kt') ?_
  show Go p e below _ (s₁.setTop (mkF m 5 #[.val (.int p0), .val (.int p1), .val (.int p2), .val fm] [(.int p0)]))
  refine go (fun t kt' => by refine XS.iloadN X0.here hx rfl (hb hby d17_5) rfl ?_; exact kt') ?_
  show Go p e below _ (s₁.setTop (mkF m 6 #[.val (.int p0), .val (.int p1), .val (.int p2), .val fm] [(.int p1), (.int p0)]))
  have c6_2 : ¬ (p1 < p0) := own_ngt hbd.2.1
  refine go (fun t kt' => by refine XS.icmpNo X0.here hx rfl (hb hby d17_6) rfl (flt c6_2).2.2.1 ?_; exact kt') ?_
  show Go p e below _ (s₁.setTop (mkF m 9 #[.val (.int p0), .val (.int p1), .val (.int p2), .val fm] []))
  refine go (fun t kt' => by refine XS.iloadN X0.here hx rfl (hb hby d17_9) rfl ?_; exact kt') ?_
  show Go p e below _ (s₁.setTop (mkF m 10 #[.val (.int p0), .val (.int p1), .val (.int p2), .val fm] [(.int p1)]))
  refine go (fun t kt' => by refine XS.iloadN X0.here hx rfl (hb hby d17_10) rfl ?_; exact kt') ?_
  show Go p e below _ (s₁.setTop (mkF m 11 #[.val (.int p0), .val (.int p1), .val (.int p2), .val fm] [(.int p2), (.int p1)]))
  have c11_3 : ¬ p2 < p1 := own_ngt hbd.2.2
  refine go (fun t kt' => by refine XS.icmpYes X0.here hx rfl (pc0 := 11) (pc' := 22) rfl (hb hby d17_11) rfl (flt c11_3).2.2.2 (by decide) (by decide) ?_; exact kt') ?_
  show Go p e below _ (s₁.setTop (mkF m 22 #[.val (.int p0), .val (.int p1), .val (.int p2), .val fm] []))
  refine go (fun t kt' => by refine XS.iloadN X0.here hx rfl (hb hby d17_22) rfl ?_; exact kt') ?_
  show Go p e below _ (s₁.setTop (mkF m 23 #[.val (.int p0), .val (.int p1), .val (.int p2), .val fm] [(.int p0)]))
  refine goOut X0 (fun h => by rw [Bd.returns] at h; cases h) hlk (fun fs hr => retOut X0 hx Bd.returns rfl (Or.inl ⟨rfl, Or.inl rfl, _, rfl⟩) (hb hby d17_23) hr) (by decide) (by decide) ?_
  rw [e0]
  exact ⟨_, rfl, N0, rfl⟩
theorem d27_0 : decode jdk_41_method_11_code 0 = .ok (.iload_n 0, 1) := by decide +kernel
theorem d27_1 : decode jdk_41_method_11_code 1 = .ok (.ifCond .lt 8, 3) := by decide +kernel
theorem d27_4 : decode jdk_41_method_11_code 4 = .ok (.iload_n 0, 1) := by decide +kernel
theorem d27_5 : decode jdk_41_method_11_code 5 = .ok (.iload_n 1, 1) := by decide +kernel
theorem d27_6 : decode jdk_41_method_11_code 6 = .ok (.if_icmp .lt 10, 3) := by decide +kernel
theorem d27_16 : decode jdk_41_method_11_code 16 = .ok (.iload_n 0, 1) := by decide +kernel
theorem d27_17 : decode jdk_41_method_11_code 17 = .ok (.ireturn, 1) := by decide +kernel
theorem ef_rm_pi (m : MethodId) (x0 : Int32) (x1 : Int32) (x2 : Value) (hx2 : x2.category = 1) : entryFrame m #[(.int x0), (.int x1), x2] 3 = mkF m 0 #[.val (.int x0), .val (.int x1), .val x2] [] := by cases x2 <;> first | (simp [entryFrame, mkF, argsToLocals, Value.category, hx2]; done) | rfl | (simp [Value.category] at hx2)
def Q_pi (Z : State)  (h0 : Heap) (n0 : Nat) (v : Option Value) (h : Heap) (L : List Loc) : Prop := ∃ r : Int32, v = some (.int r) ∧ Fr n0 L ∧ h = h0
set_option maxRecDepth 65536 in
set_option maxHeartbeats 40000000 in
theorem rm_pi (l : Launch) (Z : State) (a0 : Array Value) (hw : ∀ d ∈ tables_1, d.before a0 Z = true) (ws : List Jvm.Cond) (p0 : Int32) (p1 : Int32) (fm : Value) (hfm : fm.isRef = true) (cs : Int32) (kd1 kd2 kd3 kd4 : Addr)  (h0 : Heap) (n0 : Nat) (Z0 : n0 ≤ h0.size) (HS : own_sets Z cs fm kd1 kd2 kd3 kd4) (OO : Old Z n0 h0) (hbd : 0 ≤ p0.toInt ∧ p0.toInt < p1.toInt) :
    MetFree l (⟨"jdk/internal/util/Preconditions", "checkIndex", "(IILjava/util/function/BiFunction;)I"⟩ : MethodName) (head1 (Jvm.Cond.code (⟨"jdk/internal/util/Preconditions", "checkIndex", "(IILjava/util/function/BiFunction;)I"⟩ : MethodName) jdk_41_method_11_code 3 (some .int) :: ws) ({ frames := 0, cells := 0, slots := 0, locals := 0 } : Room)) (fun av' U => av' = #[(.int p0), (.int p1), fm] ∧ Z.Warmed39 U.vm ∧ U.heap = h0) (fun _ _ _ _ _ => True) (fun _ U o U' => ∃ v L, o = .returned v ∧ Q_pi Z  h0 n0 v U'.heap L ∧ FrameEnd U o U' L ({ frames := 0, cells := 0, slots := 0, locals := 0 } : Room).cells ({ frames := 0, cells := 0, slots := 0, locals := 0 } : Room).slots) := by
  refine MetFree.of_bodySF (plainFor_of_name pn_jdk_internal_util_Preconditions) hisR ?_
  intro p e s m args below meth c s₁ Bd hml0 hP hK
  obtain ⟨rfl, hZ, hh⟩ := hP
  have hx := Bd.exec
  have hby := Bd.bytes
  have hlk := Bd.notSynchronized
  have hml : c.maxLocals = 3 := hml0
  have hown : s.vm.findClass "jdk/internal/util/Preconditions" = some m.cls := findClass_of_methodNamed Bd.named
  have hnm := (name_of_methodNamed Bd.named Bd.method).1
  have X0 : Stand p l e ({ frames := 0, cells := 0, slots := 0, locals := 0 } : Room) s m #[(.int p0), (.int p1), fm] below meth c s₁ [] 0 0 := Stand.of_body Bd
  have e0 : s₁.heap = h0 := by rw [← hh, Bd.state]; rfl
  have N0 := Fr.nil n0
  show Go p e below (Kq s (Q_pi Z  h0 n0) ({ frames := 0, cells := 0, slots := 0, locals := 0 } : Room).cells ({ frames := 0, cells := 0, slots := 0, locals := 0 } : Room).slots) _
  refine go (fun t kt => castTop (ef_rm_pi m p0 p1 fm (cat_of_ref hfm)) kt) ?_
  have HS0 := HS
  obtain ⟨S_cs, hcs, S_fm, hfm, S_k1, S_k2, S_k3, S_k4⟩ := HS0
  show Go p e below _ (s₁.setTop (mkF m 0 #[.val (.int p0), .val (.int p1), .val fm] []))
  refine go (fun t kt' => by refine XS.iloadN X0.here hx rfl (hb hby d27_0) rfl ?_; exact kt') ?_
  show Go p e below _ (s₁.setTop (mkF m 1 #[.val (.int p0), .val (.int p1), .val fm] [(.int p0)]))
  have c1_1 : ¬ (p0 < (0 : Int32)) := own_nlt hbd.1
  refine go (fun t kt' => by refine XS.ifNo X0.here hx rfl (hb hby d27_1) rfl ((if0 _ _).trans (flt c1_1).1) ?_; exact kt') ?_
  show Go p e below _ (s₁.setTop (mkF m 4 #[.val (.int p0), .val (.int p1), .val fm] []))
  refine go (fun t kt' => by refine XS.iloadN X0.here hx rfl (hb hby d27_4) rfl ?_; exact kt') ?_
  show Go p e below _ (s₁.setTop (mkF m 5 #[.val (.int p0), .val (.int p1), .val fm] [(.int p0)]))
  refine go (fun t kt' => by refine XS.iloadN X0.here hx rfl (hb hby d27_5) rfl ?_; exact kt') ?_
  show Go p e below _ (s₁.setTop (mkF m 6 #[.val (.int p0), .val (.int p1), .val fm] [(.int p1), (.int p0)]))
  have c6_2 : p0 < p1 := own_lt hbd.2
  refine go (fun t kt' => by refine XS.icmpYes X0.here hx rfl (pc0 := 6) (pc' := 16) rfl (hb hby d27_6) rfl (tlt c6_2).1 (by decide) (by decide) ?_; exact kt') ?_
  show Go p e below _ (s₁.setTop (mkF m 16 #[.val (.int p0), .val (.int p1), .val fm] []))
  refine go (fun t kt' => by refine XS.iloadN X0.here hx rfl (hb hby d27_16) rfl ?_; exact kt') ?_
  show Go p e below _ (s₁.setTop (mkF m 17 #[.val (.int p0), .val (.int p1), .val fm] [(.int p0)]))
  refine goOut X0 (fun h => by rw [Bd.returns] at h; cases h) hlk (fun fs hr => retOut X0 hx Bd.returns rfl (Or.inl ⟨rfl, Or.inl rfl, _, rfl⟩) (hb hby d27_17) hr) (by decide) (by decide) ?_
  rw [e0]
  exact ⟨_, rfl, N0, rfl⟩
theorem d16_0 : decode jdk_42_method_158_code 0 = .ok (.iload_n 0, 1) := by decide +kernel
theorem d16_1 : decode jdk_42_method_158_code 1 = .ok (.iload_n 1, 1) := by decide +kernel
theorem d16_2 : decode jdk_42_method_158_code 2 = .ok (.iload_n 2, 1) := by decide +kernel
theorem d16_3 : decode jdk_42_method_158_code 3 = .ok (.getstatic 1053, 3) := by decide +kernel
theorem d16_6 : decode jdk_42_method_158_code 6 = .ok (.invokestatic 1062, 3) := by decide +kernel
theorem pd_6 : parseMethodDescriptor "(IIILjava/util/function/BiFunction;)I" = some ⟨[.int, .int, .int, (.object "java/util/function/BiFunction")], some .int⟩ := by decide +kernel
theorem d16_9 : decode jdk_42_method_158_code 9 = .ok (.pop, 1) := by decide +kernel
theorem d16_10 : decode jdk_42_method_158_code 10 = .ok (.return_, 1) := by decide +kernel
theorem ef_rm_bb (m : MethodId) (x0 : Int32) (x1 : Int32) (x2 : Int32) : entryFrame m #[(.int x0), (.int x1), (.int x2)] 3 = mkF m 0 #[.val (.int x0), .val (.int x1), .val (.int x2)] [] := by first | (simp [entryFrame, mkF, argsToLocals, Value.category]; done) | rfl
def Q_bb (Z : State)  (h0 : Heap) (n0 : Nat) (v : Option Value) (h : Heap) (L : List Loc) : Prop := v = none ∧ Fr n0 L ∧ h = h0
set_option maxRecDepth 65536 in
set_option maxHeartbeats 40000000 in
theorem rm_bb (l : Launch) (Z : State) (a0 : Array Value) (hw : ∀ d ∈ tables_1, d.before a0 Z = true) (ws : List Jvm.Cond) (p0 : Int32) (p1 : Int32) (p2 : Int32) (cs : Int32) (fm : Value) (kd1 kd2 kd3 kd4 : Addr)  (h0 : Heap) (n0 : Nat) (Z0 : n0 ≤ h0.size) (HS : own_sets Z cs fm kd1 kd2 kd3 kd4) (OO : Old Z n0 h0) (hbd : 0 ≤ p0.toInt ∧ p0.toInt ≤ p1.toInt ∧ p1.toInt ≤ p2.toInt) :
    MetFree l (⟨"java/lang/String", "checkBoundsBeginEnd", "(III)V"⟩ : MethodName) (head1 (Jvm.Cond.code (⟨"java/lang/String", "checkBoundsBeginEnd", "(III)V"⟩ : MethodName) jdk_42_method_158_code 3 none :: ws) ({ frames := 1, cells := 0, slots := 0, locals := 15 } : Room)) (fun av' U => av' = #[(.int p0), (.int p1), (.int p2)] ∧ Z.Warmed39 U.vm ∧ U.heap = h0) (fun _ _ _ _ _ => True) (fun _ U o U' => ∃ v L, o = .returned v ∧ Q_bb Z  h0 n0 v U'.heap L ∧ FrameEnd U o U' L ({ frames := 1, cells := 0, slots := 0, locals := 15 } : Room).cells ({ frames := 1, cells := 0, slots := 0, locals := 15 } : Room).slots) := by
  refine MetFree.of_bodySF (plainFor_of_name pn_java_lang_String) hisR ?_
  intro p e s m args below meth c s₁ Bd hml0 hP hK
  obtain ⟨rfl, hZ, hh⟩ := hP
  have hx := Bd.exec
  have hby := Bd.bytes
  have hlk := Bd.notSynchronized
  have hml : c.maxLocals = 3 := hml0
  have hown : s.vm.findClass "java/lang/String" = some m.cls := findClass_of_methodNamed Bd.named
  have hnm := (name_of_methodNamed Bd.named Bd.method).1
  have X0 : Stand p l e ({ frames := 1, cells := 0, slots := 0, locals := 15 } : Room) s m #[(.int p0), (.int p1), (.int p2)] below meth c s₁ [] 0 0 := Stand.of_body Bd
  have e0 : s₁.heap = h0 := by rw [← hh, Bd.state]; rfl
  have N0 := Fr.nil n0
  show Go p e below (Kq s (Q_bb Z  h0 n0) ({ frames := 1, cells := 0, slots := 0, locals := 15 } : Room).cells ({ frames := 1, cells := 0, slots := 0, locals := 15 } : Room).slots) _
  refine go (fun t kt => castTop (ef_rm_bb m p0 p1 p2) kt) ?_
  have HS0 := HS
  obtain ⟨S_cs, hcs, S_fm, hfm, S_k1, S_k2, S_k3, S_k4⟩ := HS0
  show Go p e below _ (s₁.setTop (mkF m 0 #[.val (.int p0), .val (.int p1), .val (.int p2)] []))
  refine go (fun t kt' => by refine XS.iloadN X0.here hx rfl (hb hby d16_0) rfl ?_; exact kt') ?_
  show Go p e below _ (s₁.setTop (mkF m 1 #[.val (.int p0), .val (.int p1), .val (.int p2)] [(.int p0)]))
  refine go (fun t kt' => by refine XS.iloadN X0.here hx rfl (hb hby d16_1) rfl ?_; exact kt') ?_
  show Go p e below _ (s₁.setTop (mkF m 2 #[.val (.int p0), .val (.int p1), .val (.int p2)] [(.int p1), (.int p0)]))
  refine go (fun t kt' => by refine XS.iloadN X0.here hx rfl (hb hby d16_2) rfl ?_; exact kt') ?_
  show Go p e below _ (s₁.setTop (mkF m 3 #[.val (.int p0), .val (.int p1), .val (.int p2)] [(.int p2), (.int p1), (.int p0)]))
  obtain ⟨T1, X1, e1, st1⟩ := getS2 X0 hx hZ hown (host := "") (Or.inl (hw _ (List.mem_of_getElem? (i := 88) rfl))) Via.refl e0 (Sta.ext OO.2 S_fm) (g := (mkF m 3 #[.val (.int p0), .val (.int p1), .val (.int p2)] [(.int p2), (.int p1), (.int p0)])) rfl (hb hby d16_3)
  refine go st1 ?_
  show Go p e below _ (T1.setTop (mkF m 6 #[.val (.int p0), .val (.int p1), .val (.int p2)] [fm, (.int p2), (.int p1), (.int p0)]))
  obtain ⟨_, _, ⟨T2, L2, k2, n2⟩, -, X2, ⟨Lc2, hQ2, l2, y2, z2⟩, st2⟩ := Jvm.LawKit.callS X1 hx (y := (⟨"jdk/internal/util/Preconditions", "checkFromToIndex", "(IIILjava/util/function/BiFunction;)I"⟩ : MethodName)) hown (mvT hZ (hw _ (List.mem_of_getElem? (i := 90) rfl))) (mvT hZ (hw _ (List.mem_of_getElem? (i := 91) rfl))) (mvT hZ (hw _ (List.mem_of_getElem? (i := 89) rfl))) (mvT hZ (hw _ (List.mem_of_getElem? (i := 92) rfl))) (by decide) (backOf (W := 0) (rm_ft l Z a0 hw [] p0 p1 p2 fm hfm cs kd1 kd2 kd3 kd4 h0 n0 Z0 HS OO hbd) hZ (hw _ (List.mem_of_getElem? (i := 92) rfl)) (hw _ (List.mem_of_getElem? (i := 89) rfl)) (by decide) (by decide)) (g := (mkF m 6 #[.val (.int p0), .val (.int p1), .val (.int p2)] [fm, (.int p2), (.int p1), (.int p0)])) rfl (by rw [hml]; rfl) (argsL := [(.int p0), (.int p1), (.int p2), fm]) (rest := []) (lenOf pd_6 rfl) rfl (by show 2 * 0 + _ ≤ _; exact Nat.le_of_eq rfl) (hb hby d16_6) (fun _ _ => ⟨rfl, e1, (by decide : 0 + 0 ≤ _), (by decide : 0 + 0 ≤ _)⟩)
  dsimp only [Pt.U, Pt.locs, Pt.cells, Pt.slots] at X2 l2 y2 z2 st2 hQ2
  rw [l2, y2, z2] at X2
  obtain ⟨r2, rfl, N2q, e2⟩ := hQ2
  have N2 := Fr.app N0 N2q
  refine go st2 ?_
  show Go p e below _ (T2.setTop (mkF m 9 #[.val (.int p0), .val (.int p1), .val (.int p2)] [(.int r2)]))
  refine go (fun t kt' => by refine XS.pop X2.here hx rfl (hb hby d16_9) rfl rfl ?_; exact kt') ?_
  show Go p e below _ (T2.setTop (mkF m 10 #[.val (.int p0), .val (.int p1), .val (.int p2)] []))
  refine goOut X2 (fun _ => rfl) hlk (fun fs hr => X2.returnOut hx Bd.returns (hb hby d16_10) hr) (by decide) (by decide) ?_
  rw [e2]
  exact ⟨rfl, N2, rfl⟩
theorem d26_0 : decode jdk_42_method_155_code 0 = .ok (.iload_n 0, 1) := by decide +kernel
theorem d26_1 : decode jdk_42_method_155_code 1 = .ok (.iload_n 1, 1) := by decide +kernel
theorem d26_2 : decode jdk_42_method_155_code 2 = .ok (.getstatic 1053, 3) := by decide +kernel
theorem d26_5 : decode jdk_42_method_155_code 5 = .ok (.invokestatic 1059, 3) := by decide +kernel
theorem pd_7 : parseMethodDescriptor "(IILjava/util/function/BiFunction;)I" = some ⟨[.int, .int, (.object "java/util/function/BiFunction")], some .int⟩ := by decide +kernel
theorem d26_8 : decode jdk_42_method_155_code 8 = .ok (.pop, 1) := by decide +kernel
theorem d26_9 : decode jdk_42_method_155_code 9 = .ok (.return_, 1) := by decide +kernel
theorem ef_rm_ci (m : MethodId) (x0 : Int32) (x1 : Int32) : entryFrame m #[(.int x0), (.int x1)] 2 = mkF m 0 #[.val (.int x0), .val (.int x1)] [] := by first | (simp [entryFrame, mkF, argsToLocals, Value.category]; done) | rfl
def Q_ci (Z : State)  (h0 : Heap) (n0 : Nat) (v : Option Value) (h : Heap) (L : List Loc) : Prop := v = none ∧ Fr n0 L ∧ h = h0
set_option maxRecDepth 65536 in
set_option maxHeartbeats 40000000 in
theorem rm_ci (l : Launch) (Z : State) (a0 : Array Value) (hw : ∀ d ∈ tables_1, d.before a0 Z = true) (ws : List Jvm.Cond) (p0 : Int32) (p1 : Int32) (cs : Int32) (fm : Value) (kd1 kd2 kd3 kd4 : Addr)  (h0 : Heap) (n0 : Nat) (Z0 : n0 ≤ h0.size) (HS : own_sets Z cs fm kd1 kd2 kd3 kd4) (OO : Old Z n0 h0) (hbd : 0 ≤ p0.toInt ∧ p0.toInt < p1.toInt) :
    MetFree l (⟨"java/lang/String", "checkIndex", "(II)V"⟩ : MethodName) (head1 (Jvm.Cond.code (⟨"java/lang/String", "checkIndex", "(II)V"⟩ : MethodName) jdk_42_method_155_code 2 none :: ws) ({ frames := 1, cells := 0, slots := 0, locals := 14 } : Room)) (fun av' U => av' = #[(.int p0), (.int p1)] ∧ Z.Warmed39 U.vm ∧ U.heap = h0) (fun _ _ _ _ _ => True) (fun _ U o U' => ∃ v L, o = .returned v ∧ Q_ci Z  h0 n0 v U'.heap L ∧ FrameEnd U o U' L ({ frames := 1, cells := 0, slots := 0, locals := 14 } : Room).cells ({ frames := 1, cells := 0, slots := 0, locals := 14 } : Room).slots) := by
  refine MetFree.of_bodySF (plainFor_of_name pn_java_lang_String) hisR ?_
  intro p e s m args below meth c s₁ Bd hml0 hP hK
  obtain ⟨rfl, hZ, hh⟩ := hP
  have hx := Bd.exec
  have hby := Bd.bytes
  have hlk := Bd.notSynchronized
  have hml : c.maxLocals = 2 := hml0
  have hown : s.vm.findClass "java/lang/String" = some m.cls := findClass_of_methodNamed Bd.named
  have hnm := (name_of_methodNamed Bd.named Bd.method).1
  have X0 : Stand p l e ({ frames := 1, cells := 0, slots := 0, locals := 14 } : Room) s m #[(.int p0), (.int p1)] below meth c s₁ [] 0 0 := Stand.of_body Bd
  have e0 : s₁.heap = h0 := by rw [← hh, Bd.state]; rfl
  have N0 := Fr.nil n0
  show Go p e below (Kq s (Q_ci Z  h0 n0) ({ frames := 1, cells := 0, slots := 0, locals := 14 } : Room).cells ({ frames := 1, cells := 0, slots := 0, locals := 14 } : Room).slots) _
  refine go (fun t kt => castTop (ef_rm_ci m p0 p1) kt) ?_
  have HS0 := HS
  obtain ⟨S_cs, hcs, S_fm, hfm, S_k1, S_k2, S_k3, S_k4⟩ := HS0
  show Go p e below _ (s₁.setTop (mkF m 0 #[.val (.int p0), .val (.int p1)] []))
  refine go (fun t kt' => by refine XS.iloadN X0.here hx rfl (hb hby d26_0) rfl ?_; exact kt') ?_
  show Go p e below _ (s₁.setTop (mkF m 1 #[.val (.int p0), .val (.int p1)] [(.int p0)]))
  refine go (fun t kt' => by refine XS.iloadN X0.here hx rfl (hb hby d26_1) rfl ?_; exact kt') ?_
  show Go p e below _ (s₁.setTop (mkF m 2 #[.val (.int p0), .val (.int p1)] [(.int p1), (.int p0)]))
  obtain ⟨T1, X1, e1, st1⟩ := getS2 X0 hx hZ hown (host := "") (Or.inl (hw _ (List.mem_of_getElem? (i := 88) rfl))) Via.refl e0 (Sta.ext OO.2 S_fm) (g := (mkF m 2 #[.val (.int p0), .val (.int p1)] [(.int p1), (.int p0)])) rfl (hb hby d26_2)
  refine go st1 ?_
  show Go p e below _ (T1.setTop (mkF m 5 #[.val (.int p0), .val (.int p1)] [fm, (.int p1), (.int p0)]))
  obtain ⟨_, _, ⟨T2, L2, k2, n2⟩, -, X2, ⟨Lc2, hQ2, l2, y2, z2⟩, st2⟩ := Jvm.LawKit.callS X1 hx (y := (⟨"jdk/internal/util/Preconditions", "checkIndex", "(IILjava/util/function/BiFunction;)I"⟩ : MethodName)) hown (mvT hZ (hw _ (List.mem_of_getElem? (i := 133) rfl))) (mvT hZ (hw _ (List.mem_of_getElem? (i := 134) rfl))) (mvT hZ (hw _ (List.mem_of_getElem? (i := 89) rfl))) (mvT hZ (hw _ (List.mem_of_getElem? (i := 135) rfl))) (by decide) (backOf (W := 0) (rm_pi l Z a0 hw [] p0 p1 fm hfm cs kd1 kd2 kd3 kd4 h0 n0 Z0 HS OO hbd) hZ (hw _ (List.mem_of_getElem? (i := 135) rfl)) (hw _ (List.mem_of_getElem? (i := 89) rfl)) (by decide) (by decide)) (g := (mkF m 5 #[.val (.int p0), .val (.int p1)] [fm, (.int p1), (.int p0)])) rfl (by rw [hml]; rfl) (argsL := [(.int p0), (.int p1), fm]) (rest := []) (lenOf pd_7 rfl) rfl (by show 2 * 0 + _ ≤ _; exact Nat.le_of_eq rfl) (hb hby d26_5) (fun _ _ => ⟨rfl, e1, (by decide : 0 + 0 ≤ _), (by decide : 0 + 0 ≤ _)⟩)
  dsimp only [Pt.U, Pt.locs, Pt.cells, Pt.slots] at X2 l2 y2 z2 st2 hQ2
  rw [l2, y2, z2] at X2
  obtain ⟨r2, rfl, N2q, e2⟩ := hQ2
  have N2 := Fr.app N0 N2q
  refine go st2 ?_
  show Go p e below _ (T2.setTop (mkF m 8 #[.val (.int p0), .val (.int p1)] [(.int r2)]))
  refine go (fun t kt' => by refine XS.pop X2.here hx rfl (hb hby d26_8) rfl rfl ?_; exact kt') ?_
  show Go p e below _ (T2.setTop (mkF m 9 #[.val (.int p0), .val (.int p1)] []))
  refine goOut X2 (fun _ => rfl) hlk (fun fs hr => X2.returnOut hx Bd.returns (hb hby d26_9) hr) (by decide) (by decide) ?_
  rw [e2]
  exact ⟨rfl, N2, rfl⟩
theorem d25_0 : decode jdk_43_method_2_code 0 = .ok (.iload_n 1, 1) := by decide +kernel
theorem d25_1 : decode jdk_43_method_2_code 1 = .ok (.aload_n 0, 1) := by decide +kernel
theorem d25_2 : decode jdk_43_method_2_code 2 = .ok (.arraylength, 1) := by decide +kernel
theorem d25_3 : decode jdk_43_method_2_code 3 = .ok (.invokestatic 9, 3) := by decide +kernel
theorem pd_8 : parseMethodDescriptor "(II)V" = some ⟨[.int, .int], none⟩ := by decide +kernel
theorem d25_6 : decode jdk_43_method_2_code 6 = .ok (.aload_n 0, 1) := by decide +kernel
theorem d25_7 : decode jdk_43_method_2_code 7 = .ok (.iload_n 1, 1) := by decide +kernel
theorem d25_8 : decode jdk_43_method_2_code 8 = .ok (.baload, 1) := by decide +kernel
theorem d25_9 : decode jdk_43_method_2_code 9 = .ok (.sipush 255, 3) := by decide +kernel
theorem d25_12 : decode jdk_43_method_2_code 12 = .ok (.iand, 1) := by decide +kernel
theorem d25_13 : decode jdk_43_method_2_code 13 = .ok (.i2c, 1) := by decide +kernel
theorem d25_14 : decode jdk_43_method_2_code 14 = .ok (.ireturn, 1) := by decide +kernel
theorem pn_java_lang_StringLatin1 : plainName "java/lang/StringLatin1" = true := by first | (simp [plainName, overriddenIn]; done) | decide +kernel
theorem ef_rm_lc (m : MethodId) (x0 : Addr) (x1 : Int32) : entryFrame m #[(.ref x0), (.int x1)] 2 = mkF m 0 #[.val (.ref x0), .val (.int x1)] [] := by first | (simp [entryFrame, mkF, argsToLocals, Value.category]; done) | rfl
def Q_lc (Z : State) (J : Nat) (f : Nat → Int32) (h0 : Heap) (n0 : Nat) (v : Option Value) (h : Heap) (L : List Loc) : Prop := v = some (.int (f J &&& (255 : Int32))) ∧ Fr n0 L ∧ h = h0
set_option maxRecDepth 65536 in
set_option maxHeartbeats 40000000 in
theorem rm_lc (l : Launch) (Z : State) (a0 : Array Value) (hw : ∀ d ∈ tables_1, d.before a0 Z = true) (ws : List Jvm.Cond) (b : Addr) (p1 : Int32) (cs : Int32) (fm : Value) (kd1 kd2 kd3 kd4 : Addr) (N J : Nat) (f : Nat → Int32) (h0 : Heap) (n0 : Nat) (Z0 : n0 ≤ h0.size) (HS : own_sets Z cs fm kd1 kd2 kd3 kd4) (OO : Old Z n0 h0) (V_b : IA Z h0 b .byte N f) (hJ : p1.toInt = J) (hN : J < N) (hN4 : N ≤ 4) :
    MetFree l (⟨"java/lang/StringLatin1", "charAt", "([BI)C"⟩ : MethodName) (head1 (Jvm.Cond.code (⟨"java/lang/StringLatin1", "charAt", "([BI)C"⟩ : MethodName) jdk_43_method_2_code 2 (some .char) :: ws) ({ frames := 2, cells := 0, slots := 0, locals := 27 } : Room)) (fun av' U => av' = #[(.ref b), (.int p1)] ∧ Z.Warmed39 U.vm ∧ U.heap = h0) (fun _ _ _ _ _ => True) (fun _ U o U' => ∃ v L, o = .returned v ∧ Q_lc Z J f h0 n0 v U'.heap L ∧ FrameEnd U o U' L ({ frames := 2, cells := 0, slots := 0, locals := 27 } : Room).cells ({ frames := 2, cells := 0, slots := 0, locals := 27 } : Room).slots) := by
  refine MetFree.of_bodySF (plainFor_of_name pn_java_lang_StringLatin1) hisR ?_
  intro p e s m args below meth c s₁ Bd hml0 hP hK
  obtain ⟨rfl, hZ, hh⟩ := hP
  have hx := Bd.exec
  have hby := Bd.bytes
  have hlk := Bd.notSynchronized
  have hml : c.maxLocals = 2 := hml0
  have hown : s.vm.findClass "java/lang/StringLatin1" = some m.cls := findClass_of_methodNamed Bd.named
  have hnm := (name_of_methodNamed Bd.named Bd.method).1
  have X0 : Stand p l e ({ frames := 2, cells := 0, slots := 0, locals := 27 } : Room) s m #[(.ref b), (.int p1)] below meth c s₁ [] 0 0 := Stand.of_body Bd
  have e0 : s₁.heap = h0 := by rw [← hh, Bd.state]; rfl
  have N0 := Fr.nil n0
  show Go p e below (Kq s (Q_lc Z J f h0 n0) ({ frames := 2, cells := 0, slots := 0, locals := 27 } : Room).cells ({ frames := 2, cells := 0, slots := 0, locals := 27 } : Room).slots) _
  refine go (fun t kt => castTop (ef_rm_lc m b p1) kt) ?_
  have HS0 := HS
  obtain ⟨S_cs, hcs, S_fm, hfm, S_k1, S_k2, S_k3, S_k4⟩ := HS0
  show Go p e below _ (s₁.setTop (mkF m 0 #[.val (.ref b), .val (.int p1)] []))
  refine go (fun t kt' => by refine XS.iloadN X0.here hx rfl (hb hby d25_0) rfl ?_; exact kt') ?_
  show Go p e below _ (s₁.setTop (mkF m 1 #[.val (.ref b), .val (.int p1)] [(.int p1)]))
  refine go (fun t kt' => by refine XS.aloadN X0.here hx rfl (hb hby d25_1) rfl rfl ?_; exact kt') ?_
  show Go p e below _ (s₁.setTop (mkF m 2 #[.val (.ref b), .val (.int p1)] [(.ref b), (.int p1)]))
  refine go (fun t kt' => by refine lenIA X0 hx hZ e0 V_b (g := (mkF m 2 #[.val (.ref b), .val (.int p1)] [(.ref b), (.int p1)])) rfl rfl (hb hby d25_2) t ?_; exact kt') ?_
  show Go p e below _ (s₁.setTop (mkF m 3 #[.val (.ref b), .val (.int p1)] [(.int (Nat.toInt32 N)), (.int p1)]))
  obtain ⟨_, _, ⟨T1, L1, k1, n1⟩, -, X1, ⟨Lc1, hQ1, l1, y1, z1⟩, st1⟩ := Jvm.LawKit.callS X0 hx (y := (⟨"java/lang/String", "checkIndex", "(II)V"⟩ : MethodName)) hown (mvT hZ (hw _ (List.mem_of_getElem? (i := 130) rfl))) (mvT hZ (hw _ (List.mem_of_getElem? (i := 131) rfl))) (mvT hZ (hw _ (List.mem_of_getElem? (i := 3) rfl))) (mvT hZ (hw _ (List.mem_of_getElem? (i := 132) rfl))) (by decide) (backOf (W := 0) (rm_ci l Z a0 hw [] p1 (Nat.toInt32 N) cs fm kd1 kd2 kd3 kd4  h0 n0 Z0 HS OO (own_cib hJ hN hN4)) hZ (hw _ (List.mem_of_getElem? (i := 132) rfl)) (hw _ (List.mem_of_getElem? (i := 3) rfl)) (by decide) (by decide)) (g := (mkF m 3 #[.val (.ref b), .val (.int p1)] [(.int (Nat.toInt32 N)), (.int p1)])) rfl (by rw [hml]; rfl) (argsL := [(.int p1), (.int (Nat.toInt32 N))]) (rest := []) (lenOf pd_8 rfl) rfl (by show 2 * 0 + _ ≤ _; exact Nat.le_of_eq rfl) (hb hby d25_3) (fun _ _ => ⟨rfl, e0, (by decide : 0 + 0 ≤ _), (by decide : 0 + 0 ≤ _)⟩)
  dsimp only [Pt.U, Pt.locs, Pt.cells, Pt.slots] at X1 l1 y1 z1 st1 hQ1
  rw [l1, y1, z1] at X1
  obtain ⟨rfl, N1q, e1⟩ := hQ1
  have N1 := Fr.app N0 N1q
  refine go st1 ?_
  show Go p e below _ (T1.setTop (mkF m 6 #[.val (.ref b), .val (.int p1)] []))
  refine go (fun t kt' => by refine XS.aloadN X1.here hx rfl (hb hby d25_6) rfl rfl ?_; exact kt') ?_
  show Go p e below _ (T1.setTop (mkF m 7 #[.val (.ref b), .val (.int p1)] [(.ref b)]))
  refine go (fun t kt' => by refine XS.iloadN X1.here hx rfl (hb hby d25_7) rfl ?_; exact kt') ?_
  show Go p e below _ (T1.setTop (mkF m 8 #[.val (.ref b), .val (.int p1)] [(.int p1), (.ref b)]))
  refine go (fun t kt' => by refine ldBA X1 hx hZ e1 V_b (j := p1) (show 0 ≤ p1.toInt ∧ p1.toInt < (N : Nat) from by omega) (g := (mkF m 8 #[.val (.ref b), .val (.int p1)] [(.int p1), (.ref b)])) rfl rfl (hb hby d25_8) t ?_; exact kt') ?_
  show Go p e below _ (T1.setTop (mkF m 9 #[.val (.ref b), .val (.int p1)] [(.int (f (p1).toNatClampNeg))]))
  refine go (fun t kt' => by refine XS.sipush X1.here hx rfl (hb hby d25_9) ?_; exact kt') ?_
  show Go p e below _ (T1.setTop (mkF m 12 #[.val (.ref b), .val (.int p1)] [(.int (255 : Int32)), (.int (f (p1).toNatClampNeg))]))
  refine go (fun t kt' => by refine XS.iand X1.here hx rfl (hb hby d25_12) rfl ?_; exact kt') ?_
  show Go p e below _ (T1.setTop (mkF m 13 #[.val (.ref b), .val (.int p1)] [(.int ((f (p1).toNatClampNeg) &&& (255 : Int32)))]))
  refine go (fun t kt' => by refine XS.i2c X1.here hx rfl (hb hby d25_13) rfl ?_; exact kt') ?_
  show Go p e below _ (T1.setTop (mkF m 14 #[.val (.ref b), .val (.int p1)] [(.int (((f (p1).toNatClampNeg) &&& (255 : Int32)).toUInt32.toUInt16.toUInt32.toInt32))]))
  refine goOut X1 (fun h => by rw [Bd.returns] at h; cases h) hlk (fun fs hr => retN X1 hx (t := .char) Bd.returns (by simp) (hb hby d25_14) hr) (by decide) (by decide) ?_
  rw [e1]
  exact ⟨by rw [own_cl hJ, own_chr], N1, rfl⟩
theorem d24_0 : decode jdk_42_method_56_code 0 = .ok (.aload_n 0, 1) := by decide +kernel
theorem d24_1 : decode jdk_42_method_56_code 1 = .ok (.invokevirtual 492, 3) := by decide +kernel
theorem pd_9 : parseMethodDescriptor "()Z" = some ⟨[], some .boolean⟩ := by decide +kernel
theorem d24_4 : decode jdk_42_method_56_code 4 = .ok (.ifCond .eq 12, 3) := by decide +kernel
theorem d24_7 : decode jdk_42_method_56_code 7 = .ok (.aload_n 0, 1) := by decide +kernel
theorem d24_8 : decode jdk_42_method_56_code 8 = .ok (.getfield 9, 3) := by decide +kernel
theorem d24_11 : decode jdk_42_method_56_code 11 = .ok (.iload_n 1, 1) := by decide +kernel
theorem d24_12 : decode jdk_42_method_56_code 12 = .ok (.invokestatic 495, 3) := by decide +kernel
theorem pd_10 : parseMethodDescriptor "([BI)C" = some ⟨[(.array .byte), .int], some .char⟩ := by decide +kernel
theorem d24_15 : decode jdk_42_method_56_code 15 = .ok (.ireturn, 1) := by decide +kernel
theorem ef_rm_ca (m : MethodId) (x0 : Addr) (x1 : Int32) : entryFrame m #[(.ref x0), (.int x1)] 2 = mkF m 0 #[.val (.ref x0), .val (.int x1)] [] := by first | (simp [entryFrame, mkF, argsToLocals, Value.category]; done) | rfl
def Q_ca (Z : State) (J : Nat) (f : Nat → Int32) (h0 : Heap) (n0 : Nat) (v : Option Value) (h : Heap) (L : List Loc) : Prop := v = some (.int (f J &&& (255 : Int32))) ∧ Fr n0 L ∧ h = h0
set_option maxRecDepth 65536 in
set_option maxHeartbeats 40000000 in
theorem rm_ca (l : Launch) (Z : State) (a0 : Array Value) (hw : ∀ d ∈ tables_1, d.before a0 Z = true) (ws : List Jvm.Cond) (a : Addr) (p1 : Int32) (cs : Int32) (fm : Value) (kd1 kd2 kd3 kd4 : Addr) (b : Addr) (N J : Nat) (f : Nat → Int32) (h0 : Heap) (n0 : Nat) (Z0 : n0 ≤ h0.size) (HS : own_sets Z cs fm kd1 kd2 kd3 kd4) (OO : Old Z n0 h0) (E_a : Exa Z h0 a "java/lang/String") (F_value_a : Fld Z h0 a "java/lang/String" "value" "[B" (.ref b)) (F_coder_a : Fld Z h0 a "java/lang/String" "coder" "B" (.int (0 : Int32))) (V_b : IA Z h0 b .byte N f) (hJ : p1.toInt = J) (hN : J < N) (hN4 : N ≤ 4) :
    MetFree l (⟨"java/lang/String", "charAt", "(I)C"⟩ : MethodName) (head1 (Jvm.Cond.code (⟨"java/lang/String", "charAt", "(I)C"⟩ : MethodName) jdk_42_method_56_code 2 (some .char) :: ws) ({ frames := 3, cells := 0, slots := 0, locals := 40 } : Room)) (fun av' U => av' = #[(.ref a), (.int p1)] ∧ Z.Warmed39 U.vm ∧ U.heap = h0) (fun _ _ _ _ _ => True) (fun _ U o U' => ∃ v L, o = .returned v ∧ Q_ca Z J f h0 n0 v U'.heap L ∧ FrameEnd U o U' L ({ frames := 3, cells := 0, slots := 0, locals := 40 } : Room).cells ({ frames := 3, cells := 0, slots := 0, locals := 40 } : Room).slots) := by
  refine MetFree.of_bodySF (plainFor_of_name pn_java_lang_String) hisR ?_
  intro p e s m args below meth c s₁ Bd hml0 hP hK
  obtain ⟨rfl, hZ, hh⟩ := hP
  have hx := Bd.exec
  have hby := Bd.bytes
  have hlk := Bd.notSynchronized
  have hml : c.maxLocals = 2 := hml0
  have hown : s.vm.findClass "java/lang/String" = some m.cls := findClass_of_methodNamed Bd.named
  have hnm := (name_of_methodNamed Bd.named Bd.method).1
  have X0 : Stand p l e ({ frames := 3, cells := 0, slots := 0, locals := 40 } : Room) s m #[(.ref a), (.int p1)] below meth c s₁ [] 0 0 := Stand.of_body Bd
  have e0 : s₁.heap = h0 := by rw [← hh, Bd.state]; rfl
  have N0 := Fr.nil n0
  show Go p e below (Kq s (Q_ca Z J f h0 n0) ({ frames := 3, cells := 0, slots := 0, locals := 40 } : Room).cells ({ frames := 3, cells := 0, slots := 0, locals := 40 } : Room).slots) _
  refine go (fun t kt => castTop (ef_rm_ca m a p1) kt) ?_
  have HS0 := HS
  obtain ⟨S_cs, hcs, S_fm, hfm, S_k1, S_k2, S_k3, S_k4⟩ := HS0
  show Go p e below _ (s₁.setTop (mkF m 0 #[.val (.ref a), .val (.int p1)] []))
  refine go (fun t kt' => by refine XS.aloadN X0.here hx rfl (hb hby d24_0) rfl rfl ?_; exact kt') ?_
  show Go p e below _ (s₁.setTop (mkF m 1 #[.val (.ref a), .val (.int p1)] [(.ref a)]))
  obtain ⟨cq1, kq1, q1a, q1b, q1c⟩ := isOf hZ e0 E_a
  obtain ⟨_, _, ⟨T1, L1, k1, n1⟩, -, X1, ⟨Lc1, hQ1, l1, y1, z1⟩, st1⟩ := X0.virtualBack hx (y := (⟨"java/lang/String", "isLatin1", "()Z"⟩ : MethodName)) (z := (⟨"java/lang/String", "isLatin1", "()Z"⟩ : MethodName)) hown (mvT hZ (hw _ (List.mem_of_getElem? (i := 93) rfl))) (mvT hZ (hw _ (List.mem_of_getElem? (i := 94) rfl))) (notFace_of_selects (args := #[]) (mvT hZ (hw _ (List.mem_of_getElem? (i := 96) rfl)))) (mvT hZ (hw _ (List.mem_of_getElem? (i := 96) rfl))) (mvT hZ (hw _ (List.mem_of_getElem? (i := 95) rfl))) (by decide) (backOf (W := 0) (rm_l1 l Z a0 hw [] a cs fm kd1 kd2 kd3 kd4  h0 n0 Z0 HS OO E_a F_coder_a) hZ (hw _ (List.mem_of_getElem? (i := 97) rfl)) (hw _ (List.mem_of_getElem? (i := 3) rfl)) (by decide) (by decide)) q1a q1c (g := (mkF m 1 #[.val (.ref a), .val (.int p1)] [(.ref a)])) rfl (by rw [hml]; rfl) (Steps.refl _) (argsL := []) (rest := []) (lenOf pd_9 rfl) rfl (by show 2 * 0 + _ ≤ _; exact Nat.le_of_eq rfl) (hb hby d24_1) (fun _ _ => ⟨rfl, e0, (by decide : 0 + 0 ≤ _), (by decide : 0 + 0 ≤ _)⟩)
  dsimp only [Pt.U, Pt.locs, Pt.cells, Pt.slots] at X1 l1 y1 z1 st1 hQ1
  rw [l1, y1, z1] at X1
  obtain ⟨rfl, N1q, e1⟩ := hQ1
  have N1 := Fr.app N0 N1q
  refine go (fun t kt => st1.trans kt) ?_
  show Go p e below _ (T1.setTop (mkF m 4 #[.val (.ref a), .val (.int p1)] [(.int (1 : Int32))]))
  have c4_2 : ¬ ((1 : Int32) = (0 : Int32)) := by decide
  refine go (fun t kt' => by refine XS.ifNo X1.here hx rfl (hb hby d24_4) rfl ((if0 _ _).trans (feq c4_2).1) ?_; exact kt') ?_
  show Go p e below _ (T1.setTop (mkF m 7 #[.val (.ref a), .val (.int p1)] []))
  refine go (fun t kt' => by refine XS.aloadN X1.here hx rfl (hb hby d24_7) rfl rfl ?_; exact kt') ?_
  show Go p e below _ (T1.setTop (mkF m 8 #[.val (.ref a), .val (.int p1)] [(.ref a)]))
  obtain ⟨T3, X3, e3, st3⟩ := getF X1 hx hZ hown (host := "") (Or.inl (hw _ (List.mem_of_getElem? (i := 28) rfl))) Via.refl e1 F_value_a (g := (mkF m 8 #[.val (.ref a), .val (.int p1)] [(.ref a)])) rfl rfl (hb hby d24_8)
  refine go st3 ?_
  show Go p e below _ (T3.setTop (mkF m 11 #[.val (.ref a), .val (.int p1)] [(.ref b)]))
  refine go (fun t kt' => by refine XS.iloadN X3.here hx rfl (hb hby d24_11) rfl ?_; exact kt') ?_
  show Go p e below _ (T3.setTop (mkF m 12 #[.val (.ref a), .val (.int p1)] [(.int p1), (.ref b)]))
  obtain ⟨_, _, ⟨T4, L4, k4, n4⟩, -, X4, ⟨Lc4, hQ4, l4, y4, z4⟩, st4⟩ := Jvm.LawKit.callS X3 hx (y := (⟨"java/lang/StringLatin1", "charAt", "([BI)C"⟩ : MethodName)) hown (mvT hZ (hw _ (List.mem_of_getElem? (i := 127) rfl))) (mvT hZ (hw _ (List.mem_of_getElem? (i := 128) rfl))) (mvT hZ (hw _ (List.mem_of_getElem? (i := 100) rfl))) (mvT hZ (hw _ (List.mem_of_getElem? (i := 129) rfl))) (by decide) (backOf (W := 0) (rm_lc l Z a0 hw [] b p1 cs fm kd1 kd2 kd3 kd4 N J f h0 n0 Z0 HS OO V_b hJ hN hN4) hZ (hw _ (List.mem_of_getElem? (i := 129) rfl)) (hw _ (List.mem_of_getElem? (i := 100) rfl)) (by decide) (by decide)) (g := (mkF m 12 #[.val (.ref a), .val (.int p1)] [(.int p1), (.ref b)])) rfl (by rw [hml]; rfl) (argsL := [(.ref b), (.int p1)]) (rest := []) (lenOf pd_10 rfl) rfl (by show 2 * 0 + _ ≤ _; exact Nat.le_of_eq rfl) (hb hby d24_12) (fun _ _ => ⟨rfl, e3, (by decide : 0 + 0 ≤ _), (by decide : 0 + 0 ≤ _)⟩)
  dsimp only [Pt.U, Pt.locs, Pt.cells, Pt.slots] at X4 l4 y4 z4 st4 hQ4
  rw [l4, y4, z4] at X4
  obtain ⟨rfl, N4q, e4⟩ := hQ4
  have N4 := Fr.app N1 N4q
  refine go st4 ?_
  show Go p e below _ (T4.setTop (mkF m 15 #[.val (.ref a), .val (.int p1)] [(.int (f J &&& (255 : Int32)))]))
  refine goOut X4 (fun h => by rw [Bd.returns] at h; cases h) hlk (fun fs hr => retN X4 hx (t := .char) Bd.returns (by simp) (hb hby d24_15) hr) (by decide) (by decide) ?_
  rw [e4]
  exact ⟨by rw [own_narc], N4, rfl⟩
theorem d22_0 : decode jdk_65_method_131_code 0 = .ok (.iload_n 1, 1) := by decide +kernel
theorem d22_1 : decode jdk_65_method_131_code 1 = .ok (.iload_n 0, 1) := by decide +kernel
theorem d22_2 : decode jdk_65_method_131_code 2 = .ok (.if_icmp .ge 35, 3) := by decide +kernel
theorem d22_37 : decode jdk_65_method_131_code 37 = .ok (.return_, 1) := by decide +kernel
theorem pn_java_util_Arrays : plainName "java/util/Arrays" = true := by first | (simp [plainName, overriddenIn]; done) | decide +kernel
theorem ef_rm_kl (m : MethodId) (x0 : Int32) (x1 : Int32) : entryFrame m #[(.int x0), (.int x1)] 2 = mkF m 0 #[.val (.int x0), .val (.int x1)] [] := by first | (simp [entryFrame, mkF, argsToLocals, Value.category]; done) | rfl
def Q_kl (Z : State)  (h0 : Heap) (n0 : Nat) (v : Option Value) (h : Heap) (L : List Loc) : Prop := v = none ∧ Fr n0 L ∧ h = h0
set_option maxRecDepth 65536 in
set_option maxHeartbeats 40000000 in
theorem rm_kl (l : Launch) (Z : State) (a0 : Array Value) (hw : ∀ d ∈ tables_1, d.before a0 Z = true) (ws : List Jvm.Cond) (p0 : Int32) (p1 : Int32) (cs : Int32) (fm : Value) (kd1 kd2 kd3 kd4 : Addr)  (h0 : Heap) (n0 : Nat) (Z0 : n0 ≤ h0.size) (HS : own_sets Z cs fm kd1 kd2 kd3 kd4) (OO : Old Z n0 h0) (hbd : p0.toInt ≤ p1.toInt) :
    MetFree l (⟨"java/util/Arrays", "checkLength", "(II)V"⟩ : MethodName) (head1 (Jvm.Cond.code (⟨"java/util/Arrays", "checkLength", "(II)V"⟩ : MethodName) jdk_65_method_131_code 2 none :: ws) ({ frames := 0, cells := 0, slots := 0, locals := 0 } : Room)) (fun av' U => av' = #[(.int p0), (.int p1)] ∧ Z.Warmed39 U.vm ∧ U.heap = h0) (fun _ _ _ _ _ => True) (fun _ U o U' => ∃ v L, o = .returned v ∧ Q_kl Z  h0 n0 v U'.heap L ∧ FrameEnd U o U' L ({ frames := 0, cells := 0, slots := 0, locals := 0 } : Room).cells ({ frames := 0, cells := 0, slots := 0, locals := 0 } : Room).slots) := by
  refine MetFree.of_bodySF (plainFor_of_name pn_java_util_Arrays) hisR ?_
  intro p e s m args below meth c s₁ Bd hml0 hP hK
  obtain ⟨rfl, hZ, hh⟩ := hP
  have hx := Bd.exec
  have hby := Bd.bytes
  have hlk := Bd.notSynchronized
  have hml : c.maxLocals = 2 := hml0
  have hown : s.vm.findClass "java/util/Arrays" = some m.cls := findClass_of_methodNamed Bd.named
  have hnm := (name_of_methodNamed Bd.named Bd.method).1
  have X0 : Stand p l e ({ frames := 0, cells := 0, slots := 0, locals := 0 } : Room) s m #[(.int p0), (.int p1)] below meth c s₁ [] 0 0 := Stand.of_body Bd
  have e0 : s₁.heap = h0 := by rw [← hh, Bd.state]; rfl
  have N0 := Fr.nil n0
  show Go p e below (Kq s (Q_kl Z  h0 n0) ({ frames := 0, cells := 0, slots := 0, locals := 0 } : Room).cells ({ frames := 0, cells := 0, slots := 0, locals := 0 } : Room).slots) _
  refine go (fun t kt => castTop (ef_rm_kl m p0 p1) kt) ?_
  have HS0 := HS
  obtain ⟨S_cs, hcs, S_fm, hfm, S_k1, S_k2, S_k3, S_k4⟩ := HS0
  show Go p e below _ (s₁.setTop (mkF m 0 #[.val (.int p0), .val (.int p1)] []))
  refine go (fun t kt' => by refine XS.iloadN X0.here hx rfl (hb hby d22_0) rfl ?_; exact kt') ?_
  show Go p e below _ (s₁.setTop (mkF m 1 #[.val (.int p0), .val (.int p1)] [(.int p1)]))
  refine go (fun t kt' => by refine XS.iloadN X0.here hx rfl (hb hby d22_1) rfl ?_; exact kt') ?_
  show Go p e below _ (s₁.setTop (mkF m 2 #[.val (.int p0), .val (.int p1)] [(.int p0), (.int p1)]))
  have c2_1 : ¬ p1 < p0 := own_ngt hbd
  refine go (fun t kt' => by refine XS.icmpYes X0.here hx rfl (pc0 := 2) (pc' := 37) rfl (hb hby d22_2) rfl (flt c2_1).2.1 (by decide) (by decide) ?_; exact kt') ?_
  show Go p e below _ (s₁.setTop (mkF m 37 #[.val (.int p0), .val (.int p1)] []))
  refine goOut X0 (fun _ => rfl) hlk (fun fs hr => X0.returnOut hx Bd.returns (hb hby d22_37) hr) (by decide) (by decide) ?_
  rw [e0]
  exact ⟨rfl, N0, rfl⟩
theorem d21_0 : decode jdk_65_method_133_code 0 = .ok (.iload_n 1, 1) := by decide +kernel
theorem d21_1 : decode jdk_65_method_133_code 1 = .ok (.iload_n 2, 1) := by decide +kernel
theorem d21_2 : decode jdk_65_method_133_code 2 = .ok (.invokestatic 343, 3) := by decide +kernel
theorem d21_5 : decode jdk_65_method_133_code 5 = .ok (.iload_n 2, 1) := by decide +kernel
theorem d21_6 : decode jdk_65_method_133_code 6 = .ok (.iload_n 1, 1) := by decide +kernel
theorem d21_7 : decode jdk_65_method_133_code 7 = .ok (.isub, 1) := by decide +kernel
theorem d21_8 : decode jdk_65_method_133_code 8 = .ok (.istore_n 3, 1) := by decide +kernel
theorem d21_9 : decode jdk_65_method_133_code 9 = .ok (.iload_n 3, 1) := by decide +kernel
theorem d21_10 : decode jdk_65_method_133_code 10 = .ok (.newarray .byte, 2) := by decide +kernel
theorem d21_12 : decode jdk_65_method_133_code 12 = .ok (.astore 4, 2) := by decide +kernel
theorem d21_14 : decode jdk_65_method_133_code 14 = .ok (.aload_n 0, 1) := by decide +kernel
theorem d21_15 : decode jdk_65_method_133_code 15 = .ok (.iload_n 1, 1) := by decide +kernel
theorem d21_16 : decode jdk_65_method_133_code 16 = .ok (.aload 4, 2) := by decide +kernel
theorem d21_18 : decode jdk_65_method_133_code 18 = .ok (.iconst 0, 1) := by decide +kernel
theorem d21_19 : decode jdk_65_method_133_code 19 = .ok (.aload_n 0, 1) := by decide +kernel
theorem d21_20 : decode jdk_65_method_133_code 20 = .ok (.arraylength, 1) := by decide +kernel
theorem d21_21 : decode jdk_65_method_133_code 21 = .ok (.iload_n 1, 1) := by decide +kernel
theorem d21_22 : decode jdk_65_method_133_code 22 = .ok (.isub, 1) := by decide +kernel
theorem d21_23 : decode jdk_65_method_133_code 23 = .ok (.iload_n 3, 1) := by decide +kernel
theorem d21_24 : decode jdk_65_method_133_code 24 = .ok (.invokestatic 304, 3) := by decide +kernel
theorem pd_11 : parseMethodDescriptor "(II)I" = some ⟨[.int, .int], some .int⟩ := by decide +kernel
theorem d21_27 : decode jdk_65_method_133_code 27 = .ok (.invokestatic 150, 3) := by decide +kernel
theorem d21_30 : decode jdk_65_method_133_code 30 = .ok (.aload 4, 2) := by decide +kernel
theorem d21_32 : decode jdk_65_method_133_code 32 = .ok (.areturn, 1) := by decide +kernel
theorem ef_rm_rb (m : MethodId) (x0 : Addr) (x1 : Int32) (x2 : Int32) : entryFrame m #[(.ref x0), (.int x1), (.int x2)] 5 = mkF m 0 #[.val (.ref x0), .val (.int x1), .val (.int x2), .unset, .unset] [] := by first | (simp [entryFrame, mkF, argsToLocals, Value.category]; done) | rfl
def Q_rb (Z : State) (f : Nat → Int32) (lo N : Nat) (h0 : Heap) (n0 : Nat) (v : Option Value) (h : Heap) (L : List Loc) : Prop := ∃ b : Addr, v = some (.ref b) ∧ Fr n0 L ∧ Keep h0 h [] ∧ n0 ≤ b ∧ h0.size ≤ b ∧ IA Z h b .byte N (fun j => f (lo + j))
set_option maxRecDepth 65536 in
set_option maxHeartbeats 40000000 in
theorem rm_rb (l : Launch) (Z : State) (a0 : Array Value) (hw : ∀ d ∈ tables_1, d.before a0 Z = true) (ws : List Jvm.Cond) (b : Addr) (p1 : Int32) (p2 : Int32) (cs : Int32) (fm : Value) (kd1 kd2 kd3 kd4 : Addr) (f : Nat → Int32) (lo N : Nat) (h0 : Heap) (n0 : Nat) (Z0 : n0 ≤ h0.size) (HS : own_sets Z cs fm kd1 kd2 kd3 kd4) (OO : Old Z n0 h0) (V_b : IA Z h0 b .byte 4 f) (hlo : p1.toInt = lo) (hhi : p2.toInt = ((lo + N : Nat) : Int)) (hle : lo + N ≤ 4) (hrb : ∀ j, j < 4 → -128 ≤ (f j).toInt ∧ (f j).toInt < 128) :
    MetFree l (⟨"java/util/Arrays", "copyOfRangeByte", "([BII)[B"⟩ : MethodName) (head1 (Jvm.Cond.code (⟨"java/util/Arrays", "copyOfRangeByte", "([BII)[B"⟩ : MethodName) jdk_65_method_133_code 5 (some (.array .byte)) :: ws) ({ frames := 1, cells := 1, slots := 4, locals := 60 } : Room)) (fun av' U => av' = #[(.ref b), (.int p1), (.int p2)] ∧ Z.Warmed39 U.vm ∧ U.heap = h0) (fun _ _ _ _ _ => True) (fun _ U o U' => ∃ v L, o = .returned v ∧ Q_rb Z f lo N h0 n0 v U'.heap L ∧ FrameEnd U o U' L ({ frames := 1, cells := 1, slots := 4, locals := 60 } : Room).cells ({ frames := 1, cells := 1, slots := 4, locals := 60 } : Room).slots) := by
  refine MetFree.of_bodySF (plainFor_of_name pn_java_util_Arrays) hisR ?_
  intro p e s m args below meth c s₁ Bd hml0 hP hK
  obtain ⟨rfl, hZ, hh⟩ := hP
  have hx := Bd.exec
  have hby := Bd.bytes
  have hlk := Bd.notSynchronized
  have hml : c.maxLocals = 5 := hml0
  have hown : s.vm.findClass "java/util/Arrays" = some m.cls := findClass_of_methodNamed Bd.named
  have hnm := (name_of_methodNamed Bd.named Bd.method).1
  have X0 : Stand p l e ({ frames := 1, cells := 1, slots := 4, locals := 60 } : Room) s m #[(.ref b), (.int p1), (.int p2)] below meth c s₁ [] 0 0 := Stand.of_body Bd
  have e0 : s₁.heap = h0 := by rw [← hh, Bd.state]; rfl
  have N0 := Fr.nil n0
  show Go p e below (Kq s (Q_rb Z f lo N h0 n0) ({ frames := 1, cells := 1, slots := 4, locals := 60 } : Room).cells ({ frames := 1, cells := 1, slots := 4, locals := 60 } : Room).slots) _
  refine go (fun t kt => castTop (ef_rm_rb m b p1 p2) kt) ?_
  have HS0 := HS
  obtain ⟨S_cs, hcs, S_fm, hfm, S_k1, S_k2, S_k3, S_k4⟩ := HS0
  have K0 := Keep.refl h0 []
  have hd : (p2 - p1).toInt = N := own_sub hlo hhi hle
  show Go p e below _ (s₁.setTop (mkF m 0 #[.val (.ref b), .val (.int p1), .val (.int p2), .unset, .unset] []))
  refine go (fun t kt' => by refine XS.iloadN X0.here hx rfl (hb hby d21_0) rfl ?_; exact kt') ?_
  show Go p e below _ (s₁.setTop (mkF m 1 #[.val (.ref b), .val (.int p1), .val (.int p2), .unset, .unset] [(.int p1)]))
  refine go (fun t kt' => by refine XS.iloadN X0.here hx rfl (hb hby d21_1) rfl ?_; exact kt') ?_
  show Go p e below _ (s₁.setTop (mkF m 2 #[.val (.ref b), .val (.int p1), .val (.int p2), .unset, .unset] [(.int p2), (.int p1)]))
  obtain ⟨_, _, ⟨T1, L1, k1, n1⟩, -, X1, ⟨Lc1, hQ1, l1, y1, z1⟩, st1⟩ := Jvm.LawKit.callS X0 hx (y := (⟨"java/util/Arrays", "checkLength", "(II)V"⟩ : MethodName)) hown (mvT hZ (hw _ (List.mem_of_getElem? (i := 110) rfl))) (mvT hZ (hw _ (List.mem_of_getElem? (i := 111) rfl))) (mvT hZ (hw _ (List.mem_of_getElem? (i := 105) rfl))) (mvT hZ (hw _ (List.mem_of_getElem? (i := 112) rfl))) (by decide) (backOf (W := 0) (rm_kl l Z a0 hw [] p1 p2 cs fm kd1 kd2 kd3 kd4  h0 n0 Z0 HS OO (by omega)) hZ (hw _ (List.mem_of_getElem? (i := 112) rfl)) (hw _ (List.mem_of_getElem? (i := 105) rfl)) (by decide) (by decide)) (g := (mkF m 2 #[.val (.ref b), .val (.int p1), .val (.int p2), .unset, .unset] [(.int p2), (.int p1)])) rfl (by rw [hml]; rfl) (argsL := [(.int p1), (.int p2)]) (rest := []) (lenOf pd_8 rfl) rfl (by show 2 * 0 + _ ≤ _; exact Nat.le_of_eq rfl) (hb hby d21_2) (fun _ _ => ⟨rfl, e0, (by decide : 0 + 0 ≤ _), (by decide : 0 + 0 ≤ _)⟩)
  dsimp only [Pt.U, Pt.locs, Pt.cells, Pt.slots] at X1 l1 y1 z1 st1 hQ1
  rw [l1, y1, z1] at X1
  obtain ⟨rfl, N1q, e1⟩ := hQ1
  have N1 := Fr.app N0 N1q
  refine go st1 ?_
  show Go p e below _ (T1.setTop (mkF m 5 #[.val (.ref b), .val (.int p1), .val (.int p2), .unset, .unset] []))
  refine go (fun t kt' => by refine XS.iloadN X1.here hx rfl (hb hby d21_5) rfl ?_; exact kt') ?_
  show Go p e below _ (T1.setTop (mkF m 6 #[.val (.ref b), .val (.int p1), .val (.int p2), .unset, .unset] [(.int p2)]))
  refine go (fun t kt' => by refine XS.iloadN X1.here hx rfl (hb hby d21_6) rfl ?_; exact kt') ?_
  show Go p e below _ (T1.setTop (mkF m 7 #[.val (.ref b), .val (.int p1), .val (.int p2), .unset, .unset] [(.int p1), (.int p2)]))
  refine go (fun t kt' => by refine XS.isub X1.here hx rfl (hb hby d21_7) rfl ?_; exact kt') ?_
  show Go p e below _ (T1.setTop (mkF m 8 #[.val (.ref b), .val (.int p1), .val (.int p2), .unset, .unset] [(.int (p2 - p1))]))
  refine go (fun t kt' => by refine XS.istoreN X1.here hx rfl (hb hby d21_8) rfl (l' := #[.val (.ref b), .val (.int p1), .val (.int p2), .val (.int (p2 - p1)), .unset]) rfl ?_; exact kt') ?_
  show Go p e below _ (T1.setTop (mkF m 9 #[.val (.ref b), .val (.int p1), .val (.int p2), .val (.int (p2 - p1)), .unset] []))
  refine go (fun t kt' => by refine XS.iloadN X1.here hx rfl (hb hby d21_9) rfl ?_; exact kt') ?_
  show Go p e below _ (T1.setTop (mkF m 10 #[.val (.ref b), .val (.int p1), .val (.int p2), .val (.int (p2 - p1)), .unset] [(.int (p2 - p1))]))
  obtain ⟨T2, h2, k2, X2, e2, E2, A2, st2⟩ := newP X1 hx hZ (hw _ (List.mem_of_getElem? (i := 19) rfl)) e1 (g := (mkF m 10 #[.val (.ref b), .val (.int p1), .val (.int p2), .val (.int (p2 - p1)), .unset] [(.int (p2 - p1))])) rfl (hb hby d21_10) rfl (own_ge hd) (cap := 4) (by rw [own_cl hd]; omega) (by decide) (by decide) (by decide)
  obtain ⟨b2, g2⟩ : ∃ z, z = h0.size := ⟨_, rfl⟩
  have n0_b2 : n0 ≤ b2 := Nat.le_trans Z0 (Nat.le_of_eq g2.symm)
  have sz_b2 : h0.size ≤ b2 := Nat.le_trans K0.1 (Nat.le_of_eq g2.symm)
  have ne2_b_b2 : b ≠ b2 := Nat.ne_of_lt (Nat.lt_of_lt_of_le V_b.lt (Nat.le_of_eq g2.symm))
  rw [← g2] at A2 st2
  have f3_Z := Nat.le_trans Z0 E2.1
  have f4_O := OO.ext E2
  have f5_K := K0.ext E2
  have f6_A_b := V_b.ext E2
  have V2 : IA Z h2 b2 .byte N (fun _ => 0) := IA.new A2 (own_cl hd) rfl
  refine go st2 ?_
  show Go p e below _ (T2.setTop (mkF m 12 #[.val (.ref b), .val (.int p1), .val (.int p2), .val (.int (p2 - p1)), .unset] [(.ref b2)]))
  refine go (fun t kt' => by refine XS.astore X2.here hx rfl (hb hby d21_12) rfl rfl (l' := #[.val (.ref b), .val (.int p1), .val (.int p2), .val (.int (p2 - p1)), .val (.ref b2)]) rfl ?_; exact kt') ?_
  show Go p e below _ (T2.setTop (mkF m 14 #[.val (.ref b), .val (.int p1), .val (.int p2), .val (.int (p2 - p1)), .val (.ref b2)] []))
  refine go (fun t kt' => by refine XS.aloadN X2.here hx rfl (hb hby d21_14) rfl rfl ?_; exact kt') ?_
  show Go p e below _ (T2.setTop (mkF m 15 #[.val (.ref b), .val (.int p1), .val (.int p2), .val (.int (p2 - p1)), .val (.ref b2)] [(.ref b)]))
  refine go (fun t kt' => by refine XS.iloadN X2.here hx rfl (hb hby d21_15) rfl ?_; exact kt') ?_
  show Go p e below _ (T2.setTop (mkF m 16 #[.val (.ref b), .val (.int p1), .val (.int p2), .val (.int (p2 - p1)), .val (.ref b2)] [(.int p1), (.ref b)]))
  refine go (fun t kt' => by refine XS.aload X2.here hx rfl (hb hby d21_16) rfl rfl ?_; exact kt') ?_
  show Go p e below _ (T2.setTop (mkF m 18 #[.val (.ref b), .val (.int p1), .val (.int p2), .val (.int (p2 - p1)), .val (.ref b2)] [(.ref b2), (.int p1), (.ref b)]))
  refine go (fun t kt' => by refine XS.iconst X2.here hx rfl (hb hby d21_18) ?_; exact kt') ?_
  show Go p e below _ (T2.setTop (mkF m 19 #[.val (.ref b), .val (.int p1), .val (.int p2), .val (.int (p2 - p1)), .val (.ref b2)] [(.int (0 : Int32)), (.ref b2), (.int p1), (.ref b)]))
  refine go (fun t kt' => by refine XS.aloadN X2.here hx rfl (hb hby d21_19) rfl rfl ?_; exact kt') ?_
  show Go p e below _ (T2.setTop (mkF m 20 #[.val (.ref b), .val (.int p1), .val (.int p2), .val (.int (p2 - p1)), .val (.ref b2)] [(.ref b), (.int (0 : Int32)), (.ref b2), (.int p1), (.ref b)]))
  refine go (fun t kt' => by refine lenIA X2 hx hZ e2 f6_A_b (g := (mkF m 20 #[.val (.ref b), .val (.int p1), .val (.int p2), .val (.int (p2 - p1)), .val (.ref b2)] [(.ref b), (.int (0 : Int32)), (.ref b2), (.int p1), (.ref b)])) rfl rfl (hb hby d21_20) t ?_; exact kt') ?_
  show Go p e below _ (T2.setTop (mkF m 21 #[.val (.ref b), .val (.int p1), .val (.int p2), .val (.int (p2 - p1)), .val (.ref b2)] [(.int (4 : Int32)), (.int (0 : Int32)), (.ref b2), (.int p1), (.ref b)]))
  refine go (fun t kt' => by refine XS.iloadN X2.here hx rfl (hb hby d21_21) rfl ?_; exact kt') ?_
  show Go p e below _ (T2.setTop (mkF m 22 #[.val (.ref b), .val (.int p1), .val (.int p2), .val (.int (p2 - p1)), .val (.ref b2)] [(.int p1), (.int (4 : Int32)), (.int (0 : Int32)), (.ref b2), (.int p1), (.ref b)]))
  refine go (fun t kt' => by refine XS.isub X2.here hx rfl (hb hby d21_22) rfl ?_; exact kt') ?_
  show Go p e below _ (T2.setTop (mkF m 23 #[.val (.ref b), .val (.int p1), .val (.int p2), .val (.int (p2 - p1)), .val (.ref b2)] [(.int ((4 : Int32) - p1)), (.int (0 : Int32)), (.ref b2), (.int p1), (.ref b)]))
  refine go (fun t kt' => by refine XS.iloadN X2.here hx rfl (hb hby d21_23) rfl ?_; exact kt') ?_
  show Go p e below _ (T2.setTop (mkF m 24 #[.val (.ref b), .val (.int p1), .val (.int p2), .val (.int (p2 - p1)), .val (.ref b2)] [(.int (p2 - p1)), (.int ((4 : Int32) - p1)), (.int (0 : Int32)), (.ref b2), (.int p1), (.ref b)]))
  obtain ⟨_, _, ⟨T7, L7, k7, n7⟩, -, X7, ⟨Lc7, hQ7, l7, y7, z7⟩, st7⟩ := Jvm.LawKit.callS X2 hx (y := (⟨"java/lang/Math", "min", "(II)I"⟩ : MethodName)) hown (mvT hZ (hw _ (List.mem_of_getElem? (i := 113) rfl))) (mvT hZ (hw _ (List.mem_of_getElem? (i := 32) rfl))) (mvT hZ (hw _ (List.mem_of_getElem? (i := 33) rfl))) (mvT hZ (hw _ (List.mem_of_getElem? (i := 34) rfl))) (by decide) (backOf (W := 4) (rm7 l Z a0 hw [] ((4 : Int32) - p1) (p2 - p1) h2 n0 f3_Z) hZ (hw _ (List.mem_of_getElem? (i := 34) rfl)) (hw _ (List.mem_of_getElem? (i := 33) rfl)) (by decide) (by decide)) (g := (mkF m 24 #[.val (.ref b), .val (.int p1), .val (.int p2), .val (.int (p2 - p1)), .val (.ref b2)] [(.int (p2 - p1)), (.int ((4 : Int32) - p1)), (.int (0 : Int32)), (.ref b2), (.int p1), (.ref b)])) rfl (by rw [hml]; rfl) (argsL := [(.int ((4 : Int32) - p1)), (.int (p2 - p1))]) (rest := [(.int (0 : Int32)), (.ref b2), (.int p1), (.ref b)]) (lenOf pd_11 rfl) rfl (by show 2 * 0 + _ ≤ _; exact Nat.le_of_eq rfl) (hb hby d21_24) (fun _ _ => ⟨rfl, e2, (by decide : 1 + 0 ≤ _), (by decide : 4 + 0 ≤ _)⟩)
  dsimp only [Pt.U, Pt.locs, Pt.cells, Pt.slots] at X7 l7 y7 z7 st7 hQ7
  rw [l7, y7, z7] at X7
  obtain ⟨rfl, N7q, e7⟩ := hQ7
  have N7 := Fr.app N1 N7q
  refine go st7 ?_
  show Go p e below _ (T7.setTop (mkF m 27 #[.val (.ref b), .val (.int p1), .val (.int p2), .val (.int (p2 - p1)), .val (.ref b2)] [(.int (own_min ((4 : Int32) - p1) (p2 - p1))), (.int (0 : Int32)), (.ref b2), (.int p1), (.ref b)]))
  rw [own_mineq hlo hhi hle]
  show Go p e below _ (T7.setTop (mkF m 27 #[.val (.ref b), .val (.int p1), .val (.int p2), .val (.int (p2 - p1)), .val (.ref b2)] [(.int (p2 - p1)), (.int (0 : Int32)), (.ref b2), (.int p1), (.ref b)]))
  obtain ⟨ka8, AR8⟩ := own_arv f6_A_b hrb
  obtain ⟨T8, h8, L8, X8, e8, N8, K8, B8, st8⟩ := cpA X7 hx hZ hown (hw _ (List.mem_of_getElem? (i := 114) rfl)) (hw _ (List.mem_of_getElem? (i := 117) rfl)) (hw _ (List.mem_of_getElem? (i := 115) rfl)) (hw _ (List.mem_of_getElem? (i := 116) rfl)) e7 (us := (List.range (p2 - p1).toNatClampNeg).map fun i => [Value.int (f 0), .int (f 1), .int (f 2), .int (f 3)].getD (p1.toNatClampNeg + i) (.int 0)) AR8 (Arv.pad (Arv.new A2 (own_ge hd)) (pad_rep [] _ N)) (Or.inl ⟨rfl, rfl⟩) (own_ge hlo) (by decide) (own_ge hd) (by rw [own_cl hlo, own_cl hd]; exact hle) (by rw [own_cl hd]; exact Nat.le_of_eq (Nat.zero_add _)) rfl (by rw [own_cl hd]; show 0 + N ≤ _; simp) N7 n0_b2 (g := (mkF m 27 #[.val (.ref b), .val (.int p1), .val (.int p2), .val (.int (p2 - p1)), .val (.ref b2)] [(.int (p2 - p1)), (.int (0 : Int32)), (.ref b2), (.int p1), (.ref b)])) rfl (by rw [hml]; rfl) rfl (hb hby d21_27) (by decide) (W := 0) (by show 2 * 0 + _ ≤ _; exact Nat.le_of_eq rfl) (by decide)
  have f9_Z := Nat.le_trans f3_Z K8.1
  have f10_O := f4_O.keep K8 (allS n0_b2 all0)
  have f11_K := f5_K.trans K8 (allS (Or.inr sz_b2) all0)
  have f12_A_b := f6_A_b.keep K8 (ninS ne2_b_b2 nin0)
  have VD8 : IA Z h8 b2 .byte N (fun j => f (lo + j)) := own_arb (own_cl hlo) (own_cl hd) hle B8
  refine go st8 ?_
  show Go p e below _ (T8.setTop (mkF m 30 #[.val (.ref b), .val (.int p1), .val (.int p2), .val (.int (p2 - p1)), .val (.ref b2)] []))
  refine go (fun t kt' => by refine XS.aload X8.here hx rfl (hb hby d21_30) rfl rfl ?_; exact kt') ?_
  show Go p e below _ (T8.setTop (mkF m 32 #[.val (.ref b), .val (.int p1), .val (.int p2), .val (.int (p2 - p1)), .val (.ref b2)] [(.ref b2)]))
  refine goOut X8 (fun h => by rw [Bd.returns] at h; cases h) hlk (fun fs hr => retOut X8 hx Bd.returns rfl (Or.inr (Or.inr (Or.inr (Or.inr ⟨rfl, rfl, rfl⟩)))) (hb hby d21_32) hr) (by decide) (by decide) ?_
  rw [e8]
  exact ⟨b2, rfl, N8, f11_K, n0_b2, sz_b2, VD8⟩
theorem d20_0 : decode jdk_65_method_132_code 0 = .ok (.iload_n 1, 1) := by decide +kernel
theorem d20_1 : decode jdk_65_method_132_code 1 = .ok (.ifCond .ne 9, 3) := by decide +kernel
theorem d20_10 : decode jdk_65_method_132_code 10 = .ok (.aload_n 0, 1) := by decide +kernel
theorem d20_11 : decode jdk_65_method_132_code 11 = .ok (.iload_n 1, 1) := by decide +kernel
theorem d20_12 : decode jdk_65_method_132_code 12 = .ok (.iload_n 2, 1) := by decide +kernel
theorem d20_13 : decode jdk_65_method_132_code 13 = .ok (.invokestatic 339, 3) := by decide +kernel
theorem pd_12 : parseMethodDescriptor "([BII)[B" = some ⟨[(.array .byte), .int, .int], some (.array .byte)⟩ := by decide +kernel
theorem d20_16 : decode jdk_65_method_132_code 16 = .ok (.areturn, 1) := by decide +kernel
theorem d20_4 : decode jdk_65_method_132_code 4 = .ok (.iload_n 2, 1) := by decide +kernel
theorem d20_5 : decode jdk_65_method_132_code 5 = .ok (.aload_n 0, 1) := by decide +kernel
theorem d20_6 : decode jdk_65_method_132_code 6 = .ok (.arraylength, 1) := by decide +kernel
theorem d20_7 : decode jdk_65_method_132_code 7 = .ok (.if_icmp .eq 10, 3) := by decide +kernel
theorem ef_rm_cr (m : MethodId) (x0 : Addr) (x1 : Int32) (x2 : Int32) : entryFrame m #[(.ref x0), (.int x1), (.int x2)] 3 = mkF m 0 #[.val (.ref x0), .val (.int x1), .val (.int x2)] [] := by first | (simp [entryFrame, mkF, argsToLocals, Value.category]; done) | rfl
def Q_cr (Z : State) (f : Nat → Int32) (lo N : Nat) (h0 : Heap) (n0 : Nat) (v : Option Value) (h : Heap) (L : List Loc) : Prop := ∃ b : Addr, v = some (.ref b) ∧ Fr n0 L ∧ Keep h0 h [] ∧ n0 ≤ b ∧ h0.size ≤ b ∧ IA Z h b .byte N (fun j => f (lo + j))
set_option maxRecDepth 65536 in
set_option maxHeartbeats 40000000 in
theorem rm_cr (l : Launch) (Z : State) (a0 : Array Value) (hw : ∀ d ∈ tables_1, d.before a0 Z = true) (ws : List Jvm.Cond) (b : Addr) (p1 : Int32) (p2 : Int32) (cs : Int32) (fm : Value) (kd1 kd2 kd3 kd4 : Addr) (f : Nat → Int32) (lo N : Nat) (h0 : Heap) (n0 : Nat) (Z0 : n0 ≤ h0.size) (HS : own_sets Z cs fm kd1 kd2 kd3 kd4) (OO : Old Z n0 h0) (V_b : IA Z h0 b .byte 4 f) (hlo : p1.toInt = lo) (hhi : p2.toInt = ((lo + N : Nat) : Int)) (hle : lo + N ≤ 4) (hrb : ∀ j, j < 4 → -128 ≤ (f j).toInt ∧ (f j).toInt < 128) (hnf : ¬ (lo = 0 ∧ N = 4)) :
    MetFree l (⟨"java/util/Arrays", "copyOfRange", "([BII)[B"⟩ : MethodName) (head1 (Jvm.Cond.code (⟨"java/util/Arrays", "copyOfRange", "([BII)[B"⟩ : MethodName) jdk_65_method_132_code 3 (some (.array .byte)) :: ws) ({ frames := 2, cells := 1, slots := 4, locals := 76 } : Room)) (fun av' U => av' = #[(.ref b), (.int p1), (.int p2)] ∧ Z.Warmed39 U.vm ∧ U.heap = h0) (fun _ _ _ _ _ => True) (fun _ U o U' => ∃ v L, o = .returned v ∧ Q_cr Z f lo N h0 n0 v U'.heap L ∧ FrameEnd U o U' L ({ frames := 2, cells := 1, slots := 4, locals := 76 } : Room).cells ({ frames := 2, cells := 1, slots := 4, locals := 76 } : Room).slots) := by
  refine MetFree.of_bodySF (plainFor_of_name pn_java_util_Arrays) hisR ?_
  intro p e s m args below meth c s₁ Bd hml0 hP hK
  obtain ⟨rfl, hZ, hh⟩ := hP
  have hx := Bd.exec
  have hby := Bd.bytes
  have hlk := Bd.notSynchronized
  have hml : c.maxLocals = 3 := hml0
  have hown : s.vm.findClass "java/util/Arrays" = some m.cls := findClass_of_methodNamed Bd.named
  have hnm := (name_of_methodNamed Bd.named Bd.method).1
  have X0 : Stand p l e ({ frames := 2, cells := 1, slots := 4, locals := 76 } : Room) s m #[(.ref b), (.int p1), (.int p2)] below meth c s₁ [] 0 0 := Stand.of_body Bd
  have e0 : s₁.heap = h0 := by rw [← hh, Bd.state]; rfl
  have N0 := Fr.nil n0
  show Go p e below (Kq s (Q_cr Z f lo N h0 n0) ({ frames := 2, cells := 1, slots := 4, locals := 76 } : Room).cells ({ frames := 2, cells := 1, slots := 4, locals := 76 } : Room).slots) _
  refine go (fun t kt => castTop (ef_rm_cr m b p1 p2) kt) ?_
  have HS0 := HS
  obtain ⟨S_cs, hcs, S_fm, hfm, S_k1, S_k2, S_k3, S_k4⟩ := HS0
  have K0 := Keep.refl h0 []
  show Go p e below _ (s₁.setTop (mkF m 0 #[.val (.ref b), .val (.int p1), .val (.int p2)] []))
  refine go (fun t kt' => by refine XS.iloadN X0.here hx rfl (hb hby d20_0) rfl ?_; exact kt') ?_
  show Go p e below _ (s₁.setTop (mkF m 1 #[.val (.ref b), .val (.int p1), .val (.int p2)] [(.int p1)]))
  by_cases c1_1 : ¬ p1 = (0 : Int32)
  · skip
    refine go (fun t kt' => by refine XS.ifYes X0.here hx rfl (pc0 := 1) (pc' := 10) rfl (hb hby d20_1) rfl ((if0 _ _).trans (feq c1_1).2) (by decide) (by decide) ?_; exact kt') ?_
    show Go p e below _ (s₁.setTop (mkF m 10 #[.val (.ref b), .val (.int p1), .val (.int p2)] []))
    refine go (fun t kt' => by refine XS.aloadN X0.here hx rfl (hb hby d20_10) rfl rfl ?_; exact kt') ?_
    show Go p e below _ (s₁.setTop (mkF m 11 #[.val (.ref b), .val (.int p1), .val (.int p2)] [(.ref b)]))
    refine go (fun t kt' => by refine XS.iloadN X0.here hx rfl (hb hby d20_11) rfl ?_; exact kt') ?_
    show Go p e below _ (s₁.setTop (mkF m 12 #[.val (.ref b), .val (.int p1), .val (.int p2)] [(.int p1), (.ref b)]))
    refine go (fun t kt' => by refine XS.iloadN X0.here hx rfl (hb hby d20_12) rfl ?_; exact kt') ?_
    show Go p e below _ (s₁.setTop (mkF m 13 #[.val (.ref b), .val (.int p1), .val (.int p2)] [(.int p2), (.int p1), (.ref b)]))
    obtain ⟨_, _, ⟨T2, L2, k2, n2⟩, -, X2, ⟨Lc2, hQ2, l2, y2, z2⟩, st2⟩ := Jvm.LawKit.callS X0 hx (y := (⟨"java/util/Arrays", "copyOfRangeByte", "([BII)[B"⟩ : MethodName)) hown (mvT hZ (hw _ (List.mem_of_getElem? (i := 107) rfl))) (mvT hZ (hw _ (List.mem_of_getElem? (i := 108) rfl))) (mvT hZ (hw _ (List.mem_of_getElem? (i := 105) rfl))) (mvT hZ (hw _ (List.mem_of_getElem? (i := 109) rfl))) (by decide) (backOf (W := 0) (rm_rb l Z a0 hw [] b p1 p2 cs fm kd1 kd2 kd3 kd4 f lo N h0 n0 Z0 HS OO V_b hlo hhi hle hrb) hZ (hw _ (List.mem_of_getElem? (i := 109) rfl)) (hw _ (List.mem_of_getElem? (i := 105) rfl)) (by decide) (by decide)) (g := (mkF m 13 #[.val (.ref b), .val (.int p1), .val (.int p2)] [(.int p2), (.int p1), (.ref b)])) rfl (by rw [hml]; rfl) (argsL := [(.ref b), (.int p1), (.int p2)]) (rest := []) (lenOf pd_12 rfl) rfl (by show 2 * 0 + _ ≤ _; exact Nat.le_of_eq rfl) (hb hby d20_13) (fun _ _ => ⟨rfl, e0, (by decide : 0 + 1 ≤ _), (by decide : 0 + 4 ≤ _)⟩)
    dsimp only [Pt.U, Pt.locs, Pt.cells, Pt.slots] at X2 l2 y2 z2 st2 hQ2
    rw [l2, y2, z2] at X2
    obtain ⟨r2, rfl, N2q, K2, n0_r2, sq2, V2⟩ := hQ2
    have N2 := Fr.app N0 N2q
    have ne2_b : b ≠ r2 := Nat.ne_of_lt (Nat.lt_of_lt_of_le V_b.lt sq2)
    have sz_r2 : h0.size ≤ r2 := Nat.le_trans K0.1 sq2
    have f3_Z := Nat.le_trans Z0 K2.1
    have f4_O := OO.keep K2 all0
    have f5_K := K0.trans K2 all0
    have f6_A_b := V_b.keep K2 nin0
    refine go st2 ?_
    show Go p e below _ (T2.setTop (mkF m 16 #[.val (.ref b), .val (.int p1), .val (.int p2)] [(.ref r2)]))
    refine goOut X2 (fun h => by rw [Bd.returns] at h; cases h) hlk (fun fs hr => retOut X2 hx Bd.returns rfl (Or.inr (Or.inr (Or.inr (Or.inr ⟨rfl, rfl, rfl⟩)))) (hb hby d20_16) hr) (by decide) (by decide) ?_
    exact ⟨r2, rfl, N2, f5_K, n0_r2, sz_r2, V2⟩
  · skip
    refine go (fun t kt' => by refine XS.ifNo X0.here hx rfl (hb hby d20_1) rfl ((if0 _ _).trans (teq (Decidable.not_not.mp c1_1)).2) ?_; exact kt') ?_
    show Go p e below _ (s₁.setTop (mkF m 4 #[.val (.ref b), .val (.int p1), .val (.int p2)] []))
    refine go (fun t kt' => by refine XS.iloadN X0.here hx rfl (hb hby d20_4) rfl ?_; exact kt') ?_
    show Go p e below _ (s₁.setTop (mkF m 5 #[.val (.ref b), .val (.int p1), .val (.int p2)] [(.int p2)]))
    refine go (fun t kt' => by refine XS.aloadN X0.here hx rfl (hb hby d20_5) rfl rfl ?_; exact kt') ?_
    show Go p e below _ (s₁.setTop (mkF m 6 #[.val (.ref b), .val (.int p1), .val (.int p2)] [(.ref b), (.int p2)]))
    refine go (fun t kt' => by refine lenIA X0 hx hZ e0 V_b (g := (mkF m 6 #[.val (.ref b), .val (.int p1), .val (.int p2)] [(.ref b), (.int p2)])) rfl rfl (hb hby d20_6) t ?_; exact kt') ?_
    show Go p e below _ (s₁.setTop (mkF m 7 #[.val (.ref b), .val (.int p1), .val (.int p2)] [(.int (4 : Int32)), (.int p2)]))
    have c7_7 : ¬ (p2 = (4 : Int32)) := own_nfull hlo hhi hnf (Decidable.not_not.mp c1_1)
    refine go (fun t kt' => by refine XS.icmpNo X0.here hx rfl (hb hby d20_7) rfl (feq c7_7).1 ?_; exact kt') ?_
    show Go p e below _ (s₁.setTop (mkF m 10 #[.val (.ref b), .val (.int p1), .val (.int p2)] []))
    refine go (fun t kt' => by refine XS.aloadN X0.here hx rfl (hb hby d20_10) rfl rfl ?_; exact kt') ?_
    show Go p e below _ (s₁.setTop (mkF m 11 #[.val (.ref b), .val (.int p1), .val (.int p2)] [(.ref b)]))
    refine go (fun t kt' => by refine XS.iloadN X0.here hx rfl (hb hby d20_11) rfl ?_; exact kt') ?_
    show Go p e below _ (s₁.setTop (mkF m 12 #[.val (.ref b), .val (.int p1), .val (.int p2)] [(.int p1), (.ref b)]))
    refine go (fun t kt' => by refine XS.iloadN X0.here hx rfl (hb hby d20_12) rfl ?_; exact kt') ?_
    show Go p e below _ (s₁.setTop (mkF m 13 #[.val (.ref b), .val (.int p1), .val (.int p2)] [(.int p2), (.int p1), (.ref b)]))
    obtain ⟨_, _, ⟨T8, L8, k8, n8⟩, -, X8, ⟨Lc8, hQ8, l8, y8, z8⟩, st8⟩ := Jvm.LawKit.callS X0 hx (y := (⟨"java/util/Arrays", "copyOfRangeByte", "([BII)[B"⟩ : MethodName)) hown (mvT hZ (hw _ (List.mem_of_getElem? (i := 107) rfl))) (mvT hZ (hw _ (List.mem_of_getElem? (i := 108) rfl))) (mvT hZ (hw _ (List.mem_of_getElem? (i := 105) rfl))) (mvT hZ (hw _ (List.mem_of_getElem? (i := 109) rfl))) (by decide) (backOf (W := 0) (rm_rb l Z a0 hw [] b p1 p2 cs fm kd1 kd2 kd3 kd4 f lo N h0 n0 Z0 HS OO V_b hlo hhi hle hrb) hZ (hw _ (List.mem_of_getElem? (i := 109) rfl)) (hw _ (List.mem_of_getElem? (i := 105) rfl)) (by decide) (by decide)) (g := (mkF m 13 #[.val (.ref b), .val (.int p1), .val (.int p2)] [(.int p2), (.int p1), (.ref b)])) rfl (by rw [hml]; rfl) (argsL := [(.ref b), (.int p1), (.int p2)]) (rest := []) (lenOf pd_12 rfl) rfl (by show 2 * 0 + _ ≤ _; exact Nat.le_of_eq rfl) (hb hby d20_13) (fun _ _ => ⟨rfl, e0, (by decide : 0 + 1 ≤ _), (by decide : 0 + 4 ≤ _)⟩)
    dsimp only [Pt.U, Pt.locs, Pt.cells, Pt.slots] at X8 l8 y8 z8 st8 hQ8
    rw [l8, y8, z8] at X8
    obtain ⟨r8, rfl, N8q, K8, n0_r8, sq8, V8⟩ := hQ8
    have N8 := Fr.app N0 N8q
    have ne8_b : b ≠ r8 := Nat.ne_of_lt (Nat.lt_of_lt_of_le V_b.lt sq8)
    have sz_r8 : h0.size ≤ r8 := Nat.le_trans K0.1 sq8
    have f9_Z := Nat.le_trans Z0 K8.1
    have f10_O := OO.keep K8 all0
    have f11_K := K0.trans K8 all0
    have f12_A_b := V_b.keep K8 nin0
    refine go st8 ?_
    show Go p e below _ (T8.setTop (mkF m 16 #[.val (.ref b), .val (.int p1), .val (.int p2)] [(.ref r8)]))
    refine goOut X8 (fun h => by rw [Bd.returns] at h; cases h) hlk (fun fs hr => retOut X8 hx Bd.returns rfl (Or.inr (Or.inr (Or.inr (Or.inr ⟨rfl, rfl, rfl⟩)))) (hb hby d20_16) hr) (by decide) (by decide) ?_
    exact ⟨r8, rfl, N8, f11_K, n0_r8, sz_r8, V8⟩
theorem d23_0 : decode jdk_42_method_151_code 0 = .ok (.aload_n 0, 1) := by decide +kernel
theorem d23_1 : decode jdk_42_method_151_code 1 = .ok (.invokespecial 1, 3) := by decide +kernel
theorem d23_4 : decode jdk_42_method_151_code 4 = .ok (.aload_n 0, 1) := by decide +kernel
theorem d23_5 : decode jdk_42_method_151_code 5 = .ok (.aload_n 1, 1) := by decide +kernel
theorem d23_6 : decode jdk_42_method_151_code 6 = .ok (.putfield 9, 3) := by decide +kernel
theorem d23_9 : decode jdk_42_method_151_code 9 = .ok (.aload_n 0, 1) := by decide +kernel
theorem d23_10 : decode jdk_42_method_151_code 10 = .ok (.iload_n 2, 1) := by decide +kernel
theorem d23_11 : decode jdk_42_method_151_code 11 = .ok (.putfield 15, 3) := by decide +kernel
theorem d23_14 : decode jdk_42_method_151_code 14 = .ok (.return_, 1) := by decide +kernel
theorem ef_rm_sb (m : MethodId) (x0 : Addr) (x1 : Addr) : entryFrame m #[(.ref x0), (.ref x1), (.int (0 : Int32))] 3 = mkF m 0 #[.val (.ref x0), .val (.ref x1), .val (.int (0 : Int32))] [] := by first | (simp [entryFrame, mkF, argsToLocals, Value.category]; done) | rfl
def Q_sb (Z : State) (a a1 : Addr) (h0 : Heap) (n0 : Nat) (v : Option Value) (h : Heap) (L : List Loc) : Prop := v = none ∧ Fr n0 L ∧ Keep h0 h [a] ∧ Exa Z h a "java/lang/String" ∧ Fld Z h a "java/lang/String" "value" "[B" (.ref a1) ∧ Fld Z h a "java/lang/String" "coder" "B" (.int (0 : Int32))
set_option maxRecDepth 65536 in
set_option maxHeartbeats 40000000 in
theorem rm_sb (l : Launch) (Z : State) (a0 : Array Value) (hw : ∀ d ∈ tables_1, d.before a0 Z = true) (ws : List Jvm.Cond) (a : Addr) (a1 : Addr) (cs : Int32) (fm : Value) (kd1 kd2 kd3 kd4 : Addr)  (h0 : Heap) (n0 : Nat) (Z0 : n0 ≤ h0.size) (HS : own_sets Z cs fm kd1 kd2 kd3 kd4) (OO : Old Z n0 h0) (E_a : Exa Z h0 a "java/lang/String") (g_a : n0 ≤ a) (F_value_a : Fld Z h0 a "java/lang/String" "value" "[B" .null) (F_coder_a : Fld Z h0 a "java/lang/String" "coder" "B" (.int (0 : Int32))) :
    MetFree l (⟨"java/lang/String", "<init>", "([BB)V"⟩ : MethodName) (head1 (Jvm.Cond.code (⟨"java/lang/String", "<init>", "([BB)V"⟩ : MethodName) jdk_42_method_151_code 3 none :: ws) ({ frames := 1, cells := 0, slots := 0, locals := 12 } : Room)) (fun av' U => av' = #[(.ref a), (.ref a1), (.int (0 : Int32))] ∧ Z.Warmed39 U.vm ∧ U.heap = h0) (fun _ _ _ _ _ => True) (fun _ U o U' => ∃ v L, o = .returned v ∧ Q_sb Z a a1 h0 n0 v U'.heap L ∧ FrameEnd U o U' L ({ frames := 1, cells := 0, slots := 0, locals := 12 } : Room).cells ({ frames := 1, cells := 0, slots := 0, locals := 12 } : Room).slots) := by
  refine MetFree.of_bodySF (plainFor_of_name pn_java_lang_String) hisR ?_
  intro p e s m args below meth c s₁ Bd hml0 hP hK
  obtain ⟨rfl, hZ, hh⟩ := hP
  have hx := Bd.exec
  have hby := Bd.bytes
  have hlk := Bd.notSynchronized
  have hml : c.maxLocals = 3 := hml0
  have hown : s.vm.findClass "java/lang/String" = some m.cls := findClass_of_methodNamed Bd.named
  have hnm := (name_of_methodNamed Bd.named Bd.method).1
  have X0 : Stand p l e ({ frames := 1, cells := 0, slots := 0, locals := 12 } : Room) s m #[(.ref a), (.ref a1), (.int (0 : Int32))] below meth c s₁ [] 0 0 := Stand.of_body Bd
  have e0 : s₁.heap = h0 := by rw [← hh, Bd.state]; rfl
  have N0 := Fr.nil n0
  show Go p e below (Kq s (Q_sb Z a a1 h0 n0) ({ frames := 1, cells := 0, slots := 0, locals := 12 } : Room).cells ({ frames := 1, cells := 0, slots := 0, locals := 12 } : Room).slots) _
  refine go (fun t kt => castTop (ef_rm_sb m a a1) kt) ?_
  have HS0 := HS
  obtain ⟨S_cs, hcs, S_fm, hfm, S_k1, S_k2, S_k3, S_k4⟩ := HS0
  have K0 := Keep.refl h0 [a]
  show Go p e below _ (s₁.setTop (mkF m 0 #[.val (.ref a), .val (.ref a1), .val (.int (0 : Int32))] []))
  refine go (fun t kt' => by refine XS.aloadN X0.here hx rfl (hb hby d23_0) rfl rfl ?_; exact kt') ?_
  show Go p e below _ (s₁.setTop (mkF m 1 #[.val (.ref a), .val (.ref a1), .val (.int (0 : Int32))] [(.ref a)]))
  obtain ⟨T1, X1, e1, st1⟩ := initO X0 hx hZ hown (hw _ (List.mem_of_getElem? (i := 11) rfl)) (hw _ (List.mem_of_getElem? (i := 12) rfl)) (hw _ (List.mem_of_getElem? (i := 13) rfl)) e0 (g := (mkF m 1 #[.val (.ref a), .val (.ref a1), .val (.int (0 : Int32))] [(.ref a)])) rfl (by rw [hml]; rfl) rfl (hb hby d23_1) (by decide) (W := 0) (by show 2 * 0 + _ ≤ _; exact Nat.le_of_eq rfl) (by decide)
  refine go st1 ?_
  show Go p e below _ (T1.setTop (mkF m 4 #[.val (.ref a), .val (.ref a1), .val (.int (0 : Int32))] []))
  refine go (fun t kt' => by refine XS.aloadN X1.here hx rfl (hb hby d23_4) rfl rfl ?_; exact kt') ?_
  show Go p e below _ (T1.setTop (mkF m 5 #[.val (.ref a), .val (.ref a1), .val (.int (0 : Int32))] [(.ref a)]))
  refine go (fun t kt' => by refine XS.aloadN X1.here hx rfl (hb hby d23_5) rfl rfl ?_; exact kt') ?_
  show Go p e below _ (T1.setTop (mkF m 6 #[.val (.ref a), .val (.ref a1), .val (.int (0 : Int32))] [(.ref a1), (.ref a)]))
  obtain ⟨T2, h2, X2, e2, W2, st2⟩ := putF X1 hx hZ hown (host := "") (Or.inl (hw _ (List.mem_of_getElem? (i := 28) rfl))) Via.refl e1 F_value_a E_a (Or.inr ⟨(hw _ (List.mem_of_getElem? (i := 29) rfl)), rfl, hnm⟩) (hw _ (List.mem_of_getElem? (i := 2) rfl)) (ty := (.array .byte)) (by decide) rfl rfl (g := (mkF m 6 #[.val (.ref a), .val (.ref a1), .val (.int (0 : Int32))] [(.ref a1), (.ref a)])) rfl rfl (hb hby d23_6)
  have N2 := Fr.snoc X2 N0 g_a
  have f3_Z := Nat.le_trans Z0 (Keep.of_wr W2).1
  have f4_O := OO.wr W2 g_a
  have f5_K := K0.wr W2 (Or.inl (List.mem_of_getElem? (i := 0) rfl))
  have f6_E_a := E_a.wr W2
  have f7_F_a_value := F_value_a.same W2
  have f8_F_a_coder := F_coder_a.other W2 (Or.inr (slot_ne (Or.inr (hw _ (List.mem_of_getElem? (i := 27) rfl))) (Or.inr (hw _ (List.mem_of_getElem? (i := 29) rfl))) (by decide) (t := .byte) (t' := (.array .byte)) (by decide) (by decide)))
  refine go st2 ?_
  show Go p e below _ (T2.setTop (mkF m 9 #[.val (.ref a), .val (.ref a1), .val (.int (0 : Int32))] []))
  refine go (fun t kt' => by refine XS.aloadN X2.here hx rfl (hb hby d23_9) rfl rfl ?_; exact kt') ?_
  show Go p e below _ (T2.setTop (mkF m 10 #[.val (.ref a), .val (.ref a1), .val (.int (0 : Int32))] [(.ref a)]))
  refine go (fun t kt' => by refine XS.iloadN X2.here hx rfl (hb hby d23_10) rfl ?_; exact kt') ?_
  show Go p e below _ (T2.setTop (mkF m 11 #[.val (.ref a), .val (.ref a1), .val (.int (0 : Int32))] [(.int (0 : Int32)), (.ref a)]))
  obtain ⟨T9, h9, X9, e9, W9, st9⟩ := putFN X2 hx hZ hown (hw _ (List.mem_of_getElem? (i := 26) rfl)) Via.refl e2 f8_F_a_coder f6_E_a (Or.inr ⟨(hw _ (List.mem_of_getElem? (i := 27) rfl)), rfl, hnm⟩) (hw _ (List.mem_of_getElem? (i := 2) rfl)) (ty := .byte) (v' := (.int (nar .byte (0 : Int32)))) (by decide) rfl (fits_nar_byte _) (g := (mkF m 11 #[.val (.ref a), .val (.ref a1), .val (.int (0 : Int32))] [(.int (0 : Int32)), (.ref a)])) rfl rfl (hb hby d23_11)
  have N9 := Fr.snoc X9 N2 g_a
  have f10_Z := Nat.le_trans f3_Z (Keep.of_wr W9).1
  have f11_O := f4_O.wr W9 g_a
  have f12_K := f5_K.wr W9 (Or.inl (List.mem_of_getElem? (i := 0) rfl))
  have f13_E_a := f6_E_a.wr W9
  have f14_F_a_value := f7_F_a_value.other W9 (Or.inr (slot_ne (Or.inr (hw _ (List.mem_of_getElem? (i := 29) rfl))) (Or.inr (hw _ (List.mem_of_getElem? (i := 27) rfl))) (by decide) (t := (.array .byte)) (t' := .byte) (by decide) (by decide)))
  have f15_F_a_coder := f8_F_a_coder.same W9
  refine go st9 ?_
  show Go p e below _ (T9.setTop (mkF m 14 #[.val (.ref a), .val (.ref a1), .val (.int (0 : Int32))] []))
  refine goOut X9 (fun _ => rfl) hlk (fun fs hr => X9.returnOut hx Bd.returns (hb hby d23_14) hr) (by decide) (by decide) ?_
  rw [e9]
  exact ⟨rfl, N9, f12_K, f13_E_a, f14_F_a_value, f15_F_a_coder⟩
theorem d19_0 : decode jdk_43_method_47_code 0 = .ok (.iload_n 2, 1) := by decide +kernel
theorem d19_1 : decode jdk_43_method_47_code 1 = .ok (.ifCond .ne 6, 3) := by decide +kernel
theorem d19_7 : decode jdk_43_method_47_code 7 = .ok (.new 1, 3) := by decide +kernel
theorem d19_10 : decode jdk_43_method_47_code 10 = .ok (.dup, 1) := by decide +kernel
theorem d19_11 : decode jdk_43_method_47_code 11 = .ok (.aload_n 0, 1) := by decide +kernel
theorem d19_12 : decode jdk_43_method_47_code 12 = .ok (.iload_n 1, 1) := by decide +kernel
theorem d19_13 : decode jdk_43_method_47_code 13 = .ok (.iload_n 1, 1) := by decide +kernel
theorem d19_14 : decode jdk_43_method_47_code 14 = .ok (.iload_n 2, 1) := by decide +kernel
theorem d19_15 : decode jdk_43_method_47_code 15 = .ok (.iadd, 1) := by decide +kernel
theorem d19_16 : decode jdk_43_method_47_code 16 = .ok (.invokestatic 232, 3) := by decide +kernel
theorem d19_19 : decode jdk_43_method_47_code 19 = .ok (.iconst 0, 1) := by decide +kernel
theorem d19_20 : decode jdk_43_method_47_code 20 = .ok (.invokespecial 112, 3) := by decide +kernel
theorem pd_13 : parseMethodDescriptor "([BB)V" = some ⟨[(.array .byte), .byte], none⟩ := by decide +kernel
theorem d19_23 : decode jdk_43_method_47_code 23 = .ok (.areturn, 1) := by decide +kernel
theorem d19_4 : decode jdk_43_method_47_code 4 = .ok (.ldc 151, 2) := by decide +kernel
theorem d19_6 : decode jdk_43_method_47_code 6 = .ok (.areturn, 1) := by decide +kernel
theorem ef_rm_ns (m : MethodId) (x0 : Addr) (x1 : Int32) (x2 : Int32) : entryFrame m #[(.ref x0), (.int x1), (.int x2)] 3 = mkF m 0 #[.val (.ref x0), .val (.int x1), .val (.int x2)] [] := by first | (simp [entryFrame, mkF, argsToLocals, Value.category]; done) | rfl
def Q_ns (Z : State) (f : Nat → Int32) (lo N : Nat) (h0 : Heap) (n0 : Nat) (v : Option Value) (h : Heap) (L : List Loc) : Prop := ∃ (a b : Addr) (g : Nat → Int32), v = some (.ref a) ∧ Fr n0 L ∧ Keep h0 h [] ∧ Exa Z h a "java/lang/String" ∧ Fld Z h a "java/lang/String" "value" "[B" (.ref b) ∧ Fld Z h a "java/lang/String" "coder" "B" (.int (0 : Int32)) ∧ IA Z h b .byte N g ∧ ∀ j, j < N → g j = f (lo + j)
set_option maxRecDepth 65536 in
set_option maxHeartbeats 40000000 in
theorem rm_ns (l : Launch) (Z : State) (a0 : Array Value) (hw : ∀ d ∈ tables_1, d.before a0 Z = true) (ws : List Jvm.Cond) (b : Addr) (p1 : Int32) (p2 : Int32) (cs : Int32) (fm : Value) (kd1 kd2 kd3 kd4 : Addr) (f : Nat → Int32) (lo N : Nat) (h0 : Heap) (n0 : Nat) (Z0 : n0 ≤ h0.size) (HS : own_sets Z cs fm kd1 kd2 kd3 kd4) (OO : Old Z n0 h0) (V_b : IA Z h0 b .byte 4 f) (hlo : p1.toInt = lo) (hhi : p2.toInt = N) (hle : lo + N ≤ 4) (hrb : ∀ j, j < 4 → -128 ≤ (f j).toInt ∧ (f j).toInt < 128) (hnf : ¬ (lo = 0 ∧ N = 4)) :
    MetFree l (⟨"java/lang/StringLatin1", "newString", "([BII)Ljava/lang/String;"⟩ : MethodName) (head1 (Jvm.Cond.code (⟨"java/lang/StringLatin1", "newString", "([BII)Ljava/lang/String;"⟩ : MethodName) jdk_43_method_47_code 3 (some (.object "java/lang/String")) :: ws) ({ frames := 3, cells := 2, slots := 8, locals := 92 } : Room)) (fun av' U => av' = #[(.ref b), (.int p1), (.int p2)] ∧ Z.Warmed39 U.vm ∧ U.heap = h0 ∧ CHv Z own_EL U.vm h0) (fun _ _ _ _ _ => True) (fun _ U o U' => ∃ v L, o = .returned v ∧ Q_ns Z f lo N h0 n0 v U'.heap L ∧ CHr Z own_EL U.vm U.heap U'.vm U'.heap ∧ ReturnedEndW U o U' L ({ frames := 3, cells := 2, slots := 8, locals := 92 } : Room).cells ({ frames := 3, cells := 2, slots := 8, locals := 92 } : Room).slots) := by
  refine MetFree.of_bodySF (plainFor_of_name pn_java_lang_StringLatin1) hisR ?_
  intro p e s m args below meth c s₁ Bd hml0 hP hK
  obtain ⟨rfl, hZ, hh, hH⟩ := hP
  have hx := Bd.exec
  have hby := Bd.bytes
  have hlk := Bd.notSynchronized
  have hml : c.maxLocals = 3 := hml0
  have hown : s.vm.findClass "java/lang/StringLatin1" = some m.cls := findClass_of_methodNamed Bd.named
  have hnm := (name_of_methodNamed Bd.named Bd.method).1
  have X0 : Stand p l e ({ frames := 3, cells := 2, slots := 8, locals := 92 } : Room) s m #[(.ref b), (.int p1), (.int p2)] below meth c s₁ [] 0 0 := Stand.of_body Bd
  have e0 : s₁.heap = h0 := by rw [← hh, Bd.state]; rfl
  have N0 := Fr.nil n0
  show Go p e below (KqW Z own_EL s (Q_ns Z f lo N h0 n0) ({ frames := 3, cells := 2, slots := 8, locals := 92 } : Room).cells ({ frames := 3, cells := 2, slots := 8, locals := 92 } : Room).slots) _
  refine go (fun t kt => castTop (ef_rm_ns m b p1 p2) kt) ?_
  have HS0 := HS
  obtain ⟨S_cs, hcs, S_fm, hfm, S_k1, S_k2, S_k3, S_k4⟩ := HS0
  have hEL := own_hel hw
  have K0 := Keep.refl h0 []
  have hhi' : (p1 + p2).toInt = ((lo + N : Nat) : Int) := own_addi hlo hhi hle
  show Go p e below _ (s₁.setTop (mkF m 0 #[.val (.ref b), .val (.int p1), .val (.int p2)] []))
  refine go (fun t kt' => by refine XS.iloadN X0.here hx rfl (hb hby d19_0) rfl ?_; exact kt') ?_
  show Go p e below _ (s₁.setTop (mkF m 1 #[.val (.ref b), .val (.int p1), .val (.int p2)] [(.int p2)]))
  by_cases c1_1 : ¬ p2 = (0 : Int32)
  · skip
    refine go (fun t kt' => by refine XS.ifYes X0.here hx rfl (pc0 := 1) (pc' := 7) rfl (hb hby d19_1) rfl ((if0 _ _).trans (feq c1_1).2) (by decide) (by decide) ?_; exact kt') ?_
    show Go p e below _ (s₁.setTop (mkF m 7 #[.val (.ref b), .val (.int p1), .val (.int p2)] []))
    obtain ⟨T2, h2, X2, e2, E2, A2, D2, -, st2⟩ := newO X0 hx hZ hown (hw _ (List.mem_of_getElem? (i := 102) rfl)) (hw _ (List.mem_of_getElem? (i := 2) rfl)) (hw _ (List.mem_of_getElem? (i := 3) rfl)) e0 (g := (mkF m 7 #[.val (.ref b), .val (.int p1), .val (.int p2)] [])) rfl (hb hby d19_7) (by decide) (by decide)
    obtain ⟨b2, g2⟩ : ∃ z, z = h0.size := ⟨_, rfl⟩
    have n0_b2 : n0 ≤ b2 := Nat.le_trans Z0 (Nat.le_of_eq g2.symm)
    have sz_b2 : h0.size ≤ b2 := Nat.le_trans K0.1 (Nat.le_of_eq g2.symm)
    have ne2_b_b2 : b ≠ b2 := Nat.ne_of_lt (Nat.lt_of_lt_of_le V_b.lt (Nat.le_of_eq g2.symm))
    rw [← g2] at A2 D2 st2
    have f3_Z := Nat.le_trans Z0 E2.1
    have f4_O := OO.ext E2
    have f5_K := K0.ext E2
    have f6_A_b := V_b.ext E2
    have F2_coder : Fld Z h2 b2 "java/lang/String" "coder" "B" (.int (0 : Int32)) := D2 (Or.inr (hw _ (List.mem_of_getElem? (i := 27) rfl))) (ty := .byte) (by decide)
    have F2_value : Fld Z h2 b2 "java/lang/String" "value" "[B" .null := D2 (Or.inr (hw _ (List.mem_of_getElem? (i := 29) rfl))) (ty := (.array .byte)) (by decide)
    refine go st2 ?_
    show Go p e below _ (T2.setTop (mkF m 10 #[.val (.ref b), .val (.int p1), .val (.int p2)] [(.ref b2)]))
    refine go (fun t kt' => by refine XS.dup X2.here hx rfl (hb hby d19_10) rfl rfl ?_; exact kt') ?_
    show Go p e below _ (T2.setTop (mkF m 11 #[.val (.ref b), .val (.int p1), .val (.int p2)] [(.ref b2), (.ref b2)]))
    refine go (fun t kt' => by refine XS.aloadN X2.here hx rfl (hb hby d19_11) rfl rfl ?_; exact kt') ?_
    show Go p e below _ (T2.setTop (mkF m 12 #[.val (.ref b), .val (.int p1), .val (.int p2)] [(.ref b), (.ref b2), (.ref b2)]))
    refine go (fun t kt' => by refine XS.iloadN X2.here hx rfl (hb hby d19_12) rfl ?_; exact kt') ?_
    show Go p e below _ (T2.setTop (mkF m 13 #[.val (.ref b), .val (.int p1), .val (.int p2)] [(.int p1), (.ref b), (.ref b2), (.ref b2)]))
    refine go (fun t kt' => by refine XS.iloadN X2.here hx rfl (hb hby d19_13) rfl ?_; exact kt') ?_
    show Go p e below _ (T2.setTop (mkF m 14 #[.val (.ref b), .val (.int p1), .val (.int p2)] [(.int p1), (.int p1), (.ref b), (.ref b2), (.ref b2)]))
    refine go (fun t kt' => by refine XS.iloadN X2.here hx rfl (hb hby d19_14) rfl ?_; exact kt') ?_
    show Go p e below _ (T2.setTop (mkF m 15 #[.val (.ref b), .val (.int p1), .val (.int p2)] [(.int p2), (.int p1), (.int p1), (.ref b), (.ref b2), (.ref b2)]))
    refine go (fun t kt' => by refine XS.iadd X2.here hx rfl (hb hby d19_15) rfl ?_; exact kt') ?_
    show Go p e below _ (T2.setTop (mkF m 16 #[.val (.ref b), .val (.int p1), .val (.int p2)] [(.int (p1 + p2)), (.int p1), (.ref b), (.ref b2), (.ref b2)]))
    obtain ⟨_, _, ⟨T7, L7, k7, n7⟩, -, X7, ⟨Lc7, hQ7, l7, y7, z7⟩, st7⟩ := Jvm.LawKit.callS X2 hx (y := (⟨"java/util/Arrays", "copyOfRange", "([BII)[B"⟩ : MethodName)) hown (mvT hZ (hw _ (List.mem_of_getElem? (i := 103) rfl))) (mvT hZ (hw _ (List.mem_of_getElem? (i := 104) rfl))) (mvT hZ (hw _ (List.mem_of_getElem? (i := 105) rfl))) (mvT hZ (hw _ (List.mem_of_getElem? (i := 106) rfl))) (by decide) (backOf (W := 2) (rm_cr l Z a0 hw [] b p1 (p1 + p2) cs fm kd1 kd2 kd3 kd4 f lo N h2 n0 f3_Z HS f4_O f6_A_b hlo hhi' hle hrb hnf) hZ (hw _ (List.mem_of_getElem? (i := 106) rfl)) (hw _ (List.mem_of_getElem? (i := 105) rfl)) (by decide) (by decide)) (g := (mkF m 16 #[.val (.ref b), .val (.int p1), .val (.int p2)] [(.int (p1 + p2)), (.int p1), (.ref b), (.ref b2), (.ref b2)])) rfl (by rw [hml]; rfl) (argsL := [(.ref b), (.int p1), (.int (p1 + p2))]) (rest := [(.ref b2), (.ref b2)]) (lenOf pd_12 rfl) rfl (by show 2 * 0 + _ ≤ _; exact Nat.le_of_eq rfl) (hb hby d19_16) (fun _ _ => ⟨rfl, e2, (by decide : 1 + 1 ≤ _), (by decide : 4 + 4 ≤ _)⟩)
    dsimp only [Pt.U, Pt.locs, Pt.cells, Pt.slots] at X7 l7 y7 z7 st7 hQ7
    rw [l7, y7, z7] at X7
    obtain ⟨r7, rfl, N7q, K7, n0_r7, sq7, V7⟩ := hQ7
    have N7 := Fr.app N0 N7q
    have ne7_b : b ≠ r7 := Nat.ne_of_lt (Nat.lt_of_lt_of_le f6_A_b.lt sq7)
    have ne7_b2 : b2 ≠ r7 := Nat.ne_of_lt (Nat.lt_of_lt_of_le A2.lt sq7)
    have sz_r7 : h0.size ≤ r7 := Nat.le_trans f5_K.1 sq7
    have f8_Z := Nat.le_trans f3_Z K7.1
    have f9_O := f4_O.keep K7 all0
    have f10_K := f5_K.trans K7 all0
    have f11_A_b := f6_A_b.keep K7 nin0
    have f12_E_b2 := A2.keep K7
    have f13_F_b2_coder := F2_coder.keep K7 nin0
    have f14_F_b2_value := F2_value.keep K7 nin0
    refine go st7 ?_
    show Go p e below _ (T7.setTop (mkF m 19 #[.val (.ref b), .val (.int p1), .val (.int p2)] [(.ref r7), (.ref b2), (.ref b2)]))
    refine go (fun t kt' => by refine XS.iconst X7.here hx rfl (hb hby d19_19) ?_; exact kt') ?_
    show Go p e below _ (T7.setTop (mkF m 20 #[.val (.ref b), .val (.int p1), .val (.int p2)] [(.int (0 : Int32)), (.ref r7), (.ref b2), (.ref b2)]))
    obtain ⟨_, _, ⟨T15, L15, k15, n15⟩, -, X15, ⟨Lc15, hQ15, l15, y15, z15⟩, st15⟩ := X7.specialBack hx (y := (⟨"java/lang/String", "<init>", "([BB)V"⟩ : MethodName)) rfl hown (mvT hZ (hw _ (List.mem_of_getElem? (i := 118) rfl))) (mvT hZ (hw _ (List.mem_of_getElem? (i := 119) rfl))) (mvT hZ (hw _ (List.mem_of_getElem? (i := 120) rfl))) (by decide) (backOf (W := 1) (rm_sb l Z a0 hw [] b2 r7 cs fm kd1 kd2 kd3 kd4  T7.heap n0 f8_Z HS f9_O f12_E_b2 n0_b2 f14_F_b2_value f13_F_b2_coder) hZ (hw _ (List.mem_of_getElem? (i := 120) rfl)) (hw _ (List.mem_of_getElem? (i := 3) rfl)) (by decide) (by decide)) (g := (mkF m 20 #[.val (.ref b), .val (.int p1), .val (.int p2)] [(.int (0 : Int32)), (.ref r7), (.ref b2), (.ref b2)])) rfl (by rw [hml]; rfl) (Steps.refl _) (a := b2) (argsL := [(.ref r7), (.int (0 : Int32))]) (rest := [(.ref b2)]) (lenOf pd_13 rfl) rfl (by show 2 * 0 + _ ≤ _; exact Nat.le_of_eq rfl) (hb hby d19_20) (fun _ _ => ⟨rfl, rfl, (by decide : 2 + 0 ≤ _), (by decide : 8 + 0 ≤ _)⟩)
    dsimp only [Pt.U, Pt.locs, Pt.cells, Pt.slots] at X15 l15 y15 z15 st15 hQ15
    rw [l15, y15, z15] at X15
    obtain ⟨rfl, N15q, K15, P15_0, P15_1, P15_2⟩ := hQ15
    have N15 := Fr.app N7 N15q
    have f16_Z := Nat.le_trans f8_Z K15.1
    have f17_O := f9_O.keep K15 (allS n0_b2 all0)
    have f18_K := f10_K.trans K15 (allS (Or.inr sz_b2) all0)
    have f19_A_b := f11_A_b.keep K15 (ninS ne2_b_b2 nin0)
    have f20_A_r7 := V7.keep K15 (ninS (Ne.symm ne7_b2) nin0)
    refine go (fun t kt => st15.trans kt) ?_
    show Go p e below _ (T15.setTop (mkF m 23 #[.val (.ref b), .val (.int p1), .val (.int p2)] [(.ref b2)]))
    refine goOutN X15 (by rw [hh]; exact (CHr.keep f18_K all0 hH).trans (CHv.at (s := s) (vm0 := s.vm) X15 hZ hEL (CHr.keep f18_K all0 hH).1)) (fun h => by rw [Bd.returns] at h; cases h) hlk (fun fs hr => retOut X15 hx Bd.returns rfl (Or.inr (Or.inr (Or.inr (Or.inr ⟨rfl, rfl, rfl⟩)))) (hb hby d19_23) hr) (by decide) (by decide) ?_
    exact ⟨_, _, _, rfl, N15, f18_K, P15_0, P15_1, P15_2, f20_A_r7, fun _ _ => rfl⟩
  · skip
    refine go (fun t kt' => by refine XS.ifNo X0.here hx rfl (hb hby d19_1) rfl ((if0 _ _).trans (teq (Decidable.not_not.mp c1_1)).2) ?_; exact kt') ?_
    show Go p e below _ (s₁.setTop (mkF m 4 #[.val (.ref b), .val (.int p1), .val (.int p2)] []))
    obtain ⟨la21, T21, h21, kk21, lb21, lk21, X21, e21, LX21, hS21, hk21, hZ21, hown21, LE21, LC21, LV21, LA21, -, -, hC21, -, -, st21⟩ := ldcCH (s := s) (vm0 := s.vm) X0 hx hZ hown (hw _ (List.mem_of_getElem? (i := 140) rfl)) (own_wS hw) e0 ((State.WarmedH.refl s).since 0) (Nat.zero_le _) hEL (List.mem_cons_self ..) hH (vs := []) (z := 0) ⟨by simp, rfl⟩ (by decide) rfl (g := (mkF m 4 #[.val (.ref b), .val (.int p1), .val (.int p2)] [])) rfl (hb hby d19_4) (n := 0) (by decide) (by decide) (by decide) (by decide)
    refine go st21 ?_
    show Go p e below _ (T21.setTop (mkF m 6 #[.val (.ref b), .val (.int p1), .val (.int p2)] [(.ref la21)]))
    refine goOutW X21 hS21 (by rw [e21]; exact hk21) (by rw [hh, e21]; exact hC21) (fun h => by rw [Bd.returns] at h; cases h) hlk (fun fs hr => retOut X21 hx Bd.returns rfl (Or.inr (Or.inr (Or.inr (Or.inr ⟨rfl, rfl, rfl⟩)))) (hb hby d19_6) hr) (by decide) (by decide) ?_
    rw [e21]
    exact ⟨_, _, fun _ => 0, rfl, N0, (Keep.ext (Keep.refl h0 []) LX21), LE21, LV21, LC21, own_lit0 (own_lenz hhi (Decidable.not_not.mp c1_1)) LA21, fun j hj => absurd hj (by rw [own_lenz hhi (Decidable.not_not.mp c1_1)]; exact Nat.not_lt_zero _)⟩
theorem d13_0 : decode jdk_42_method_92_code 0 = .ok (.aload_n 0, 1) := by decide +kernel
theorem d13_1 : decode jdk_42_method_92_code 1 = .ok (.invokevirtual 505, 3) := by decide +kernel
theorem pd_14 : parseMethodDescriptor "()I" = some ⟨[], some .int⟩ := by decide +kernel
theorem d13_4 : decode jdk_42_method_92_code 4 = .ok (.istore_n 3, 1) := by decide +kernel
theorem d13_5 : decode jdk_42_method_92_code 5 = .ok (.iload_n 1, 1) := by decide +kernel
theorem d13_6 : decode jdk_42_method_92_code 6 = .ok (.iload_n 2, 1) := by decide +kernel
theorem d13_7 : decode jdk_42_method_92_code 7 = .ok (.iload_n 3, 1) := by decide +kernel
theorem d13_8 : decode jdk_42_method_92_code 8 = .ok (.invokestatic 521, 3) := by decide +kernel
theorem pd_15 : parseMethodDescriptor "(III)V" = some ⟨[.int, .int, .int], none⟩ := by decide +kernel
theorem d13_11 : decode jdk_42_method_92_code 11 = .ok (.iload_n 1, 1) := by decide +kernel
theorem d13_12 : decode jdk_42_method_92_code 12 = .ok (.ifCond .ne 10, 3) := by decide +kernel
theorem d13_22 : decode jdk_42_method_92_code 22 = .ok (.iload_n 2, 1) := by decide +kernel
theorem d13_23 : decode jdk_42_method_92_code 23 = .ok (.iload_n 1, 1) := by decide +kernel
theorem d13_24 : decode jdk_42_method_92_code 24 = .ok (.isub, 1) := by decide +kernel
theorem d13_25 : decode jdk_42_method_92_code 25 = .ok (.istore 4, 2) := by decide +kernel
theorem d13_27 : decode jdk_42_method_92_code 27 = .ok (.aload_n 0, 1) := by decide +kernel
theorem d13_28 : decode jdk_42_method_92_code 28 = .ok (.invokevirtual 492, 3) := by decide +kernel
theorem d13_31 : decode jdk_42_method_92_code 31 = .ok (.ifCond .eq 16, 3) := by decide +kernel
theorem d13_34 : decode jdk_42_method_92_code 34 = .ok (.aload_n 0, 1) := by decide +kernel
theorem d13_35 : decode jdk_42_method_92_code 35 = .ok (.getfield 9, 3) := by decide +kernel
theorem d13_38 : decode jdk_42_method_92_code 38 = .ok (.iload_n 1, 1) := by decide +kernel
theorem d13_39 : decode jdk_42_method_92_code 39 = .ok (.iload 4, 2) := by decide +kernel
theorem d13_41 : decode jdk_42_method_92_code 41 = .ok (.invokestatic 685, 3) := by decide +kernel
theorem pd_16 : parseMethodDescriptor "([BII)Ljava/lang/String;" = some ⟨[(.array .byte), .int, .int], some (.object "java/lang/String")⟩ := by decide +kernel
theorem d13_44 : decode jdk_42_method_92_code 44 = .ok (.goto 13, 3) := by decide +kernel
theorem d13_57 : decode jdk_42_method_92_code 57 = .ok (.areturn, 1) := by decide +kernel
theorem d13_15 : decode jdk_42_method_92_code 15 = .ok (.iload_n 2, 1) := by decide +kernel
theorem d13_16 : decode jdk_42_method_92_code 16 = .ok (.iload_n 3, 1) := by decide +kernel
theorem d13_17 : decode jdk_42_method_92_code 17 = .ok (.if_icmp .ne 5, 3) := by decide +kernel
theorem d13_20 : decode jdk_42_method_92_code 20 = .ok (.aload_n 0, 1) := by decide +kernel
theorem d13_21 : decode jdk_42_method_92_code 21 = .ok (.areturn, 1) := by decide +kernel
theorem ef_rm_su (m : MethodId) (x0 : Addr) (x1 : Int32) (x2 : Int32) : entryFrame m #[(.ref x0), (.int x1), (.int x2)] 5 = mkF m 0 #[.val (.ref x0), .val (.int x1), .val (.int x2), .unset, .unset] [] := by first | (simp [entryFrame, mkF, argsToLocals, Value.category]; done) | rfl
def Q_su (Z : State) (f : Nat → Int32) (lo N : Nat) (h0 : Heap) (n0 : Nat) (v : Option Value) (h : Heap) (L : List Loc) : Prop := ∃ (a b : Addr) (g : Nat → Int32), v = some (.ref a) ∧ Fr n0 L ∧ Keep h0 h [] ∧ Exa Z h a "java/lang/String" ∧ Fld Z h a "java/lang/String" "value" "[B" (.ref b) ∧ Fld Z h a "java/lang/String" "coder" "B" (.int (0 : Int32)) ∧ IA Z h b .byte N g ∧ ∀ j, j < N → g j = f (lo + j)
set_option maxRecDepth 65536 in
set_option maxHeartbeats 40000000 in
theorem rm_su (l : Launch) (Z : State) (a0 : Array Value) (hw : ∀ d ∈ tables_1, d.before a0 Z = true) (ws : List Jvm.Cond) (a : Addr) (p1 : Int32) (p2 : Int32) (cs : Int32) (fm : Value) (kd1 kd2 kd3 kd4 : Addr) (b : Addr) (f : Nat → Int32) (lo N : Nat) (h0 : Heap) (n0 : Nat) (Z0 : n0 ≤ h0.size) (HS : own_sets Z cs fm kd1 kd2 kd3 kd4) (OO : Old Z n0 h0) (E_a : Exa Z h0 a "java/lang/String") (F_value_a : Fld Z h0 a "java/lang/String" "value" "[B" (.ref b)) (F_coder_a : Fld Z h0 a "java/lang/String" "coder" "B" (.int (0 : Int32))) (V_b : IA Z h0 b .byte 4 f) (hlo : p1.toInt = lo) (hhi : p2.toInt = ((lo + N : Nat) : Int)) (hle : lo + N ≤ 4) (hrb : ∀ j, j < 4 → -128 ≤ (f j).toInt ∧ (f j).toInt < 128) :
    MetFree l (⟨"java/lang/String", "substring", "(II)Ljava/lang/String;"⟩ : MethodName) (head1 (Jvm.Cond.code (⟨"java/lang/String", "substring", "(II)Ljava/lang/String;"⟩ : MethodName) jdk_42_method_92_code 5 (some (.object "java/lang/String")) :: ws) ({ frames := 4, cells := 2, slots := 8, locals := 106 } : Room)) (fun av' U => av' = #[(.ref a), (.int p1), (.int p2)] ∧ Z.Warmed39 U.vm ∧ U.heap = h0 ∧ CHv Z own_EL U.vm h0) (fun _ _ _ _ _ => True) (fun _ U o U' => ∃ v L, o = .returned v ∧ Q_su Z f lo N h0 n0 v U'.heap L ∧ CHr Z own_EL U.vm U.heap U'.vm U'.heap ∧ ReturnedEndW U o U' L ({ frames := 4, cells := 2, slots := 8, locals := 106 } : Room).cells ({ frames := 4, cells := 2, slots := 8, locals := 106 } : Room).slots) := by
  refine MetFree.of_bodySF (plainFor_of_name pn_java_lang_String) hisR ?_
  intro p e s m args below meth c s₁ Bd hml0 hP hK
  obtain ⟨rfl, hZ, hh, hH⟩ := hP
  have hx := Bd.exec
  have hby := Bd.bytes
  have hlk := Bd.notSynchronized
  have hml : c.maxLocals = 5 := hml0
  have hown : s.vm.findClass "java/lang/String" = some m.cls := findClass_of_methodNamed Bd.named
  have hnm := (name_of_methodNamed Bd.named Bd.method).1
  have X0 : Stand p l e ({ frames := 4, cells := 2, slots := 8, locals := 106 } : Room) s m #[(.ref a), (.int p1), (.int p2)] below meth c s₁ [] 0 0 := Stand.of_body Bd
  have e0 : s₁.heap = h0 := by rw [← hh, Bd.state]; rfl
  have N0 := Fr.nil n0
  show Go p e below (KqW Z own_EL s (Q_su Z f lo N h0 n0) ({ frames := 4, cells := 2, slots := 8, locals := 106 } : Room).cells ({ frames := 4, cells := 2, slots := 8, locals := 106 } : Room).slots) _
  refine go (fun t kt => castTop (ef_rm_su m a p1 p2) kt) ?_
  have HS0 := HS
  obtain ⟨S_cs, hcs, S_fm, hfm, S_k1, S_k2, S_k3, S_k4⟩ := HS0
  have hEL := own_hel hw
  have K0 := Keep.refl h0 []
  have hN' : (p2 - p1).toInt = N := own_sub hlo hhi hle
  show Go p e below _ (s₁.setTop (mkF m 0 #[.val (.ref a), .val (.int p1), .val (.int p2), .unset, .unset] []))
  refine go (fun t kt' => by refine XS.aloadN X0.here hx rfl (hb hby d13_0) rfl rfl ?_; exact kt') ?_
  show Go p e below _ (s₁.setTop (mkF m 1 #[.val (.ref a), .val (.int p1), .val (.int p2), .unset, .unset] [(.ref a)]))
  obtain ⟨cq1, kq1, q1a, q1b, q1c⟩ := isOf hZ e0 E_a
  obtain ⟨_, _, ⟨T1, L1, k1, n1⟩, -, X1, ⟨Lc1, hQ1, l1, y1, z1⟩, st1⟩ := X0.virtualBack hx (y := (⟨"java/lang/String", "length", "()I"⟩ : MethodName)) (z := (⟨"java/lang/String", "length", "()I"⟩ : MethodName)) hown (mvT hZ (hw _ (List.mem_of_getElem? (i := 75) rfl))) (mvT hZ (hw _ (List.mem_of_getElem? (i := 76) rfl))) (notFace_of_selects (args := #[]) (mvT hZ (hw _ (List.mem_of_getElem? (i := 78) rfl)))) (mvT hZ (hw _ (List.mem_of_getElem? (i := 78) rfl))) (mvT hZ (hw _ (List.mem_of_getElem? (i := 77) rfl))) (by decide) (backOf (W := 0) (rm_le l Z a0 hw [] a cs fm kd1 kd2 kd3 kd4 b 4 f h0 n0 Z0 HS OO E_a F_value_a F_coder_a V_b) hZ (hw _ (List.mem_of_getElem? (i := 79) rfl)) (hw _ (List.mem_of_getElem? (i := 3) rfl)) (by decide) (by decide)) q1a q1c (g := (mkF m 1 #[.val (.ref a), .val (.int p1), .val (.int p2), .unset, .unset] [(.ref a)])) rfl (by rw [hml]; rfl) (Steps.refl _) (argsL := []) (rest := []) (lenOf pd_14 rfl) rfl (by show 2 * 0 + _ ≤ _; exact Nat.le_of_eq rfl) (hb hby d13_1) (fun _ _ => ⟨rfl, e0, (by decide : 0 + 0 ≤ _), (by decide : 0 + 0 ≤ _)⟩)
  dsimp only [Pt.U, Pt.locs, Pt.cells, Pt.slots] at X1 l1 y1 z1 st1 hQ1
  rw [l1, y1, z1] at X1
  obtain ⟨rfl, N1q, e1⟩ := hQ1
  have N1 := Fr.app N0 N1q
  refine go (fun t kt => st1.trans kt) ?_
  show Go p e below _ (T1.setTop (mkF m 4 #[.val (.ref a), .val (.int p1), .val (.int p2), .unset, .unset] [(.int (4 : Int32))]))
  refine go (fun t kt' => by refine XS.istoreN X1.here hx rfl (hb hby d13_4) rfl (l' := #[.val (.ref a), .val (.int p1), .val (.int p2), .val (.int (4 : Int32)), .unset]) rfl ?_; exact kt') ?_
  show Go p e below _ (T1.setTop (mkF m 5 #[.val (.ref a), .val (.int p1), .val (.int p2), .val (.int (4 : Int32)), .unset] []))
  refine go (fun t kt' => by refine XS.iloadN X1.here hx rfl (hb hby d13_5) rfl ?_; exact kt') ?_
  show Go p e below _ (T1.setTop (mkF m 6 #[.val (.ref a), .val (.int p1), .val (.int p2), .val (.int (4 : Int32)), .unset] [(.int p1)]))
  refine go (fun t kt' => by refine XS.iloadN X1.here hx rfl (hb hby d13_6) rfl ?_; exact kt') ?_
  show Go p e below _ (T1.setTop (mkF m 7 #[.val (.ref a), .val (.int p1), .val (.int p2), .val (.int (4 : Int32)), .unset] [(.int p2), (.int p1)]))
  refine go (fun t kt' => by refine XS.iloadN X1.here hx rfl (hb hby d13_7) rfl ?_; exact kt') ?_
  show Go p e below _ (T1.setTop (mkF m 8 #[.val (.ref a), .val (.int p1), .val (.int p2), .val (.int (4 : Int32)), .unset] [(.int (4 : Int32)), (.int p2), (.int p1)]))
  obtain ⟨_, _, ⟨T2, L2, k2, n2⟩, -, X2, ⟨Lc2, hQ2, l2, y2, z2⟩, st2⟩ := Jvm.LawKit.callS X1 hx (y := (⟨"java/lang/String", "checkBoundsBeginEnd", "(III)V"⟩ : MethodName)) hown (mvT hZ (hw _ (List.mem_of_getElem? (i := 85) rfl))) (mvT hZ (hw _ (List.mem_of_getElem? (i := 86) rfl))) (mvT hZ (hw _ (List.mem_of_getElem? (i := 3) rfl))) (mvT hZ (hw _ (List.mem_of_getElem? (i := 87) rfl))) (by decide) (backOf (W := 0) (rm_bb l Z a0 hw [] p1 p2 (4 : Int32) cs fm kd1 kd2 kd3 kd4  h0 n0 Z0 HS OO (own_bbb hlo hhi hle)) hZ (hw _ (List.mem_of_getElem? (i := 87) rfl)) (hw _ (List.mem_of_getElem? (i := 3) rfl)) (by decide) (by decide)) (g := (mkF m 8 #[.val (.ref a), .val (.int p1), .val (.int p2), .val (.int (4 : Int32)), .unset] [(.int (4 : Int32)), (.int p2), (.int p1)])) rfl (by rw [hml]; rfl) (argsL := [(.int p1), (.int p2), (.int (4 : Int32))]) (rest := []) (lenOf pd_15 rfl) rfl (by show 2 * 0 + _ ≤ _; exact Nat.le_of_eq rfl) (hb hby d13_8) (fun _ _ => ⟨rfl, e1, (by decide : 0 + 0 ≤ _), (by decide : 0 + 0 ≤ _)⟩)
  dsimp only [Pt.U, Pt.locs, Pt.cells, Pt.slots] at X2 l2 y2 z2 st2 hQ2
  rw [l2, y2, z2] at X2
  obtain ⟨rfl, N2q, e2⟩ := hQ2
  have N2 := Fr.app N1 N2q
  refine go st2 ?_
  show Go p e below _ (T2.setTop (mkF m 11 #[.val (.ref a), .val (.int p1), .val (.int p2), .val (.int (4 : Int32)), .unset] []))
  refine go (fun t kt' => by refine XS.iloadN X2.here hx rfl (hb hby d13_11) rfl ?_; exact kt') ?_
  show Go p e below _ (T2.setTop (mkF m 12 #[.val (.ref a), .val (.int p1), .val (.int p2), .val (.int (4 : Int32)), .unset] [(.int p1)]))
  by_cases c12_3 : ¬ p1 = (0 : Int32)
  · skip
    refine go (fun t kt' => by refine XS.ifYes X2.here hx rfl (pc0 := 12) (pc' := 22) rfl (hb hby d13_12) rfl ((if0 _ _).trans (feq c12_3).2) (by decide) (by decide) ?_; exact kt') ?_
    show Go p e below _ (T2.setTop (mkF m 22 #[.val (.ref a), .val (.int p1), .val (.int p2), .val (.int (4 : Int32)), .unset] []))
    refine go (fun t kt' => by refine XS.iloadN X2.here hx rfl (hb hby d13_22) rfl ?_; exact kt') ?_
    show Go p e below _ (T2.setTop (mkF m 23 #[.val (.ref a), .val (.int p1), .val (.int p2), .val (.int (4 : Int32)), .unset] [(.int p2)]))
    refine go (fun t kt' => by refine XS.iloadN X2.here hx rfl (hb hby d13_23) rfl ?_; exact kt') ?_
    show Go p e below _ (T2.setTop (mkF m 24 #[.val (.ref a), .val (.int p1), .val (.int p2), .val (.int (4 : Int32)), .unset] [(.int p1), (.int p2)]))
    refine go (fun t kt' => by refine XS.isub X2.here hx rfl (hb hby d13_24) rfl ?_; exact kt') ?_
    show Go p e below _ (T2.setTop (mkF m 25 #[.val (.ref a), .val (.int p1), .val (.int p2), .val (.int (4 : Int32)), .unset] [(.int (p2 - p1))]))
    refine go (fun t kt' => by refine XS.istore X2.here hx rfl (hb hby d13_25) rfl (l' := #[.val (.ref a), .val (.int p1), .val (.int p2), .val (.int (4 : Int32)), .val (.int (p2 - p1))]) rfl ?_; exact kt') ?_
    show Go p e below _ (T2.setTop (mkF m 27 #[.val (.ref a), .val (.int p1), .val (.int p2), .val (.int (4 : Int32)), .val (.int (p2 - p1))] []))
    have hnf : ¬ (lo = 0 ∧ N = 4) := own_nf0 hlo c12_3
    refine go (fun t kt' => by refine XS.aloadN X2.here hx rfl (hb hby d13_27) rfl rfl ?_; exact kt') ?_
    show Go p e below _ (T2.setTop (mkF m 28 #[.val (.ref a), .val (.int p1), .val (.int p2), .val (.int (4 : Int32)), .val (.int (p2 - p1))] [(.ref a)]))
    obtain ⟨cq4, kq4, q4a, q4b, q4c⟩ := isOf hZ e2 E_a
    obtain ⟨_, _, ⟨T4, L4, k4, n4⟩, -, X4, ⟨Lc4, hQ4, l4, y4, z4⟩, st4⟩ := X2.virtualBack hx (y := (⟨"java/lang/String", "isLatin1", "()Z"⟩ : MethodName)) (z := (⟨"java/lang/String", "isLatin1", "()Z"⟩ : MethodName)) hown (mvT hZ (hw _ (List.mem_of_getElem? (i := 93) rfl))) (mvT hZ (hw _ (List.mem_of_getElem? (i := 94) rfl))) (notFace_of_selects (args := #[]) (mvT hZ (hw _ (List.mem_of_getElem? (i := 96) rfl)))) (mvT hZ (hw _ (List.mem_of_getElem? (i := 96) rfl))) (mvT hZ (hw _ (List.mem_of_getElem? (i := 95) rfl))) (by decide) (backOf (W := 0) (rm_l1 l Z a0 hw [] a cs fm kd1 kd2 kd3 kd4  h0 n0 Z0 HS OO E_a F_coder_a) hZ (hw _ (List.mem_of_getElem? (i := 97) rfl)) (hw _ (List.mem_of_getElem? (i := 3) rfl)) (by decide) (by decide)) q4a q4c (g := (mkF m 28 #[.val (.ref a), .val (.int p1), .val (.int p2), .val (.int (4 : Int32)), .val (.int (p2 - p1))] [(.ref a)])) rfl (by rw [hml]; rfl) (Steps.refl _) (argsL := []) (rest := []) (lenOf pd_9 rfl) rfl (by show 2 * 0 + _ ≤ _; exact Nat.le_of_eq rfl) (hb hby d13_28) (fun _ _ => ⟨rfl, e2, (by decide : 0 + 0 ≤ _), (by decide : 0 + 0 ≤ _)⟩)
    dsimp only [Pt.U, Pt.locs, Pt.cells, Pt.slots] at X4 l4 y4 z4 st4 hQ4
    rw [l4, y4, z4] at X4
    obtain ⟨rfl, N4q, e4⟩ := hQ4
    have N4 := Fr.app N2 N4q
    refine go (fun t kt => st4.trans kt) ?_
    show Go p e below _ (T4.setTop (mkF m 31 #[.val (.ref a), .val (.int p1), .val (.int p2), .val (.int (4 : Int32)), .val (.int (p2 - p1))] [(.int (1 : Int32))]))
    have c31_5 : ¬ ((1 : Int32) = (0 : Int32)) := by decide
    refine go (fun t kt' => by refine XS.ifNo X4.here hx rfl (hb hby d13_31) rfl ((if0 _ _).trans (feq c31_5).1) ?_; exact kt') ?_
    show Go p e below _ (T4.setTop (mkF m 34 #[.val (.ref a), .val (.int p1), .val (.int p2), .val (.int (4 : Int32)), .val (.int (p2 - p1))] []))
    refine go (fun t kt' => by refine XS.aloadN X4.here hx rfl (hb hby d13_34) rfl rfl ?_; exact kt') ?_
    show Go p e below _ (T4.setTop (mkF m 35 #[.val (.ref a), .val (.int p1), .val (.int p2), .val (.int (4 : Int32)), .val (.int (p2 - p1))] [(.ref a)]))
    obtain ⟨T6, X6, e6, st6⟩ := getF X4 hx hZ hown (host := "") (Or.inl (hw _ (List.mem_of_getElem? (i := 28) rfl))) Via.refl e4 F_value_a (g := (mkF m 35 #[.val (.ref a), .val (.int p1), .val (.int p2), .val (.int (4 : Int32)), .val (.int (p2 - p1))] [(.ref a)])) rfl rfl (hb hby d13_35)
    refine go st6 ?_
    show Go p e below _ (T6.setTop (mkF m 38 #[.val (.ref a), .val (.int p1), .val (.int p2), .val (.int (4 : Int32)), .val (.int (p2 - p1))] [(.ref b)]))
    refine go (fun t kt' => by refine XS.iloadN X6.here hx rfl (hb hby d13_38) rfl ?_; exact kt') ?_
    show Go p e below _ (T6.setTop (mkF m 39 #[.val (.ref a), .val (.int p1), .val (.int p2), .val (.int (4 : Int32)), .val (.int (p2 - p1))] [(.int p1), (.ref b)]))
    refine go (fun t kt' => by refine XS.iload X6.here hx rfl (hb hby d13_39) rfl ?_; exact kt') ?_
    show Go p e below _ (T6.setTop (mkF m 41 #[.val (.ref a), .val (.int p1), .val (.int p2), .val (.int (4 : Int32)), .val (.int (p2 - p1))] [(.int (p2 - p1)), (.int p1), (.ref b)]))
    obtain ⟨_, _, ⟨T7, L7, k7, n7⟩, -, X7, hS7, hg7, ⟨Lc7, hQ7, l7, y7, z7, hC7⟩, st7⟩ := callSS X6 hx (y := (⟨"java/lang/StringLatin1", "newString", "([BII)Ljava/lang/String;"⟩ : MethodName)) hown (mvT hZ (hw _ (List.mem_of_getElem? (i := 98) rfl))) (mvT hZ (hw _ (List.mem_of_getElem? (i := 99) rfl))) (mvT hZ (hw _ (List.mem_of_getElem? (i := 100) rfl))) (mvT hZ (hw _ (List.mem_of_getElem? (i := 101) rfl))) (by decide) (backOfSH (s := s) (vm0 := s.vm) (W := 0) (rm_ns l Z a0 hw [] b p1 (p2 - p1) cs fm kd1 kd2 kd3 kd4 f lo N h0 n0 Z0 HS OO V_b hlo hN' hle hrb hnf) hZ (hw _ (List.mem_of_getElem? (i := 101) rfl)) (hw _ (List.mem_of_getElem? (i := 100) rfl)) (by decide) (by decide) hEL hH) (g := (mkF m 41 #[.val (.ref a), .val (.int p1), .val (.int p2), .val (.int (4 : Int32)), .val (.int (p2 - p1))] [(.int (p2 - p1)), (.int p1), (.ref b)])) rfl (by rw [hml]; rfl) (argsL := [(.ref b), (.int p1), (.int (p2 - p1))]) (rest := []) (lenOf pd_16 rfl) rfl (by show 2 * 0 + _ ≤ _; exact Nat.le_of_eq rfl) (hb hby d13_41) (fun _ _ => ⟨rfl, e6, (by decide : 0 + 2 ≤ _), (by decide : 0 + 8 ≤ _)⟩)
    dsimp only [Pt.U, Pt.locs, Pt.cells, Pt.slots] at X7 l7 y7 z7 st7 hQ7 hC7 hS7 hg7
    rw [l7, y7, z7] at X7
    have hown : (s.setVm T7.vm).vm.findClass "java/lang/String" = some m.cls := by rw [show (s.setVm T7.vm).vm = T7.vm from rfl, hS7.1.alike.findClass]; exact hown
    have hZ : Z.Warmed39 (s.setVm T7.vm).vm := State.Warmed39.trans hZ hS7.1
    obtain ⟨ra7, rb7, rg7, rfl, N7q, K7, E7_, FV7, FC7, VB7, hg7_⟩ := hQ7
    have N7 := Fr.app N4 N7q
    have f8_Z := Nat.le_trans Z0 K7.1
    have f9_O := OO.keep K7 all0
    have f10_K := K0.trans K7 all0
    have f11_E_a := E_a.keep K7
    have f12_F_a_value := F_value_a.keep K7 nin0
    have f13_F_a_coder := F_coder_a.keep K7 nin0
    have f14_A_b := V_b.keep K7 nin0
    refine go (fun t kt => st7.trans kt) ?_
    show Go p e below _ (T7.setTop (mkF m 44 #[.val (.ref a), .val (.int p1), .val (.int p2), .val (.int (4 : Int32)), .val (.int (p2 - p1))] [(.ref ra7)]))
    refine go (fun t kt' => by refine XS.goto X7.here hx rfl (pc0 := 44) (pc' := 57) rfl (hb hby d13_44) (by decide) (by decide) ?_; exact kt') ?_
    show Go p e below _ (T7.setTop (mkF m 57 #[.val (.ref a), .val (.int p1), .val (.int p2), .val (.int (4 : Int32)), .val (.int (p2 - p1))] [(.ref ra7)]))
    refine goOutW X7 hS7 (Nat.le_refl _) (by rw [hh]; exact hC7) (fun h => by rw [Bd.returns] at h; cases h) hlk (fun fs hr => retOut X7 hx Bd.returns rfl (Or.inr (Or.inr (Or.inr (Or.inr ⟨rfl, rfl, rfl⟩)))) (hb hby d13_57) hr) (by decide) (by decide) ?_
    exact ⟨_, _, _, rfl, N7, f10_K, E7_, FV7, FC7, VB7, hg7_⟩
  · skip
    refine go (fun t kt' => by refine XS.ifNo X2.here hx rfl (hb hby d13_12) rfl ((if0 _ _).trans (teq (Decidable.not_not.mp c12_3)).2) ?_; exact kt') ?_
    show Go p e below _ (T2.setTop (mkF m 15 #[.val (.ref a), .val (.int p1), .val (.int p2), .val (.int (4 : Int32)), .unset] []))
    refine go (fun t kt' => by refine XS.iloadN X2.here hx rfl (hb hby d13_15) rfl ?_; exact kt') ?_
    show Go p e below _ (T2.setTop (mkF m 16 #[.val (.ref a), .val (.int p1), .val (.int p2), .val (.int (4 : Int32)), .unset] [(.int p2)]))
    refine go (fun t kt' => by refine XS.iloadN X2.here hx rfl (hb hby d13_16) rfl ?_; exact kt') ?_
    show Go p e below _ (T2.setTop (mkF m 17 #[.val (.ref a), .val (.int p1), .val (.int p2), .val (.int (4 : Int32)), .unset] [(.int (4 : Int32)), (.int p2)]))
    by_cases c17_15 : ¬ p2 = (4 : Int32)
    · skip
      refine go (fun t kt' => by refine XS.icmpYes X2.here hx rfl (pc0 := 17) (pc' := 22) rfl (hb hby d13_17) rfl (feq c17_15).2 (by decide) (by decide) ?_; exact kt') ?_
      show Go p e below _ (T2.setTop (mkF m 22 #[.val (.ref a), .val (.int p1), .val (.int p2), .val (.int (4 : Int32)), .unset] []))
      refine go (fun t kt' => by refine XS.iloadN X2.here hx rfl (hb hby d13_22) rfl ?_; exact kt') ?_
      show Go p e below _ (T2.setTop (mkF m 23 #[.val (.ref a), .val (.int p1), .val (.int p2), .val (.int (4 : Int32)), .unset] [(.int p2)]))
      refine go (fun t kt' => by refine XS.iloadN X2.here hx rfl (hb hby d13_23) rfl ?_; exact kt') ?_
      show Go p e below _ (T2.setTop (mkF m 24 #[.val (.ref a), .val (.int p1), .val (.int p2), .val (.int (4 : Int32)), .unset] [(.int p1), (.int p2)]))
      refine go (fun t kt' => by refine XS.isub X2.here hx rfl (hb hby d13_24) rfl ?_; exact kt') ?_
      show Go p e below _ (T2.setTop (mkF m 25 #[.val (.ref a), .val (.int p1), .val (.int p2), .val (.int (4 : Int32)), .unset] [(.int (p2 - p1))]))
      refine go (fun t kt' => by refine XS.istore X2.here hx rfl (hb hby d13_25) rfl (l' := #[.val (.ref a), .val (.int p1), .val (.int p2), .val (.int (4 : Int32)), .val (.int (p2 - p1))]) rfl ?_; exact kt') ?_
      show Go p e below _ (T2.setTop (mkF m 27 #[.val (.ref a), .val (.int p1), .val (.int p2), .val (.int (4 : Int32)), .val (.int (p2 - p1))] []))
      have hnf : ¬ (lo = 0 ∧ N = 4) := own_nf1 hhi c17_15
      refine go (fun t kt' => by refine XS.aloadN X2.here hx rfl (hb hby d13_27) rfl rfl ?_; exact kt') ?_
      show Go p e below _ (T2.setTop (mkF m 28 #[.val (.ref a), .val (.int p1), .val (.int p2), .val (.int (4 : Int32)), .val (.int (p2 - p1))] [(.ref a)]))
      obtain ⟨cq16, kq16, q16a, q16b, q16c⟩ := isOf hZ e2 E_a
      obtain ⟨_, _, ⟨T16, L16, k16, n16⟩, -, X16, ⟨Lc16, hQ16, l16, y16, z16⟩, st16⟩ := X2.virtualBack hx (y := (⟨"java/lang/String", "isLatin1", "()Z"⟩ : MethodName)) (z := (⟨"java/lang/String", "isLatin1", "()Z"⟩ : MethodName)) hown (mvT hZ (hw _ (List.mem_of_getElem? (i := 93) rfl))) (mvT hZ (hw _ (List.mem_of_getElem? (i := 94) rfl))) (notFace_of_selects (args := #[]) (mvT hZ (hw _ (List.mem_of_getElem? (i := 96) rfl)))) (mvT hZ (hw _ (List.mem_of_getElem? (i := 96) rfl))) (mvT hZ (hw _ (List.mem_of_getElem? (i := 95) rfl))) (by decide) (backOf (W := 0) (rm_l1 l Z a0 hw [] a cs fm kd1 kd2 kd3 kd4  h0 n0 Z0 HS OO E_a F_coder_a) hZ (hw _ (List.mem_of_getElem? (i := 97) rfl)) (hw _ (List.mem_of_getElem? (i := 3) rfl)) (by decide) (by decide)) q16a q16c (g := (mkF m 28 #[.val (.ref a), .val (.int p1), .val (.int p2), .val (.int (4 : Int32)), .val (.int (p2 - p1))] [(.ref a)])) rfl (by rw [hml]; rfl) (Steps.refl _) (argsL := []) (rest := []) (lenOf pd_9 rfl) rfl (by show 2 * 0 + _ ≤ _; exact Nat.le_of_eq rfl) (hb hby d13_28) (fun _ _ => ⟨rfl, e2, (by decide : 0 + 0 ≤ _), (by decide : 0 + 0 ≤ _)⟩)
      dsimp only [Pt.U, Pt.locs, Pt.cells, Pt.slots] at X16 l16 y16 z16 st16 hQ16
      rw [l16, y16, z16] at X16
      obtain ⟨rfl, N16q, e16⟩ := hQ16
      have N16 := Fr.app N2 N16q
      refine go (fun t kt => st16.trans kt) ?_
      show Go p e below _ (T16.setTop (mkF m 31 #[.val (.ref a), .val (.int p1), .val (.int p2), .val (.int (4 : Int32)), .val (.int (p2 - p1))] [(.int (1 : Int32))]))
      have c31_17 : ¬ ((1 : Int32) = (0 : Int32)) := by decide
      refine go (fun t kt' => by refine XS.ifNo X16.here hx rfl (hb hby d13_31) rfl ((if0 _ _).trans (feq c31_17).1) ?_; exact kt') ?_
      show Go p e below _ (T16.setTop (mkF m 34 #[.val (.ref a), .val (.int p1), .val (.int p2), .val (.int (4 : Int32)), .val (.int (p2 - p1))] []))
      refine go (fun t kt' => by refine XS.aloadN X16.here hx rfl (hb hby d13_34) rfl rfl ?_; exact kt') ?_
      show Go p e below _ (T16.setTop (mkF m 35 #[.val (.ref a), .val (.int p1), .val (.int p2), .val (.int (4 : Int32)), .val (.int (p2 - p1))] [(.ref a)]))
      obtain ⟨T18, X18, e18, st18⟩ := getF X16 hx hZ hown (host := "") (Or.inl (hw _ (List.mem_of_getElem? (i := 28) rfl))) Via.refl e16 F_value_a (g := (mkF m 35 #[.val (.ref a), .val (.int p1), .val (.int p2), .val (.int (4 : Int32)), .val (.int (p2 - p1))] [(.ref a)])) rfl rfl (hb hby d13_35)
      refine go st18 ?_
      show Go p e below _ (T18.setTop (mkF m 38 #[.val (.ref a), .val (.int p1), .val (.int p2), .val (.int (4 : Int32)), .val (.int (p2 - p1))] [(.ref b)]))
      refine go (fun t kt' => by refine XS.iloadN X18.here hx rfl (hb hby d13_38) rfl ?_; exact kt') ?_
      show Go p e below _ (T18.setTop (mkF m 39 #[.val (.ref a), .val (.int p1), .val (.int p2), .val (.int (4 : Int32)), .val (.int (p2 - p1))] [(.int p1), (.ref b)]))
      refine go (fun t kt' => by refine XS.iload X18.here hx rfl (hb hby d13_39) rfl ?_; exact kt') ?_
      show Go p e below _ (T18.setTop (mkF m 41 #[.val (.ref a), .val (.int p1), .val (.int p2), .val (.int (4 : Int32)), .val (.int (p2 - p1))] [(.int (p2 - p1)), (.int p1), (.ref b)]))
      obtain ⟨_, _, ⟨T19, L19, k19, n19⟩, -, X19, hS19, hg19, ⟨Lc19, hQ19, l19, y19, z19, hC19⟩, st19⟩ := callSS X18 hx (y := (⟨"java/lang/StringLatin1", "newString", "([BII)Ljava/lang/String;"⟩ : MethodName)) hown (mvT hZ (hw _ (List.mem_of_getElem? (i := 98) rfl))) (mvT hZ (hw _ (List.mem_of_getElem? (i := 99) rfl))) (mvT hZ (hw _ (List.mem_of_getElem? (i := 100) rfl))) (mvT hZ (hw _ (List.mem_of_getElem? (i := 101) rfl))) (by decide) (backOfSH (s := s) (vm0 := s.vm) (W := 0) (rm_ns l Z a0 hw [] b p1 (p2 - p1) cs fm kd1 kd2 kd3 kd4 f lo N h0 n0 Z0 HS OO V_b hlo hN' hle hrb hnf) hZ (hw _ (List.mem_of_getElem? (i := 101) rfl)) (hw _ (List.mem_of_getElem? (i := 100) rfl)) (by decide) (by decide) hEL hH) (g := (mkF m 41 #[.val (.ref a), .val (.int p1), .val (.int p2), .val (.int (4 : Int32)), .val (.int (p2 - p1))] [(.int (p2 - p1)), (.int p1), (.ref b)])) rfl (by rw [hml]; rfl) (argsL := [(.ref b), (.int p1), (.int (p2 - p1))]) (rest := []) (lenOf pd_16 rfl) rfl (by show 2 * 0 + _ ≤ _; exact Nat.le_of_eq rfl) (hb hby d13_41) (fun _ _ => ⟨rfl, e18, (by decide : 0 + 2 ≤ _), (by decide : 0 + 8 ≤ _)⟩)
      dsimp only [Pt.U, Pt.locs, Pt.cells, Pt.slots] at X19 l19 y19 z19 st19 hQ19 hC19 hS19 hg19
      rw [l19, y19, z19] at X19
      have hown : (s.setVm T19.vm).vm.findClass "java/lang/String" = some m.cls := by rw [show (s.setVm T19.vm).vm = T19.vm from rfl, hS19.1.alike.findClass]; exact hown
      have hZ : Z.Warmed39 (s.setVm T19.vm).vm := State.Warmed39.trans hZ hS19.1
      obtain ⟨ra19, rb19, rg19, rfl, N19q, K19, E19_, FV19, FC19, VB19, hg19_⟩ := hQ19
      have N19 := Fr.app N16 N19q
      have f20_Z := Nat.le_trans Z0 K19.1
      have f21_O := OO.keep K19 all0
      have f22_K := K0.trans K19 all0
      have f23_E_a := E_a.keep K19
      have f24_F_a_value := F_value_a.keep K19 nin0
      have f25_F_a_coder := F_coder_a.keep K19 nin0
      have f26_A_b := V_b.keep K19 nin0
      refine go (fun t kt => st19.trans kt) ?_
      show Go p e below _ (T19.setTop (mkF m 44 #[.val (.ref a), .val (.int p1), .val (.int p2), .val (.int (4 : Int32)), .val (.int (p2 - p1))] [(.ref ra19)]))
      refine go (fun t kt' => by refine XS.goto X19.here hx rfl (pc0 := 44) (pc' := 57) rfl (hb hby d13_44) (by decide) (by decide) ?_; exact kt') ?_
      show Go p e below _ (T19.setTop (mkF m 57 #[.val (.ref a), .val (.int p1), .val (.int p2), .val (.int (4 : Int32)), .val (.int (p2 - p1))] [(.ref ra19)]))
      refine goOutW X19 hS19 (Nat.le_refl _) (by rw [hh]; exact hC19) (fun h => by rw [Bd.returns] at h; cases h) hlk (fun fs hr => retOut X19 hx Bd.returns rfl (Or.inr (Or.inr (Or.inr (Or.inr ⟨rfl, rfl, rfl⟩)))) (hb hby d13_57) hr) (by decide) (by decide) ?_
      exact ⟨_, _, _, rfl, N19, f22_K, E19_, FV19, FC19, VB19, hg19_⟩
    · skip
      refine go (fun t kt' => by refine XS.icmpNo X2.here hx rfl (hb hby d13_17) rfl (teq (Decidable.not_not.mp c17_15)).2 ?_; exact kt') ?_
      show Go p e below _ (T2.setTop (mkF m 20 #[.val (.ref a), .val (.int p1), .val (.int p2), .val (.int (4 : Int32)), .unset] []))
      refine go (fun t kt' => by refine XS.aloadN X2.here hx rfl (hb hby d13_20) rfl rfl ?_; exact kt') ?_
      show Go p e below _ (T2.setTop (mkF m 21 #[.val (.ref a), .val (.int p1), .val (.int p2), .val (.int (4 : Int32)), .unset] [(.ref a)]))
      refine goOutN X2 (by rw [hh, e2]; exact (CHr.keep K0 all0 hH).trans (CHv.at (s := s) (vm0 := s.vm) X2 hZ hEL (CHr.keep K0 all0 hH).1)) (fun h => by rw [Bd.returns] at h; cases h) hlk (fun fs hr => retOut X2 hx Bd.returns rfl (Or.inr (Or.inr (Or.inr (Or.inr ⟨rfl, rfl, rfl⟩)))) (hb hby d13_21) hr) (by decide) (by decide) ?_
      rw [e2]
      obtain ⟨rfl, rfl⟩ := own_full hlo hhi (Decidable.not_not.mp c12_3) (Decidable.not_not.mp c17_15)
      exact ⟨_, _, _, rfl, N2, K0, E_a, F_value_a, F_coder_a, V_b, fun j _ => by rw [Nat.zero_add]⟩
theorem d12_0 : decode prog_76_method_2_code 0 = .ok (.aload_n 0, 1) := by decide +kernel
theorem d12_1 : decode prog_76_method_2_code 1 = .ok (.getfield 13, 3) := by decide +kernel
theorem d12_4 : decode prog_76_method_2_code 4 = .ok (.aload_n 0, 1) := by decide +kernel
theorem d12_5 : decode prog_76_method_2_code 5 = .ok (.getfield 17, 3) := by decide +kernel
theorem d12_8 : decode prog_76_method_2_code 8 = .ok (.aload_n 0, 1) := by decide +kernel
theorem d12_9 : decode prog_76_method_2_code 9 = .ok (.getfield 21, 3) := by decide +kernel
theorem d12_12 : decode prog_76_method_2_code 12 = .ok (.invokevirtual 24, 3) := by decide +kernel
theorem pd_17 : parseMethodDescriptor "(II)Ljava/lang/String;" = some ⟨[.int, .int], some (.object "java/lang/String")⟩ := by decide +kernel
theorem d12_15 : decode prog_76_method_2_code 15 = .ok (.areturn, 1) := by decide +kernel
theorem ef_rm_tx (m : MethodId) (x0 : Addr) : entryFrame m #[(.ref x0)] 1 = mkF m 0 #[.val (.ref x0)] [] := by first | (simp [entryFrame, mkF, argsToLocals, Value.category]; done) | rfl
def Q_tx (Z : State) (f : Nat → Int32) (lo N : Nat) (h0 : Heap) (n0 : Nat) (v : Option Value) (h : Heap) (L : List Loc) : Prop := ∃ (a b : Addr) (g : Nat → Int32), v = some (.ref a) ∧ Fr n0 L ∧ Keep h0 h [] ∧ Exa Z h a "java/lang/String" ∧ Fld Z h a "java/lang/String" "value" "[B" (.ref b) ∧ Fld Z h a "java/lang/String" "coder" "B" (.int (0 : Int32)) ∧ IA Z h b .byte N g ∧ ∀ j, j < N → g j = f (lo + j)
set_option maxRecDepth 65536 in
set_option maxHeartbeats 40000000 in
theorem rm_tx (l : Launch) (Z : State) (a0 : Array Value) (hw : ∀ d ∈ tables_1, d.before a0 Z = true) (ws : List Jvm.Cond) (tk : Addr) (cs : Int32) (fm : Value) (kd1 kd2 kd3 kd4 : Addr) (a : Addr) (p1 p2 : Int32) (b : Addr) (f : Nat → Int32) (lo N : Nat) (h0 : Heap) (n0 : Nat) (Z0 : n0 ≤ h0.size) (HS : own_sets Z cs fm kd1 kd2 kd3 kd4) (OO : Old Z n0 h0) (E_tk : Exa Z h0 tk "com/example/backfill/backfill/postgres/SqlLexer$Token") (F_source_tk : Fld Z h0 tk "com/example/backfill/backfill/postgres/SqlLexer$Token" "source" "Ljava/lang/String;" (.ref a)) (F_start_tk : Fld Z h0 tk "com/example/backfill/backfill/postgres/SqlLexer$Token" "start" "I" (.int p1)) (F_end_tk : Fld Z h0 tk "com/example/backfill/backfill/postgres/SqlLexer$Token" "end" "I" (.int p2)) (E_a : Exa Z h0 a "java/lang/String") (F_value_a : Fld Z h0 a "java/lang/String" "value" "[B" (.ref b)) (F_coder_a : Fld Z h0 a "java/lang/String" "coder" "B" (.int (0 : Int32))) (V_b : IA Z h0 b .byte 4 f) (hlo : p1.toInt = lo) (hhi : p2.toInt = ((lo + N : Nat) : Int)) (hle : lo + N ≤ 4) (hrb : ∀ j, j < 4 → -128 ≤ (f j).toInt ∧ (f j).toInt < 128) :
    MetFree l (⟨"com/example/backfill/backfill/postgres/SqlLexer$Token", "text", "()Ljava/lang/String;"⟩ : MethodName) (head1 (Jvm.Cond.code (⟨"com/example/backfill/backfill/postgres/SqlLexer$Token", "text", "()Ljava/lang/String;"⟩ : MethodName) prog_76_method_2_code 1 (some (.object "java/lang/String")) :: ws) ({ frames := 5, cells := 2, slots := 8, locals := 122 } : Room)) (fun av' U => av' = #[(.ref tk)] ∧ Z.Warmed39 U.vm ∧ U.heap = h0 ∧ CHv Z own_EL U.vm h0) (fun _ _ _ _ _ => True) (fun _ U o U' => ∃ v L, o = .returned v ∧ Q_tx Z f lo N h0 n0 v U'.heap L ∧ CHr Z own_EL U.vm U.heap U'.vm U'.heap ∧ ReturnedEndW U o U' L ({ frames := 5, cells := 2, slots := 8, locals := 122 } : Room).cells ({ frames := 5, cells := 2, slots := 8, locals := 122 } : Room).slots) := by
  refine MetFree.of_bodySF (plainFor_of_name pn_com_example_backfill_backfill_postgres_SqlLexer_Token) hisR ?_
  intro p e s m args below meth c s₁ Bd hml0 hP hK
  obtain ⟨rfl, hZ, hh, hH⟩ := hP
  have hx := Bd.exec
  have hby := Bd.bytes
  have hlk := Bd.notSynchronized
  have hml : c.maxLocals = 1 := hml0
  have hown : s.vm.findClass "com/example/backfill/backfill/postgres/SqlLexer$Token" = some m.cls := findClass_of_methodNamed Bd.named
  have hnm := (name_of_methodNamed Bd.named Bd.method).1
  have X0 : Stand p l e ({ frames := 5, cells := 2, slots := 8, locals := 122 } : Room) s m #[(.ref tk)] below meth c s₁ [] 0 0 := Stand.of_body Bd
  have e0 : s₁.heap = h0 := by rw [← hh, Bd.state]; rfl
  have N0 := Fr.nil n0
  show Go p e below (KqW Z own_EL s (Q_tx Z f lo N h0 n0) ({ frames := 5, cells := 2, slots := 8, locals := 122 } : Room).cells ({ frames := 5, cells := 2, slots := 8, locals := 122 } : Room).slots) _
  refine go (fun t kt => castTop (ef_rm_tx m tk) kt) ?_
  have HS0 := HS
  obtain ⟨S_cs, hcs, S_fm, hfm, S_k1, S_k2, S_k3, S_k4⟩ := HS0
  have hEL := own_hel hw
  have K0 := Keep.refl h0 []
  show Go p e below _ (s₁.setTop (mkF m 0 #[.val (.ref tk)] []))
  refine go (fun t kt' => by refine XS.aloadN X0.here hx rfl (hb hby d12_0) rfl rfl ?_; exact kt') ?_
  show Go p e below _ (s₁.setTop (mkF m 1 #[.val (.ref tk)] [(.ref tk)]))
  obtain ⟨T1, X1, e1, st1⟩ := getF X0 hx hZ hown (host := "") (Or.inl (hw _ (List.mem_of_getElem? (i := 59) rfl))) Via.refl e0 F_source_tk (g := (mkF m 1 #[.val (.ref tk)] [(.ref tk)])) rfl rfl (hb hby d12_1)
  refine go st1 ?_
  show Go p e below _ (T1.setTop (mkF m 4 #[.val (.ref tk)] [(.ref a)]))
  refine go (fun t kt' => by refine XS.aloadN X1.here hx rfl (hb hby d12_4) rfl rfl ?_; exact kt') ?_
  show Go p e below _ (T1.setTop (mkF m 5 #[.val (.ref tk)] [(.ref tk), (.ref a)]))
  obtain ⟨T2, X2, e2, st2⟩ := getF X1 hx hZ hown (host := "") (Or.inl (hw _ (List.mem_of_getElem? (i := 61) rfl))) Via.refl e1 F_start_tk (g := (mkF m 5 #[.val (.ref tk)] [(.ref tk), (.ref a)])) rfl rfl (hb hby d12_5)
  refine go st2 ?_
  show Go p e below _ (T2.setTop (mkF m 8 #[.val (.ref tk)] [(.int p1), (.ref a)]))
  refine go (fun t kt' => by refine XS.aloadN X2.here hx rfl (hb hby d12_8) rfl rfl ?_; exact kt') ?_
  show Go p e below _ (T2.setTop (mkF m 9 #[.val (.ref tk)] [(.ref tk), (.int p1), (.ref a)]))
  obtain ⟨T3, X3, e3, st3⟩ := getF X2 hx hZ hown (host := "") (Or.inl (hw _ (List.mem_of_getElem? (i := 63) rfl))) Via.refl e2 F_end_tk (g := (mkF m 9 #[.val (.ref tk)] [(.ref tk), (.int p1), (.ref a)])) rfl rfl (hb hby d12_9)
  refine go st3 ?_
  show Go p e below _ (T3.setTop (mkF m 12 #[.val (.ref tk)] [(.int p2), (.int p1), (.ref a)]))
  obtain ⟨cq4, kq4, q4a, q4b, q4c⟩ := isOf hZ e3 E_a
  obtain ⟨_, _, ⟨T4, L4, k4, n4⟩, -, X4, hS4, hg4, ⟨Lc4, hQ4, l4, y4, z4, hC4⟩, st4⟩ := X3.virtualBackS hx (y := (⟨"java/lang/String", "substring", "(II)Ljava/lang/String;"⟩ : MethodName)) (z := (⟨"java/lang/String", "substring", "(II)Ljava/lang/String;"⟩ : MethodName)) hown (mvT hZ (hw _ (List.mem_of_getElem? (i := 70) rfl))) (mvT hZ (hw _ (List.mem_of_getElem? (i := 71) rfl))) (notFace_of_selects (args := #[]) (mvT hZ (hw _ (List.mem_of_getElem? (i := 73) rfl)))) (mvT hZ (hw _ (List.mem_of_getElem? (i := 73) rfl))) (mvT hZ (hw _ (List.mem_of_getElem? (i := 72) rfl))) (by decide) (backOfSH (s := s) (vm0 := s.vm) (W := 0) (rm_su l Z a0 hw [] a p1 p2 cs fm kd1 kd2 kd3 kd4 b f lo N h0 n0 Z0 HS OO E_a F_value_a F_coder_a V_b hlo hhi hle hrb) hZ (hw _ (List.mem_of_getElem? (i := 74) rfl)) (hw _ (List.mem_of_getElem? (i := 3) rfl)) (by decide) (by decide) hEL hH) q4a q4c (g := (mkF m 12 #[.val (.ref tk)] [(.int p2), (.int p1), (.ref a)])) rfl (by rw [hml]; rfl) (Steps.refl _) (argsL := [(.int p1), (.int p2)]) (rest := []) (lenOf pd_17 rfl) rfl (by show 2 * 0 + _ ≤ _; exact Nat.le_of_eq rfl) (hb hby d12_12) (fun _ _ => ⟨rfl, e3, (by decide : 0 + 2 ≤ _), (by decide : 0 + 8 ≤ _)⟩)
  dsimp only [Pt.U, Pt.locs, Pt.cells, Pt.slots] at X4 l4 y4 z4 st4 hQ4 hC4 hS4 hg4
  rw [l4, y4, z4] at X4
  have hown : (s.setVm T4.vm).vm.findClass "com/example/backfill/backfill/postgres/SqlLexer$Token" = some m.cls := by rw [show (s.setVm T4.vm).vm = T4.vm from rfl, hS4.1.alike.findClass]; exact hown
  have hZ : Z.Warmed39 (s.setVm T4.vm).vm := State.Warmed39.trans hZ hS4.1
  obtain ⟨ra4, rb4, rg4, rfl, N4q, K4, E4_, FV4, FC4, VB4, hg4_⟩ := hQ4
  have N4 := Fr.app N0 N4q
  have f5_Z := Nat.le_trans Z0 K4.1
  have f6_O := OO.keep K4 all0
  have f7_K := K0.trans K4 all0
  have f8_E_tk := E_tk.keep K4
  have f9_F_tk_source := F_source_tk.keep K4 nin0
  have f10_F_tk_start := F_start_tk.keep K4 nin0
  have f11_F_tk_end := F_end_tk.keep K4 nin0
  have f12_E_a := E_a.keep K4
  have f13_F_a_value := F_value_a.keep K4 nin0
  have f14_F_a_coder := F_coder_a.keep K4 nin0
  have f15_A_b := V_b.keep K4 nin0
  refine go (fun t kt => st4.trans kt) ?_
  show Go p e below _ (T4.setTop (mkF m 15 #[.val (.ref tk)] [(.ref ra4)]))
  refine goOutW X4 hS4 (Nat.le_refl _) (by rw [hh]; exact hC4) (fun h => by rw [Bd.returns] at h; cases h) hlk (fun fs hr => retOut X4 hx Bd.returns rfl (Or.inr (Or.inr (Or.inr (Or.inr ⟨rfl, rfl, rfl⟩)))) (hb hby d12_15) hr) (by decide) (by decide) ?_
  exact ⟨_, _, _, rfl, N4, f7_K, E4_, FV4, FC4, VB4, hg4_⟩
theorem own_cs0 {args : Array Value} {s : State} {t : Jvm.Term} {cs : Int32} (ev : t.eval args s none [] s = some (.int cs)) (h : (Jvm.Cond.not (Jvm.Cond.eq t (Jvm.Term.int (0 : Int32)))).value args s none s [] = some true) : ¬ cs = 0 := by
  intro q; subst q
  have h1 := not_v h
  have h2 : (Jvm.Cond.eq t (Jvm.Term.int (0 : Int32))).value args s none s [] = some true := eq_i ev (Term.int_eval (0)) rfl
  rw [h2] at h1; cases h1
theorem pd_18 : parseMethodDescriptor "([C)V" = some ⟨[(.array .char)], none⟩ := by decide +kernel
theorem pd_19 : parseMethodDescriptor "(I)Lcom/example/backfill/backfill/postgres/SqlLexer$Kind;" = some ⟨[.int], some (.object "com/example/backfill/backfill/postgres/SqlLexer$Kind")⟩ := by decide +kernel
theorem pd_20 : parseMethodDescriptor "(Lcom/example/backfill/backfill/postgres/SqlLexer$Kind;Ljava/lang/String;II)V" = some ⟨[(.object "com/example/backfill/backfill/postgres/SqlLexer$Kind"), (.object "java/lang/String"), .int, .int], none⟩ := by decide +kernel
theorem pd_21 : parseMethodDescriptor "()Ljava/lang/String;" = some ⟨[], some (.object "java/lang/String")⟩ := by decide +kernel
theorem pd_22 : parseMethodDescriptor "(I)C" = some ⟨[.int], some .char⟩ := by decide +kernel
theorem ef_rm0 (m : MethodId) (x0 : Int32) (x1 : Int32) (x2 : Int32) (x3 : Int32) : entryFrame m #[(.int x0), (.int x1), (.int x2), (.int x3)] maxLocals = mkF m 0 #[.val (.int x0), .val (.int x1), .val (.int x2), .val (.int x3), .unset, .unset, .unset, .unset, .unset, .unset, .unset, .unset, .unset, .unset] [] := by first | (simp [entryFrame, mkF, argsToLocals, Value.category, maxLocals]; done) | rfl
def Q0 (Z : State) (h0 : Heap) (n0 : Nat) (v : Option Value) (h : Heap) (L : List Loc) : Prop := v = some (.int 1) ∧ Fr n0 L
set_option maxRecDepth 65536 in
set_option maxHeartbeats 40000000 in
theorem rm0 (l : Launch) (Z : State) (a0 : Array Value) (hw : ∀ d ∈ tables_1, d.before a0 Z = true) (ws : List Jvm.Cond) (p0 : Int32) (p1 : Int32) (p2 : Int32) (p3 : Int32) (cs : Int32) (fm : Value) (kd1 kd2 kd3 kd4 : Addr) (h0 : Heap) (n0 : Nat) (Z0 : n0 ≤ h0.size) (HS : own_sets Z cs fm kd1 kd2 kd3 kd4) (OO : Old Z n0 h0) :
    MetFree l x (head1 (Jvm.Cond.code x code maxLocals ret :: ws) room_1) (fun av' U => av' = #[(.int p0), (.int p1), (.int p2), (.int p3)] ∧ Z.Warmed39 U.vm ∧ U.heap = h0 ∧ CHv Z own_EL U.vm h0) (fun _ _ _ _ _ => True) (fun _ U o U' => ∃ v L, o = .returned v ∧ Q0 Z  h0 n0 v U'.heap L ∧ CHr Z own_EL U.vm U.heap U'.vm U'.heap ∧ ReturnedEndW U o U' L room_1.cells room_1.slots) := by
  refine MetFree.of_bodySF (plainFor_of_name pn_com_example_backfill_backfill_postgres_TokenTextPinLaw) hisR ?_
  intro p e s m args below meth c s₁ Bd hml0 hP hK
  obtain ⟨rfl, hZ, hh, hH⟩ := hP
  have hx := Bd.exec
  have hby := Bd.bytes
  have hlk := Bd.notSynchronized
  have hml : c.maxLocals = 14 := hml0
  have hown : s.vm.findClass "com/example/backfill/backfill/postgres/TokenTextPinLaw" = some m.cls := findClass_of_methodNamed Bd.named
  have hnm := (name_of_methodNamed Bd.named Bd.method).1
  have X0 : Stand p l e room_1 s m #[(.int p0), (.int p1), (.int p2), (.int p3)] below meth c s₁ [] 0 0 := Stand.of_body Bd
  have e0 : s₁.heap = h0 := by rw [← hh, Bd.state]; rfl
  have N0 := Fr.nil n0
  show Go p e below (KqW Z own_EL s (Q0 Z  h0 n0) room_1.cells room_1.slots) _
  refine go (fun t kt => castTop (ef_rm0 m p0 p1 p2 p3) kt) ?_
  have HS0 := HS
  obtain ⟨S_cs, hcs, S_fm, hfm, S_k1, S_k2, S_k3, S_k4⟩ := HS0
  have hEL := own_hel hw
  have K0 := Keep.refl h0 []
  show Go p e below _ (s₁.setTop (mkF m 0 #[.val (.int p0), .val (.int p1), .val (.int p2), .val (.int p3), .unset, .unset, .unset, .unset, .unset, .unset, .unset, .unset, .unset, .unset] []))
  refine go (fun t kt' => by refine XS.iconst X0.here hx rfl (hb hby at_0) ?_; exact kt') ?_
  show Go p e below _ (s₁.setTop (mkF m 1 #[.val (.int p0), .val (.int p1), .val (.int p2), .val (.int p3), .unset, .unset, .unset, .unset, .unset, .unset, .unset, .unset, .unset, .unset] [(.int (4 : Int32))]))
  obtain ⟨T1, h1, k1, X1, e1, E1, A1, st1⟩ := newP X0 hx hZ (hw _ (List.mem_of_getElem? (i := 0) rfl)) e0 (g := (mkF m 1 #[.val (.int p0), .val (.int p1), .val (.int p2), .val (.int p3), .unset, .unset, .unset, .unset, .unset, .unset, .unset, .unset, .unset, .unset] [(.int (4 : Int32))])) rfl (hb hby at_1) rfl (by decide) (cap := 4) (by decide) (by decide) (by decide) (by decide)
  obtain ⟨b1, g1⟩ : ∃ z, z = h0.size := ⟨_, rfl⟩
  have n0_b1 : n0 ≤ b1 := Nat.le_trans Z0 (Nat.le_of_eq g1.symm)
  have sz_b1 : h0.size ≤ b1 := Nat.le_trans K0.1 (Nat.le_of_eq g1.symm)
  rw [← g1] at A1 st1
  have f2_Z := Nat.le_trans Z0 E1.1
  have f3_O := OO.ext E1
  have f4_K := K0.ext E1
  have V1 : IA Z h1 b1 .char 4 (fun _ => 0) := IA.new A1 rfl rfl
  refine go st1 ?_
  show Go p e below _ (T1.setTop (mkF m 3 #[.val (.int p0), .val (.int p1), .val (.int p2), .val (.int p3), .unset, .unset, .unset, .unset, .unset, .unset, .unset, .unset, .unset, .unset] [(.ref b1)]))
  refine go (fun t kt' => by refine XS.astore X1.here hx rfl (hb hby at_3) rfl rfl (l' := #[.val (.int p0), .val (.int p1), .val (.int p2), .val (.int p3), .val (.ref b1), .unset, .unset, .unset, .unset, .unset, .unset, .unset, .unset, .unset]) rfl ?_; exact kt') ?_
  show Go p e below _ (T1.setTop (mkF m 5 #[.val (.int p0), .val (.int p1), .val (.int p2), .val (.int p3), .val (.ref b1), .unset, .unset, .unset, .unset, .unset, .unset, .unset, .unset, .unset] []))
  refine go (fun t kt' => by refine XS.aload X1.here hx rfl (hb hby at_5) rfl rfl ?_; exact kt') ?_
  show Go p e below _ (T1.setTop (mkF m 7 #[.val (.int p0), .val (.int p1), .val (.int p2), .val (.int p3), .val (.ref b1), .unset, .unset, .unset, .unset, .unset, .unset, .unset, .unset, .unset] [(.ref b1)]))
  refine go (fun t kt' => by refine XS.iconst X1.here hx rfl (hb hby at_7) ?_; exact kt') ?_
  show Go p e below _ (T1.setTop (mkF m 8 #[.val (.int p0), .val (.int p1), .val (.int p2), .val (.int p3), .val (.ref b1), .unset, .unset, .unset, .unset, .unset, .unset, .unset, .unset, .unset] [(.int (0 : Int32)), (.ref b1)]))
  refine go (fun t kt' => by refine XS.iloadN X1.here hx rfl (hb hby at_8) rfl ?_; exact kt') ?_
  show Go p e below _ (T1.setTop (mkF m 9 #[.val (.int p0), .val (.int p1), .val (.int p2), .val (.int p3), .val (.ref b1), .unset, .unset, .unset, .unset, .unset, .unset, .unset, .unset, .unset] [(.int p0), (.int (0 : Int32)), (.ref b1)]))
  refine go (fun t kt' => by refine XS.sipush X1.here hx rfl (hb hby at_9) ?_; exact kt') ?_
  show Go p e below _ (T1.setTop (mkF m 12 #[.val (.int p0), .val (.int p1), .val (.int p2), .val (.int p3), .val (.ref b1), .unset, .unset, .unset, .unset, .unset, .unset, .unset, .unset, .unset] [(.int (255 : Int32)), (.int p0), (.int (0 : Int32)), (.ref b1)]))
  refine go (fun t kt' => by refine XS.iand X1.here hx rfl (hb hby at_12) rfl ?_; exact kt') ?_
  show Go p e below _ (T1.setTop (mkF m 13 #[.val (.int p0), .val (.int p1), .val (.int p2), .val (.int p3), .val (.ref b1), .unset, .unset, .unset, .unset, .unset, .unset, .unset, .unset, .unset] [(.int (p0 &&& (255 : Int32))), (.int (0 : Int32)), (.ref b1)]))
  refine go (fun t kt' => by refine XS.i2c X1.here hx rfl (hb hby at_13) rfl ?_; exact kt') ?_
  show Go p e below _ (T1.setTop (mkF m 14 #[.val (.int p0), .val (.int p1), .val (.int p2), .val (.int p3), .val (.ref b1), .unset, .unset, .unset, .unset, .unset, .unset, .unset, .unset, .unset] [(.int ((p0 &&& (255 : Int32)).toUInt32.toUInt16.toUInt32.toInt32)), (.int (0 : Int32)), (.ref b1)]))
  obtain ⟨T5, h5, X5, e5, W5, V5, st5⟩ := stCA X1 hx hZ e1 V1 (j := (0 : Int32)) (x := ((p0 &&& (255 : Int32)).toUInt32.toUInt16.toUInt32.toInt32)) ⟨by decide, by decide⟩ (g := (mkF m 14 #[.val (.int p0), .val (.int p1), .val (.int p2), .val (.int p3), .val (.ref b1), .unset, .unset, .unset, .unset, .unset, .unset, .unset, .unset, .unset] [(.int ((p0 &&& (255 : Int32)).toUInt32.toUInt16.toUInt32.toInt32)), (.int (0 : Int32)), (.ref b1)])) rfl rfl (hb hby at_14)
  have N5 := Fr.snoc X5 N0 n0_b1
  have f6_Z := Nat.le_trans f2_Z (Keep.of_wr W5).1
  have f7_O := f3_O.wr W5 n0_b1
  have f8_K := f4_K.wr W5 (Or.inr sz_b1)
  have f9_A_b1 := V5
  refine go st5 ?_
  show Go p e below _ (T5.setTop (mkF m 15 #[.val (.int p0), .val (.int p1), .val (.int p2), .val (.int p3), .val (.ref b1), .unset, .unset, .unset, .unset, .unset, .unset, .unset, .unset, .unset] []))
  refine go (fun t kt' => by refine XS.aload X5.here hx rfl (hb hby at_15) rfl rfl ?_; exact kt') ?_
  show Go p e below _ (T5.setTop (mkF m 17 #[.val (.int p0), .val (.int p1), .val (.int p2), .val (.int p3), .val (.ref b1), .unset, .unset, .unset, .unset, .unset, .unset, .unset, .unset, .unset] [(.ref b1)]))
  refine go (fun t kt' => by refine XS.iconst X5.here hx rfl (hb hby at_17) ?_; exact kt') ?_
  show Go p e below _ (T5.setTop (mkF m 18 #[.val (.int p0), .val (.int p1), .val (.int p2), .val (.int p3), .val (.ref b1), .unset, .unset, .unset, .unset, .unset, .unset, .unset, .unset, .unset] [(.int (1 : Int32)), (.ref b1)]))
  refine go (fun t kt' => by refine XS.iloadN X5.here hx rfl (hb hby at_18) rfl ?_; exact kt') ?_
  show Go p e below _ (T5.setTop (mkF m 19 #[.val (.int p0), .val (.int p1), .val (.int p2), .val (.int p3), .val (.ref b1), .unset, .unset, .unset, .unset, .unset, .unset, .unset, .unset, .unset] [(.int p0), (.int (1 : Int32)), (.ref b1)]))
  refine go (fun t kt' => by refine XS.bipush X5.here hx rfl (hb hby at_19) ?_; exact kt') ?_
  show Go p e below _ (T5.setTop (mkF m 21 #[.val (.int p0), .val (.int p1), .val (.int p2), .val (.int p3), .val (.ref b1), .unset, .unset, .unset, .unset, .unset, .unset, .unset, .unset, .unset] [(.int (8 : Int32)), (.int p0), (.int (1 : Int32)), (.ref b1)]))
  refine go (fun t kt' => by refine XS.iushr X5.here hx rfl (hb hby at_21) rfl ?_; exact kt') ?_
  show Go p e below _ (T5.setTop (mkF m 22 #[.val (.int p0), .val (.int p1), .val (.int p2), .val (.int p3), .val (.ref b1), .unset, .unset, .unset, .unset, .unset, .unset, .unset, .unset, .unset] [(.int ((p0.toUInt32 >>> ((8 : Int32) &&& 31).toUInt32).toInt32)), (.int (1 : Int32)), (.ref b1)]))
  refine go (fun t kt' => by refine XS.sipush X5.here hx rfl (hb hby at_22) ?_; exact kt') ?_
  show Go p e below _ (T5.setTop (mkF m 25 #[.val (.int p0), .val (.int p1), .val (.int p2), .val (.int p3), .val (.ref b1), .unset, .unset, .unset, .unset, .unset, .unset, .unset, .unset, .unset] [(.int (255 : Int32)), (.int ((p0.toUInt32 >>> ((8 : Int32) &&& 31).toUInt32).toInt32)), (.int (1 : Int32)), (.ref b1)]))
  refine go (fun t kt' => by refine XS.iand X5.here hx rfl (hb hby at_25) rfl ?_; exact kt') ?_
  show Go p e below _ (T5.setTop (mkF m 26 #[.val (.int p0), .val (.int p1), .val (.int p2), .val (.int p3), .val (.ref b1), .unset, .unset, .unset, .unset, .unset, .unset, .unset, .unset, .unset] [(.int (((p0.toUInt32 >>> ((8 : Int32) &&& 31).toUInt32).toInt32) &&& (255 : Int32))), (.int (1 : Int32)), (.ref b1)]))
  refine go (fun t kt' => by refine XS.i2c X5.here hx rfl (hb hby at_26) rfl ?_; exact kt') ?_
  show Go p e below _ (T5.setTop (mkF m 27 #[.val (.int p0), .val (.int p1), .val (.int p2), .val (.int p3), .val (.ref b1), .unset, .unset, .unset, .unset, .unset, .unset, .unset, .unset, .unset] [(.int ((((p0.toUInt32 >>> ((8 : Int32) &&& 31).toUInt32).toInt32) &&& (255 : Int32)).toUInt32.toUInt16.toUInt32.toInt32)), (.int (1 : Int32)), (.ref b1)]))
  obtain ⟨T10, h10, X10, e10, W10, V10, st10⟩ := stCA X5 hx hZ e5 f9_A_b1 (j := (1 : Int32)) (x := ((((p0.toUInt32 >>> ((8 : Int32) &&& 31).toUInt32).toInt32) &&& (255 : Int32)).toUInt32.toUInt16.toUInt32.toInt32)) ⟨by decide, by decide⟩ (g := (mkF m 27 #[.val (.int p0), .val (.int p1), .val (.int p2), .val (.int p3), .val (.ref b1), .unset, .unset, .unset, .unset, .unset, .unset, .unset, .unset, .unset] [(.int ((((p0.toUInt32 >>> ((8 : Int32) &&& 31).toUInt32).toInt32) &&& (255 : Int32)).toUInt32.toUInt16.toUInt32.toInt32)), (.int (1 : Int32)), (.ref b1)])) rfl rfl (hb hby at_27)
  have N10 := Fr.snoc X10 N5 n0_b1
  have f11_Z := Nat.le_trans f6_Z (Keep.of_wr W10).1
  have f12_O := f7_O.wr W10 n0_b1
  have f13_K := f8_K.wr W10 (Or.inr sz_b1)
  have f14_A_b1 := V10
  refine go st10 ?_
  show Go p e below _ (T10.setTop (mkF m 28 #[.val (.int p0), .val (.int p1), .val (.int p2), .val (.int p3), .val (.ref b1), .unset, .unset, .unset, .unset, .unset, .unset, .unset, .unset, .unset] []))
  refine go (fun t kt' => by refine XS.aload X10.here hx rfl (hb hby at_28) rfl rfl ?_; exact kt') ?_
  show Go p e below _ (T10.setTop (mkF m 30 #[.val (.int p0), .val (.int p1), .val (.int p2), .val (.int p3), .val (.ref b1), .unset, .unset, .unset, .unset, .unset, .unset, .unset, .unset, .unset] [(.ref b1)]))
  refine go (fun t kt' => by refine XS.iconst X10.here hx rfl (hb hby at_30) ?_; exact kt') ?_
  show Go p e below _ (T10.setTop (mkF m 31 #[.val (.int p0), .val (.int p1), .val (.int p2), .val (.int p3), .val (.ref b1), .unset, .unset, .unset, .unset, .unset, .unset, .unset, .unset, .unset] [(.int (2 : Int32)), (.ref b1)]))
  refine go (fun t kt' => by refine XS.iloadN X10.here hx rfl (hb hby at_31) rfl ?_; exact kt') ?_
  show Go p e below _ (T10.setTop (mkF m 32 #[.val (.int p0), .val (.int p1), .val (.int p2), .val (.int p3), .val (.ref b1), .unset, .unset, .unset, .unset, .unset, .unset, .unset, .unset, .unset] [(.int p0), (.int (2 : Int32)), (.ref b1)]))
  refine go (fun t kt' => by refine XS.bipush X10.here hx rfl (hb hby at_32) ?_; exact kt') ?_
  show Go p e below _ (T10.setTop (mkF m 34 #[.val (.int p0), .val (.int p1), .val (.int p2), .val (.int p3), .val (.ref b1), .unset, .unset, .unset, .unset, .unset, .unset, .unset, .unset, .unset] [(.int (16 : Int32)), (.int p0), (.int (2 : Int32)), (.ref b1)]))
  refine go (fun t kt' => by refine XS.iushr X10.here hx rfl (hb hby at_34) rfl ?_; exact kt') ?_
  show Go p e below _ (T10.setTop (mkF m 35 #[.val (.int p0), .val (.int p1), .val (.int p2), .val (.int p3), .val (.ref b1), .unset, .unset, .unset, .unset, .unset, .unset, .unset, .unset, .unset] [(.int ((p0.toUInt32 >>> ((16 : Int32) &&& 31).toUInt32).toInt32)), (.int (2 : Int32)), (.ref b1)]))
  refine go (fun t kt' => by refine XS.sipush X10.here hx rfl (hb hby at_35) ?_; exact kt') ?_
  show Go p e below _ (T10.setTop (mkF m 38 #[.val (.int p0), .val (.int p1), .val (.int p2), .val (.int p3), .val (.ref b1), .unset, .unset, .unset, .unset, .unset, .unset, .unset, .unset, .unset] [(.int (255 : Int32)), (.int ((p0.toUInt32 >>> ((16 : Int32) &&& 31).toUInt32).toInt32)), (.int (2 : Int32)), (.ref b1)]))
  refine go (fun t kt' => by refine XS.iand X10.here hx rfl (hb hby at_38) rfl ?_; exact kt') ?_
  show Go p e below _ (T10.setTop (mkF m 39 #[.val (.int p0), .val (.int p1), .val (.int p2), .val (.int p3), .val (.ref b1), .unset, .unset, .unset, .unset, .unset, .unset, .unset, .unset, .unset] [(.int (((p0.toUInt32 >>> ((16 : Int32) &&& 31).toUInt32).toInt32) &&& (255 : Int32))), (.int (2 : Int32)), (.ref b1)]))
  refine go (fun t kt' => by refine XS.i2c X10.here hx rfl (hb hby at_39) rfl ?_; exact kt') ?_
  show Go p e below _ (T10.setTop (mkF m 40 #[.val (.int p0), .val (.int p1), .val (.int p2), .val (.int p3), .val (.ref b1), .unset, .unset, .unset, .unset, .unset, .unset, .unset, .unset, .unset] [(.int ((((p0.toUInt32 >>> ((16 : Int32) &&& 31).toUInt32).toInt32) &&& (255 : Int32)).toUInt32.toUInt16.toUInt32.toInt32)), (.int (2 : Int32)), (.ref b1)]))
  obtain ⟨T15, h15, X15, e15, W15, V15, st15⟩ := stCA X10 hx hZ e10 f14_A_b1 (j := (2 : Int32)) (x := ((((p0.toUInt32 >>> ((16 : Int32) &&& 31).toUInt32).toInt32) &&& (255 : Int32)).toUInt32.toUInt16.toUInt32.toInt32)) ⟨by decide, by decide⟩ (g := (mkF m 40 #[.val (.int p0), .val (.int p1), .val (.int p2), .val (.int p3), .val (.ref b1), .unset, .unset, .unset, .unset, .unset, .unset, .unset, .unset, .unset] [(.int ((((p0.toUInt32 >>> ((16 : Int32) &&& 31).toUInt32).toInt32) &&& (255 : Int32)).toUInt32.toUInt16.toUInt32.toInt32)), (.int (2 : Int32)), (.ref b1)])) rfl rfl (hb hby at_40)
  have N15 := Fr.snoc X15 N10 n0_b1
  have f16_Z := Nat.le_trans f11_Z (Keep.of_wr W15).1
  have f17_O := f12_O.wr W15 n0_b1
  have f18_K := f13_K.wr W15 (Or.inr sz_b1)
  have f19_A_b1 := V15
  refine go st15 ?_
  show Go p e below _ (T15.setTop (mkF m 41 #[.val (.int p0), .val (.int p1), .val (.int p2), .val (.int p3), .val (.ref b1), .unset, .unset, .unset, .unset, .unset, .unset, .unset, .unset, .unset] []))
  refine go (fun t kt' => by refine XS.aload X15.here hx rfl (hb hby at_41) rfl rfl ?_; exact kt') ?_
  show Go p e below _ (T15.setTop (mkF m 43 #[.val (.int p0), .val (.int p1), .val (.int p2), .val (.int p3), .val (.ref b1), .unset, .unset, .unset, .unset, .unset, .unset, .unset, .unset, .unset] [(.ref b1)]))
  refine go (fun t kt' => by refine XS.iconst X15.here hx rfl (hb hby at_43) ?_; exact kt') ?_
  show Go p e below _ (T15.setTop (mkF m 44 #[.val (.int p0), .val (.int p1), .val (.int p2), .val (.int p3), .val (.ref b1), .unset, .unset, .unset, .unset, .unset, .unset, .unset, .unset, .unset] [(.int (3 : Int32)), (.ref b1)]))
  refine go (fun t kt' => by refine XS.iloadN X15.here hx rfl (hb hby at_44) rfl ?_; exact kt') ?_
  show Go p e below _ (T15.setTop (mkF m 45 #[.val (.int p0), .val (.int p1), .val (.int p2), .val (.int p3), .val (.ref b1), .unset, .unset, .unset, .unset, .unset, .unset, .unset, .unset, .unset] [(.int p0), (.int (3 : Int32)), (.ref b1)]))
  refine go (fun t kt' => by refine XS.bipush X15.here hx rfl (hb hby at_45) ?_; exact kt') ?_
  show Go p e below _ (T15.setTop (mkF m 47 #[.val (.int p0), .val (.int p1), .val (.int p2), .val (.int p3), .val (.ref b1), .unset, .unset, .unset, .unset, .unset, .unset, .unset, .unset, .unset] [(.int (24 : Int32)), (.int p0), (.int (3 : Int32)), (.ref b1)]))
  refine go (fun t kt' => by refine XS.iushr X15.here hx rfl (hb hby at_47) rfl ?_; exact kt') ?_
  show Go p e below _ (T15.setTop (mkF m 48 #[.val (.int p0), .val (.int p1), .val (.int p2), .val (.int p3), .val (.ref b1), .unset, .unset, .unset, .unset, .unset, .unset, .unset, .unset, .unset] [(.int ((p0.toUInt32 >>> ((24 : Int32) &&& 31).toUInt32).toInt32)), (.int (3 : Int32)), (.ref b1)]))
  refine go (fun t kt' => by refine XS.sipush X15.here hx rfl (hb hby at_48) ?_; exact kt') ?_
  show Go p e below _ (T15.setTop (mkF m 51 #[.val (.int p0), .val (.int p1), .val (.int p2), .val (.int p3), .val (.ref b1), .unset, .unset, .unset, .unset, .unset, .unset, .unset, .unset, .unset] [(.int (255 : Int32)), (.int ((p0.toUInt32 >>> ((24 : Int32) &&& 31).toUInt32).toInt32)), (.int (3 : Int32)), (.ref b1)]))
  refine go (fun t kt' => by refine XS.iand X15.here hx rfl (hb hby at_51) rfl ?_; exact kt') ?_
  show Go p e below _ (T15.setTop (mkF m 52 #[.val (.int p0), .val (.int p1), .val (.int p2), .val (.int p3), .val (.ref b1), .unset, .unset, .unset, .unset, .unset, .unset, .unset, .unset, .unset] [(.int (((p0.toUInt32 >>> ((24 : Int32) &&& 31).toUInt32).toInt32) &&& (255 : Int32))), (.int (3 : Int32)), (.ref b1)]))
  refine go (fun t kt' => by refine XS.i2c X15.here hx rfl (hb hby at_52) rfl ?_; exact kt') ?_
  show Go p e below _ (T15.setTop (mkF m 53 #[.val (.int p0), .val (.int p1), .val (.int p2), .val (.int p3), .val (.ref b1), .unset, .unset, .unset, .unset, .unset, .unset, .unset, .unset, .unset] [(.int ((((p0.toUInt32 >>> ((24 : Int32) &&& 31).toUInt32).toInt32) &&& (255 : Int32)).toUInt32.toUInt16.toUInt32.toInt32)), (.int (3 : Int32)), (.ref b1)]))
  obtain ⟨T20, h20, X20, e20, W20, V20, st20⟩ := stCA X15 hx hZ e15 f19_A_b1 (j := (3 : Int32)) (x := ((((p0.toUInt32 >>> ((24 : Int32) &&& 31).toUInt32).toInt32) &&& (255 : Int32)).toUInt32.toUInt16.toUInt32.toInt32)) ⟨by decide, by decide⟩ (g := (mkF m 53 #[.val (.int p0), .val (.int p1), .val (.int p2), .val (.int p3), .val (.ref b1), .unset, .unset, .unset, .unset, .unset, .unset, .unset, .unset, .unset] [(.int ((((p0.toUInt32 >>> ((24 : Int32) &&& 31).toUInt32).toInt32) &&& (255 : Int32)).toUInt32.toUInt16.toUInt32.toInt32)), (.int (3 : Int32)), (.ref b1)])) rfl rfl (hb hby at_53)
  have N20 := Fr.snoc X20 N15 n0_b1
  have f21_Z := Nat.le_trans f16_Z (Keep.of_wr W20).1
  have f22_O := f17_O.wr W20 n0_b1
  have f23_K := f18_K.wr W20 (Or.inr sz_b1)
  have f24_A_b1 := V20
  refine go st20 ?_
  show Go p e below _ (T20.setTop (mkF m 54 #[.val (.int p0), .val (.int p1), .val (.int p2), .val (.int p3), .val (.ref b1), .unset, .unset, .unset, .unset, .unset, .unset, .unset, .unset, .unset] []))
  obtain ⟨fk, hfk, VKs⟩ : ∃ fk : Nat → Int32, (∀ j, j < 4 → 0 ≤ (fk j).toInt ∧ (fk j).toInt < 256) ∧ IA Z h20 b1 .char 4 fk := ⟨_, own_fill _ _ _ _ _ (own_c255 _) (own_c255 _) (own_c255 _) (own_c255 _), f24_A_b1⟩
  have hr := hfk
  obtain ⟨T25, h25, X25, e25, E25, A25, D25, -, st25⟩ := newO X20 hx hZ hown (hw _ (List.mem_of_getElem? (i := 1) rfl)) (hw _ (List.mem_of_getElem? (i := 2) rfl)) (hw _ (List.mem_of_getElem? (i := 3) rfl)) e20 (g := (mkF m 54 #[.val (.int p0), .val (.int p1), .val (.int p2), .val (.int p3), .val (.ref b1), .unset, .unset, .unset, .unset, .unset, .unset, .unset, .unset, .unset] [])) rfl (hb hby at_54) (by decide) (by decide)
  obtain ⟨b25, g25⟩ : ∃ z, z = h20.size := ⟨_, rfl⟩
  have n0_b25 : n0 ≤ b25 := Nat.le_trans f21_Z (Nat.le_of_eq g25.symm)
  have sz_b25 : h0.size ≤ b25 := Nat.le_trans f23_K.1 (Nat.le_of_eq g25.symm)
  have ne25_b1_b25 : b1 ≠ b25 := Nat.ne_of_lt (Nat.lt_of_lt_of_le VKs.lt (Nat.le_of_eq g25.symm))
  rw [← g25] at A25 D25 st25
  have f26_Z := Nat.le_trans f21_Z E25.1
  have f27_O := f22_O.ext E25
  have f28_K := f23_K.ext E25
  have f29_A_b1 := VKs.ext E25
  have F25_coder : Fld Z h25 b25 "java/lang/String" "coder" "B" (.int (0 : Int32)) := D25 (Or.inr (hw _ (List.mem_of_getElem? (i := 27) rfl))) (ty := .byte) (by decide)
  have F25_value : Fld Z h25 b25 "java/lang/String" "value" "[B" .null := D25 (Or.inr (hw _ (List.mem_of_getElem? (i := 29) rfl))) (ty := (.array .byte)) (by decide)
  refine go st25 ?_
  show Go p e below _ (T25.setTop (mkF m 57 #[.val (.int p0), .val (.int p1), .val (.int p2), .val (.int p3), .val (.ref b1), .unset, .unset, .unset, .unset, .unset, .unset, .unset, .unset, .unset] [(.ref b25)]))
  refine go (fun t kt' => by refine XS.dup X25.here hx rfl (hb hby at_57) rfl rfl ?_; exact kt') ?_
  show Go p e below _ (T25.setTop (mkF m 58 #[.val (.int p0), .val (.int p1), .val (.int p2), .val (.int p3), .val (.ref b1), .unset, .unset, .unset, .unset, .unset, .unset, .unset, .unset, .unset] [(.ref b25), (.ref b25)]))
  refine go (fun t kt' => by refine XS.aload X25.here hx rfl (hb hby at_58) rfl rfl ?_; exact kt') ?_
  show Go p e below _ (T25.setTop (mkF m 60 #[.val (.int p0), .val (.int p1), .val (.int p2), .val (.int p3), .val (.ref b1), .unset, .unset, .unset, .unset, .unset, .unset, .unset, .unset, .unset] [(.ref b1), (.ref b25), (.ref b25)]))
  obtain ⟨_, _, ⟨T30, L30, k30, n30⟩, -, X30, ⟨Lc30, hQ30, l30, y30, z30⟩, st30⟩ := X25.specialBack hx (y := (⟨"java/lang/String", "<init>", "([C)V"⟩ : MethodName)) rfl hown (mvT hZ (hw _ (List.mem_of_getElem? (i := 4) rfl))) (mvT hZ (hw _ (List.mem_of_getElem? (i := 5) rfl))) (mvT hZ (hw _ (List.mem_of_getElem? (i := 6) rfl))) (by decide) (backOf (W := 1) (rm_s1 l Z a0 hw [] b25 b1 cs fm kd1 kd2 kd3 kd4 fk h25 n0 f26_Z HS f27_O A25 n0_b25 F25_value F25_coder f29_A_b1 ne25_b1_b25 hr) hZ (hw _ (List.mem_of_getElem? (i := 6) rfl)) (hw _ (List.mem_of_getElem? (i := 3) rfl)) (by decide) (by decide)) (g := (mkF m 60 #[.val (.int p0), .val (.int p1), .val (.int p2), .val (.int p3), .val (.ref b1), .unset, .unset, .unset, .unset, .unset, .unset, .unset, .unset, .unset] [(.ref b1), (.ref b25), (.ref b25)])) rfl (by rw [hml]; rfl) (Steps.refl _) (a := b25) (argsL := [(.ref b1)]) (rest := [(.ref b25)]) (lenOf pd_18 rfl) rfl (by show 2 * 0 + _ ≤ _; exact Nat.le_of_eq rfl) (hb hby at_60) (fun _ _ => ⟨rfl, e25, (by decide : 2 + 1 ≤ _), (by decide : 8 + 4 ≤ _)⟩)
  dsimp only [Pt.U, Pt.locs, Pt.cells, Pt.slots] at X30 l30 y30 z30 st30 hQ30
  rw [l30, y30, z30] at X30
  obtain ⟨rfl, N30q, K30, E30_, FC30, r30, FV30, VB30⟩ := hQ30
  have N30 := Fr.app N20 N30q
  have f31_Z := Nat.le_trans f26_Z K30.1
  have f32_O := f27_O.keep K30 (allS n0_b25 all0)
  have f33_K := f28_K.trans K30 (allS (Or.inr sz_b25) all0)
  have f34_A_b1 := f29_A_b1.keep K30 (ninS ne25_b1_b25 nin0)
  refine go (fun t kt => st30.trans kt) ?_
  show Go p e below _ (T30.setTop (mkF m 63 #[.val (.int p0), .val (.int p1), .val (.int p2), .val (.int p3), .val (.ref b1), .unset, .unset, .unset, .unset, .unset, .unset, .unset, .unset, .unset] [(.ref b25)]))
  refine go (fun t kt' => by refine XS.astore X30.here hx rfl (hb hby at_63) rfl rfl (l' := #[.val (.int p0), .val (.int p1), .val (.int p2), .val (.int p3), .val (.ref b1), .val (.ref b25), .unset, .unset, .unset, .unset, .unset, .unset, .unset, .unset]) rfl ?_; exact kt') ?_
  show Go p e below _ (T30.setTop (mkF m 65 #[.val (.int p0), .val (.int p1), .val (.int p2), .val (.int p3), .val (.ref b1), .val (.ref b25), .unset, .unset, .unset, .unset, .unset, .unset, .unset, .unset] []))
  refine go (fun t kt' => by refine XS.iloadN X30.here hx rfl (hb hby at_65) rfl ?_; exact kt') ?_
  show Go p e below _ (T30.setTop (mkF m 66 #[.val (.int p0), .val (.int p1), .val (.int p2), .val (.int p3), .val (.ref b1), .val (.ref b25), .unset, .unset, .unset, .unset, .unset, .unset, .unset, .unset] [(.int p1)]))
  refine go (fun t kt' => by refine X30.ldcI hx hown (mvT hZ (hw _ (List.mem_of_getElem? (i := 30) rfl))) rfl (hb hby at_66) ?_; exact kt') ?_
  show Go p e below _ (T30.setTop (mkF m 68 #[.val (.int p0), .val (.int p1), .val (.int p2), .val (.int p3), .val (.ref b1), .val (.ref b25), .unset, .unset, .unset, .unset, .unset, .unset, .unset, .unset] [(.int (2147483647 : Int32)), (.int p1)]))
  refine go (fun t kt' => by refine XS.iand X30.here hx rfl (hb hby at_68) rfl ?_; exact kt') ?_
  show Go p e below _ (T30.setTop (mkF m 69 #[.val (.int p0), .val (.int p1), .val (.int p2), .val (.int p3), .val (.ref b1), .val (.ref b25), .unset, .unset, .unset, .unset, .unset, .unset, .unset, .unset] [(.int (p1 &&& (2147483647 : Int32)))]))
  refine go (fun t kt' => by refine XS.iconst X30.here hx rfl (hb hby at_69) ?_; exact kt') ?_
  show Go p e below _ (T30.setTop (mkF m 70 #[.val (.int p0), .val (.int p1), .val (.int p2), .val (.int p3), .val (.ref b1), .val (.ref b25), .unset, .unset, .unset, .unset, .unset, .unset, .unset, .unset] [(.int (5 : Int32)), (.int (p1 &&& (2147483647 : Int32)))]))
  refine go (fun t kt' => by refine XS.irem X30.here hx rfl (hb hby at_70) rfl (by decide) ?_; exact kt') ?_
  show Go p e below _ (T30.setTop (mkF m 71 #[.val (.int p0), .val (.int p1), .val (.int p2), .val (.int p3), .val (.ref b1), .val (.ref b25), .unset, .unset, .unset, .unset, .unset, .unset, .unset, .unset] [(.int ((p1 &&& (2147483647 : Int32)) - ((p1 &&& (2147483647 : Int32)) / (5 : Int32)) * (5 : Int32)))]))
  rw [Jvm.irem_eq_mod]
  show Go p e below _ (T30.setTop (mkF m 71 #[.val (.int p0), .val (.int p1), .val (.int p2), .val (.int p3), .val (.ref b1), .val (.ref b25), .unset, .unset, .unset, .unset, .unset, .unset, .unset, .unset] [(.int ((p1 &&& (2147483647 : Int32)) % (5 : Int32)))]))
  refine go (fun t kt' => by refine XS.istore X30.here hx rfl (hb hby at_71) rfl (l' := #[.val (.int p0), .val (.int p1), .val (.int p2), .val (.int p3), .val (.ref b1), .val (.ref b25), .val (.int ((p1 &&& (2147483647 : Int32)) % (5 : Int32))), .unset, .unset, .unset, .unset, .unset, .unset, .unset]) rfl ?_; exact kt') ?_
  show Go p e below _ (T30.setTop (mkF m 73 #[.val (.int p0), .val (.int p1), .val (.int p2), .val (.int p3), .val (.ref b1), .val (.ref b25), .val (.int ((p1 &&& (2147483647 : Int32)) % (5 : Int32))), .unset, .unset, .unset, .unset, .unset, .unset, .unset] []))
  generalize hsa : ((p1 &&& (2147483647 : Int32)) % (5 : Int32)) = sa
  show Go p e below _ (T30.setTop (mkF m 73 #[.val (.int p0), .val (.int p1), .val (.int p2), .val (.int p3), .val (.ref b1), .val (.ref b25), .val (.int sa), .unset, .unset, .unset, .unset, .unset, .unset, .unset] []))
  have rsa : 0 ≤ sa.toInt ∧ sa.toInt ≤ 4 := hsa ▸ own_m5 _
  refine go (fun t kt' => by refine XS.iloadN X30.here hx rfl (hb hby at_73) rfl ?_; exact kt') ?_
  show Go p e below _ (T30.setTop (mkF m 74 #[.val (.int p0), .val (.int p1), .val (.int p2), .val (.int p3), .val (.ref b1), .val (.ref b25), .val (.int sa), .unset, .unset, .unset, .unset, .unset, .unset, .unset] [(.int p2)]))
  refine go (fun t kt' => by refine X30.ldcI hx hown (mvT hZ (hw _ (List.mem_of_getElem? (i := 30) rfl))) rfl (hb hby at_74) ?_; exact kt') ?_
  show Go p e below _ (T30.setTop (mkF m 76 #[.val (.int p0), .val (.int p1), .val (.int p2), .val (.int p3), .val (.ref b1), .val (.ref b25), .val (.int sa), .unset, .unset, .unset, .unset, .unset, .unset, .unset] [(.int (2147483647 : Int32)), (.int p2)]))
  refine go (fun t kt' => by refine XS.iand X30.here hx rfl (hb hby at_76) rfl ?_; exact kt') ?_
  show Go p e below _ (T30.setTop (mkF m 77 #[.val (.int p0), .val (.int p1), .val (.int p2), .val (.int p3), .val (.ref b1), .val (.ref b25), .val (.int sa), .unset, .unset, .unset, .unset, .unset, .unset, .unset] [(.int (p2 &&& (2147483647 : Int32)))]))
  refine go (fun t kt' => by refine XS.iconst X30.here hx rfl (hb hby at_77) ?_; exact kt') ?_
  show Go p e below _ (T30.setTop (mkF m 78 #[.val (.int p0), .val (.int p1), .val (.int p2), .val (.int p3), .val (.ref b1), .val (.ref b25), .val (.int sa), .unset, .unset, .unset, .unset, .unset, .unset, .unset] [(.int (5 : Int32)), (.int (p2 &&& (2147483647 : Int32)))]))
  refine go (fun t kt' => by refine XS.irem X30.here hx rfl (hb hby at_78) rfl (by decide) ?_; exact kt') ?_
  show Go p e below _ (T30.setTop (mkF m 79 #[.val (.int p0), .val (.int p1), .val (.int p2), .val (.int p3), .val (.ref b1), .val (.ref b25), .val (.int sa), .unset, .unset, .unset, .unset, .unset, .unset, .unset] [(.int ((p2 &&& (2147483647 : Int32)) - ((p2 &&& (2147483647 : Int32)) / (5 : Int32)) * (5 : Int32)))]))
  rw [Jvm.irem_eq_mod]
  show Go p e below _ (T30.setTop (mkF m 79 #[.val (.int p0), .val (.int p1), .val (.int p2), .val (.int p3), .val (.ref b1), .val (.ref b25), .val (.int sa), .unset, .unset, .unset, .unset, .unset, .unset, .unset] [(.int ((p2 &&& (2147483647 : Int32)) % (5 : Int32)))]))
  refine go (fun t kt' => by refine XS.istore X30.here hx rfl (hb hby at_79) rfl (l' := #[.val (.int p0), .val (.int p1), .val (.int p2), .val (.int p3), .val (.ref b1), .val (.ref b25), .val (.int sa), .val (.int ((p2 &&& (2147483647 : Int32)) % (5 : Int32))), .unset, .unset, .unset, .unset, .unset, .unset]) rfl ?_; exact kt') ?_
  show Go p e below _ (T30.setTop (mkF m 81 #[.val (.int p0), .val (.int p1), .val (.int p2), .val (.int p3), .val (.ref b1), .val (.ref b25), .val (.int sa), .val (.int ((p2 &&& (2147483647 : Int32)) % (5 : Int32))), .unset, .unset, .unset, .unset, .unset, .unset] []))
  generalize hsb : ((p2 &&& (2147483647 : Int32)) % (5 : Int32)) = sb
  show Go p e below _ (T30.setTop (mkF m 81 #[.val (.int p0), .val (.int p1), .val (.int p2), .val (.int p3), .val (.ref b1), .val (.ref b25), .val (.int sa), .val (.int sb), .unset, .unset, .unset, .unset, .unset, .unset] []))
  have rsb : 0 ≤ sb.toInt ∧ sb.toInt ≤ 4 := hsb ▸ own_m5 _
  refine go (fun t kt' => by refine XS.iload X30.here hx rfl (hb hby at_81) rfl ?_; exact kt') ?_
  show Go p e below _ (T30.setTop (mkF m 83 #[.val (.int p0), .val (.int p1), .val (.int p2), .val (.int p3), .val (.ref b1), .val (.ref b25), .val (.int sa), .val (.int sb), .unset, .unset, .unset, .unset, .unset, .unset] [(.int sa)]))
  refine go (fun t kt' => by refine XS.iload X30.here hx rfl (hb hby at_83) rfl ?_; exact kt') ?_
  show Go p e below _ (T30.setTop (mkF m 85 #[.val (.int p0), .val (.int p1), .val (.int p2), .val (.int p3), .val (.ref b1), .val (.ref b25), .val (.int sa), .val (.int sb), .unset, .unset, .unset, .unset, .unset, .unset] [(.int sb), (.int sa)]))
  obtain ⟨_, _, ⟨T35, L35, k35, n35⟩, -, X35, ⟨Lc35, hQ35, l35, y35, z35⟩, st35⟩ := Jvm.LawKit.callS X30 hx (y := (⟨"java/lang/Math", "min", "(II)I"⟩ : MethodName)) hown (mvT hZ (hw _ (List.mem_of_getElem? (i := 31) rfl))) (mvT hZ (hw _ (List.mem_of_getElem? (i := 32) rfl))) (mvT hZ (hw _ (List.mem_of_getElem? (i := 33) rfl))) (mvT hZ (hw _ (List.mem_of_getElem? (i := 34) rfl))) (by decide) (backOf (W := 0) (rm7 l Z a0 hw [] sa sb T30.heap n0 f31_Z) hZ (hw _ (List.mem_of_getElem? (i := 34) rfl)) (hw _ (List.mem_of_getElem? (i := 33) rfl)) (by decide) (by decide)) (g := (mkF m 85 #[.val (.int p0), .val (.int p1), .val (.int p2), .val (.int p3), .val (.ref b1), .val (.ref b25), .val (.int sa), .val (.int sb), .unset, .unset, .unset, .unset, .unset, .unset] [(.int sb), (.int sa)])) rfl (by rw [hml]; rfl) (argsL := [(.int sa), (.int sb)]) (rest := []) (lenOf pd_11 rfl) rfl (by show 2 * 0 + _ ≤ _; exact Nat.le_of_eq rfl) (hb hby at_85) (fun _ _ => ⟨rfl, rfl, (by decide : 3 + 0 ≤ _), (by decide : 12 + 0 ≤ _)⟩)
  dsimp only [Pt.U, Pt.locs, Pt.cells, Pt.slots] at X35 l35 y35 z35 st35 hQ35
  rw [l35, y35, z35] at X35
  obtain ⟨rfl, N35q, e35⟩ := hQ35
  have N35 := Fr.app N30 N35q
  refine go st35 ?_
  show Go p e below _ (T35.setTop (mkF m 88 #[.val (.int p0), .val (.int p1), .val (.int p2), .val (.int p3), .val (.ref b1), .val (.ref b25), .val (.int sa), .val (.int sb), .unset, .unset, .unset, .unset, .unset, .unset] [(.int (own_min sa sb))]))
  refine go (fun t kt' => by refine XS.istore X35.here hx rfl (hb hby at_88) rfl (l' := #[.val (.int p0), .val (.int p1), .val (.int p2), .val (.int p3), .val (.ref b1), .val (.ref b25), .val (.int sa), .val (.int sb), .val (.int (own_min sa sb)), .unset, .unset, .unset, .unset, .unset]) rfl ?_; exact kt') ?_
  show Go p e below _ (T35.setTop (mkF m 90 #[.val (.int p0), .val (.int p1), .val (.int p2), .val (.int p3), .val (.ref b1), .val (.ref b25), .val (.int sa), .val (.int sb), .val (.int (own_min sa sb)), .unset, .unset, .unset, .unset, .unset] []))
  generalize hlw : (own_min sa sb) = lw
  show Go p e below _ (T35.setTop (mkF m 90 #[.val (.int p0), .val (.int p1), .val (.int p2), .val (.int p3), .val (.ref b1), .val (.ref b25), .val (.int sa), .val (.int sb), .val (.int lw), .unset, .unset, .unset, .unset, .unset] []))
  refine go (fun t kt' => by refine XS.iload X35.here hx rfl (hb hby at_90) rfl ?_; exact kt') ?_
  show Go p e below _ (T35.setTop (mkF m 92 #[.val (.int p0), .val (.int p1), .val (.int p2), .val (.int p3), .val (.ref b1), .val (.ref b25), .val (.int sa), .val (.int sb), .val (.int lw), .unset, .unset, .unset, .unset, .unset] [(.int sa)]))
  refine go (fun t kt' => by refine XS.iload X35.here hx rfl (hb hby at_92) rfl ?_; exact kt') ?_
  show Go p e below _ (T35.setTop (mkF m 94 #[.val (.int p0), .val (.int p1), .val (.int p2), .val (.int p3), .val (.ref b1), .val (.ref b25), .val (.int sa), .val (.int sb), .val (.int lw), .unset, .unset, .unset, .unset, .unset] [(.int sb), (.int sa)]))
  obtain ⟨_, _, ⟨T36, L36, k36, n36⟩, -, X36, ⟨Lc36, hQ36, l36, y36, z36⟩, st36⟩ := Jvm.LawKit.callS X35 hx (y := (⟨"java/lang/Math", "max", "(II)I"⟩ : MethodName)) hown (mvT hZ (hw _ (List.mem_of_getElem? (i := 35) rfl))) (mvT hZ (hw _ (List.mem_of_getElem? (i := 36) rfl))) (mvT hZ (hw _ (List.mem_of_getElem? (i := 33) rfl))) (mvT hZ (hw _ (List.mem_of_getElem? (i := 37) rfl))) (by decide) (backOf (W := 0) (rm8 l Z a0 hw [] sa sb T30.heap n0 f31_Z) hZ (hw _ (List.mem_of_getElem? (i := 37) rfl)) (hw _ (List.mem_of_getElem? (i := 33) rfl)) (by decide) (by decide)) (g := (mkF m 94 #[.val (.int p0), .val (.int p1), .val (.int p2), .val (.int p3), .val (.ref b1), .val (.ref b25), .val (.int sa), .val (.int sb), .val (.int lw), .unset, .unset, .unset, .unset, .unset] [(.int sb), (.int sa)])) rfl (by rw [hml]; rfl) (argsL := [(.int sa), (.int sb)]) (rest := []) (lenOf pd_11 rfl) rfl (by show 2 * 0 + _ ≤ _; exact Nat.le_of_eq rfl) (hb hby at_94) (fun _ _ => ⟨rfl, e35, (by decide : 3 + 0 ≤ _), (by decide : 12 + 0 ≤ _)⟩)
  dsimp only [Pt.U, Pt.locs, Pt.cells, Pt.slots] at X36 l36 y36 z36 st36 hQ36
  rw [l36, y36, z36] at X36
  obtain ⟨rfl, N36q, e36⟩ := hQ36
  have N36 := Fr.app N35 N36q
  refine go st36 ?_
  show Go p e below _ (T36.setTop (mkF m 97 #[.val (.int p0), .val (.int p1), .val (.int p2), .val (.int p3), .val (.ref b1), .val (.ref b25), .val (.int sa), .val (.int sb), .val (.int lw), .unset, .unset, .unset, .unset, .unset] [(.int (own_max sa sb))]))
  refine go (fun t kt' => by refine XS.istore X36.here hx rfl (hb hby at_97) rfl (l' := #[.val (.int p0), .val (.int p1), .val (.int p2), .val (.int p3), .val (.ref b1), .val (.ref b25), .val (.int sa), .val (.int sb), .val (.int lw), .val (.int (own_max sa sb)), .unset, .unset, .unset, .unset]) rfl ?_; exact kt') ?_
  show Go p e below _ (T36.setTop (mkF m 99 #[.val (.int p0), .val (.int p1), .val (.int p2), .val (.int p3), .val (.ref b1), .val (.ref b25), .val (.int sa), .val (.int sb), .val (.int lw), .val (.int (own_max sa sb)), .unset, .unset, .unset, .unset] []))
  generalize hhi : (own_max sa sb) = hi
  show Go p e below _ (T36.setTop (mkF m 99 #[.val (.int p0), .val (.int p1), .val (.int p2), .val (.int p3), .val (.ref b1), .val (.ref b25), .val (.int sa), .val (.int sb), .val (.int lw), .val (.int hi), .unset, .unset, .unset, .unset] []))
  obtain ⟨loN, NN, hlo, hhi, hle⟩ := own_lohi rsa rsb hlw hhi
  have hle4 : NN ≤ 4 := by omega
  have hrb := own_brng hr
  obtain ⟨T37, h37, X37, e37, E37, A37, D37, -, st37⟩ := newO X36 hx hZ hown (hw _ (List.mem_of_getElem? (i := 38) rfl)) (hw _ (List.mem_of_getElem? (i := 39) rfl)) (hw _ (List.mem_of_getElem? (i := 40) rfl)) e36 (g := (mkF m 99 #[.val (.int p0), .val (.int p1), .val (.int p2), .val (.int p3), .val (.ref b1), .val (.ref b25), .val (.int sa), .val (.int sb), .val (.int lw), .val (.int hi), .unset, .unset, .unset, .unset] [])) rfl (hb hby at_99) (by decide) (by decide)
  obtain ⟨b37, g37⟩ : ∃ z, z = T30.heap.size := ⟨_, rfl⟩
  have n0_b37 : n0 ≤ b37 := Nat.le_trans f31_Z (Nat.le_of_eq g37.symm)
  have sz_b37 : h0.size ≤ b37 := Nat.le_trans f33_K.1 (Nat.le_of_eq g37.symm)
  have ne37_b1_b37 : b1 ≠ b37 := Nat.ne_of_lt (Nat.lt_of_lt_of_le f34_A_b1.lt (Nat.le_of_eq g37.symm))
  have ne37_b25_b37 : b25 ≠ b37 := Nat.ne_of_lt (Nat.lt_of_lt_of_le E30_.lt (Nat.le_of_eq g37.symm))
  have ne37_r30_b37 : r30 ≠ b37 := Nat.ne_of_lt (Nat.lt_of_lt_of_le VB30.lt (Nat.le_of_eq g37.symm))
  rw [← g37] at A37 D37 st37
  have f38_Z := Nat.le_trans f31_Z E37.1
  have f39_O := f32_O.ext E37
  have f40_K := f33_K.ext E37
  have f41_A_b1 := f34_A_b1.ext E37
  have f42_E_b25 := E30_.ext E37
  have f43_F_b25_coder := FC30.ext E37
  have f44_F_b25_value := FV30.ext E37
  have f45_A_r30 := VB30.ext E37
  have F37_kind : Fld Z h37 b37 "com/example/backfill/backfill/postgres/SqlLexer$Token" "kind" "Lcom/example/backfill/backfill/postgres/SqlLexer$Kind;" .null := D37 (Or.inr (hw _ (List.mem_of_getElem? (i := 58) rfl))) (ty := (.object "com/example/backfill/backfill/postgres/SqlLexer$Kind")) (by decide)
  have F37_source : Fld Z h37 b37 "com/example/backfill/backfill/postgres/SqlLexer$Token" "source" "Ljava/lang/String;" .null := D37 (Or.inr (hw _ (List.mem_of_getElem? (i := 60) rfl))) (ty := (.object "java/lang/String")) (by decide)
  have F37_start : Fld Z h37 b37 "com/example/backfill/backfill/postgres/SqlLexer$Token" "start" "I" (.int (0 : Int32)) := D37 (Or.inr (hw _ (List.mem_of_getElem? (i := 62) rfl))) (ty := .int) (by decide)
  have F37_end : Fld Z h37 b37 "com/example/backfill/backfill/postgres/SqlLexer$Token" "end" "I" (.int (0 : Int32)) := D37 (Or.inr (hw _ (List.mem_of_getElem? (i := 64) rfl))) (ty := .int) (by decide)
  refine go st37 ?_
  show Go p e below _ (T37.setTop (mkF m 102 #[.val (.int p0), .val (.int p1), .val (.int p2), .val (.int p3), .val (.ref b1), .val (.ref b25), .val (.int sa), .val (.int sb), .val (.int lw), .val (.int hi), .unset, .unset, .unset, .unset] [(.ref b37)]))
  refine go (fun t kt' => by refine XS.dup X37.here hx rfl (hb hby at_102) rfl rfl ?_; exact kt') ?_
  show Go p e below _ (T37.setTop (mkF m 103 #[.val (.int p0), .val (.int p1), .val (.int p2), .val (.int p3), .val (.ref b1), .val (.ref b25), .val (.int sa), .val (.int sb), .val (.int lw), .val (.int hi), .unset, .unset, .unset, .unset] [(.ref b37), (.ref b37)]))
  refine go (fun t kt' => by refine XS.iloadN X37.here hx rfl (hb hby at_103) rfl ?_; exact kt') ?_
  show Go p e below _ (T37.setTop (mkF m 104 #[.val (.int p0), .val (.int p1), .val (.int p2), .val (.int p3), .val (.ref b1), .val (.ref b25), .val (.int sa), .val (.int sb), .val (.int lw), .val (.int hi), .unset, .unset, .unset, .unset] [(.int p3), (.ref b37), (.ref b37)]))
  obtain ⟨_, _, ⟨T46, L46, k46, n46⟩, -, X46, ⟨Lc46, hQ46, l46, y46, z46⟩, st46⟩ := Jvm.LawKit.callS X37 hx (y := (⟨"com/example/backfill/backfill/postgres/TokenTextPinLaw", "kindOf", "(I)Lcom/example/backfill/backfill/postgres/SqlLexer$Kind;"⟩ : MethodName)) hown (mvT hZ (hw _ (List.mem_of_getElem? (i := 41) rfl))) (mvT hZ (hw _ (List.mem_of_getElem? (i := 42) rfl))) (mvT hZ (hw _ (List.mem_of_getElem? (i := 43) rfl))) (mvT hZ (hw _ (List.mem_of_getElem? (i := 44) rfl))) (by decide) (backOf (W := 2) (rm_ko l Z a0 hw [] p3 cs fm kd1 kd2 kd3 kd4  h37 n0 f38_Z HS f39_O ) hZ (hw _ (List.mem_of_getElem? (i := 44) rfl)) (hw _ (List.mem_of_getElem? (i := 43) rfl)) (by decide) (by decide)) (g := (mkF m 104 #[.val (.int p0), .val (.int p1), .val (.int p2), .val (.int p3), .val (.ref b1), .val (.ref b25), .val (.int sa), .val (.int sb), .val (.int lw), .val (.int hi), .unset, .unset, .unset, .unset] [(.int p3), (.ref b37), (.ref b37)])) rfl (by rw [hml]; rfl) (argsL := [(.int p3)]) (rest := [(.ref b37), (.ref b37)]) (lenOf pd_19 rfl) rfl (by show 2 * 0 + _ ≤ _; exact Nat.le_of_eq rfl) (hb hby at_104) (fun _ _ => ⟨rfl, e37, (by decide : 4 + 0 ≤ _), (by decide : 16 + 0 ≤ _)⟩)
  dsimp only [Pt.U, Pt.locs, Pt.cells, Pt.slots] at X46 l46 y46 z46 st46 hQ46
  rw [l46, y46, z46] at X46
  obtain ⟨r46, rfl, N46q, e46⟩ := hQ46
  have N46 := Fr.app N36 N46q
  refine go st46 ?_
  show Go p e below _ (T46.setTop (mkF m 107 #[.val (.int p0), .val (.int p1), .val (.int p2), .val (.int p3), .val (.ref b1), .val (.ref b25), .val (.int sa), .val (.int sb), .val (.int lw), .val (.int hi), .unset, .unset, .unset, .unset] [(.ref r46), (.ref b37), (.ref b37)]))
  refine go (fun t kt' => by refine XS.aload X46.here hx rfl (hb hby at_107) rfl rfl ?_; exact kt') ?_
  show Go p e below _ (T46.setTop (mkF m 109 #[.val (.int p0), .val (.int p1), .val (.int p2), .val (.int p3), .val (.ref b1), .val (.ref b25), .val (.int sa), .val (.int sb), .val (.int lw), .val (.int hi), .unset, .unset, .unset, .unset] [(.ref b25), (.ref r46), (.ref b37), (.ref b37)]))
  refine go (fun t kt' => by refine XS.iload X46.here hx rfl (hb hby at_109) rfl ?_; exact kt') ?_
  show Go p e below _ (T46.setTop (mkF m 111 #[.val (.int p0), .val (.int p1), .val (.int p2), .val (.int p3), .val (.ref b1), .val (.ref b25), .val (.int sa), .val (.int sb), .val (.int lw), .val (.int hi), .unset, .unset, .unset, .unset] [(.int lw), (.ref b25), (.ref r46), (.ref b37), (.ref b37)]))
  refine go (fun t kt' => by refine XS.iload X46.here hx rfl (hb hby at_111) rfl ?_; exact kt') ?_
  show Go p e below _ (T46.setTop (mkF m 113 #[.val (.int p0), .val (.int p1), .val (.int p2), .val (.int p3), .val (.ref b1), .val (.ref b25), .val (.int sa), .val (.int sb), .val (.int lw), .val (.int hi), .unset, .unset, .unset, .unset] [(.int hi), (.int lw), (.ref b25), (.ref r46), (.ref b37), (.ref b37)]))
  obtain ⟨_, _, ⟨T47, L47, k47, n47⟩, -, X47, ⟨Lc47, hQ47, l47, y47, z47⟩, st47⟩ := X46.specialBack hx (y := (⟨"com/example/backfill/backfill/postgres/SqlLexer$Token", "<init>", "(Lcom/example/backfill/backfill/postgres/SqlLexer$Kind;Ljava/lang/String;II)V"⟩ : MethodName)) rfl hown (mvT hZ (hw _ (List.mem_of_getElem? (i := 48) rfl))) (mvT hZ (hw _ (List.mem_of_getElem? (i := 49) rfl))) (mvT hZ (hw _ (List.mem_of_getElem? (i := 50) rfl))) (by decide) (backOf (W := 1) (rm_ti l Z a0 hw [] b37 r46 b25 lw hi cs fm kd1 kd2 kd3 kd4  h37 n0 f38_Z HS f39_O A37 n0_b37 F37_kind F37_source F37_start F37_end) hZ (hw _ (List.mem_of_getElem? (i := 50) rfl)) (hw _ (List.mem_of_getElem? (i := 40) rfl)) (by decide) (by decide)) (g := (mkF m 113 #[.val (.int p0), .val (.int p1), .val (.int p2), .val (.int p3), .val (.ref b1), .val (.ref b25), .val (.int sa), .val (.int sb), .val (.int lw), .val (.int hi), .unset, .unset, .unset, .unset] [(.int hi), (.int lw), (.ref b25), (.ref r46), (.ref b37), (.ref b37)])) rfl (by rw [hml]; rfl) (Steps.refl _) (a := b37) (argsL := [(.ref r46), (.ref b25), (.int lw), (.int hi)]) (rest := [(.ref b37)]) (lenOf pd_20 rfl) rfl (by show 2 * 0 + _ ≤ _; exact Nat.le_of_eq rfl) (hb hby at_113) (fun _ _ => ⟨rfl, e46, (by decide : 4 + 0 ≤ _), (by decide : 16 + 0 ≤ _)⟩)
  dsimp only [Pt.U, Pt.locs, Pt.cells, Pt.slots] at X47 l47 y47 z47 st47 hQ47
  rw [l47, y47, z47] at X47
  obtain ⟨rfl, N47q, K47, P47_0, P47_1, P47_2, P47_3⟩ := hQ47
  have N47 := Fr.app N46 N47q
  have f48_Z := Nat.le_trans f38_Z K47.1
  have f49_O := f39_O.keep K47 (allS n0_b37 all0)
  have f50_K := f40_K.trans K47 (allS (Or.inr sz_b37) all0)
  have f51_A_b1 := f41_A_b1.keep K47 (ninS ne37_b1_b37 nin0)
  have f52_E_b25 := f42_E_b25.keep K47
  have f53_F_b25_coder := f43_F_b25_coder.keep K47 (ninS ne37_b25_b37 nin0)
  have f54_F_b25_value := f44_F_b25_value.keep K47 (ninS ne37_b25_b37 nin0)
  have f55_A_r30 := f45_A_r30.keep K47 (ninS ne37_r30_b37 nin0)
  refine go (fun t kt => st47.trans kt) ?_
  show Go p e below _ (T47.setTop (mkF m 116 #[.val (.int p0), .val (.int p1), .val (.int p2), .val (.int p3), .val (.ref b1), .val (.ref b25), .val (.int sa), .val (.int sb), .val (.int lw), .val (.int hi), .unset, .unset, .unset, .unset] [(.ref b37)]))
  refine go (fun t kt' => by refine XS.astore X47.here hx rfl (hb hby at_116) rfl rfl (l' := #[.val (.int p0), .val (.int p1), .val (.int p2), .val (.int p3), .val (.ref b1), .val (.ref b25), .val (.int sa), .val (.int sb), .val (.int lw), .val (.int hi), .val (.ref b37), .unset, .unset, .unset]) rfl ?_; exact kt') ?_
  show Go p e below _ (T47.setTop (mkF m 118 #[.val (.int p0), .val (.int p1), .val (.int p2), .val (.int p3), .val (.ref b1), .val (.ref b25), .val (.int sa), .val (.int sb), .val (.int lw), .val (.int hi), .val (.ref b37), .unset, .unset, .unset] []))
  refine go (fun t kt' => by refine XS.aload X47.here hx rfl (hb hby at_118) rfl rfl ?_; exact kt') ?_
  show Go p e below _ (T47.setTop (mkF m 120 #[.val (.int p0), .val (.int p1), .val (.int p2), .val (.int p3), .val (.ref b1), .val (.ref b25), .val (.int sa), .val (.int sb), .val (.int lw), .val (.int hi), .val (.ref b37), .unset, .unset, .unset] [(.ref b37)]))
  obtain ⟨cq56, kq56, q56a, q56b, q56c⟩ := isOf hZ rfl P47_0
  obtain ⟨_, _, ⟨T56, L56, k56, n56⟩, -, X56, hS56, hg56, ⟨Lc56, hQ56, l56, y56, z56, hC56⟩, st56⟩ := X47.virtualBackS hx (y := (⟨"com/example/backfill/backfill/postgres/SqlLexer$Token", "text", "()Ljava/lang/String;"⟩ : MethodName)) (z := (⟨"com/example/backfill/backfill/postgres/SqlLexer$Token", "text", "()Ljava/lang/String;"⟩ : MethodName)) hown (mvT hZ (hw _ (List.mem_of_getElem? (i := 65) rfl))) (mvT hZ (hw _ (List.mem_of_getElem? (i := 66) rfl))) (notFace_of_selects (args := #[]) (mvT hZ (hw _ (List.mem_of_getElem? (i := 68) rfl)))) (mvT hZ (hw _ (List.mem_of_getElem? (i := 68) rfl))) (mvT hZ (hw _ (List.mem_of_getElem? (i := 67) rfl))) (by decide) (backOfSH (s := s) (vm0 := s.vm) (W := 0) (rm_tx l Z a0 hw [] b37 cs fm kd1 kd2 kd3 kd4 b25 lw hi r30 (fun j => (fk j).toInt8.toInt32) loN NN T47.heap n0 f48_Z HS f49_O P47_0 P47_1 P47_2 P47_3 f52_E_b25 f54_F_b25_value f53_F_b25_coder f55_A_r30 hlo hhi hle hrb) hZ (hw _ (List.mem_of_getElem? (i := 69) rfl)) (hw _ (List.mem_of_getElem? (i := 40) rfl)) (by decide) (by decide) hEL (CHr.keep f50_K all0 hH).1) q56a q56c (g := (mkF m 120 #[.val (.int p0), .val (.int p1), .val (.int p2), .val (.int p3), .val (.ref b1), .val (.ref b25), .val (.int sa), .val (.int sb), .val (.int lw), .val (.int hi), .val (.ref b37), .unset, .unset, .unset] [(.ref b37)])) rfl (by rw [hml]; rfl) (Steps.refl _) (argsL := []) (rest := []) (lenOf pd_21 rfl) rfl (by show 2 * 0 + _ ≤ _; exact Nat.le_of_eq rfl) (hb hby at_120) (fun _ _ => ⟨rfl, rfl, (by decide : 4 + 2 ≤ _), (by decide : 16 + 8 ≤ _)⟩)
  dsimp only [Pt.U, Pt.locs, Pt.cells, Pt.slots] at X56 l56 y56 z56 st56 hQ56 hC56 hS56 hg56
  rw [l56, y56, z56] at X56
  have hown : (s.setVm T56.vm).vm.findClass "com/example/backfill/backfill/postgres/TokenTextPinLaw" = some m.cls := by rw [show (s.setVm T56.vm).vm = T56.vm from rfl, hS56.1.alike.findClass]; exact hown
  have hZ : Z.Warmed39 (s.setVm T56.vm).vm := State.Warmed39.trans hZ hS56.1
  obtain ⟨ra56, rb56, rg56, rfl, N56q, K56, E56_, FV56, FC56, VB56, hg56_⟩ := hQ56
  have N56 := Fr.app N47 N56q
  have f57_Z := Nat.le_trans f48_Z K56.1
  have f58_O := f49_O.keep K56 all0
  have f59_K := f50_K.trans K56 all0
  have f60_A_b1 := f51_A_b1.keep K56 nin0
  have f61_E_b25 := f52_E_b25.keep K56
  have f62_F_b25_coder := f53_F_b25_coder.keep K56 nin0
  have f63_F_b25_value := f54_F_b25_value.keep K56 nin0
  have f64_A_r30 := f55_A_r30.keep K56 nin0
  have f65_E_b37 := P47_0.keep K56
  have f66_F_b37_source := P47_1.keep K56 nin0
  have f67_F_b37_start := P47_2.keep K56 nin0
  have f68_F_b37_end := P47_3.keep K56 nin0
  refine go (fun t kt => st56.trans kt) ?_
  show Go p e below _ (T56.setTop (mkF m 123 #[.val (.int p0), .val (.int p1), .val (.int p2), .val (.int p3), .val (.ref b1), .val (.ref b25), .val (.int sa), .val (.int sb), .val (.int lw), .val (.int hi), .val (.ref b37), .unset, .unset, .unset] [(.ref ra56)]))
  refine go (fun t kt' => by refine XS.astore X56.here hx rfl (hb hby at_123) rfl rfl (l' := #[.val (.int p0), .val (.int p1), .val (.int p2), .val (.int p3), .val (.ref b1), .val (.ref b25), .val (.int sa), .val (.int sb), .val (.int lw), .val (.int hi), .val (.ref b37), .val (.ref ra56), .unset, .unset]) rfl ?_; exact kt') ?_
  show Go p e below _ (T56.setTop (mkF m 125 #[.val (.int p0), .val (.int p1), .val (.int p2), .val (.int p3), .val (.ref b1), .val (.ref b25), .val (.int sa), .val (.int sb), .val (.int lw), .val (.int hi), .val (.ref b37), .val (.ref ra56), .unset, .unset] []))
  refine go (fun t kt' => by refine XS.iload X56.here hx rfl (hb hby at_125) rfl ?_; exact kt') ?_
  show Go p e below _ (T56.setTop (mkF m 127 #[.val (.int p0), .val (.int p1), .val (.int p2), .val (.int p3), .val (.ref b1), .val (.ref b25), .val (.int sa), .val (.int sb), .val (.int lw), .val (.int hi), .val (.ref b37), .val (.ref ra56), .unset, .unset] [(.int hi)]))
  refine go (fun t kt' => by refine XS.iload X56.here hx rfl (hb hby at_127) rfl ?_; exact kt') ?_
  show Go p e below _ (T56.setTop (mkF m 129 #[.val (.int p0), .val (.int p1), .val (.int p2), .val (.int p3), .val (.ref b1), .val (.ref b25), .val (.int sa), .val (.int sb), .val (.int lw), .val (.int hi), .val (.ref b37), .val (.ref ra56), .unset, .unset] [(.int lw), (.int hi)]))
  refine go (fun t kt' => by refine XS.isub X56.here hx rfl (hb hby at_129) rfl ?_; exact kt') ?_
  show Go p e below _ (T56.setTop (mkF m 130 #[.val (.int p0), .val (.int p1), .val (.int p2), .val (.int p3), .val (.ref b1), .val (.ref b25), .val (.int sa), .val (.int sb), .val (.int lw), .val (.int hi), .val (.ref b37), .val (.ref ra56), .unset, .unset] [(.int (hi - lw))]))
  refine go (fun t kt' => by refine XS.istore X56.here hx rfl (hb hby at_130) rfl (l' := #[.val (.int p0), .val (.int p1), .val (.int p2), .val (.int p3), .val (.ref b1), .val (.ref b25), .val (.int sa), .val (.int sb), .val (.int lw), .val (.int hi), .val (.ref b37), .val (.ref ra56), .val (.int (hi - lw)), .unset]) rfl ?_; exact kt') ?_
  show Go p e below _ (T56.setTop (mkF m 132 #[.val (.int p0), .val (.int p1), .val (.int p2), .val (.int p3), .val (.ref b1), .val (.ref b25), .val (.int sa), .val (.int sb), .val (.int lw), .val (.int hi), .val (.ref b37), .val (.ref ra56), .val (.int (hi - lw)), .unset] []))
  generalize hln : (hi - lw) = ln
  show Go p e below _ (T56.setTop (mkF m 132 #[.val (.int p0), .val (.int p1), .val (.int p2), .val (.int p3), .val (.ref b1), .val (.ref b25), .val (.int sa), .val (.int sb), .val (.int lw), .val (.int hi), .val (.ref b37), .val (.ref ra56), .val (.int ln), .unset] []))
  have hln' : ln.toInt = NN := by rw [← hln]; exact own_sub hlo hhi hle
  refine go (fun t kt' => by refine XS.aload X56.here hx rfl (hb hby at_132) rfl rfl ?_; exact kt') ?_
  show Go p e below _ (T56.setTop (mkF m 134 #[.val (.int p0), .val (.int p1), .val (.int p2), .val (.int p3), .val (.ref b1), .val (.ref b25), .val (.int sa), .val (.int sb), .val (.int lw), .val (.int hi), .val (.ref b37), .val (.ref ra56), .val (.int ln), .unset] [(.ref ra56)]))
  obtain ⟨cq69, kq69, q69a, q69b, q69c⟩ := isOf hZ rfl E56_
  obtain ⟨_, _, ⟨T69, L69, k69, n69⟩, -, X69, ⟨Lc69, hQ69, l69, y69, z69⟩, st69⟩ := X56.virtualBack hx (y := (⟨"java/lang/String", "length", "()I"⟩ : MethodName)) (z := (⟨"java/lang/String", "length", "()I"⟩ : MethodName)) hown (mvT hZ (hw _ (List.mem_of_getElem? (i := 121) rfl))) (mvT hZ (hw _ (List.mem_of_getElem? (i := 76) rfl))) (notFace_of_selects (args := #[]) (mvT hZ (hw _ (List.mem_of_getElem? (i := 78) rfl)))) (mvT hZ (hw _ (List.mem_of_getElem? (i := 78) rfl))) (mvT hZ (hw _ (List.mem_of_getElem? (i := 77) rfl))) (by decide) (backOf (W := 0) (rm_le l Z a0 hw [] ra56 cs fm kd1 kd2 kd3 kd4 rb56 NN rg56 T56.heap n0 f57_Z HS f58_O E56_ FV56 FC56 VB56) hZ (hw _ (List.mem_of_getElem? (i := 79) rfl)) (hw _ (List.mem_of_getElem? (i := 3) rfl)) (by decide) (by decide)) q69a q69c (g := (mkF m 134 #[.val (.int p0), .val (.int p1), .val (.int p2), .val (.int p3), .val (.ref b1), .val (.ref b25), .val (.int sa), .val (.int sb), .val (.int lw), .val (.int hi), .val (.ref b37), .val (.ref ra56), .val (.int ln), .unset] [(.ref ra56)])) rfl (by rw [hml]; rfl) (Steps.refl _) (argsL := []) (rest := []) (lenOf pd_14 rfl) rfl (by show 2 * 0 + _ ≤ _; exact Nat.le_of_eq rfl) (hb hby at_134) (fun _ _ => ⟨rfl, rfl, (by decide : 6 + 0 ≤ _), (by decide : 24 + 0 ≤ _)⟩)
  dsimp only [Pt.U, Pt.locs, Pt.cells, Pt.slots] at X69 l69 y69 z69 st69 hQ69
  rw [l69, y69, z69] at X69
  obtain ⟨rfl, N69q, e69⟩ := hQ69
  have N69 := Fr.app N56 N69q
  refine go (fun t kt => st69.trans kt) ?_
  show Go p e below _ (T69.setTop (mkF m 137 #[.val (.int p0), .val (.int p1), .val (.int p2), .val (.int p3), .val (.ref b1), .val (.ref b25), .val (.int sa), .val (.int sb), .val (.int lw), .val (.int hi), .val (.ref b37), .val (.ref ra56), .val (.int ln), .unset] [(.int (Nat.toInt32 NN))]))
  refine go (fun t kt' => by refine XS.iload X69.here hx rfl (hb hby at_137) rfl ?_; exact kt') ?_
  show Go p e below _ (T69.setTop (mkF m 139 #[.val (.int p0), .val (.int p1), .val (.int p2), .val (.int p3), .val (.ref b1), .val (.ref b25), .val (.int sa), .val (.int sb), .val (.int lw), .val (.int hi), .val (.ref b37), .val (.ref ra56), .val (.int ln), .unset] [(.int ln), (.int (Nat.toInt32 NN))]))
  have c139_70 : ¬ (¬ (Nat.toInt32 NN) = ln) := not_not_intro (own_leq hln' hle4)
  refine go (fun t kt' => by refine XS.icmpNo X69.here hx rfl (hb hby at_139) rfl (teq (Decidable.not_not.mp c139_70)).2 ?_; exact kt') ?_
  show Go p e below _ (T69.setTop (mkF m 142 #[.val (.int p0), .val (.int p1), .val (.int p2), .val (.int p3), .val (.ref b1), .val (.ref b25), .val (.int sa), .val (.int sb), .val (.int lw), .val (.int hi), .val (.ref b37), .val (.ref ra56), .val (.int ln), .unset] []))
  refine go (fun t kt' => by refine XS.iconst X69.here hx rfl (hb hby at_142) ?_; exact kt') ?_
  show Go p e below _ (T69.setTop (mkF m 143 #[.val (.int p0), .val (.int p1), .val (.int p2), .val (.int p3), .val (.ref b1), .val (.ref b25), .val (.int sa), .val (.int sb), .val (.int lw), .val (.int hi), .val (.ref b37), .val (.ref ra56), .val (.int ln), .unset] [(.int (1 : Int32))]))
  refine go (fun t kt' => by refine XS.goto X69.here hx rfl (pc0 := 143) (pc' := 147) rfl (hb hby at_143) (by decide) (by decide) ?_; exact kt') ?_
  show Go p e below _ (T69.setTop (mkF m 147 #[.val (.int p0), .val (.int p1), .val (.int p2), .val (.int p3), .val (.ref b1), .val (.ref b25), .val (.int sa), .val (.int sb), .val (.int lw), .val (.int hi), .val (.ref b37), .val (.ref ra56), .val (.int ln), .unset] [(.int (1 : Int32))]))
  refine go (fun t kt' => by refine XS.istore X69.here hx rfl (hb hby at_147) rfl (l' := #[.val (.int p0), .val (.int p1), .val (.int p2), .val (.int p3), .val (.ref b1), .val (.ref b25), .val (.int sa), .val (.int sb), .val (.int lw), .val (.int hi), .val (.ref b37), .val (.ref ra56), .val (.int ln), .val (.int (1 : Int32))]) rfl ?_; exact kt') ?_
  show Go p e below _ (T69.setTop (mkF m 149 #[.val (.int p0), .val (.int p1), .val (.int p2), .val (.int p3), .val (.ref b1), .val (.ref b25), .val (.int sa), .val (.int sb), .val (.int lw), .val (.int hi), .val (.ref b37), .val (.ref ra56), .val (.int ln), .val (.int (1 : Int32))] []))
  refine go (fun t kt' => by refine XS.iload X69.here hx rfl (hb hby at_149) rfl ?_; exact kt') ?_
  show Go p e below _ (T69.setTop (mkF m 151 #[.val (.int p0), .val (.int p1), .val (.int p2), .val (.int p3), .val (.ref b1), .val (.ref b25), .val (.int sa), .val (.int sb), .val (.int lw), .val (.int hi), .val (.ref b37), .val (.ref ra56), .val (.int ln), .val (.int (1 : Int32))] [(.int (1 : Int32))]))
  have c151_71 : ¬ ((1 : Int32) = (0 : Int32)) := by decide
  refine go (fun t kt' => by refine XS.ifNo X69.here hx rfl (hb hby at_151) rfl ((if0 _ _).trans (feq c151_71).1) ?_; exact kt') ?_
  show Go p e below _ (T69.setTop (mkF m 154 #[.val (.int p0), .val (.int p1), .val (.int p2), .val (.int p3), .val (.ref b1), .val (.ref b25), .val (.int sa), .val (.int sb), .val (.int lw), .val (.int hi), .val (.ref b37), .val (.ref ra56), .val (.int ln), .val (.int (1 : Int32))] []))
  refine go (fun t kt' => by refine XS.iload X69.here hx rfl (hb hby at_154) rfl ?_; exact kt') ?_
  show Go p e below _ (T69.setTop (mkF m 156 #[.val (.int p0), .val (.int p1), .val (.int p2), .val (.int p3), .val (.ref b1), .val (.ref b25), .val (.int sa), .val (.int sb), .val (.int lw), .val (.int hi), .val (.ref b37), .val (.ref ra56), .val (.int ln), .val (.int (1 : Int32))] [(.int ln)]))
  by_cases c156_72 : ¬ (0 : Int32) < ln
  · skip
    refine go (fun t kt' => by refine XS.ifYes X69.here hx rfl (pc0 := 156) (pc' := 173) rfl (hb hby at_156) rfl ((if0 _ _).trans (flt c156_72).2.2.2) (by decide) (by decide) ?_; exact kt') ?_
    show Go p e below _ (T69.setTop (mkF m 173 #[.val (.int p0), .val (.int p1), .val (.int p2), .val (.int p3), .val (.ref b1), .val (.ref b25), .val (.int sa), .val (.int sb), .val (.int lw), .val (.int hi), .val (.ref b37), .val (.ref ra56), .val (.int ln), .val (.int (1 : Int32))] []))
    refine go (fun t kt' => by refine XS.iconst X69.here hx rfl (hb hby at_173) ?_; exact kt') ?_
    show Go p e below _ (T69.setTop (mkF m 174 #[.val (.int p0), .val (.int p1), .val (.int p2), .val (.int p3), .val (.ref b1), .val (.ref b25), .val (.int sa), .val (.int sb), .val (.int lw), .val (.int hi), .val (.ref b37), .val (.ref ra56), .val (.int ln), .val (.int (1 : Int32))] [(.int (1 : Int32))]))
    refine go (fun t kt' => by refine XS.goto X69.here hx rfl (pc0 := 174) (pc' := 178) rfl (hb hby at_174) (by decide) (by decide) ?_; exact kt') ?_
    show Go p e below _ (T69.setTop (mkF m 178 #[.val (.int p0), .val (.int p1), .val (.int p2), .val (.int p3), .val (.ref b1), .val (.ref b25), .val (.int sa), .val (.int sb), .val (.int lw), .val (.int hi), .val (.ref b37), .val (.ref ra56), .val (.int ln), .val (.int (1 : Int32))] [(.int (1 : Int32))]))
    refine go (fun t kt' => by refine XS.istore X69.here hx rfl (hb hby at_178) rfl (l' := #[.val (.int p0), .val (.int p1), .val (.int p2), .val (.int p3), .val (.ref b1), .val (.ref b25), .val (.int sa), .val (.int sb), .val (.int lw), .val (.int hi), .val (.ref b37), .val (.ref ra56), .val (.int ln), .val (.int (1 : Int32))]) rfl ?_; exact kt') ?_
    show Go p e below _ (T69.setTop (mkF m 180 #[.val (.int p0), .val (.int p1), .val (.int p2), .val (.int p3), .val (.ref b1), .val (.ref b25), .val (.int sa), .val (.int sb), .val (.int lw), .val (.int hi), .val (.ref b37), .val (.ref ra56), .val (.int ln), .val (.int (1 : Int32))] []))
    refine go (fun t kt' => by refine XS.iload X69.here hx rfl (hb hby at_180) rfl ?_; exact kt') ?_
    show Go p e below _ (T69.setTop (mkF m 182 #[.val (.int p0), .val (.int p1), .val (.int p2), .val (.int p3), .val (.ref b1), .val (.ref b25), .val (.int sa), .val (.int sb), .val (.int lw), .val (.int hi), .val (.ref b37), .val (.ref ra56), .val (.int ln), .val (.int (1 : Int32))] [(.int (1 : Int32))]))
    have c182_73 : ¬ ((1 : Int32) = (0 : Int32)) := by decide
    refine go (fun t kt' => by refine XS.ifNo X69.here hx rfl (hb hby at_182) rfl ((if0 _ _).trans (feq c182_73).1) ?_; exact kt') ?_
    show Go p e below _ (T69.setTop (mkF m 185 #[.val (.int p0), .val (.int p1), .val (.int p2), .val (.int p3), .val (.ref b1), .val (.ref b25), .val (.int sa), .val (.int sb), .val (.int lw), .val (.int hi), .val (.ref b37), .val (.ref ra56), .val (.int ln), .val (.int (1 : Int32))] []))
    refine go (fun t kt' => by refine XS.iload X69.here hx rfl (hb hby at_185) rfl ?_; exact kt') ?_
    show Go p e below _ (T69.setTop (mkF m 187 #[.val (.int p0), .val (.int p1), .val (.int p2), .val (.int p3), .val (.ref b1), .val (.ref b25), .val (.int sa), .val (.int sb), .val (.int lw), .val (.int hi), .val (.ref b37), .val (.ref ra56), .val (.int ln), .val (.int (1 : Int32))] [(.int ln)]))
    refine go (fun t kt' => by refine XS.iconst X69.here hx rfl (hb hby at_187) ?_; exact kt') ?_
    show Go p e below _ (T69.setTop (mkF m 188 #[.val (.int p0), .val (.int p1), .val (.int p2), .val (.int p3), .val (.ref b1), .val (.ref b25), .val (.int sa), .val (.int sb), .val (.int lw), .val (.int hi), .val (.ref b37), .val (.ref ra56), .val (.int ln), .val (.int (1 : Int32))] [(.int (1 : Int32)), (.int ln)]))
    have c188_74 : ¬ (1 : Int32) < ln := own_skip c156_72 (by decide)
    refine go (fun t kt' => by refine XS.icmpYes X69.here hx rfl (pc0 := 188) (pc' := 207) rfl (hb hby at_188) rfl (flt c188_74).2.2.2 (by decide) (by decide) ?_; exact kt') ?_
    show Go p e below _ (T69.setTop (mkF m 207 #[.val (.int p0), .val (.int p1), .val (.int p2), .val (.int p3), .val (.ref b1), .val (.ref b25), .val (.int sa), .val (.int sb), .val (.int lw), .val (.int hi), .val (.ref b37), .val (.ref ra56), .val (.int ln), .val (.int (1 : Int32))] []))
    refine go (fun t kt' => by refine XS.iconst X69.here hx rfl (hb hby at_207) ?_; exact kt') ?_
    show Go p e below _ (T69.setTop (mkF m 208 #[.val (.int p0), .val (.int p1), .val (.int p2), .val (.int p3), .val (.ref b1), .val (.ref b25), .val (.int sa), .val (.int sb), .val (.int lw), .val (.int hi), .val (.ref b37), .val (.ref ra56), .val (.int ln), .val (.int (1 : Int32))] [(.int (1 : Int32))]))
    refine go (fun t kt' => by refine XS.goto X69.here hx rfl (pc0 := 208) (pc' := 212) rfl (hb hby at_208) (by decide) (by decide) ?_; exact kt') ?_
    show Go p e below _ (T69.setTop (mkF m 212 #[.val (.int p0), .val (.int p1), .val (.int p2), .val (.int p3), .val (.ref b1), .val (.ref b25), .val (.int sa), .val (.int sb), .val (.int lw), .val (.int hi), .val (.ref b37), .val (.ref ra56), .val (.int ln), .val (.int (1 : Int32))] [(.int (1 : Int32))]))
    refine go (fun t kt' => by refine XS.istore X69.here hx rfl (hb hby at_212) rfl (l' := #[.val (.int p0), .val (.int p1), .val (.int p2), .val (.int p3), .val (.ref b1), .val (.ref b25), .val (.int sa), .val (.int sb), .val (.int lw), .val (.int hi), .val (.ref b37), .val (.ref ra56), .val (.int ln), .val (.int (1 : Int32))]) rfl ?_; exact kt') ?_
    show Go p e below _ (T69.setTop (mkF m 214 #[.val (.int p0), .val (.int p1), .val (.int p2), .val (.int p3), .val (.ref b1), .val (.ref b25), .val (.int sa), .val (.int sb), .val (.int lw), .val (.int hi), .val (.ref b37), .val (.ref ra56), .val (.int ln), .val (.int (1 : Int32))] []))
    refine go (fun t kt' => by refine XS.iload X69.here hx rfl (hb hby at_214) rfl ?_; exact kt') ?_
    show Go p e below _ (T69.setTop (mkF m 216 #[.val (.int p0), .val (.int p1), .val (.int p2), .val (.int p3), .val (.ref b1), .val (.ref b25), .val (.int sa), .val (.int sb), .val (.int lw), .val (.int hi), .val (.ref b37), .val (.ref ra56), .val (.int ln), .val (.int (1 : Int32))] [(.int (1 : Int32))]))
    have c216_75 : ¬ ((1 : Int32) = (0 : Int32)) := by decide
    refine go (fun t kt' => by refine XS.ifNo X69.here hx rfl (hb hby at_216) rfl ((if0 _ _).trans (feq c216_75).1) ?_; exact kt') ?_
    show Go p e below _ (T69.setTop (mkF m 219 #[.val (.int p0), .val (.int p1), .val (.int p2), .val (.int p3), .val (.ref b1), .val (.ref b25), .val (.int sa), .val (.int sb), .val (.int lw), .val (.int hi), .val (.ref b37), .val (.ref ra56), .val (.int ln), .val (.int (1 : Int32))] []))
    refine go (fun t kt' => by refine XS.iload X69.here hx rfl (hb hby at_219) rfl ?_; exact kt') ?_
    show Go p e below _ (T69.setTop (mkF m 221 #[.val (.int p0), .val (.int p1), .val (.int p2), .val (.int p3), .val (.ref b1), .val (.ref b25), .val (.int sa), .val (.int sb), .val (.int lw), .val (.int hi), .val (.ref b37), .val (.ref ra56), .val (.int ln), .val (.int (1 : Int32))] [(.int ln)]))
    refine go (fun t kt' => by refine XS.iconst X69.here hx rfl (hb hby at_221) ?_; exact kt') ?_
    show Go p e below _ (T69.setTop (mkF m 222 #[.val (.int p0), .val (.int p1), .val (.int p2), .val (.int p3), .val (.ref b1), .val (.ref b25), .val (.int sa), .val (.int sb), .val (.int lw), .val (.int hi), .val (.ref b37), .val (.ref ra56), .val (.int ln), .val (.int (1 : Int32))] [(.int (2 : Int32)), (.int ln)]))
    have c222_76 : ¬ (2 : Int32) < ln := own_skip c156_72 (by decide)
    refine go (fun t kt' => by refine XS.icmpYes X69.here hx rfl (pc0 := 222) (pc' := 241) rfl (hb hby at_222) rfl (flt c222_76).2.2.2 (by decide) (by decide) ?_; exact kt') ?_
    show Go p e below _ (T69.setTop (mkF m 241 #[.val (.int p0), .val (.int p1), .val (.int p2), .val (.int p3), .val (.ref b1), .val (.ref b25), .val (.int sa), .val (.int sb), .val (.int lw), .val (.int hi), .val (.ref b37), .val (.ref ra56), .val (.int ln), .val (.int (1 : Int32))] []))
    refine go (fun t kt' => by refine XS.iconst X69.here hx rfl (hb hby at_241) ?_; exact kt') ?_
    show Go p e below _ (T69.setTop (mkF m 242 #[.val (.int p0), .val (.int p1), .val (.int p2), .val (.int p3), .val (.ref b1), .val (.ref b25), .val (.int sa), .val (.int sb), .val (.int lw), .val (.int hi), .val (.ref b37), .val (.ref ra56), .val (.int ln), .val (.int (1 : Int32))] [(.int (1 : Int32))]))
    refine go (fun t kt' => by refine XS.goto X69.here hx rfl (pc0 := 242) (pc' := 246) rfl (hb hby at_242) (by decide) (by decide) ?_; exact kt') ?_
    show Go p e below _ (T69.setTop (mkF m 246 #[.val (.int p0), .val (.int p1), .val (.int p2), .val (.int p3), .val (.ref b1), .val (.ref b25), .val (.int sa), .val (.int sb), .val (.int lw), .val (.int hi), .val (.ref b37), .val (.ref ra56), .val (.int ln), .val (.int (1 : Int32))] [(.int (1 : Int32))]))
    refine go (fun t kt' => by refine XS.istore X69.here hx rfl (hb hby at_246) rfl (l' := #[.val (.int p0), .val (.int p1), .val (.int p2), .val (.int p3), .val (.ref b1), .val (.ref b25), .val (.int sa), .val (.int sb), .val (.int lw), .val (.int hi), .val (.ref b37), .val (.ref ra56), .val (.int ln), .val (.int (1 : Int32))]) rfl ?_; exact kt') ?_
    show Go p e below _ (T69.setTop (mkF m 248 #[.val (.int p0), .val (.int p1), .val (.int p2), .val (.int p3), .val (.ref b1), .val (.ref b25), .val (.int sa), .val (.int sb), .val (.int lw), .val (.int hi), .val (.ref b37), .val (.ref ra56), .val (.int ln), .val (.int (1 : Int32))] []))
    refine go (fun t kt' => by refine XS.iload X69.here hx rfl (hb hby at_248) rfl ?_; exact kt') ?_
    show Go p e below _ (T69.setTop (mkF m 250 #[.val (.int p0), .val (.int p1), .val (.int p2), .val (.int p3), .val (.ref b1), .val (.ref b25), .val (.int sa), .val (.int sb), .val (.int lw), .val (.int hi), .val (.ref b37), .val (.ref ra56), .val (.int ln), .val (.int (1 : Int32))] [(.int (1 : Int32))]))
    have c250_77 : ¬ ((1 : Int32) = (0 : Int32)) := by decide
    refine go (fun t kt' => by refine XS.ifNo X69.here hx rfl (hb hby at_250) rfl ((if0 _ _).trans (feq c250_77).1) ?_; exact kt') ?_
    show Go p e below _ (T69.setTop (mkF m 253 #[.val (.int p0), .val (.int p1), .val (.int p2), .val (.int p3), .val (.ref b1), .val (.ref b25), .val (.int sa), .val (.int sb), .val (.int lw), .val (.int hi), .val (.ref b37), .val (.ref ra56), .val (.int ln), .val (.int (1 : Int32))] []))
    refine go (fun t kt' => by refine XS.iload X69.here hx rfl (hb hby at_253) rfl ?_; exact kt') ?_
    show Go p e below _ (T69.setTop (mkF m 255 #[.val (.int p0), .val (.int p1), .val (.int p2), .val (.int p3), .val (.ref b1), .val (.ref b25), .val (.int sa), .val (.int sb), .val (.int lw), .val (.int hi), .val (.ref b37), .val (.ref ra56), .val (.int ln), .val (.int (1 : Int32))] [(.int ln)]))
    refine go (fun t kt' => by refine XS.iconst X69.here hx rfl (hb hby at_255) ?_; exact kt') ?_
    show Go p e below _ (T69.setTop (mkF m 256 #[.val (.int p0), .val (.int p1), .val (.int p2), .val (.int p3), .val (.ref b1), .val (.ref b25), .val (.int sa), .val (.int sb), .val (.int lw), .val (.int hi), .val (.ref b37), .val (.ref ra56), .val (.int ln), .val (.int (1 : Int32))] [(.int (3 : Int32)), (.int ln)]))
    have c256_78 : ¬ (3 : Int32) < ln := own_skip c156_72 (by decide)
    refine go (fun t kt' => by refine XS.icmpYes X69.here hx rfl (pc0 := 256) (pc' := 275) rfl (hb hby at_256) rfl (flt c256_78).2.2.2 (by decide) (by decide) ?_; exact kt') ?_
    show Go p e below _ (T69.setTop (mkF m 275 #[.val (.int p0), .val (.int p1), .val (.int p2), .val (.int p3), .val (.ref b1), .val (.ref b25), .val (.int sa), .val (.int sb), .val (.int lw), .val (.int hi), .val (.ref b37), .val (.ref ra56), .val (.int ln), .val (.int (1 : Int32))] []))
    refine go (fun t kt' => by refine XS.iconst X69.here hx rfl (hb hby at_275) ?_; exact kt') ?_
    show Go p e below _ (T69.setTop (mkF m 276 #[.val (.int p0), .val (.int p1), .val (.int p2), .val (.int p3), .val (.ref b1), .val (.ref b25), .val (.int sa), .val (.int sb), .val (.int lw), .val (.int hi), .val (.ref b37), .val (.ref ra56), .val (.int ln), .val (.int (1 : Int32))] [(.int (1 : Int32))]))
    refine go (fun t kt' => by refine XS.goto X69.here hx rfl (pc0 := 276) (pc' := 280) rfl (hb hby at_276) (by decide) (by decide) ?_; exact kt') ?_
    show Go p e below _ (T69.setTop (mkF m 280 #[.val (.int p0), .val (.int p1), .val (.int p2), .val (.int p3), .val (.ref b1), .val (.ref b25), .val (.int sa), .val (.int sb), .val (.int lw), .val (.int hi), .val (.ref b37), .val (.ref ra56), .val (.int ln), .val (.int (1 : Int32))] [(.int (1 : Int32))]))
    refine go (fun t kt' => by refine XS.istore X69.here hx rfl (hb hby at_280) rfl (l' := #[.val (.int p0), .val (.int p1), .val (.int p2), .val (.int p3), .val (.ref b1), .val (.ref b25), .val (.int sa), .val (.int sb), .val (.int lw), .val (.int hi), .val (.ref b37), .val (.ref ra56), .val (.int ln), .val (.int (1 : Int32))]) rfl ?_; exact kt') ?_
    show Go p e below _ (T69.setTop (mkF m 282 #[.val (.int p0), .val (.int p1), .val (.int p2), .val (.int p3), .val (.ref b1), .val (.ref b25), .val (.int sa), .val (.int sb), .val (.int lw), .val (.int hi), .val (.ref b37), .val (.ref ra56), .val (.int ln), .val (.int (1 : Int32))] []))
    refine go (fun t kt' => by refine XS.iload X69.here hx rfl (hb hby at_282) rfl ?_; exact kt') ?_
    show Go p e below _ (T69.setTop (mkF m 284 #[.val (.int p0), .val (.int p1), .val (.int p2), .val (.int p3), .val (.ref b1), .val (.ref b25), .val (.int sa), .val (.int sb), .val (.int lw), .val (.int hi), .val (.ref b37), .val (.ref ra56), .val (.int ln), .val (.int (1 : Int32))] [(.int (1 : Int32))]))
    refine goOutW X69 hS56 (by rw [e69]; exact Nat.le_refl _) (by rw [hh, e69]; exact ((CHr.keep f50_K all0 hH).trans hC56).trans (CHv.at (s := s) (vm0 := T56.vm) X69 hZ hEL hC56.1)) (fun h => by rw [Bd.returns] at h; cases h) hlk (fun fs hr => retN X69 hx (t := .boolean) Bd.returns (by simp) (hb hby at_284) hr) (by decide) (by decide) ?_
    rw [e69]
    exact ⟨rfl, N69⟩
  · skip
    refine go (fun t kt' => by refine XS.ifNo X69.here hx rfl (hb hby at_156) rfl ((if0 _ _).trans (tlt (Decidable.not_not.mp c156_72)).2.2.2) ?_; exact kt') ?_
    show Go p e below _ (T69.setTop (mkF m 159 #[.val (.int p0), .val (.int p1), .val (.int p2), .val (.int p3), .val (.ref b1), .val (.ref b25), .val (.int sa), .val (.int sb), .val (.int lw), .val (.int hi), .val (.ref b37), .val (.ref ra56), .val (.int ln), .val (.int (1 : Int32))] []))
    have hJ0 : 0 < NN := own_gt hln' (q := (0 : Int32)) rfl (Decidable.not_not.mp c156_72)
    refine go (fun t kt' => by refine XS.aload X69.here hx rfl (hb hby at_159) rfl rfl ?_; exact kt') ?_
    show Go p e below _ (T69.setTop (mkF m 161 #[.val (.int p0), .val (.int p1), .val (.int p2), .val (.int p3), .val (.ref b1), .val (.ref b25), .val (.int sa), .val (.int sb), .val (.int lw), .val (.int hi), .val (.ref b37), .val (.ref ra56), .val (.int ln), .val (.int (1 : Int32))] [(.ref ra56)]))
    refine go (fun t kt' => by refine XS.iconst X69.here hx rfl (hb hby at_161) ?_; exact kt') ?_
    show Go p e below _ (T69.setTop (mkF m 162 #[.val (.int p0), .val (.int p1), .val (.int p2), .val (.int p3), .val (.ref b1), .val (.ref b25), .val (.int sa), .val (.int sb), .val (.int lw), .val (.int hi), .val (.ref b37), .val (.ref ra56), .val (.int ln), .val (.int (1 : Int32))] [(.int (0 : Int32)), (.ref ra56)]))
    obtain ⟨cq79, kq79, q79a, q79b, q79c⟩ := isOf hZ e69 E56_
    obtain ⟨_, _, ⟨T79, L79, k79, n79⟩, -, X79, ⟨Lc79, hQ79, l79, y79, z79⟩, st79⟩ := X69.virtualBack hx (y := (⟨"java/lang/String", "charAt", "(I)C"⟩ : MethodName)) (z := (⟨"java/lang/String", "charAt", "(I)C"⟩ : MethodName)) hown (mvT hZ (hw _ (List.mem_of_getElem? (i := 122) rfl))) (mvT hZ (hw _ (List.mem_of_getElem? (i := 123) rfl))) (notFace_of_selects (args := #[]) (mvT hZ (hw _ (List.mem_of_getElem? (i := 125) rfl)))) (mvT hZ (hw _ (List.mem_of_getElem? (i := 125) rfl))) (mvT hZ (hw _ (List.mem_of_getElem? (i := 124) rfl))) (by decide) (backOf (W := 0) (rm_ca l Z a0 hw [] ra56 (0 : Int32) cs fm kd1 kd2 kd3 kd4 rb56 NN 0 rg56 T56.heap n0 f57_Z HS f58_O E56_ FV56 FC56 VB56 rfl hJ0 hle4) hZ (hw _ (List.mem_of_getElem? (i := 126) rfl)) (hw _ (List.mem_of_getElem? (i := 3) rfl)) (by decide) (by decide)) q79a q79c (g := (mkF m 162 #[.val (.int p0), .val (.int p1), .val (.int p2), .val (.int p3), .val (.ref b1), .val (.ref b25), .val (.int sa), .val (.int sb), .val (.int lw), .val (.int hi), .val (.ref b37), .val (.ref ra56), .val (.int ln), .val (.int (1 : Int32))] [(.int (0 : Int32)), (.ref ra56)])) rfl (by rw [hml]; rfl) (Steps.refl _) (argsL := [(.int (0 : Int32))]) (rest := []) (lenOf pd_22 rfl) rfl (by show 2 * 0 + _ ≤ _; exact Nat.le_of_eq rfl) (hb hby at_162) (fun _ _ => ⟨rfl, e69, (by decide : 6 + 0 ≤ _), (by decide : 24 + 0 ≤ _)⟩)
    dsimp only [Pt.U, Pt.locs, Pt.cells, Pt.slots] at X79 l79 y79 z79 st79 hQ79
    rw [l79, y79, z79] at X79
    obtain ⟨rfl, N79q, e79⟩ := hQ79
    have N79 := Fr.app N69 N79q
    refine go (fun t kt => st79.trans kt) ?_
    show Go p e below _ (T79.setTop (mkF m 165 #[.val (.int p0), .val (.int p1), .val (.int p2), .val (.int p3), .val (.ref b1), .val (.ref b25), .val (.int sa), .val (.int sb), .val (.int lw), .val (.int hi), .val (.ref b37), .val (.ref ra56), .val (.int ln), .val (.int (1 : Int32))] [(.int (rg56 0 &&& (255 : Int32)))]))
    refine go (fun t kt' => by refine XS.aload X79.here hx rfl (hb hby at_165) rfl rfl ?_; exact kt') ?_
    show Go p e below _ (T79.setTop (mkF m 167 #[.val (.int p0), .val (.int p1), .val (.int p2), .val (.int p3), .val (.ref b1), .val (.ref b25), .val (.int sa), .val (.int sb), .val (.int lw), .val (.int hi), .val (.ref b37), .val (.ref ra56), .val (.int ln), .val (.int (1 : Int32))] [(.ref b1), (.int (rg56 0 &&& (255 : Int32)))]))
    refine go (fun t kt' => by refine XS.iload X79.here hx rfl (hb hby at_167) rfl ?_; exact kt') ?_
    show Go p e below _ (T79.setTop (mkF m 169 #[.val (.int p0), .val (.int p1), .val (.int p2), .val (.int p3), .val (.ref b1), .val (.ref b25), .val (.int sa), .val (.int sb), .val (.int lw), .val (.int hi), .val (.ref b37), .val (.ref ra56), .val (.int ln), .val (.int (1 : Int32))] [(.int lw), (.ref b1), (.int (rg56 0 &&& (255 : Int32)))]))
    refine go (fun t kt' => by refine ldCA X79 hx hZ e79 f60_A_b1 (j := lw) (own_in0 hlo hle hJ0) (g := (mkF m 169 #[.val (.int p0), .val (.int p1), .val (.int p2), .val (.int p3), .val (.ref b1), .val (.ref b25), .val (.int sa), .val (.int sb), .val (.int lw), .val (.int hi), .val (.ref b37), .val (.ref ra56), .val (.int ln), .val (.int (1 : Int32))] [(.int lw), (.ref b1), (.int (rg56 0 &&& (255 : Int32)))])) rfl rfl (hb hby at_169) t ?_; exact kt') ?_
    show Go p e below _ (T79.setTop (mkF m 170 #[.val (.int p0), .val (.int p1), .val (.int p2), .val (.int p3), .val (.ref b1), .val (.ref b25), .val (.int sa), .val (.int sb), .val (.int lw), .val (.int hi), .val (.ref b37), .val (.ref ra56), .val (.int ln), .val (.int (1 : Int32))] [(.int (fk (lw).toNatClampNeg)), (.int (rg56 0 &&& (255 : Int32)))]))
    have c170_80 : ¬ (¬ (rg56 0 &&& (255 : Int32)) = (fk (lw).toNatClampNeg)) := not_not_intro (own_chk0 hr hlo hle hg56_ hJ0)
    refine go (fun t kt' => by refine XS.icmpNo X79.here hx rfl (hb hby at_170) rfl (teq (Decidable.not_not.mp c170_80)).2 ?_; exact kt') ?_
    show Go p e below _ (T79.setTop (mkF m 173 #[.val (.int p0), .val (.int p1), .val (.int p2), .val (.int p3), .val (.ref b1), .val (.ref b25), .val (.int sa), .val (.int sb), .val (.int lw), .val (.int hi), .val (.ref b37), .val (.ref ra56), .val (.int ln), .val (.int (1 : Int32))] []))
    refine go (fun t kt' => by refine XS.iconst X79.here hx rfl (hb hby at_173) ?_; exact kt') ?_
    show Go p e below _ (T79.setTop (mkF m 174 #[.val (.int p0), .val (.int p1), .val (.int p2), .val (.int p3), .val (.ref b1), .val (.ref b25), .val (.int sa), .val (.int sb), .val (.int lw), .val (.int hi), .val (.ref b37), .val (.ref ra56), .val (.int ln), .val (.int (1 : Int32))] [(.int (1 : Int32))]))
    refine go (fun t kt' => by refine XS.goto X79.here hx rfl (pc0 := 174) (pc' := 178) rfl (hb hby at_174) (by decide) (by decide) ?_; exact kt') ?_
    show Go p e below _ (T79.setTop (mkF m 178 #[.val (.int p0), .val (.int p1), .val (.int p2), .val (.int p3), .val (.ref b1), .val (.ref b25), .val (.int sa), .val (.int sb), .val (.int lw), .val (.int hi), .val (.ref b37), .val (.ref ra56), .val (.int ln), .val (.int (1 : Int32))] [(.int (1 : Int32))]))
    refine go (fun t kt' => by refine XS.istore X79.here hx rfl (hb hby at_178) rfl (l' := #[.val (.int p0), .val (.int p1), .val (.int p2), .val (.int p3), .val (.ref b1), .val (.ref b25), .val (.int sa), .val (.int sb), .val (.int lw), .val (.int hi), .val (.ref b37), .val (.ref ra56), .val (.int ln), .val (.int (1 : Int32))]) rfl ?_; exact kt') ?_
    show Go p e below _ (T79.setTop (mkF m 180 #[.val (.int p0), .val (.int p1), .val (.int p2), .val (.int p3), .val (.ref b1), .val (.ref b25), .val (.int sa), .val (.int sb), .val (.int lw), .val (.int hi), .val (.ref b37), .val (.ref ra56), .val (.int ln), .val (.int (1 : Int32))] []))
    refine go (fun t kt' => by refine XS.iload X79.here hx rfl (hb hby at_180) rfl ?_; exact kt') ?_
    show Go p e below _ (T79.setTop (mkF m 182 #[.val (.int p0), .val (.int p1), .val (.int p2), .val (.int p3), .val (.ref b1), .val (.ref b25), .val (.int sa), .val (.int sb), .val (.int lw), .val (.int hi), .val (.ref b37), .val (.ref ra56), .val (.int ln), .val (.int (1 : Int32))] [(.int (1 : Int32))]))
    have c182_81 : ¬ ((1 : Int32) = (0 : Int32)) := by decide
    refine go (fun t kt' => by refine XS.ifNo X79.here hx rfl (hb hby at_182) rfl ((if0 _ _).trans (feq c182_81).1) ?_; exact kt') ?_
    show Go p e below _ (T79.setTop (mkF m 185 #[.val (.int p0), .val (.int p1), .val (.int p2), .val (.int p3), .val (.ref b1), .val (.ref b25), .val (.int sa), .val (.int sb), .val (.int lw), .val (.int hi), .val (.ref b37), .val (.ref ra56), .val (.int ln), .val (.int (1 : Int32))] []))
    refine go (fun t kt' => by refine XS.iload X79.here hx rfl (hb hby at_185) rfl ?_; exact kt') ?_
    show Go p e below _ (T79.setTop (mkF m 187 #[.val (.int p0), .val (.int p1), .val (.int p2), .val (.int p3), .val (.ref b1), .val (.ref b25), .val (.int sa), .val (.int sb), .val (.int lw), .val (.int hi), .val (.ref b37), .val (.ref ra56), .val (.int ln), .val (.int (1 : Int32))] [(.int ln)]))
    refine go (fun t kt' => by refine XS.iconst X79.here hx rfl (hb hby at_187) ?_; exact kt') ?_
    show Go p e below _ (T79.setTop (mkF m 188 #[.val (.int p0), .val (.int p1), .val (.int p2), .val (.int p3), .val (.ref b1), .val (.ref b25), .val (.int sa), .val (.int sb), .val (.int lw), .val (.int hi), .val (.ref b37), .val (.ref ra56), .val (.int ln), .val (.int (1 : Int32))] [(.int (1 : Int32)), (.int ln)]))
    by_cases c188_82 : ¬ (1 : Int32) < ln
    · skip
      refine go (fun t kt' => by refine XS.icmpYes X79.here hx rfl (pc0 := 188) (pc' := 207) rfl (hb hby at_188) rfl (flt c188_82).2.2.2 (by decide) (by decide) ?_; exact kt') ?_
      show Go p e below _ (T79.setTop (mkF m 207 #[.val (.int p0), .val (.int p1), .val (.int p2), .val (.int p3), .val (.ref b1), .val (.ref b25), .val (.int sa), .val (.int sb), .val (.int lw), .val (.int hi), .val (.ref b37), .val (.ref ra56), .val (.int ln), .val (.int (1 : Int32))] []))
      refine go (fun t kt' => by refine XS.iconst X79.here hx rfl (hb hby at_207) ?_; exact kt') ?_
      show Go p e below _ (T79.setTop (mkF m 208 #[.val (.int p0), .val (.int p1), .val (.int p2), .val (.int p3), .val (.ref b1), .val (.ref b25), .val (.int sa), .val (.int sb), .val (.int lw), .val (.int hi), .val (.ref b37), .val (.ref ra56), .val (.int ln), .val (.int (1 : Int32))] [(.int (1 : Int32))]))
      refine go (fun t kt' => by refine XS.goto X79.here hx rfl (pc0 := 208) (pc' := 212) rfl (hb hby at_208) (by decide) (by decide) ?_; exact kt') ?_
      show Go p e below _ (T79.setTop (mkF m 212 #[.val (.int p0), .val (.int p1), .val (.int p2), .val (.int p3), .val (.ref b1), .val (.ref b25), .val (.int sa), .val (.int sb), .val (.int lw), .val (.int hi), .val (.ref b37), .val (.ref ra56), .val (.int ln), .val (.int (1 : Int32))] [(.int (1 : Int32))]))
      refine go (fun t kt' => by refine XS.istore X79.here hx rfl (hb hby at_212) rfl (l' := #[.val (.int p0), .val (.int p1), .val (.int p2), .val (.int p3), .val (.ref b1), .val (.ref b25), .val (.int sa), .val (.int sb), .val (.int lw), .val (.int hi), .val (.ref b37), .val (.ref ra56), .val (.int ln), .val (.int (1 : Int32))]) rfl ?_; exact kt') ?_
      show Go p e below _ (T79.setTop (mkF m 214 #[.val (.int p0), .val (.int p1), .val (.int p2), .val (.int p3), .val (.ref b1), .val (.ref b25), .val (.int sa), .val (.int sb), .val (.int lw), .val (.int hi), .val (.ref b37), .val (.ref ra56), .val (.int ln), .val (.int (1 : Int32))] []))
      refine go (fun t kt' => by refine XS.iload X79.here hx rfl (hb hby at_214) rfl ?_; exact kt') ?_
      show Go p e below _ (T79.setTop (mkF m 216 #[.val (.int p0), .val (.int p1), .val (.int p2), .val (.int p3), .val (.ref b1), .val (.ref b25), .val (.int sa), .val (.int sb), .val (.int lw), .val (.int hi), .val (.ref b37), .val (.ref ra56), .val (.int ln), .val (.int (1 : Int32))] [(.int (1 : Int32))]))
      have c216_83 : ¬ ((1 : Int32) = (0 : Int32)) := by decide
      refine go (fun t kt' => by refine XS.ifNo X79.here hx rfl (hb hby at_216) rfl ((if0 _ _).trans (feq c216_83).1) ?_; exact kt') ?_
      show Go p e below _ (T79.setTop (mkF m 219 #[.val (.int p0), .val (.int p1), .val (.int p2), .val (.int p3), .val (.ref b1), .val (.ref b25), .val (.int sa), .val (.int sb), .val (.int lw), .val (.int hi), .val (.ref b37), .val (.ref ra56), .val (.int ln), .val (.int (1 : Int32))] []))
      refine go (fun t kt' => by refine XS.iload X79.here hx rfl (hb hby at_219) rfl ?_; exact kt') ?_
      show Go p e below _ (T79.setTop (mkF m 221 #[.val (.int p0), .val (.int p1), .val (.int p2), .val (.int p3), .val (.ref b1), .val (.ref b25), .val (.int sa), .val (.int sb), .val (.int lw), .val (.int hi), .val (.ref b37), .val (.ref ra56), .val (.int ln), .val (.int (1 : Int32))] [(.int ln)]))
      refine go (fun t kt' => by refine XS.iconst X79.here hx rfl (hb hby at_221) ?_; exact kt') ?_
      show Go p e below _ (T79.setTop (mkF m 222 #[.val (.int p0), .val (.int p1), .val (.int p2), .val (.int p3), .val (.ref b1), .val (.ref b25), .val (.int sa), .val (.int sb), .val (.int lw), .val (.int hi), .val (.ref b37), .val (.ref ra56), .val (.int ln), .val (.int (1 : Int32))] [(.int (2 : Int32)), (.int ln)]))
      have c222_84 : ¬ (2 : Int32) < ln := own_skip c188_82 (by decide)
      refine go (fun t kt' => by refine XS.icmpYes X79.here hx rfl (pc0 := 222) (pc' := 241) rfl (hb hby at_222) rfl (flt c222_84).2.2.2 (by decide) (by decide) ?_; exact kt') ?_
      show Go p e below _ (T79.setTop (mkF m 241 #[.val (.int p0), .val (.int p1), .val (.int p2), .val (.int p3), .val (.ref b1), .val (.ref b25), .val (.int sa), .val (.int sb), .val (.int lw), .val (.int hi), .val (.ref b37), .val (.ref ra56), .val (.int ln), .val (.int (1 : Int32))] []))
      refine go (fun t kt' => by refine XS.iconst X79.here hx rfl (hb hby at_241) ?_; exact kt') ?_
      show Go p e below _ (T79.setTop (mkF m 242 #[.val (.int p0), .val (.int p1), .val (.int p2), .val (.int p3), .val (.ref b1), .val (.ref b25), .val (.int sa), .val (.int sb), .val (.int lw), .val (.int hi), .val (.ref b37), .val (.ref ra56), .val (.int ln), .val (.int (1 : Int32))] [(.int (1 : Int32))]))
      refine go (fun t kt' => by refine XS.goto X79.here hx rfl (pc0 := 242) (pc' := 246) rfl (hb hby at_242) (by decide) (by decide) ?_; exact kt') ?_
      show Go p e below _ (T79.setTop (mkF m 246 #[.val (.int p0), .val (.int p1), .val (.int p2), .val (.int p3), .val (.ref b1), .val (.ref b25), .val (.int sa), .val (.int sb), .val (.int lw), .val (.int hi), .val (.ref b37), .val (.ref ra56), .val (.int ln), .val (.int (1 : Int32))] [(.int (1 : Int32))]))
      refine go (fun t kt' => by refine XS.istore X79.here hx rfl (hb hby at_246) rfl (l' := #[.val (.int p0), .val (.int p1), .val (.int p2), .val (.int p3), .val (.ref b1), .val (.ref b25), .val (.int sa), .val (.int sb), .val (.int lw), .val (.int hi), .val (.ref b37), .val (.ref ra56), .val (.int ln), .val (.int (1 : Int32))]) rfl ?_; exact kt') ?_
      show Go p e below _ (T79.setTop (mkF m 248 #[.val (.int p0), .val (.int p1), .val (.int p2), .val (.int p3), .val (.ref b1), .val (.ref b25), .val (.int sa), .val (.int sb), .val (.int lw), .val (.int hi), .val (.ref b37), .val (.ref ra56), .val (.int ln), .val (.int (1 : Int32))] []))
      refine go (fun t kt' => by refine XS.iload X79.here hx rfl (hb hby at_248) rfl ?_; exact kt') ?_
      show Go p e below _ (T79.setTop (mkF m 250 #[.val (.int p0), .val (.int p1), .val (.int p2), .val (.int p3), .val (.ref b1), .val (.ref b25), .val (.int sa), .val (.int sb), .val (.int lw), .val (.int hi), .val (.ref b37), .val (.ref ra56), .val (.int ln), .val (.int (1 : Int32))] [(.int (1 : Int32))]))
      have c250_85 : ¬ ((1 : Int32) = (0 : Int32)) := by decide
      refine go (fun t kt' => by refine XS.ifNo X79.here hx rfl (hb hby at_250) rfl ((if0 _ _).trans (feq c250_85).1) ?_; exact kt') ?_
      show Go p e below _ (T79.setTop (mkF m 253 #[.val (.int p0), .val (.int p1), .val (.int p2), .val (.int p3), .val (.ref b1), .val (.ref b25), .val (.int sa), .val (.int sb), .val (.int lw), .val (.int hi), .val (.ref b37), .val (.ref ra56), .val (.int ln), .val (.int (1 : Int32))] []))
      refine go (fun t kt' => by refine XS.iload X79.here hx rfl (hb hby at_253) rfl ?_; exact kt') ?_
      show Go p e below _ (T79.setTop (mkF m 255 #[.val (.int p0), .val (.int p1), .val (.int p2), .val (.int p3), .val (.ref b1), .val (.ref b25), .val (.int sa), .val (.int sb), .val (.int lw), .val (.int hi), .val (.ref b37), .val (.ref ra56), .val (.int ln), .val (.int (1 : Int32))] [(.int ln)]))
      refine go (fun t kt' => by refine XS.iconst X79.here hx rfl (hb hby at_255) ?_; exact kt') ?_
      show Go p e below _ (T79.setTop (mkF m 256 #[.val (.int p0), .val (.int p1), .val (.int p2), .val (.int p3), .val (.ref b1), .val (.ref b25), .val (.int sa), .val (.int sb), .val (.int lw), .val (.int hi), .val (.ref b37), .val (.ref ra56), .val (.int ln), .val (.int (1 : Int32))] [(.int (3 : Int32)), (.int ln)]))
      have c256_86 : ¬ (3 : Int32) < ln := own_skip c188_82 (by decide)
      refine go (fun t kt' => by refine XS.icmpYes X79.here hx rfl (pc0 := 256) (pc' := 275) rfl (hb hby at_256) rfl (flt c256_86).2.2.2 (by decide) (by decide) ?_; exact kt') ?_
      show Go p e below _ (T79.setTop (mkF m 275 #[.val (.int p0), .val (.int p1), .val (.int p2), .val (.int p3), .val (.ref b1), .val (.ref b25), .val (.int sa), .val (.int sb), .val (.int lw), .val (.int hi), .val (.ref b37), .val (.ref ra56), .val (.int ln), .val (.int (1 : Int32))] []))
      refine go (fun t kt' => by refine XS.iconst X79.here hx rfl (hb hby at_275) ?_; exact kt') ?_
      show Go p e below _ (T79.setTop (mkF m 276 #[.val (.int p0), .val (.int p1), .val (.int p2), .val (.int p3), .val (.ref b1), .val (.ref b25), .val (.int sa), .val (.int sb), .val (.int lw), .val (.int hi), .val (.ref b37), .val (.ref ra56), .val (.int ln), .val (.int (1 : Int32))] [(.int (1 : Int32))]))
      refine go (fun t kt' => by refine XS.goto X79.here hx rfl (pc0 := 276) (pc' := 280) rfl (hb hby at_276) (by decide) (by decide) ?_; exact kt') ?_
      show Go p e below _ (T79.setTop (mkF m 280 #[.val (.int p0), .val (.int p1), .val (.int p2), .val (.int p3), .val (.ref b1), .val (.ref b25), .val (.int sa), .val (.int sb), .val (.int lw), .val (.int hi), .val (.ref b37), .val (.ref ra56), .val (.int ln), .val (.int (1 : Int32))] [(.int (1 : Int32))]))
      refine go (fun t kt' => by refine XS.istore X79.here hx rfl (hb hby at_280) rfl (l' := #[.val (.int p0), .val (.int p1), .val (.int p2), .val (.int p3), .val (.ref b1), .val (.ref b25), .val (.int sa), .val (.int sb), .val (.int lw), .val (.int hi), .val (.ref b37), .val (.ref ra56), .val (.int ln), .val (.int (1 : Int32))]) rfl ?_; exact kt') ?_
      show Go p e below _ (T79.setTop (mkF m 282 #[.val (.int p0), .val (.int p1), .val (.int p2), .val (.int p3), .val (.ref b1), .val (.ref b25), .val (.int sa), .val (.int sb), .val (.int lw), .val (.int hi), .val (.ref b37), .val (.ref ra56), .val (.int ln), .val (.int (1 : Int32))] []))
      refine go (fun t kt' => by refine XS.iload X79.here hx rfl (hb hby at_282) rfl ?_; exact kt') ?_
      show Go p e below _ (T79.setTop (mkF m 284 #[.val (.int p0), .val (.int p1), .val (.int p2), .val (.int p3), .val (.ref b1), .val (.ref b25), .val (.int sa), .val (.int sb), .val (.int lw), .val (.int hi), .val (.ref b37), .val (.ref ra56), .val (.int ln), .val (.int (1 : Int32))] [(.int (1 : Int32))]))
      refine goOutW X79 hS56 (by rw [e79]; exact Nat.le_refl _) (by rw [hh, e79]; exact ((CHr.keep f50_K all0 hH).trans hC56).trans (CHv.at (s := s) (vm0 := T56.vm) X79 hZ hEL hC56.1)) (fun h => by rw [Bd.returns] at h; cases h) hlk (fun fs hr => retN X79 hx (t := .boolean) Bd.returns (by simp) (hb hby at_284) hr) (by decide) (by decide) ?_
      rw [e79]
      exact ⟨rfl, N79⟩
    · skip
      refine go (fun t kt' => by refine XS.icmpNo X79.here hx rfl (hb hby at_188) rfl (tlt (Decidable.not_not.mp c188_82)).2.2.2 ?_; exact kt') ?_
      show Go p e below _ (T79.setTop (mkF m 191 #[.val (.int p0), .val (.int p1), .val (.int p2), .val (.int p3), .val (.ref b1), .val (.ref b25), .val (.int sa), .val (.int sb), .val (.int lw), .val (.int hi), .val (.ref b37), .val (.ref ra56), .val (.int ln), .val (.int (1 : Int32))] []))
      have hJ1 : 1 < NN := own_gt hln' (q := (1 : Int32)) rfl (Decidable.not_not.mp c188_82)
      refine go (fun t kt' => by refine XS.aload X79.here hx rfl (hb hby at_191) rfl rfl ?_; exact kt') ?_
      show Go p e below _ (T79.setTop (mkF m 193 #[.val (.int p0), .val (.int p1), .val (.int p2), .val (.int p3), .val (.ref b1), .val (.ref b25), .val (.int sa), .val (.int sb), .val (.int lw), .val (.int hi), .val (.ref b37), .val (.ref ra56), .val (.int ln), .val (.int (1 : Int32))] [(.ref ra56)]))
      refine go (fun t kt' => by refine XS.iconst X79.here hx rfl (hb hby at_193) ?_; exact kt') ?_
      show Go p e below _ (T79.setTop (mkF m 194 #[.val (.int p0), .val (.int p1), .val (.int p2), .val (.int p3), .val (.ref b1), .val (.ref b25), .val (.int sa), .val (.int sb), .val (.int lw), .val (.int hi), .val (.ref b37), .val (.ref ra56), .val (.int ln), .val (.int (1 : Int32))] [(.int (1 : Int32)), (.ref ra56)]))
      obtain ⟨cq87, kq87, q87a, q87b, q87c⟩ := isOf hZ e79 E56_
      obtain ⟨_, _, ⟨T87, L87, k87, n87⟩, -, X87, ⟨Lc87, hQ87, l87, y87, z87⟩, st87⟩ := X79.virtualBack hx (y := (⟨"java/lang/String", "charAt", "(I)C"⟩ : MethodName)) (z := (⟨"java/lang/String", "charAt", "(I)C"⟩ : MethodName)) hown (mvT hZ (hw _ (List.mem_of_getElem? (i := 122) rfl))) (mvT hZ (hw _ (List.mem_of_getElem? (i := 123) rfl))) (notFace_of_selects (args := #[]) (mvT hZ (hw _ (List.mem_of_getElem? (i := 125) rfl)))) (mvT hZ (hw _ (List.mem_of_getElem? (i := 125) rfl))) (mvT hZ (hw _ (List.mem_of_getElem? (i := 124) rfl))) (by decide) (backOf (W := 0) (rm_ca l Z a0 hw [] ra56 (1 : Int32) cs fm kd1 kd2 kd3 kd4 rb56 NN 1 rg56 T56.heap n0 f57_Z HS f58_O E56_ FV56 FC56 VB56 rfl hJ1 hle4) hZ (hw _ (List.mem_of_getElem? (i := 126) rfl)) (hw _ (List.mem_of_getElem? (i := 3) rfl)) (by decide) (by decide)) q87a q87c (g := (mkF m 194 #[.val (.int p0), .val (.int p1), .val (.int p2), .val (.int p3), .val (.ref b1), .val (.ref b25), .val (.int sa), .val (.int sb), .val (.int lw), .val (.int hi), .val (.ref b37), .val (.ref ra56), .val (.int ln), .val (.int (1 : Int32))] [(.int (1 : Int32)), (.ref ra56)])) rfl (by rw [hml]; rfl) (Steps.refl _) (argsL := [(.int (1 : Int32))]) (rest := []) (lenOf pd_22 rfl) rfl (by show 2 * 0 + _ ≤ _; exact Nat.le_of_eq rfl) (hb hby at_194) (fun _ _ => ⟨rfl, e79, (by decide : 6 + 0 ≤ _), (by decide : 24 + 0 ≤ _)⟩)
      dsimp only [Pt.U, Pt.locs, Pt.cells, Pt.slots] at X87 l87 y87 z87 st87 hQ87
      rw [l87, y87, z87] at X87
      obtain ⟨rfl, N87q, e87⟩ := hQ87
      have N87 := Fr.app N79 N87q
      refine go (fun t kt => st87.trans kt) ?_
      show Go p e below _ (T87.setTop (mkF m 197 #[.val (.int p0), .val (.int p1), .val (.int p2), .val (.int p3), .val (.ref b1), .val (.ref b25), .val (.int sa), .val (.int sb), .val (.int lw), .val (.int hi), .val (.ref b37), .val (.ref ra56), .val (.int ln), .val (.int (1 : Int32))] [(.int (rg56 1 &&& (255 : Int32)))]))
      refine go (fun t kt' => by refine XS.aload X87.here hx rfl (hb hby at_197) rfl rfl ?_; exact kt') ?_
      show Go p e below _ (T87.setTop (mkF m 199 #[.val (.int p0), .val (.int p1), .val (.int p2), .val (.int p3), .val (.ref b1), .val (.ref b25), .val (.int sa), .val (.int sb), .val (.int lw), .val (.int hi), .val (.ref b37), .val (.ref ra56), .val (.int ln), .val (.int (1 : Int32))] [(.ref b1), (.int (rg56 1 &&& (255 : Int32)))]))
      refine go (fun t kt' => by refine XS.iload X87.here hx rfl (hb hby at_199) rfl ?_; exact kt') ?_
      show Go p e below _ (T87.setTop (mkF m 201 #[.val (.int p0), .val (.int p1), .val (.int p2), .val (.int p3), .val (.ref b1), .val (.ref b25), .val (.int sa), .val (.int sb), .val (.int lw), .val (.int hi), .val (.ref b37), .val (.ref ra56), .val (.int ln), .val (.int (1 : Int32))] [(.int lw), (.ref b1), (.int (rg56 1 &&& (255 : Int32)))]))
      refine go (fun t kt' => by refine XS.iconst X87.here hx rfl (hb hby at_201) ?_; exact kt') ?_
      show Go p e below _ (T87.setTop (mkF m 202 #[.val (.int p0), .val (.int p1), .val (.int p2), .val (.int p3), .val (.ref b1), .val (.ref b25), .val (.int sa), .val (.int sb), .val (.int lw), .val (.int hi), .val (.ref b37), .val (.ref ra56), .val (.int ln), .val (.int (1 : Int32))] [(.int (1 : Int32)), (.int lw), (.ref b1), (.int (rg56 1 &&& (255 : Int32)))]))
      refine go (fun t kt' => by refine XS.iadd X87.here hx rfl (hb hby at_202) rfl ?_; exact kt') ?_
      show Go p e below _ (T87.setTop (mkF m 203 #[.val (.int p0), .val (.int p1), .val (.int p2), .val (.int p3), .val (.ref b1), .val (.ref b25), .val (.int sa), .val (.int sb), .val (.int lw), .val (.int hi), .val (.ref b37), .val (.ref ra56), .val (.int ln), .val (.int (1 : Int32))] [(.int (lw + (1 : Int32))), (.ref b1), (.int (rg56 1 &&& (255 : Int32)))]))
      refine go (fun t kt' => by refine ldCA X87 hx hZ e87 f60_A_b1 (j := (lw + (1 : Int32))) (own_ink' (q := (1 : Int32)) (k := 1) rfl hlo hle hJ1) (g := (mkF m 203 #[.val (.int p0), .val (.int p1), .val (.int p2), .val (.int p3), .val (.ref b1), .val (.ref b25), .val (.int sa), .val (.int sb), .val (.int lw), .val (.int hi), .val (.ref b37), .val (.ref ra56), .val (.int ln), .val (.int (1 : Int32))] [(.int (lw + (1 : Int32))), (.ref b1), (.int (rg56 1 &&& (255 : Int32)))])) rfl rfl (hb hby at_203) t ?_; exact kt') ?_
      show Go p e below _ (T87.setTop (mkF m 204 #[.val (.int p0), .val (.int p1), .val (.int p2), .val (.int p3), .val (.ref b1), .val (.ref b25), .val (.int sa), .val (.int sb), .val (.int lw), .val (.int hi), .val (.ref b37), .val (.ref ra56), .val (.int ln), .val (.int (1 : Int32))] [(.int (fk ((lw + (1 : Int32))).toNatClampNeg)), (.int (rg56 1 &&& (255 : Int32)))]))
      have c204_88 : ¬ (¬ (rg56 1 &&& (255 : Int32)) = (fk ((lw + (1 : Int32))).toNatClampNeg)) := not_not_intro (own_chkk (q := (1 : Int32)) (k := 1) rfl hr hlo hle hg56_ hJ1)
      refine go (fun t kt' => by refine XS.icmpNo X87.here hx rfl (hb hby at_204) rfl (teq (Decidable.not_not.mp c204_88)).2 ?_; exact kt') ?_
      show Go p e below _ (T87.setTop (mkF m 207 #[.val (.int p0), .val (.int p1), .val (.int p2), .val (.int p3), .val (.ref b1), .val (.ref b25), .val (.int sa), .val (.int sb), .val (.int lw), .val (.int hi), .val (.ref b37), .val (.ref ra56), .val (.int ln), .val (.int (1 : Int32))] []))
      refine go (fun t kt' => by refine XS.iconst X87.here hx rfl (hb hby at_207) ?_; exact kt') ?_
      show Go p e below _ (T87.setTop (mkF m 208 #[.val (.int p0), .val (.int p1), .val (.int p2), .val (.int p3), .val (.ref b1), .val (.ref b25), .val (.int sa), .val (.int sb), .val (.int lw), .val (.int hi), .val (.ref b37), .val (.ref ra56), .val (.int ln), .val (.int (1 : Int32))] [(.int (1 : Int32))]))
      refine go (fun t kt' => by refine XS.goto X87.here hx rfl (pc0 := 208) (pc' := 212) rfl (hb hby at_208) (by decide) (by decide) ?_; exact kt') ?_
      show Go p e below _ (T87.setTop (mkF m 212 #[.val (.int p0), .val (.int p1), .val (.int p2), .val (.int p3), .val (.ref b1), .val (.ref b25), .val (.int sa), .val (.int sb), .val (.int lw), .val (.int hi), .val (.ref b37), .val (.ref ra56), .val (.int ln), .val (.int (1 : Int32))] [(.int (1 : Int32))]))
      refine go (fun t kt' => by refine XS.istore X87.here hx rfl (hb hby at_212) rfl (l' := #[.val (.int p0), .val (.int p1), .val (.int p2), .val (.int p3), .val (.ref b1), .val (.ref b25), .val (.int sa), .val (.int sb), .val (.int lw), .val (.int hi), .val (.ref b37), .val (.ref ra56), .val (.int ln), .val (.int (1 : Int32))]) rfl ?_; exact kt') ?_
      show Go p e below _ (T87.setTop (mkF m 214 #[.val (.int p0), .val (.int p1), .val (.int p2), .val (.int p3), .val (.ref b1), .val (.ref b25), .val (.int sa), .val (.int sb), .val (.int lw), .val (.int hi), .val (.ref b37), .val (.ref ra56), .val (.int ln), .val (.int (1 : Int32))] []))
      refine go (fun t kt' => by refine XS.iload X87.here hx rfl (hb hby at_214) rfl ?_; exact kt') ?_
      show Go p e below _ (T87.setTop (mkF m 216 #[.val (.int p0), .val (.int p1), .val (.int p2), .val (.int p3), .val (.ref b1), .val (.ref b25), .val (.int sa), .val (.int sb), .val (.int lw), .val (.int hi), .val (.ref b37), .val (.ref ra56), .val (.int ln), .val (.int (1 : Int32))] [(.int (1 : Int32))]))
      have c216_89 : ¬ ((1 : Int32) = (0 : Int32)) := by decide
      refine go (fun t kt' => by refine XS.ifNo X87.here hx rfl (hb hby at_216) rfl ((if0 _ _).trans (feq c216_89).1) ?_; exact kt') ?_
      show Go p e below _ (T87.setTop (mkF m 219 #[.val (.int p0), .val (.int p1), .val (.int p2), .val (.int p3), .val (.ref b1), .val (.ref b25), .val (.int sa), .val (.int sb), .val (.int lw), .val (.int hi), .val (.ref b37), .val (.ref ra56), .val (.int ln), .val (.int (1 : Int32))] []))
      refine go (fun t kt' => by refine XS.iload X87.here hx rfl (hb hby at_219) rfl ?_; exact kt') ?_
      show Go p e below _ (T87.setTop (mkF m 221 #[.val (.int p0), .val (.int p1), .val (.int p2), .val (.int p3), .val (.ref b1), .val (.ref b25), .val (.int sa), .val (.int sb), .val (.int lw), .val (.int hi), .val (.ref b37), .val (.ref ra56), .val (.int ln), .val (.int (1 : Int32))] [(.int ln)]))
      refine go (fun t kt' => by refine XS.iconst X87.here hx rfl (hb hby at_221) ?_; exact kt') ?_
      show Go p e below _ (T87.setTop (mkF m 222 #[.val (.int p0), .val (.int p1), .val (.int p2), .val (.int p3), .val (.ref b1), .val (.ref b25), .val (.int sa), .val (.int sb), .val (.int lw), .val (.int hi), .val (.ref b37), .val (.ref ra56), .val (.int ln), .val (.int (1 : Int32))] [(.int (2 : Int32)), (.int ln)]))
      by_cases c222_90 : ¬ (2 : Int32) < ln
      · skip
        refine go (fun t kt' => by refine XS.icmpYes X87.here hx rfl (pc0 := 222) (pc' := 241) rfl (hb hby at_222) rfl (flt c222_90).2.2.2 (by decide) (by decide) ?_; exact kt') ?_
        show Go p e below _ (T87.setTop (mkF m 241 #[.val (.int p0), .val (.int p1), .val (.int p2), .val (.int p3), .val (.ref b1), .val (.ref b25), .val (.int sa), .val (.int sb), .val (.int lw), .val (.int hi), .val (.ref b37), .val (.ref ra56), .val (.int ln), .val (.int (1 : Int32))] []))
        refine go (fun t kt' => by refine XS.iconst X87.here hx rfl (hb hby at_241) ?_; exact kt') ?_
        show Go p e below _ (T87.setTop (mkF m 242 #[.val (.int p0), .val (.int p1), .val (.int p2), .val (.int p3), .val (.ref b1), .val (.ref b25), .val (.int sa), .val (.int sb), .val (.int lw), .val (.int hi), .val (.ref b37), .val (.ref ra56), .val (.int ln), .val (.int (1 : Int32))] [(.int (1 : Int32))]))
        refine go (fun t kt' => by refine XS.goto X87.here hx rfl (pc0 := 242) (pc' := 246) rfl (hb hby at_242) (by decide) (by decide) ?_; exact kt') ?_
        show Go p e below _ (T87.setTop (mkF m 246 #[.val (.int p0), .val (.int p1), .val (.int p2), .val (.int p3), .val (.ref b1), .val (.ref b25), .val (.int sa), .val (.int sb), .val (.int lw), .val (.int hi), .val (.ref b37), .val (.ref ra56), .val (.int ln), .val (.int (1 : Int32))] [(.int (1 : Int32))]))
        refine go (fun t kt' => by refine XS.istore X87.here hx rfl (hb hby at_246) rfl (l' := #[.val (.int p0), .val (.int p1), .val (.int p2), .val (.int p3), .val (.ref b1), .val (.ref b25), .val (.int sa), .val (.int sb), .val (.int lw), .val (.int hi), .val (.ref b37), .val (.ref ra56), .val (.int ln), .val (.int (1 : Int32))]) rfl ?_; exact kt') ?_
        show Go p e below _ (T87.setTop (mkF m 248 #[.val (.int p0), .val (.int p1), .val (.int p2), .val (.int p3), .val (.ref b1), .val (.ref b25), .val (.int sa), .val (.int sb), .val (.int lw), .val (.int hi), .val (.ref b37), .val (.ref ra56), .val (.int ln), .val (.int (1 : Int32))] []))
        refine go (fun t kt' => by refine XS.iload X87.here hx rfl (hb hby at_248) rfl ?_; exact kt') ?_
        show Go p e below _ (T87.setTop (mkF m 250 #[.val (.int p0), .val (.int p1), .val (.int p2), .val (.int p3), .val (.ref b1), .val (.ref b25), .val (.int sa), .val (.int sb), .val (.int lw), .val (.int hi), .val (.ref b37), .val (.ref ra56), .val (.int ln), .val (.int (1 : Int32))] [(.int (1 : Int32))]))
        have c250_91 : ¬ ((1 : Int32) = (0 : Int32)) := by decide
        refine go (fun t kt' => by refine XS.ifNo X87.here hx rfl (hb hby at_250) rfl ((if0 _ _).trans (feq c250_91).1) ?_; exact kt') ?_
        show Go p e below _ (T87.setTop (mkF m 253 #[.val (.int p0), .val (.int p1), .val (.int p2), .val (.int p3), .val (.ref b1), .val (.ref b25), .val (.int sa), .val (.int sb), .val (.int lw), .val (.int hi), .val (.ref b37), .val (.ref ra56), .val (.int ln), .val (.int (1 : Int32))] []))
        refine go (fun t kt' => by refine XS.iload X87.here hx rfl (hb hby at_253) rfl ?_; exact kt') ?_
        show Go p e below _ (T87.setTop (mkF m 255 #[.val (.int p0), .val (.int p1), .val (.int p2), .val (.int p3), .val (.ref b1), .val (.ref b25), .val (.int sa), .val (.int sb), .val (.int lw), .val (.int hi), .val (.ref b37), .val (.ref ra56), .val (.int ln), .val (.int (1 : Int32))] [(.int ln)]))
        refine go (fun t kt' => by refine XS.iconst X87.here hx rfl (hb hby at_255) ?_; exact kt') ?_
        show Go p e below _ (T87.setTop (mkF m 256 #[.val (.int p0), .val (.int p1), .val (.int p2), .val (.int p3), .val (.ref b1), .val (.ref b25), .val (.int sa), .val (.int sb), .val (.int lw), .val (.int hi), .val (.ref b37), .val (.ref ra56), .val (.int ln), .val (.int (1 : Int32))] [(.int (3 : Int32)), (.int ln)]))
        have c256_92 : ¬ (3 : Int32) < ln := own_skip c222_90 (by decide)
        refine go (fun t kt' => by refine XS.icmpYes X87.here hx rfl (pc0 := 256) (pc' := 275) rfl (hb hby at_256) rfl (flt c256_92).2.2.2 (by decide) (by decide) ?_; exact kt') ?_
        show Go p e below _ (T87.setTop (mkF m 275 #[.val (.int p0), .val (.int p1), .val (.int p2), .val (.int p3), .val (.ref b1), .val (.ref b25), .val (.int sa), .val (.int sb), .val (.int lw), .val (.int hi), .val (.ref b37), .val (.ref ra56), .val (.int ln), .val (.int (1 : Int32))] []))
        refine go (fun t kt' => by refine XS.iconst X87.here hx rfl (hb hby at_275) ?_; exact kt') ?_
        show Go p e below _ (T87.setTop (mkF m 276 #[.val (.int p0), .val (.int p1), .val (.int p2), .val (.int p3), .val (.ref b1), .val (.ref b25), .val (.int sa), .val (.int sb), .val (.int lw), .val (.int hi), .val (.ref b37), .val (.ref ra56), .val (.int ln), .val (.int (1 : Int32))] [(.int (1 : Int32))]))
        refine go (fun t kt' => by refine XS.goto X87.here hx rfl (pc0 := 276) (pc' := 280) rfl (hb hby at_276) (by decide) (by decide) ?_; exact kt') ?_
        show Go p e below _ (T87.setTop (mkF m 280 #[.val (.int p0), .val (.int p1), .val (.int p2), .val (.int p3), .val (.ref b1), .val (.ref b25), .val (.int sa), .val (.int sb), .val (.int lw), .val (.int hi), .val (.ref b37), .val (.ref ra56), .val (.int ln), .val (.int (1 : Int32))] [(.int (1 : Int32))]))
        refine go (fun t kt' => by refine XS.istore X87.here hx rfl (hb hby at_280) rfl (l' := #[.val (.int p0), .val (.int p1), .val (.int p2), .val (.int p3), .val (.ref b1), .val (.ref b25), .val (.int sa), .val (.int sb), .val (.int lw), .val (.int hi), .val (.ref b37), .val (.ref ra56), .val (.int ln), .val (.int (1 : Int32))]) rfl ?_; exact kt') ?_
        show Go p e below _ (T87.setTop (mkF m 282 #[.val (.int p0), .val (.int p1), .val (.int p2), .val (.int p3), .val (.ref b1), .val (.ref b25), .val (.int sa), .val (.int sb), .val (.int lw), .val (.int hi), .val (.ref b37), .val (.ref ra56), .val (.int ln), .val (.int (1 : Int32))] []))
        refine go (fun t kt' => by refine XS.iload X87.here hx rfl (hb hby at_282) rfl ?_; exact kt') ?_
        show Go p e below _ (T87.setTop (mkF m 284 #[.val (.int p0), .val (.int p1), .val (.int p2), .val (.int p3), .val (.ref b1), .val (.ref b25), .val (.int sa), .val (.int sb), .val (.int lw), .val (.int hi), .val (.ref b37), .val (.ref ra56), .val (.int ln), .val (.int (1 : Int32))] [(.int (1 : Int32))]))
        refine goOutW X87 hS56 (by rw [e87]; exact Nat.le_refl _) (by rw [hh, e87]; exact ((CHr.keep f50_K all0 hH).trans hC56).trans (CHv.at (s := s) (vm0 := T56.vm) X87 hZ hEL hC56.1)) (fun h => by rw [Bd.returns] at h; cases h) hlk (fun fs hr => retN X87 hx (t := .boolean) Bd.returns (by simp) (hb hby at_284) hr) (by decide) (by decide) ?_
        rw [e87]
        exact ⟨rfl, N87⟩
      · skip
        refine go (fun t kt' => by refine XS.icmpNo X87.here hx rfl (hb hby at_222) rfl (tlt (Decidable.not_not.mp c222_90)).2.2.2 ?_; exact kt') ?_
        show Go p e below _ (T87.setTop (mkF m 225 #[.val (.int p0), .val (.int p1), .val (.int p2), .val (.int p3), .val (.ref b1), .val (.ref b25), .val (.int sa), .val (.int sb), .val (.int lw), .val (.int hi), .val (.ref b37), .val (.ref ra56), .val (.int ln), .val (.int (1 : Int32))] []))
        have hJ2 : 2 < NN := own_gt hln' (q := (2 : Int32)) rfl (Decidable.not_not.mp c222_90)
        refine go (fun t kt' => by refine XS.aload X87.here hx rfl (hb hby at_225) rfl rfl ?_; exact kt') ?_
        show Go p e below _ (T87.setTop (mkF m 227 #[.val (.int p0), .val (.int p1), .val (.int p2), .val (.int p3), .val (.ref b1), .val (.ref b25), .val (.int sa), .val (.int sb), .val (.int lw), .val (.int hi), .val (.ref b37), .val (.ref ra56), .val (.int ln), .val (.int (1 : Int32))] [(.ref ra56)]))
        refine go (fun t kt' => by refine XS.iconst X87.here hx rfl (hb hby at_227) ?_; exact kt') ?_
        show Go p e below _ (T87.setTop (mkF m 228 #[.val (.int p0), .val (.int p1), .val (.int p2), .val (.int p3), .val (.ref b1), .val (.ref b25), .val (.int sa), .val (.int sb), .val (.int lw), .val (.int hi), .val (.ref b37), .val (.ref ra56), .val (.int ln), .val (.int (1 : Int32))] [(.int (2 : Int32)), (.ref ra56)]))
        obtain ⟨cq93, kq93, q93a, q93b, q93c⟩ := isOf hZ e87 E56_
        obtain ⟨_, _, ⟨T93, L93, k93, n93⟩, -, X93, ⟨Lc93, hQ93, l93, y93, z93⟩, st93⟩ := X87.virtualBack hx (y := (⟨"java/lang/String", "charAt", "(I)C"⟩ : MethodName)) (z := (⟨"java/lang/String", "charAt", "(I)C"⟩ : MethodName)) hown (mvT hZ (hw _ (List.mem_of_getElem? (i := 122) rfl))) (mvT hZ (hw _ (List.mem_of_getElem? (i := 123) rfl))) (notFace_of_selects (args := #[]) (mvT hZ (hw _ (List.mem_of_getElem? (i := 125) rfl)))) (mvT hZ (hw _ (List.mem_of_getElem? (i := 125) rfl))) (mvT hZ (hw _ (List.mem_of_getElem? (i := 124) rfl))) (by decide) (backOf (W := 0) (rm_ca l Z a0 hw [] ra56 (2 : Int32) cs fm kd1 kd2 kd3 kd4 rb56 NN 2 rg56 T56.heap n0 f57_Z HS f58_O E56_ FV56 FC56 VB56 rfl hJ2 hle4) hZ (hw _ (List.mem_of_getElem? (i := 126) rfl)) (hw _ (List.mem_of_getElem? (i := 3) rfl)) (by decide) (by decide)) q93a q93c (g := (mkF m 228 #[.val (.int p0), .val (.int p1), .val (.int p2), .val (.int p3), .val (.ref b1), .val (.ref b25), .val (.int sa), .val (.int sb), .val (.int lw), .val (.int hi), .val (.ref b37), .val (.ref ra56), .val (.int ln), .val (.int (1 : Int32))] [(.int (2 : Int32)), (.ref ra56)])) rfl (by rw [hml]; rfl) (Steps.refl _) (argsL := [(.int (2 : Int32))]) (rest := []) (lenOf pd_22 rfl) rfl (by show 2 * 0 + _ ≤ _; exact Nat.le_of_eq rfl) (hb hby at_228) (fun _ _ => ⟨rfl, e87, (by decide : 6 + 0 ≤ _), (by decide : 24 + 0 ≤ _)⟩)
        dsimp only [Pt.U, Pt.locs, Pt.cells, Pt.slots] at X93 l93 y93 z93 st93 hQ93
        rw [l93, y93, z93] at X93
        obtain ⟨rfl, N93q, e93⟩ := hQ93
        have N93 := Fr.app N87 N93q
        refine go (fun t kt => st93.trans kt) ?_
        show Go p e below _ (T93.setTop (mkF m 231 #[.val (.int p0), .val (.int p1), .val (.int p2), .val (.int p3), .val (.ref b1), .val (.ref b25), .val (.int sa), .val (.int sb), .val (.int lw), .val (.int hi), .val (.ref b37), .val (.ref ra56), .val (.int ln), .val (.int (1 : Int32))] [(.int (rg56 2 &&& (255 : Int32)))]))
        refine go (fun t kt' => by refine XS.aload X93.here hx rfl (hb hby at_231) rfl rfl ?_; exact kt') ?_
        show Go p e below _ (T93.setTop (mkF m 233 #[.val (.int p0), .val (.int p1), .val (.int p2), .val (.int p3), .val (.ref b1), .val (.ref b25), .val (.int sa), .val (.int sb), .val (.int lw), .val (.int hi), .val (.ref b37), .val (.ref ra56), .val (.int ln), .val (.int (1 : Int32))] [(.ref b1), (.int (rg56 2 &&& (255 : Int32)))]))
        refine go (fun t kt' => by refine XS.iload X93.here hx rfl (hb hby at_233) rfl ?_; exact kt') ?_
        show Go p e below _ (T93.setTop (mkF m 235 #[.val (.int p0), .val (.int p1), .val (.int p2), .val (.int p3), .val (.ref b1), .val (.ref b25), .val (.int sa), .val (.int sb), .val (.int lw), .val (.int hi), .val (.ref b37), .val (.ref ra56), .val (.int ln), .val (.int (1 : Int32))] [(.int lw), (.ref b1), (.int (rg56 2 &&& (255 : Int32)))]))
        refine go (fun t kt' => by refine XS.iconst X93.here hx rfl (hb hby at_235) ?_; exact kt') ?_
        show Go p e below _ (T93.setTop (mkF m 236 #[.val (.int p0), .val (.int p1), .val (.int p2), .val (.int p3), .val (.ref b1), .val (.ref b25), .val (.int sa), .val (.int sb), .val (.int lw), .val (.int hi), .val (.ref b37), .val (.ref ra56), .val (.int ln), .val (.int (1 : Int32))] [(.int (2 : Int32)), (.int lw), (.ref b1), (.int (rg56 2 &&& (255 : Int32)))]))
        refine go (fun t kt' => by refine XS.iadd X93.here hx rfl (hb hby at_236) rfl ?_; exact kt') ?_
        show Go p e below _ (T93.setTop (mkF m 237 #[.val (.int p0), .val (.int p1), .val (.int p2), .val (.int p3), .val (.ref b1), .val (.ref b25), .val (.int sa), .val (.int sb), .val (.int lw), .val (.int hi), .val (.ref b37), .val (.ref ra56), .val (.int ln), .val (.int (1 : Int32))] [(.int (lw + (2 : Int32))), (.ref b1), (.int (rg56 2 &&& (255 : Int32)))]))
        refine go (fun t kt' => by refine ldCA X93 hx hZ e93 f60_A_b1 (j := (lw + (2 : Int32))) (own_ink' (q := (2 : Int32)) (k := 2) rfl hlo hle hJ2) (g := (mkF m 237 #[.val (.int p0), .val (.int p1), .val (.int p2), .val (.int p3), .val (.ref b1), .val (.ref b25), .val (.int sa), .val (.int sb), .val (.int lw), .val (.int hi), .val (.ref b37), .val (.ref ra56), .val (.int ln), .val (.int (1 : Int32))] [(.int (lw + (2 : Int32))), (.ref b1), (.int (rg56 2 &&& (255 : Int32)))])) rfl rfl (hb hby at_237) t ?_; exact kt') ?_
        show Go p e below _ (T93.setTop (mkF m 238 #[.val (.int p0), .val (.int p1), .val (.int p2), .val (.int p3), .val (.ref b1), .val (.ref b25), .val (.int sa), .val (.int sb), .val (.int lw), .val (.int hi), .val (.ref b37), .val (.ref ra56), .val (.int ln), .val (.int (1 : Int32))] [(.int (fk ((lw + (2 : Int32))).toNatClampNeg)), (.int (rg56 2 &&& (255 : Int32)))]))
        have c238_94 : ¬ (¬ (rg56 2 &&& (255 : Int32)) = (fk ((lw + (2 : Int32))).toNatClampNeg)) := not_not_intro (own_chkk (q := (2 : Int32)) (k := 2) rfl hr hlo hle hg56_ hJ2)
        refine go (fun t kt' => by refine XS.icmpNo X93.here hx rfl (hb hby at_238) rfl (teq (Decidable.not_not.mp c238_94)).2 ?_; exact kt') ?_
        show Go p e below _ (T93.setTop (mkF m 241 #[.val (.int p0), .val (.int p1), .val (.int p2), .val (.int p3), .val (.ref b1), .val (.ref b25), .val (.int sa), .val (.int sb), .val (.int lw), .val (.int hi), .val (.ref b37), .val (.ref ra56), .val (.int ln), .val (.int (1 : Int32))] []))
        refine go (fun t kt' => by refine XS.iconst X93.here hx rfl (hb hby at_241) ?_; exact kt') ?_
        show Go p e below _ (T93.setTop (mkF m 242 #[.val (.int p0), .val (.int p1), .val (.int p2), .val (.int p3), .val (.ref b1), .val (.ref b25), .val (.int sa), .val (.int sb), .val (.int lw), .val (.int hi), .val (.ref b37), .val (.ref ra56), .val (.int ln), .val (.int (1 : Int32))] [(.int (1 : Int32))]))
        refine go (fun t kt' => by refine XS.goto X93.here hx rfl (pc0 := 242) (pc' := 246) rfl (hb hby at_242) (by decide) (by decide) ?_; exact kt') ?_
        show Go p e below _ (T93.setTop (mkF m 246 #[.val (.int p0), .val (.int p1), .val (.int p2), .val (.int p3), .val (.ref b1), .val (.ref b25), .val (.int sa), .val (.int sb), .val (.int lw), .val (.int hi), .val (.ref b37), .val (.ref ra56), .val (.int ln), .val (.int (1 : Int32))] [(.int (1 : Int32))]))
        refine go (fun t kt' => by refine XS.istore X93.here hx rfl (hb hby at_246) rfl (l' := #[.val (.int p0), .val (.int p1), .val (.int p2), .val (.int p3), .val (.ref b1), .val (.ref b25), .val (.int sa), .val (.int sb), .val (.int lw), .val (.int hi), .val (.ref b37), .val (.ref ra56), .val (.int ln), .val (.int (1 : Int32))]) rfl ?_; exact kt') ?_
        show Go p e below _ (T93.setTop (mkF m 248 #[.val (.int p0), .val (.int p1), .val (.int p2), .val (.int p3), .val (.ref b1), .val (.ref b25), .val (.int sa), .val (.int sb), .val (.int lw), .val (.int hi), .val (.ref b37), .val (.ref ra56), .val (.int ln), .val (.int (1 : Int32))] []))
        refine go (fun t kt' => by refine XS.iload X93.here hx rfl (hb hby at_248) rfl ?_; exact kt') ?_
        show Go p e below _ (T93.setTop (mkF m 250 #[.val (.int p0), .val (.int p1), .val (.int p2), .val (.int p3), .val (.ref b1), .val (.ref b25), .val (.int sa), .val (.int sb), .val (.int lw), .val (.int hi), .val (.ref b37), .val (.ref ra56), .val (.int ln), .val (.int (1 : Int32))] [(.int (1 : Int32))]))
        have c250_95 : ¬ ((1 : Int32) = (0 : Int32)) := by decide
        refine go (fun t kt' => by refine XS.ifNo X93.here hx rfl (hb hby at_250) rfl ((if0 _ _).trans (feq c250_95).1) ?_; exact kt') ?_
        show Go p e below _ (T93.setTop (mkF m 253 #[.val (.int p0), .val (.int p1), .val (.int p2), .val (.int p3), .val (.ref b1), .val (.ref b25), .val (.int sa), .val (.int sb), .val (.int lw), .val (.int hi), .val (.ref b37), .val (.ref ra56), .val (.int ln), .val (.int (1 : Int32))] []))
        refine go (fun t kt' => by refine XS.iload X93.here hx rfl (hb hby at_253) rfl ?_; exact kt') ?_
        show Go p e below _ (T93.setTop (mkF m 255 #[.val (.int p0), .val (.int p1), .val (.int p2), .val (.int p3), .val (.ref b1), .val (.ref b25), .val (.int sa), .val (.int sb), .val (.int lw), .val (.int hi), .val (.ref b37), .val (.ref ra56), .val (.int ln), .val (.int (1 : Int32))] [(.int ln)]))
        refine go (fun t kt' => by refine XS.iconst X93.here hx rfl (hb hby at_255) ?_; exact kt') ?_
        show Go p e below _ (T93.setTop (mkF m 256 #[.val (.int p0), .val (.int p1), .val (.int p2), .val (.int p3), .val (.ref b1), .val (.ref b25), .val (.int sa), .val (.int sb), .val (.int lw), .val (.int hi), .val (.ref b37), .val (.ref ra56), .val (.int ln), .val (.int (1 : Int32))] [(.int (3 : Int32)), (.int ln)]))
        by_cases c256_96 : ¬ (3 : Int32) < ln
        · skip
          refine go (fun t kt' => by refine XS.icmpYes X93.here hx rfl (pc0 := 256) (pc' := 275) rfl (hb hby at_256) rfl (flt c256_96).2.2.2 (by decide) (by decide) ?_; exact kt') ?_
          show Go p e below _ (T93.setTop (mkF m 275 #[.val (.int p0), .val (.int p1), .val (.int p2), .val (.int p3), .val (.ref b1), .val (.ref b25), .val (.int sa), .val (.int sb), .val (.int lw), .val (.int hi), .val (.ref b37), .val (.ref ra56), .val (.int ln), .val (.int (1 : Int32))] []))
          refine go (fun t kt' => by refine XS.iconst X93.here hx rfl (hb hby at_275) ?_; exact kt') ?_
          show Go p e below _ (T93.setTop (mkF m 276 #[.val (.int p0), .val (.int p1), .val (.int p2), .val (.int p3), .val (.ref b1), .val (.ref b25), .val (.int sa), .val (.int sb), .val (.int lw), .val (.int hi), .val (.ref b37), .val (.ref ra56), .val (.int ln), .val (.int (1 : Int32))] [(.int (1 : Int32))]))
          refine go (fun t kt' => by refine XS.goto X93.here hx rfl (pc0 := 276) (pc' := 280) rfl (hb hby at_276) (by decide) (by decide) ?_; exact kt') ?_
          show Go p e below _ (T93.setTop (mkF m 280 #[.val (.int p0), .val (.int p1), .val (.int p2), .val (.int p3), .val (.ref b1), .val (.ref b25), .val (.int sa), .val (.int sb), .val (.int lw), .val (.int hi), .val (.ref b37), .val (.ref ra56), .val (.int ln), .val (.int (1 : Int32))] [(.int (1 : Int32))]))
          refine go (fun t kt' => by refine XS.istore X93.here hx rfl (hb hby at_280) rfl (l' := #[.val (.int p0), .val (.int p1), .val (.int p2), .val (.int p3), .val (.ref b1), .val (.ref b25), .val (.int sa), .val (.int sb), .val (.int lw), .val (.int hi), .val (.ref b37), .val (.ref ra56), .val (.int ln), .val (.int (1 : Int32))]) rfl ?_; exact kt') ?_
          show Go p e below _ (T93.setTop (mkF m 282 #[.val (.int p0), .val (.int p1), .val (.int p2), .val (.int p3), .val (.ref b1), .val (.ref b25), .val (.int sa), .val (.int sb), .val (.int lw), .val (.int hi), .val (.ref b37), .val (.ref ra56), .val (.int ln), .val (.int (1 : Int32))] []))
          refine go (fun t kt' => by refine XS.iload X93.here hx rfl (hb hby at_282) rfl ?_; exact kt') ?_
          show Go p e below _ (T93.setTop (mkF m 284 #[.val (.int p0), .val (.int p1), .val (.int p2), .val (.int p3), .val (.ref b1), .val (.ref b25), .val (.int sa), .val (.int sb), .val (.int lw), .val (.int hi), .val (.ref b37), .val (.ref ra56), .val (.int ln), .val (.int (1 : Int32))] [(.int (1 : Int32))]))
          refine goOutW X93 hS56 (by rw [e93]; exact Nat.le_refl _) (by rw [hh, e93]; exact ((CHr.keep f50_K all0 hH).trans hC56).trans (CHv.at (s := s) (vm0 := T56.vm) X93 hZ hEL hC56.1)) (fun h => by rw [Bd.returns] at h; cases h) hlk (fun fs hr => retN X93 hx (t := .boolean) Bd.returns (by simp) (hb hby at_284) hr) (by decide) (by decide) ?_
          rw [e93]
          exact ⟨rfl, N93⟩
        · skip
          refine go (fun t kt' => by refine XS.icmpNo X93.here hx rfl (hb hby at_256) rfl (tlt (Decidable.not_not.mp c256_96)).2.2.2 ?_; exact kt') ?_
          show Go p e below _ (T93.setTop (mkF m 259 #[.val (.int p0), .val (.int p1), .val (.int p2), .val (.int p3), .val (.ref b1), .val (.ref b25), .val (.int sa), .val (.int sb), .val (.int lw), .val (.int hi), .val (.ref b37), .val (.ref ra56), .val (.int ln), .val (.int (1 : Int32))] []))
          have hJ3 : 3 < NN := own_gt hln' (q := (3 : Int32)) rfl (Decidable.not_not.mp c256_96)
          refine go (fun t kt' => by refine XS.aload X93.here hx rfl (hb hby at_259) rfl rfl ?_; exact kt') ?_
          show Go p e below _ (T93.setTop (mkF m 261 #[.val (.int p0), .val (.int p1), .val (.int p2), .val (.int p3), .val (.ref b1), .val (.ref b25), .val (.int sa), .val (.int sb), .val (.int lw), .val (.int hi), .val (.ref b37), .val (.ref ra56), .val (.int ln), .val (.int (1 : Int32))] [(.ref ra56)]))
          refine go (fun t kt' => by refine XS.iconst X93.here hx rfl (hb hby at_261) ?_; exact kt') ?_
          show Go p e below _ (T93.setTop (mkF m 262 #[.val (.int p0), .val (.int p1), .val (.int p2), .val (.int p3), .val (.ref b1), .val (.ref b25), .val (.int sa), .val (.int sb), .val (.int lw), .val (.int hi), .val (.ref b37), .val (.ref ra56), .val (.int ln), .val (.int (1 : Int32))] [(.int (3 : Int32)), (.ref ra56)]))
          obtain ⟨cq97, kq97, q97a, q97b, q97c⟩ := isOf hZ e93 E56_
          obtain ⟨_, _, ⟨T97, L97, k97, n97⟩, -, X97, ⟨Lc97, hQ97, l97, y97, z97⟩, st97⟩ := X93.virtualBack hx (y := (⟨"java/lang/String", "charAt", "(I)C"⟩ : MethodName)) (z := (⟨"java/lang/String", "charAt", "(I)C"⟩ : MethodName)) hown (mvT hZ (hw _ (List.mem_of_getElem? (i := 122) rfl))) (mvT hZ (hw _ (List.mem_of_getElem? (i := 123) rfl))) (notFace_of_selects (args := #[]) (mvT hZ (hw _ (List.mem_of_getElem? (i := 125) rfl)))) (mvT hZ (hw _ (List.mem_of_getElem? (i := 125) rfl))) (mvT hZ (hw _ (List.mem_of_getElem? (i := 124) rfl))) (by decide) (backOf (W := 0) (rm_ca l Z a0 hw [] ra56 (3 : Int32) cs fm kd1 kd2 kd3 kd4 rb56 NN 3 rg56 T56.heap n0 f57_Z HS f58_O E56_ FV56 FC56 VB56 rfl hJ3 hle4) hZ (hw _ (List.mem_of_getElem? (i := 126) rfl)) (hw _ (List.mem_of_getElem? (i := 3) rfl)) (by decide) (by decide)) q97a q97c (g := (mkF m 262 #[.val (.int p0), .val (.int p1), .val (.int p2), .val (.int p3), .val (.ref b1), .val (.ref b25), .val (.int sa), .val (.int sb), .val (.int lw), .val (.int hi), .val (.ref b37), .val (.ref ra56), .val (.int ln), .val (.int (1 : Int32))] [(.int (3 : Int32)), (.ref ra56)])) rfl (by rw [hml]; rfl) (Steps.refl _) (argsL := [(.int (3 : Int32))]) (rest := []) (lenOf pd_22 rfl) rfl (by show 2 * 0 + _ ≤ _; exact Nat.le_of_eq rfl) (hb hby at_262) (fun _ _ => ⟨rfl, e93, (by decide : 6 + 0 ≤ _), (by decide : 24 + 0 ≤ _)⟩)
          dsimp only [Pt.U, Pt.locs, Pt.cells, Pt.slots] at X97 l97 y97 z97 st97 hQ97
          rw [l97, y97, z97] at X97
          obtain ⟨rfl, N97q, e97⟩ := hQ97
          have N97 := Fr.app N93 N97q
          refine go (fun t kt => st97.trans kt) ?_
          show Go p e below _ (T97.setTop (mkF m 265 #[.val (.int p0), .val (.int p1), .val (.int p2), .val (.int p3), .val (.ref b1), .val (.ref b25), .val (.int sa), .val (.int sb), .val (.int lw), .val (.int hi), .val (.ref b37), .val (.ref ra56), .val (.int ln), .val (.int (1 : Int32))] [(.int (rg56 3 &&& (255 : Int32)))]))
          refine go (fun t kt' => by refine XS.aload X97.here hx rfl (hb hby at_265) rfl rfl ?_; exact kt') ?_
          show Go p e below _ (T97.setTop (mkF m 267 #[.val (.int p0), .val (.int p1), .val (.int p2), .val (.int p3), .val (.ref b1), .val (.ref b25), .val (.int sa), .val (.int sb), .val (.int lw), .val (.int hi), .val (.ref b37), .val (.ref ra56), .val (.int ln), .val (.int (1 : Int32))] [(.ref b1), (.int (rg56 3 &&& (255 : Int32)))]))
          refine go (fun t kt' => by refine XS.iload X97.here hx rfl (hb hby at_267) rfl ?_; exact kt') ?_
          show Go p e below _ (T97.setTop (mkF m 269 #[.val (.int p0), .val (.int p1), .val (.int p2), .val (.int p3), .val (.ref b1), .val (.ref b25), .val (.int sa), .val (.int sb), .val (.int lw), .val (.int hi), .val (.ref b37), .val (.ref ra56), .val (.int ln), .val (.int (1 : Int32))] [(.int lw), (.ref b1), (.int (rg56 3 &&& (255 : Int32)))]))
          refine go (fun t kt' => by refine XS.iconst X97.here hx rfl (hb hby at_269) ?_; exact kt') ?_
          show Go p e below _ (T97.setTop (mkF m 270 #[.val (.int p0), .val (.int p1), .val (.int p2), .val (.int p3), .val (.ref b1), .val (.ref b25), .val (.int sa), .val (.int sb), .val (.int lw), .val (.int hi), .val (.ref b37), .val (.ref ra56), .val (.int ln), .val (.int (1 : Int32))] [(.int (3 : Int32)), (.int lw), (.ref b1), (.int (rg56 3 &&& (255 : Int32)))]))
          refine go (fun t kt' => by refine XS.iadd X97.here hx rfl (hb hby at_270) rfl ?_; exact kt') ?_
          show Go p e below _ (T97.setTop (mkF m 271 #[.val (.int p0), .val (.int p1), .val (.int p2), .val (.int p3), .val (.ref b1), .val (.ref b25), .val (.int sa), .val (.int sb), .val (.int lw), .val (.int hi), .val (.ref b37), .val (.ref ra56), .val (.int ln), .val (.int (1 : Int32))] [(.int (lw + (3 : Int32))), (.ref b1), (.int (rg56 3 &&& (255 : Int32)))]))
          refine go (fun t kt' => by refine ldCA X97 hx hZ e97 f60_A_b1 (j := (lw + (3 : Int32))) (own_ink' (q := (3 : Int32)) (k := 3) rfl hlo hle hJ3) (g := (mkF m 271 #[.val (.int p0), .val (.int p1), .val (.int p2), .val (.int p3), .val (.ref b1), .val (.ref b25), .val (.int sa), .val (.int sb), .val (.int lw), .val (.int hi), .val (.ref b37), .val (.ref ra56), .val (.int ln), .val (.int (1 : Int32))] [(.int (lw + (3 : Int32))), (.ref b1), (.int (rg56 3 &&& (255 : Int32)))])) rfl rfl (hb hby at_271) t ?_; exact kt') ?_
          show Go p e below _ (T97.setTop (mkF m 272 #[.val (.int p0), .val (.int p1), .val (.int p2), .val (.int p3), .val (.ref b1), .val (.ref b25), .val (.int sa), .val (.int sb), .val (.int lw), .val (.int hi), .val (.ref b37), .val (.ref ra56), .val (.int ln), .val (.int (1 : Int32))] [(.int (fk ((lw + (3 : Int32))).toNatClampNeg)), (.int (rg56 3 &&& (255 : Int32)))]))
          have c272_98 : ¬ (¬ (rg56 3 &&& (255 : Int32)) = (fk ((lw + (3 : Int32))).toNatClampNeg)) := not_not_intro (own_chkk (q := (3 : Int32)) (k := 3) rfl hr hlo hle hg56_ hJ3)
          refine go (fun t kt' => by refine XS.icmpNo X97.here hx rfl (hb hby at_272) rfl (teq (Decidable.not_not.mp c272_98)).2 ?_; exact kt') ?_
          show Go p e below _ (T97.setTop (mkF m 275 #[.val (.int p0), .val (.int p1), .val (.int p2), .val (.int p3), .val (.ref b1), .val (.ref b25), .val (.int sa), .val (.int sb), .val (.int lw), .val (.int hi), .val (.ref b37), .val (.ref ra56), .val (.int ln), .val (.int (1 : Int32))] []))
          refine go (fun t kt' => by refine XS.iconst X97.here hx rfl (hb hby at_275) ?_; exact kt') ?_
          show Go p e below _ (T97.setTop (mkF m 276 #[.val (.int p0), .val (.int p1), .val (.int p2), .val (.int p3), .val (.ref b1), .val (.ref b25), .val (.int sa), .val (.int sb), .val (.int lw), .val (.int hi), .val (.ref b37), .val (.ref ra56), .val (.int ln), .val (.int (1 : Int32))] [(.int (1 : Int32))]))
          refine go (fun t kt' => by refine XS.goto X97.here hx rfl (pc0 := 276) (pc' := 280) rfl (hb hby at_276) (by decide) (by decide) ?_; exact kt') ?_
          show Go p e below _ (T97.setTop (mkF m 280 #[.val (.int p0), .val (.int p1), .val (.int p2), .val (.int p3), .val (.ref b1), .val (.ref b25), .val (.int sa), .val (.int sb), .val (.int lw), .val (.int hi), .val (.ref b37), .val (.ref ra56), .val (.int ln), .val (.int (1 : Int32))] [(.int (1 : Int32))]))
          refine go (fun t kt' => by refine XS.istore X97.here hx rfl (hb hby at_280) rfl (l' := #[.val (.int p0), .val (.int p1), .val (.int p2), .val (.int p3), .val (.ref b1), .val (.ref b25), .val (.int sa), .val (.int sb), .val (.int lw), .val (.int hi), .val (.ref b37), .val (.ref ra56), .val (.int ln), .val (.int (1 : Int32))]) rfl ?_; exact kt') ?_
          show Go p e below _ (T97.setTop (mkF m 282 #[.val (.int p0), .val (.int p1), .val (.int p2), .val (.int p3), .val (.ref b1), .val (.ref b25), .val (.int sa), .val (.int sb), .val (.int lw), .val (.int hi), .val (.ref b37), .val (.ref ra56), .val (.int ln), .val (.int (1 : Int32))] []))
          refine go (fun t kt' => by refine XS.iload X97.here hx rfl (hb hby at_282) rfl ?_; exact kt') ?_
          show Go p e below _ (T97.setTop (mkF m 284 #[.val (.int p0), .val (.int p1), .val (.int p2), .val (.int p3), .val (.ref b1), .val (.ref b25), .val (.int sa), .val (.int sb), .val (.int lw), .val (.int hi), .val (.ref b37), .val (.ref ra56), .val (.int ln), .val (.int (1 : Int32))] [(.int (1 : Int32))]))
          refine goOutW X97 hS56 (by rw [e97]; exact Nat.le_refl _) (by rw [hh, e97]; exact ((CHr.keep f50_K all0 hH).trans hC56).trans (CHv.at (s := s) (vm0 := T56.vm) X97 hZ hEL hC56.1)) (fun h => by rw [Bd.returns] at h; cases h) hlk (fun fs hr => retN X97 hx (t := .boolean) Bd.returns (by simp) (hb hby at_284) hr) (by decide) (by decide) ?_
          rw [e97]
          exact ⟨rfl, N97⟩
set_option maxRecDepth 65536 in
set_option maxHeartbeats 40000000 in
theorem comes_1 {Post : Tables → Env → Array Value → State → Outcome → State → Prop} (hpost : ∀ tb e args s v u, (limb_1_1.after args s (.returned v) u = true ∧ limb_1_2.after args s (.returned v) u = true ∧ True) → ReturnedEndW s (.returned v) u (Jvm.fieldLocs frame_1_writes args s ++ Jvm.arrayLocs frame_1_arrays args s ++ Jvm.staticLocs frame_1_statics s) 24 1152 → Post tb e args s (.returned v) u) :
    ArmFor flags0 classFile x code maxLocals ret World_1 tables_1 room_1 Calls_1 rest_1 Pre_1 Post := by
  intro l hfl _ _ p e ha hc hk s m args below hf hA hF happ hP
  obtain ⟨hcalls, hrest, hpre⟩ := hP
  obtain ⟨-, -, -, hnamed, -, -, -, hat⟩ := (Spec.applies_iff hf).mp happ
  obtain ⟨hg, hn⟩ := and_e (Cond.before_iff.mp (show (Jvm.Cond.and given_1 narrow_1).before args s = true from hpre))
  obtain ⟨g1, g2⟩ := and_e hg
  obtain ⟨g3, g4⟩ := and_e g2
  obtain ⟨g5, g6⟩ := and_e g4
  obtain ⟨g7, g8⟩ := and_e g6
  obtain ⟨w0, w1, w2, w3, rfl⟩ : ∃ w0 w1 w2 w3 : Value, args = #[w0, w1, w2, w3] := by
    have hs : args.size = 4 := by simpa [Cond.value, given_1] using g1
    obtain ⟨L⟩ := args
    match L, hs with
    | [w0, w1, w2, w3], _ => exact ⟨w0, w1, w2, w3, rfl⟩
  have hw := fun d (hd : d ∈ tables_1) => atoms_spec (ws := Jvm.Cond.code x code maxLocals ret :: tables_1) hat d (List.mem_cons_of_mem _ hd)
  have hfit : Fit s := fun {y c} hc i hi => by
    obtain ⟨ha, rfl⟩ := Array.getElem?_eq_some_iff.mp hc
    have q := List.all_eq_true.mp ((Array.all_eq_true_iff_forall_mem.mp hF) _ (Array.getElem_mem ha)) i (List.mem_range.mpr hi)
    simpa [Array.getElem?_eq_getElem hi] using q
  obtain ⟨hsets, hown0⟩ := atoms_of _ (rest_1_c_eq ▸ (show rest_1_c.before _ s = true from hrest))
  have hr0 := Cond.before_iff.mp hown0
  obtain ⟨i0, ei0⟩ := is_v g3
  obtain rfl : w0 = (.int i0) := Option.some.inj ei0
  obtain ⟨i1, ei1⟩ := is_v g5
  obtain rfl : w1 = (.int i1) := Option.some.inj ei1
  obtain ⟨i2, ei2⟩ := is_v g7
  obtain rfl : w2 = (.int i2) := Option.some.inj ei2
  obtain ⟨i3, ei3⟩ := is_v g8
  obtain rfl : w3 = (.int i3) := Option.some.inj ei3
  obtain ⟨cs, ecs⟩ := is_v (Cond.before_iff.mp (hsets _ (List.mem_of_getElem? (i := 1) rfl)))
  have S1 := Sta.start ecs (Or.inl (hsets _ (List.mem_of_getElem? (i := 0) rfl)))
  have hcs := own_cs0 ecs (Cond.before_iff.mp (hsets _ (List.mem_of_getElem? (i := 2) rfl)))
  obtain ⟨fm, efm, hfm⟩ := isR_v (Cond.before_iff.mp (hsets _ (List.mem_of_getElem? (i := 8) rfl)))
  have S2 := Sta.start efm (Or.inl (hsets _ (List.mem_of_getElem? (i := 7) rfl)))
  obtain ⟨n2, hn1⟩ := and_e hn
  obtain ⟨n3, hn2⟩ := and_e hn1
  obtain ⟨n1, n4⟩ := and_e hn2
  obtain ⟨kd1, ek1⟩ := exa_v n1
  have SK1 := Sta.start ek1 (Or.inr ⟨(hw _ (List.mem_of_getElem? (i := 46) rfl)), (hw _ (List.mem_of_getElem? (i := 139) rfl))⟩)
  obtain ⟨kd2, ek2⟩ := exa_v n2
  have SK2 := Sta.start ek2 (Or.inr ⟨(hw _ (List.mem_of_getElem? (i := 46) rfl)), (hw _ (List.mem_of_getElem? (i := 47) rfl))⟩)
  obtain ⟨kd3, ek3⟩ := exa_v n3
  have SK3 := Sta.start ek3 (Or.inr ⟨(hw _ (List.mem_of_getElem? (i := 46) rfl)), (hw _ (List.mem_of_getElem? (i := 137) rfl))⟩)
  obtain ⟨kd4, ek4⟩ := exa_v n4
  have SK4 := Sta.start ek4 (Or.inr ⟨(hw _ (List.mem_of_getElem? (i := 46) rfl)), (hw _ (List.mem_of_getElem? (i := 144) rfl))⟩)
  have HS : own_sets s cs fm kd1 kd2 kd3 kd4 := ⟨S1, hcs, S2, hfm, SK1, SK2, SK3, SK4⟩
  have OO := Old.start s
  have hCH : CHv s own_EL s.vm s.heap := CHv.start (own_hel hw) (fun q hq => hcalls.1 q hq) (hsets _ (List.mem_of_getElem? (i := 2) rfl)) (hw _ (List.mem_of_getElem? (i := 19) rfl)) (hw _ (List.mem_of_getElem? (i := 2) rfl))
  obtain ⟨n, o, h1, h2, h3, _, L, rfl, ⟨rfl, N⟩, -, hq⟩ := rm0 l s _ hw tables_1 i0 i1 i2 i3 cs fm kd1 kd2 kd3 kd4 s.heap s.heap.size (Nat.le_refl _) HS OO p e ha hc hk s m _ below hf ((Spec.applies_iff_loose hf).mp happ).1 ⟨rfl, State.Warmed39.refl s, rfl, hCH⟩ trivial
  refine ⟨n, _, h1, h2, h3, hpost _ _ _ _ _ _ ⟨Cond.after_iff.mpr rfl, Cond.after_iff.mpr (eq_i res_at (Term.int_eval (1)) rfl), trivial⟩ ⟨hq.1, hq.2.1, hq.2.2.1, (hq.2.2.2.sift fun y hy => Or.inr (N y hy)).mono (by decide) (by decide)⟩⟩
theorem main_1_1 : Claimed_1_1 := comes_1 fun _ _ _ _ _ _ h hF => ⟨h.1, hF⟩
theorem main_1_2 : Claimed_1_2 := comes_1 fun _ _ _ _ _ _ h hF => ⟨h.2.1, hF⟩
end Jvm.Pilot.@@N@@
namespace Jvm.Pilot.@@N@@
open Jvm Jvm.ClassFile Sem Op Lib Jvm.Free Jvm.Stand Jvm.Pilot.@@N@@.Jvm.D
/-! MADE BY PROGRAM (witnessworld.py) out of the Statement's table words and the real class files: 26 classes; the members and pool entries that the words name. The judged class is class 1, her method 2. -/
namespace start1
open Jvm.ClassFile
def u (s : String) : CpInfo := .utf8 (stringToUtf16 s)
/-- a pool by its gaps: so many unusable entries, then the entry; so many at the end -/
def gap : Nat → List CpInfo → List CpInfo
  | 0, r => r
  | n + 1, r => .unusable :: gap n r
def poolList (es : List (Nat × CpInfo)) (last : Nat) : List CpInfo := es.foldr (fun e r => gap e.1 (e.2 :: r)) (gap last [])
def pool (es : List (Nat × CpInfo)) (last : Nat) : Array CpInfo := ⟨poolList es last⟩
def fileOf (pool : Array CpInfo) (this : Nat) (attrs : Array Attribute := #[]) (ms : Array MethodInfo := #[]) (fl : Nat := 33) (sup : Nat := 0) (ifs : Array Nat := #[]) (fds : Array FieldInfo := #[]) : ClassFile where
  minorVersion := 0
  majorVersion := 65
  constantPool := pool
  accessFlags := fl
  thisClass := this
  superClass := sup
  interfaces := ifs
  fields := fds
  methods := ms
  attributes := attrs
def plain (name : String) (sup : Option ClassId) : Class where
  name := name
  kind := .ordinary
  loader := none
  accessFlags := 33
  super := sup
  interfaces := #[]
  cf := none
  fields := #[]
  methods := #[]
  instanceTypes := #[]
  staticTypes := #[]
  resolved := #[]
  callSites := []
  init := .initialized
  statics := none
  mirror := none

def pool0 : Array CpInfo := pool [(5, u "<init>"), (0, u "()V"), (1, .class_ 10), (1, u "java/lang/Object")] 113

def k0c0 : Code := { maxStack := 0, maxLocals := 1, code := object_method_1_code, exceptionTable := #[], attributes := #[] }
def k0m0 : Method := { name := "<init>", desc := "()V", sig := { parameters := [], returnType := none }, accessFlags := 1, code := some k0c0 }
/-- java/lang/Object -/
def k0 : Class := { plain "java/lang/Object" none with
  accessFlags := 33
  interfaces := #[]
  cf := some (fileOf pool0 8 #[] #[{ accessFlags := 1, nameIndex := 5, descriptorIndex := 6, attributes := #[] }] 33 0 #[] #[])
  fields := #[]
  methods := #[k0m0]
  instanceTypes := #[]
  staticTypes := #[]
  resolved := Array.replicate 124 none
  statics := none }

def pool1 : Array CpInfo := pool [(2, .class_ 4), (1, u "java/lang/Object"), (0, u "<init>"), (0, u "()V"), (0, .fieldref 8 9), (0, .class_ 10), (0, .nameAndType 11 12), (0, u "com/example/backfill/backfill/postgres/SqlLexer$Kind"), (0, u "WORD"), (0, u "Lcom/example/backfill/backfill/postgres/SqlLexer$Kind;"), (0, .fieldref 8 14), (0, .nameAndType 15 12), (0, u "QUOTED_NAME"), (0, .fieldref 8 17), (0, .nameAndType 18 12), (0, u "STRING"), (0, .fieldref 8 20), (0, .nameAndType 21 12), (0, u "SIGN"), (0, .class_ 23), (0, u "java/lang/String"), (0, .methodref 22 25), (0, .nameAndType 5 26), (0, u "([C)V"), (0, .integer 2147483647), (0, .methodref 29 30), (0, .class_ 31), (0, .nameAndType 32 33), (0, u "java/lang/Math"), (0, u "min"), (0, u "(II)I"), (0, .methodref 29 35), (0, .nameAndType 36 33), (0, u "max"), (0, .class_ 38), (0, u "com/example/backfill/backfill/postgres/SqlLexer$Token"), (0, .methodref 40 41), (0, .class_ 42), (0, .nameAndType 43 44), (0, u "com/example/backfill/backfill/postgres/TokenTextPinLaw"), (0, u "kindOf"), (0, u "(I)Lcom/example/backfill/backfill/postgres/SqlLexer$Kind;"), (0, .methodref 37 46), (0, .nameAndType 5 47), (0, u "(Lcom/example/backfill/backfill/postgres/SqlLexer$Kind;Ljava/lang/String;II)V"), (0, .methodref 37 49), (0, .nameAndType 50 51), (0, u "text"), (0, u "()Ljava/lang/String;"), (0, .methodref 22 53), (0, .nameAndType 54 55), (0, u "length"), (0, u "()I"), (0, .methodref 22 57), (0, .nameAndType 58 59), (0, u "charAt"), (0, u "(I)C"), (3, u "law"), (0, u "(IIII)Z")] 9

def k1m0 : Method := { name := "<init>", desc := "()V", sig := { parameters := [], returnType := none }, accessFlags := 1, code := none }
def k1c1 : Code := { maxStack := 2, maxLocals := 2, code := method_2_code, exceptionTable := #[], attributes := #[] }
def k1m1 : Method := { name := "kindOf", desc := "(I)Lcom/example/backfill/backfill/postgres/SqlLexer$Kind;", sig := { parameters := [.int], returnType := some (.object "com/example/backfill/backfill/postgres/SqlLexer$Kind") }, accessFlags := 10, code := some k1c1 }
def k1c2 : Code := { maxStack := 6, maxLocals := 14, code := code, exceptionTable := #[], attributes := #[] }
def k1m2 : Method := { name := "law", desc := "(IIII)Z", sig := { parameters := [.int, .int, .int, .int], returnType := some .boolean }, accessFlags := 9, code := some k1c2 }
/-- com/example/backfill/backfill/postgres/TokenTextPinLaw -/
def k1 : Class := { plain "com/example/backfill/backfill/postgres/TokenTextPinLaw" (some 0) with
  accessFlags := 49
  interfaces := #[]
  cf := some (fileOf pool1 40 #[] #[{ accessFlags := 1, nameIndex := 5, descriptorIndex := 6, attributes := #[] }, { accessFlags := 10, nameIndex := 43, descriptorIndex := 44, attributes := #[] }, { accessFlags := 9, nameIndex := 63, descriptorIndex := 64, attributes := #[] }] 49 2 #[] #[])
  fields := #[]
  methods := #[k1m0, k1m1, k1m2]
  instanceTypes := #[]
  staticTypes := #[]
  resolved := Array.replicate 74 none
  statics := none }

def pool2 : Array CpInfo := pool [(1, .class_ 2), (0, u "java/io/Serializable"), (0, .class_ 4), (0, u "java/lang/Object")] 2

/-- java/io/Serializable -/
def k2 : Class := { plain "java/io/Serializable" (some 0) with
  accessFlags := 1537
  interfaces := #[]
  cf := some (fileOf pool2 1 #[] #[] 1537 3 #[] #[])
  fields := #[]
  methods := #[]
  instanceTypes := #[]
  staticTypes := #[]
  resolved := Array.replicate 7 none
  statics := none }

def pool3 : Array CpInfo := pool [(1, .class_ 2), (0, u "java/lang/Comparable"), (0, .class_ 4), (0, u "java/lang/Object")] 7

/-- java/lang/Comparable -/
def k3 : Class := { plain "java/lang/Comparable" (some 0) with
  accessFlags := 1537
  interfaces := #[]
  cf := some (fileOf pool3 1 #[] #[] 1537 3 #[] #[])
  fields := #[]
  methods := #[]
  instanceTypes := #[]
  staticTypes := #[]
  resolved := Array.replicate 12 none
  statics := none }

def pool4 : Array CpInfo := pool [(2, .class_ 4), (1, u "java/lang/CharSequence"), (42, .class_ 48), (0, u "java/lang/CharSequence$1CodePointIterator"), (10, .class_ 60), (0, u "java/lang/CharSequence$1CharIterator"), (5, .class_ 67), (0, u "java/lang/Object")] 63

/-- java/lang/CharSequence -/
def k4 : Class := { plain "java/lang/CharSequence" (some 0) with
  accessFlags := 1537
  interfaces := #[]
  cf := some (fileOf pool4 2 #[.nestMembers #[47, 59]] #[] 1537 66 #[] #[])
  fields := #[]
  methods := #[]
  instanceTypes := #[]
  staticTypes := #[]
  resolved := Array.replicate 131 none
  statics := none }

def pool5 : Array CpInfo := pool [(1, .class_ 2), (0, u "java/lang/constant/Constable"), (0, .class_ 4), (0, u "java/lang/Object")] 6

/-- java/lang/constant/Constable -/
def k5 : Class := { plain "java/lang/constant/Constable" (some 0) with
  accessFlags := 1537
  interfaces := #[]
  cf := some (fileOf pool5 1 #[] #[] 1537 3 #[] #[])
  fields := #[]
  methods := #[]
  instanceTypes := #[]
  staticTypes := #[]
  resolved := Array.replicate 11 none
  statics := none }

def pool6 : Array CpInfo := pool [(1, .class_ 2), (0, u "java/lang/constant/ConstantDesc"), (0, .class_ 4), (0, u "java/lang/Object")] 32

/-- java/lang/constant/ConstantDesc -/
def k6 : Class := { plain "java/lang/constant/ConstantDesc" (some 0) with
  accessFlags := 1537
  interfaces := #[]
  cf := some (fileOf pool6 1 #[] #[] 1537 3 #[] #[])
  fields := #[]
  methods := #[]
  instanceTypes := #[]
  staticTypes := #[]
  resolved := Array.replicate 37 none
  statics := none }

def pool7 : Array CpInfo := pool [(1, .methodref 2 3), (0, .class_ 4), (0, .nameAndType 5 6), (0, u "java/lang/Object"), (0, u "<init>"), (0, u "()V"), (2, .fieldref 10 11), (0, .class_ 12), (0, .nameAndType 13 14), (0, u "java/lang/String"), (0, u "value"), (0, u "[B"), (0, .fieldref 10 16), (0, .nameAndType 17 18), (0, u "coder"), (0, u "B"), (2, u "hash"), (0, u "I"), (2, u "hashIsZero"), (0, u "Z"), (0, .methodref 10 28), (0, .nameAndType 5 29), (0, u "([CIILjava/lang/Void;)V"), (8, .fieldref 10 39), (0, .nameAndType 40 26), (0, u "COMPACT_STRINGS"), (1, .class_ 44), (1, u "java/lang/StringUTF16"), (0, u "compress"), (1, .methodref 42 48), (0, .nameAndType 49 50), (0, u "coderFromArrayLen"), (0, u "([BI)B"), (56, .class_ 109), (1, u "java/lang/StringLatin1"), (32, u "()Z"), (34, .methodref 42 178), (0, .nameAndType 45 179), (0, u "([CII)[B"), (31, u "([BB)V"), (122, u "()I"), (0, .methodref 10 336), (0, .nameAndType 17 337), (0, u "()B"), (25, u "([BI)C"), (27, u "(II)V"), (35, u "(I)C"), (64, .methodref 10 493), (0, .nameAndType 494 142), (0, u "isLatin1"), (0, .methodref 107 496), (0, .nameAndType 497 363), (0, u "charAt"), (3, u "checkIndex"), (3, .methodref 10 506), (0, .nameAndType 507 334), (0, u "length"), (5, u "checkFromToIndex"), (7, .methodref 10 522), (0, .nameAndType 523 524), (0, u "checkBoundsBeginEnd"), (0, u "(III)V"), (50, .class_ 576), (0, u "java/lang/CharSequence"), (22, u "CASE_INSENSITIVE_ORDER"), (0, u "Ljava/util/Comparator;"), (82, u "substring"), (0, u "(II)Ljava/lang/String;"), (0, .methodref 107 686), (0, .nameAndType 687 688), (0, u "newString"), (0, u "([BII)Ljava/lang/String;"), (321, u "([C)V"), (42, .fieldref 1054 1055), (0, .class_ 1056), (0, .nameAndType 1057 1058), (0, u "jdk/internal/util/Preconditions"), (0, u "SIOOBE_FORMATTER"), (0, u "Ljava/util/function/BiFunction;"), (0, .methodref 1054 1060), (0, .nameAndType 501 1061), (0, u "(IILjava/util/function/BiFunction;)I"), (0, .methodref 1054 1063), (0, .nameAndType 513 1064), (0, u "(IIILjava/util/function/BiFunction;)I"), (36, u "serialPersistentFields"), (0, u "[Ljava/io/ObjectStreamField;"), (0, .class_ 1104), (0, u "java/lang/String$CaseInsensitiveComparator"), (1, .class_ 1107), (0, u "java/io/Serializable"), (0, .class_ 1109), (0, u "java/lang/Comparable"), (0, .class_ 1111), (0, u "java/lang/constant/Constable"), (0, .class_ 1113), (0, u "java/lang/constant/ConstantDesc"), (2, u "serialVersionUID"), (0, u "J"), (3, u "REPL"), (0, u "C"), (2, u "LATIN1"), (1, u "UTF16")] 323

def k7m0 : Method := { name := "<init>", desc := "()V", sig := { parameters := [], returnType := none }, accessFlags := 1, code := none }
def k7c1 : Code := { maxStack := 5, maxLocals := 2, code := jdk_42_method_3_code, exceptionTable := #[], attributes := #[] }
def k7m1 : Method := { name := "<init>", desc := "([C)V", sig := { parameters := [(.array .char)], returnType := none }, accessFlags := 1, code := some k7c1 }
def k7c2 : Code := { maxStack := 2, maxLocals := 1, code := jdk_42_method_54_code, exceptionTable := #[], attributes := #[] }
def k7m2 : Method := { name := "length", desc := "()I", sig := { parameters := [], returnType := some .int }, accessFlags := 1, code := some k7c2 }
def k7c3 : Code := { maxStack := 2, maxLocals := 2, code := jdk_42_method_56_code, exceptionTable := #[], attributes := #[] }
def k7m3 : Method := { name := "charAt", desc := "(I)C", sig := { parameters := [.int], returnType := some .char }, accessFlags := 1, code := some k7c3 }
def k7c4 : Code := { maxStack := 3, maxLocals := 5, code := jdk_42_method_92_code, exceptionTable := #[], attributes := #[] }
def k7m4 : Method := { name := "substring", desc := "(II)Ljava/lang/String;", sig := { parameters := [.int, .int], returnType := some (.object "java/lang/String") }, accessFlags := 1, code := some k7c4 }
def k7c5 : Code := { maxStack := 4, maxLocals := 6, code := jdk_42_method_149_code, exceptionTable := #[], attributes := #[] }
def k7m5 : Method := { name := "<init>", desc := "([CIILjava/lang/Void;)V", sig := { parameters := [(.array .char), .int, .int, (.object "java/lang/Void")], returnType := none }, accessFlags := 2, code := some k7c5 }
def k7c6 : Code := { maxStack := 2, maxLocals := 3, code := jdk_42_method_151_code, exceptionTable := #[], attributes := #[] }
def k7m6 : Method := { name := "<init>", desc := "([BB)V", sig := { parameters := [(.array .byte), .byte], returnType := none }, accessFlags := 0, code := some k7c6 }
def k7c7 : Code := { maxStack := 1, maxLocals := 1, code := jdk_42_method_152_code, exceptionTable := #[], attributes := #[] }
def k7m7 : Method := { name := "coder", desc := "()B", sig := { parameters := [], returnType := some .byte }, accessFlags := 0, code := some k7c7 }
def k7c8 : Code := { maxStack := 1, maxLocals := 1, code := jdk_42_method_154_code, exceptionTable := #[], attributes := #[] }
def k7m8 : Method := { name := "isLatin1", desc := "()Z", sig := { parameters := [], returnType := some .boolean }, accessFlags := 0, code := some k7c8 }
def k7c9 : Code := { maxStack := 3, maxLocals := 2, code := jdk_42_method_155_code, exceptionTable := #[], attributes := #[] }
def k7m9 : Method := { name := "checkIndex", desc := "(II)V", sig := { parameters := [.int, .int], returnType := none }, accessFlags := 8, code := some k7c9 }
def k7c10 : Code := { maxStack := 4, maxLocals := 3, code := jdk_42_method_158_code, exceptionTable := #[], attributes := #[] }
def k7m10 : Method := { name := "checkBoundsBeginEnd", desc := "(III)V", sig := { parameters := [.int, .int, .int], returnType := none }, accessFlags := 8, code := some k7c10 }
/-- java/lang/String -/
def k7 : Class := { plain "java/lang/String" (some 0) with
  accessFlags := 49
  interfaces := #[2, 3, 4, 5, 6]
  cf := some (fileOf pool7 10 #[.nestMembers #[1103]] #[{ accessFlags := 1, nameIndex := 5, descriptorIndex := 6, attributes := #[] }, { accessFlags := 1, nameIndex := 5, descriptorIndex := 1010, attributes := #[] }, { accessFlags := 1, nameIndex := 507, descriptorIndex := 334, attributes := #[] }, { accessFlags := 1, nameIndex := 497, descriptorIndex := 427, attributes := #[] }, { accessFlags := 1, nameIndex := 683, descriptorIndex := 684, attributes := #[] }, { accessFlags := 2, nameIndex := 5, descriptorIndex := 29, attributes := #[] }, { accessFlags := 0, nameIndex := 5, descriptorIndex := 211, attributes := #[] }, { accessFlags := 0, nameIndex := 17, descriptorIndex := 337, attributes := #[] }, { accessFlags := 0, nameIndex := 494, descriptorIndex := 142, attributes := #[] }, { accessFlags := 8, nameIndex := 501, descriptorIndex := 391, attributes := #[] }, { accessFlags := 8, nameIndex := 523, descriptorIndex := 524, attributes := #[] }] 49 2 #[1106, 1108, 575, 1110, 1112] #[{ accessFlags := 18, nameIndex := 13, descriptorIndex := 14, attributes := #[] }, { accessFlags := 18, nameIndex := 17, descriptorIndex := 18, attributes := #[] }, { accessFlags := 2, nameIndex := 21, descriptorIndex := 22, attributes := #[] }, { accessFlags := 2, nameIndex := 25, descriptorIndex := 26, attributes := #[] }, { accessFlags := 26, nameIndex := 1116, descriptorIndex := 1117, attributes := #[] }, { accessFlags := 24, nameIndex := 40, descriptorIndex := 26, attributes := #[] }, { accessFlags := 26, nameIndex := 1101, descriptorIndex := 1102, attributes := #[] }, { accessFlags := 26, nameIndex := 1121, descriptorIndex := 1122, attributes := #[] }, { accessFlags := 25, nameIndex := 599, descriptorIndex := 600, attributes := #[] }, { accessFlags := 24, nameIndex := 1125, descriptorIndex := 18, attributes := #[] }, { accessFlags := 24, nameIndex := 1127, descriptorIndex := 18, attributes := #[] }])
  fields := #[{ name := "value", type := (.array .byte), accessFlags := 18, slot := 0, constantValue := 0 }, { name := "coder", type := .byte, accessFlags := 18, slot := 1, constantValue := 0 }, { name := "hash", type := .int, accessFlags := 2, slot := 2, constantValue := 0 }, { name := "hashIsZero", type := .boolean, accessFlags := 2, slot := 3, constantValue := 0 }, { name := "serialVersionUID", type := .long, accessFlags := 26, slot := 0, constantValue := 0 }, { name := "COMPACT_STRINGS", type := .boolean, accessFlags := 24, slot := 1, constantValue := 0 }, { name := "serialPersistentFields", type := (.array (.object "java/io/ObjectStreamField")), accessFlags := 26, slot := 2, constantValue := 0 }, { name := "REPL", type := .char, accessFlags := 26, slot := 3, constantValue := 0 }, { name := "CASE_INSENSITIVE_ORDER", type := (.object "java/util/Comparator"), accessFlags := 25, slot := 4, constantValue := 0 }, { name := "LATIN1", type := .byte, accessFlags := 24, slot := 5, constantValue := 0 }, { name := "UTF16", type := .byte, accessFlags := 24, slot := 6, constantValue := 0 }]
  methods := #[k7m0, k7m1, k7m2, k7m3, k7m4, k7m5, k7m6, k7m7, k7m8, k7m9, k7m10]
  instanceTypes := #[(.array .byte), .byte, .int, .boolean]
  staticTypes := #[.long, .boolean, (.array (.object "java/io/ObjectStreamField")), .char, (.object "java/util/Comparator"), .byte, .byte]
  resolved := Array.replicate 1451 none
  statics := some 0 }

def pool8 : Array CpInfo := pool [(6, .class_ 8), (1, u "java/lang/Object"), (0, u "<init>"), (0, u "()V"), (1, .class_ 14), (1, u "java/lang/StringUTF16"), (31, u "$assertionsDisabled"), (0, u "Z"), (13, u "HI_BYTE_SHIFT"), (0, u "I"), (2, u "LO_BYTE_SHIFT"), (49, .methodref 12 116), (0, .nameAndType 117 118), (0, u "compress"), (0, u "([CI[BII)I"), (3, u "([CII)[B"), (138, u "coderFromArrayLen"), (0, u "([BI)B"), (106, .class_ 371), (1, u "java/lang/StringUTF16$LinesSpliterator"), (58, u "MAX_LENGTH"), (196, .class_ 628), (0, u "java/lang/StringUTF16$CodePointsSpliterator"), (0, .class_ 630), (0, u "java/lang/StringUTF16$CharsSpliterator")] 4

def k8m0 : Method := { name := "<init>", desc := "()V", sig := { parameters := [], returnType := none }, accessFlags := 0, code := none }
def k8c1 : Code := { maxStack := 2, maxLocals := 2, code := jdk_52_method_15_code, exceptionTable := #[], attributes := #[] }
def k8m1 : Method := { name := "coderFromArrayLen", desc := "([BI)B", sig := { parameters := [(.array .byte), .int], returnType := some .byte }, accessFlags := 8, code := some k8c1 }
def k8c2 : Code := { maxStack := 5, maxLocals := 6, code := jdk_52_method_16_code, exceptionTable := #[], attributes := #[] }
def k8m2 : Method := { name := "compress", desc := "([CII)[B", sig := { parameters := [(.array .char), .int, .int], returnType := some (.array .byte) }, accessFlags := 9, code := some k8c2 }
def k8c3 : Code := { maxStack := 3, maxLocals := 7, code := jdk_52_method_21_code, exceptionTable := #[], attributes := #[] }
def k8m3 : Method := { name := "compress", desc := "([CI[BII)I", sig := { parameters := [(.array .char), .int, (.array .byte), .int, .int], returnType := some .int }, accessFlags := 9, code := some k8c3 }
/-- java/lang/StringUTF16 -/
def k8 : Class := { plain "java/lang/StringUTF16" (some 0) with
  accessFlags := 48
  interfaces := #[]
  cf := some (fileOf pool8 12 #[.nestMembers #[627, 629, 369]] #[{ accessFlags := 0, nameIndex := 9, descriptorIndex := 10, attributes := #[] }, { accessFlags := 8, nameIndex := 261, descriptorIndex := 262, attributes := #[] }, { accessFlags := 9, nameIndex := 117, descriptorIndex := 122, attributes := #[] }, { accessFlags := 9, nameIndex := 117, descriptorIndex := 118, attributes := #[] }] 48 6 #[] #[{ accessFlags := 26, nameIndex := 61, descriptorIndex := 62, attributes := #[] }, { accessFlags := 26, nameIndex := 65, descriptorIndex := 62, attributes := #[] }, { accessFlags := 24, nameIndex := 430, descriptorIndex := 62, attributes := #[] }, { accessFlags := 4120, nameIndex := 46, descriptorIndex := 47, attributes := #[] }])
  fields := #[{ name := "HI_BYTE_SHIFT", type := .int, accessFlags := 26, slot := 0, constantValue := 0 }, { name := "LO_BYTE_SHIFT", type := .int, accessFlags := 26, slot := 1, constantValue := 0 }, { name := "MAX_LENGTH", type := .int, accessFlags := 24, slot := 2, constantValue := 0 }, { name := "$assertionsDisabled", type := .boolean, accessFlags := 4120, slot := 3, constantValue := 0 }]
  methods := #[k8m0, k8m1, k8m2, k8m3]
  instanceTypes := #[]
  staticTypes := #[.int, .int, .int, .boolean]
  resolved := Array.replicate 635 none
  statics := none }

def pool9 : Array CpInfo := pool [(1, .class_ 2), (0, u "java/lang/Math"), (1, .class_ 6), (1, u "java/lang/Object"), (0, u "<init>"), (0, u "()V"), (89, .class_ 100), (1, u "java/lang/Math$RandomNumberGeneratorHolder"), (71, u "negativeZeroFloatBits"), (0, u "J"), (2, u "negativeZeroDoubleBits"), (21, u "max"), (2, u "min"), (43, u "$assertionsDisabled"), (0, u "Z"), (88, u "(II)I"), (2, u "twoToTheDoubleScaleDown"), (0, u "D"), (4, u "twoToTheDoubleScaleUp"), (9, u "E"), (3, u "PI"), (2, u "TAU"), (2, u "DEGREES_TO_RADIANS"), (0, u "RADIANS_TO_DEGREES")] 94

def k9m0 : Method := { name := "<init>", desc := "()V", sig := { parameters := [], returnType := none }, accessFlags := 2, code := none }
def k9c1 : Code := { maxStack := 2, maxLocals := 2, code := jdk_29_method_65_code, exceptionTable := #[], attributes := #[] }
def k9m1 : Method := { name := "max", desc := "(II)I", sig := { parameters := [.int, .int], returnType := some .int }, accessFlags := 9, code := some k9c1 }
def k9c2 : Code := { maxStack := 2, maxLocals := 2, code := jdk_29_method_69_code, exceptionTable := #[], attributes := #[] }
def k9m2 : Method := { name := "min", desc := "(II)I", sig := { parameters := [.int, .int], returnType := some .int }, accessFlags := 9, code := some k9c2 }
/-- java/lang/Math -/
def k9 : Class := { plain "java/lang/Math" (some 0) with
  accessFlags := 49
  interfaces := #[]
  cf := some (fileOf pool9 1 #[.nestMembers #[98]] #[{ accessFlags := 2, nameIndex := 7, descriptorIndex := 8, attributes := #[] }, { accessFlags := 9, nameIndex := 198, descriptorIndex := 335, attributes := #[] }, { accessFlags := 9, nameIndex := 201, descriptorIndex := 335, attributes := #[] }] 49 4 #[] #[{ accessFlags := 25, nameIndex := 354, descriptorIndex := 339, attributes := #[] }, { accessFlags := 25, nameIndex := 358, descriptorIndex := 339, attributes := #[] }, { accessFlags := 25, nameIndex := 361, descriptorIndex := 339, attributes := #[] }, { accessFlags := 26, nameIndex := 364, descriptorIndex := 339, attributes := #[] }, { accessFlags := 26, nameIndex := 365, descriptorIndex := 339, attributes := #[] }, { accessFlags := 26, nameIndex := 172, descriptorIndex := 173, attributes := #[] }, { accessFlags := 26, nameIndex := 176, descriptorIndex := 173, attributes := #[] }, { accessFlags := 8, nameIndex := 344, descriptorIndex := 339, attributes := #[] }, { accessFlags := 8, nameIndex := 338, descriptorIndex := 339, attributes := #[] }, { accessFlags := 4120, nameIndex := 245, descriptorIndex := 246, attributes := #[] }])
  fields := #[{ name := "E", type := .double, accessFlags := 25, slot := 0, constantValue := 0 }, { name := "PI", type := .double, accessFlags := 25, slot := 1, constantValue := 0 }, { name := "TAU", type := .double, accessFlags := 25, slot := 2, constantValue := 0 }, { name := "DEGREES_TO_RADIANS", type := .double, accessFlags := 26, slot := 3, constantValue := 0 }, { name := "RADIANS_TO_DEGREES", type := .double, accessFlags := 26, slot := 4, constantValue := 0 }, { name := "negativeZeroFloatBits", type := .long, accessFlags := 26, slot := 5, constantValue := 0 }, { name := "negativeZeroDoubleBits", type := .long, accessFlags := 26, slot := 6, constantValue := 0 }, { name := "twoToTheDoubleScaleUp", type := .double, accessFlags := 8, slot := 7, constantValue := 0 }, { name := "twoToTheDoubleScaleDown", type := .double, accessFlags := 8, slot := 8, constantValue := 0 }, { name := "$assertionsDisabled", type := .boolean, accessFlags := 4120, slot := 9, constantValue := 0 }]
  methods := #[k9m0, k9m1, k9m2]
  instanceTypes := #[]
  staticTypes := #[.double, .double, .double, .double, .double, .long, .long, .double, .double, .boolean]
  resolved := Array.replicate 460 none
  statics := none }

def pool10 : Array CpInfo := pool [(1, .methodref 2 3), (0, .class_ 4), (0, .nameAndType 5 6), (0, u "java/lang/Object"), (0, u "<init>"), (0, u "()V"), (0, .class_ 8), (0, u "java/lang/Record")] 13

def k10c0 : Code := { maxStack := 1, maxLocals := 1, code := jdk_30_method_1_code, exceptionTable := #[], attributes := #[] }
def k10m0 : Method := { name := "<init>", desc := "()V", sig := { parameters := [], returnType := none }, accessFlags := 4, code := some k10c0 }
/-- java/lang/Record -/
def k10 : Class := { plain "java/lang/Record" (some 0) with
  accessFlags := 1057
  interfaces := #[]
  cf := some (fileOf pool10 7 #[] #[{ accessFlags := 4, nameIndex := 5, descriptorIndex := 6, attributes := #[] }] 1057 2 #[] #[])
  fields := #[]
  methods := #[k10m0]
  instanceTypes := #[]
  staticTypes := #[]
  resolved := Array.replicate 22 none
  statics := none }

def pool11 : Array CpInfo := pool [(1, .methodref 2 3), (0, .class_ 4), (0, .nameAndType 5 6), (0, u "java/lang/Record"), (0, u "<init>"), (0, u "()V"), (0, .fieldref 8 9), (0, .class_ 10), (0, .nameAndType 11 12), (0, u "com/example/backfill/backfill/postgres/SqlLexer$Token"), (0, u "kind"), (0, u "Lcom/example/backfill/backfill/postgres/SqlLexer$Kind;"), (0, .fieldref 8 14), (0, .nameAndType 15 16), (0, u "source"), (0, u "Ljava/lang/String;"), (0, .fieldref 8 18), (0, .nameAndType 19 20), (0, u "start"), (0, u "I"), (0, .fieldref 8 22), (0, .nameAndType 23 20), (0, u "end"), (0, .methodref 25 26), (0, .class_ 27), (0, .nameAndType 28 29), (0, u "java/lang/String"), (0, u "substring"), (0, u "(II)Ljava/lang/String;"), (14, .class_ 46), (1, u "com/example/backfill/backfill/postgres/SqlLexer"), (25, u "text"), (0, u "()Ljava/lang/String;"), (38, u "(Lcom/example/backfill/backfill/postgres/SqlLexer$Kind;Ljava/lang/String;II)V")] 52

def k11c0 : Code := { maxStack := 2, maxLocals := 5, code := prog_76_method_1_code, exceptionTable := #[], attributes := #[] }
def k11m0 : Method := { name := "<init>", desc := "(Lcom/example/backfill/backfill/postgres/SqlLexer$Kind;Ljava/lang/String;II)V", sig := { parameters := [(.object "com/example/backfill/backfill/postgres/SqlLexer$Kind"), (.object "java/lang/String"), .int, .int], returnType := none }, accessFlags := 0, code := some k11c0 }
def k11c1 : Code := { maxStack := 3, maxLocals := 1, code := prog_76_method_2_code, exceptionTable := #[], attributes := #[] }
def k11m1 : Method := { name := "text", desc := "()Ljava/lang/String;", sig := { parameters := [], returnType := some (.object "java/lang/String") }, accessFlags := 0, code := some k11c1 }
/-- com/example/backfill/backfill/postgres/SqlLexer$Token -/
def k11 : Class := { plain "com/example/backfill/backfill/postgres/SqlLexer$Token" (some 10) with
  accessFlags := 48
  interfaces := #[]
  cf := some (fileOf pool11 8 #[.nestHost 44] #[{ accessFlags := 0, nameIndex := 5, descriptorIndex := 112, attributes := #[] }, { accessFlags := 0, nameIndex := 72, descriptorIndex := 73, attributes := #[] }] 48 2 #[] #[{ accessFlags := 18, nameIndex := 11, descriptorIndex := 12, attributes := #[] }, { accessFlags := 18, nameIndex := 15, descriptorIndex := 16, attributes := #[] }, { accessFlags := 18, nameIndex := 19, descriptorIndex := 20, attributes := #[] }, { accessFlags := 18, nameIndex := 23, descriptorIndex := 20, attributes := #[] }])
  fields := #[{ name := "kind", type := (.object "com/example/backfill/backfill/postgres/SqlLexer$Kind"), accessFlags := 18, slot := 0, constantValue := 0 }, { name := "source", type := (.object "java/lang/String"), accessFlags := 18, slot := 1, constantValue := 0 }, { name := "start", type := .int, accessFlags := 18, slot := 2, constantValue := 0 }, { name := "end", type := .int, accessFlags := 18, slot := 3, constantValue := 0 }]
  methods := #[k11m0, k11m1]
  instanceTypes := #[(.object "com/example/backfill/backfill/postgres/SqlLexer$Kind"), (.object "java/lang/String"), .int, .int]
  staticTypes := #[]
  resolved := Array.replicate 165 none
  statics := none }

def pool12 : Array CpInfo := pool [(2, .class_ 4), (1, u "java/lang/Enum"), (0, u "name"), (0, u "Ljava/lang/String;"), (2, u "ordinal"), (0, u "I"), (1, .class_ 14), (1, u "java/lang/Object"), (4, u "hash"), (86, .class_ 108), (1, u "java/lang/Enum$EnumDesc"), (2, .class_ 112), (0, u "java/lang/constant/Constable"), (0, .class_ 114), (0, u "java/lang/Comparable"), (0, .class_ 116), (0, u "java/io/Serializable")] 87

/-- java/lang/Enum -/
def k12 : Class := { plain "java/lang/Enum" (some 0) with
  accessFlags := 1057
  interfaces := #[5, 3, 2]
  cf := some (fileOf pool12 2 #[.nestMembers #[106]] #[] 1057 12 #[111, 113, 115] #[{ accessFlags := 18, nameIndex := 5, descriptorIndex := 6, attributes := #[] }, { accessFlags := 18, nameIndex := 9, descriptorIndex := 10, attributes := #[] }, { accessFlags := 2, nameIndex := 19, descriptorIndex := 10, attributes := #[] }])
  fields := #[{ name := "name", type := (.object "java/lang/String"), accessFlags := 18, slot := 0, constantValue := 0 }, { name := "ordinal", type := .int, accessFlags := 18, slot := 1, constantValue := 0 }, { name := "hash", type := .int, accessFlags := 2, slot := 2, constantValue := 0 }]
  methods := #[]
  instanceTypes := #[(.object "java/lang/String"), .int, .int]
  staticTypes := #[]
  resolved := Array.replicate 204 none
  statics := none }

def pool13 : Array CpInfo := pool [(1, .class_ 2), (0, u "com/example/backfill/backfill/postgres/SqlLexer$Kind"), (2, u "WORD"), (0, u "Lcom/example/backfill/backfill/postgres/SqlLexer$Kind;"), (2, u "QUOTED_NAME"), (2, u "STRING"), (2, u "SIGN"), (2, u "$VALUES"), (0, u "[Lcom/example/backfill/backfill/postgres/SqlLexer$Kind;"), (6, .class_ 28), (1, u "java/lang/Enum"), (27, .class_ 57), (0, u "com/example/backfill/backfill/postgres/SqlLexer")] 2

/-- com/example/backfill/backfill/postgres/SqlLexer$Kind -/
def k13 : Class := { plain "com/example/backfill/backfill/postgres/SqlLexer$Kind" (some 12) with
  accessFlags := 16432
  interfaces := #[]
  cf := some (fileOf pool13 1 #[.nestHost 56] #[] 16432 26 #[] #[{ accessFlags := 16409, nameIndex := 5, descriptorIndex := 6, attributes := #[] }, { accessFlags := 16409, nameIndex := 9, descriptorIndex := 6, attributes := #[] }, { accessFlags := 16409, nameIndex := 12, descriptorIndex := 6, attributes := #[] }, { accessFlags := 16409, nameIndex := 15, descriptorIndex := 6, attributes := #[] }, { accessFlags := 4122, nameIndex := 18, descriptorIndex := 19, attributes := #[] }])
  fields := #[{ name := "WORD", type := (.object "com/example/backfill/backfill/postgres/SqlLexer$Kind"), accessFlags := 16409, slot := 0, constantValue := 0 }, { name := "QUOTED_NAME", type := (.object "com/example/backfill/backfill/postgres/SqlLexer$Kind"), accessFlags := 16409, slot := 1, constantValue := 0 }, { name := "STRING", type := (.object "com/example/backfill/backfill/postgres/SqlLexer$Kind"), accessFlags := 16409, slot := 2, constantValue := 0 }, { name := "SIGN", type := (.object "com/example/backfill/backfill/postgres/SqlLexer$Kind"), accessFlags := 16409, slot := 3, constantValue := 0 }, { name := "$VALUES", type := (.array (.object "com/example/backfill/backfill/postgres/SqlLexer$Kind")), accessFlags := 4122, slot := 4, constantValue := 0 }]
  methods := #[]
  instanceTypes := #[(.object "java/lang/String"), .int, .int]
  staticTypes := #[(.object "com/example/backfill/backfill/postgres/SqlLexer$Kind"), (.object "com/example/backfill/backfill/postgres/SqlLexer$Kind"), (.object "com/example/backfill/backfill/postgres/SqlLexer$Kind"), (.object "com/example/backfill/backfill/postgres/SqlLexer$Kind"), (.array (.object "com/example/backfill/backfill/postgres/SqlLexer$Kind"))]
  resolved := Array.replicate 60 none
  statics := some 1 }

def pool14 : Array CpInfo := pool [(2, .class_ 4), (1, u "java/lang/Object"), (0, u "<init>"), (0, u "()V"), (17, .class_ 26), (1, u "jdk/internal/util/Preconditions"), (6, u "checkIndex"), (13, u "checkFromToIndex"), (7, .class_ 56), (0, u "jdk/internal/util/Preconditions$4"), (57, .class_ 115), (0, u "jdk/internal/util/Preconditions$1"), (7, u "SIOOBE_FORMATTER"), (0, u "Ljava/util/function/BiFunction;"), (0, .class_ 126), (0, u "jdk/internal/util/Preconditions$2"), (3, u "AIOOBE_FORMATTER"), (0, .class_ 132), (0, u "jdk/internal/util/Preconditions$3"), (3, u "IOOBE_FORMATTER"), (41, u "(IILjava/util/function/BiFunction;)I"), (4, u "(IIILjava/util/function/BiFunction;)I")] 10

def k14m0 : Method := { name := "<init>", desc := "()V", sig := { parameters := [], returnType := none }, accessFlags := 1, code := none }
def k14c1 : Code := { maxStack := 3, maxLocals := 3, code := jdk_41_method_11_code, exceptionTable := #[], attributes := #[] }
def k14m1 : Method := { name := "checkIndex", desc := "(IILjava/util/function/BiFunction;)I", sig := { parameters := [.int, .int, (.object "java/util/function/BiFunction")], returnType := some .int }, accessFlags := 9, code := some k14c1 }
def k14c2 : Code := { maxStack := 4, maxLocals := 4, code := jdk_41_method_12_code, exceptionTable := #[], attributes := #[] }
def k14m2 : Method := { name := "checkFromToIndex", desc := "(IIILjava/util/function/BiFunction;)I", sig := { parameters := [.int, .int, .int, (.object "java/util/function/BiFunction")], returnType := some .int }, accessFlags := 9, code := some k14c2 }
/-- jdk/internal/util/Preconditions -/
def k14 : Class := { plain "jdk/internal/util/Preconditions" (some 0) with
  accessFlags := 33
  interfaces := #[]
  cf := some (fileOf pool14 24 #[.nestMembers #[55, 131, 125, 114]] #[{ accessFlags := 1, nameIndex := 5, descriptorIndex := 6, attributes := #[] }, { accessFlags := 9, nameIndex := 33, descriptorIndex := 178, attributes := #[] }, { accessFlags := 9, nameIndex := 47, descriptorIndex := 183, attributes := #[] }] 33 2 #[] #[{ accessFlags := 25, nameIndex := 123, descriptorIndex := 124, attributes := #[] }, { accessFlags := 25, nameIndex := 130, descriptorIndex := 124, attributes := #[] }, { accessFlags := 25, nameIndex := 136, descriptorIndex := 124, attributes := #[] }])
  fields := #[{ name := "SIOOBE_FORMATTER", type := (.object "java/util/function/BiFunction"), accessFlags := 25, slot := 0, constantValue := 0 }, { name := "AIOOBE_FORMATTER", type := (.object "java/util/function/BiFunction"), accessFlags := 25, slot := 1, constantValue := 0 }, { name := "IOOBE_FORMATTER", type := (.object "java/util/function/BiFunction"), accessFlags := 25, slot := 2, constantValue := 0 }]
  methods := #[k14m0, k14m1, k14m2]
  instanceTypes := #[]
  staticTypes := #[(.object "java/util/function/BiFunction"), (.object "java/util/function/BiFunction"), (.object "java/util/function/BiFunction")]
  resolved := Array.replicate 194 none
  statics := some 2 }

def pool15 : Array CpInfo := pool [(1, .class_ 2), (0, u "java/lang/String"), (1, .class_ 6), (1, u "java/lang/Object"), (0, u "<init>"), (0, u "()V"), (0, .methodref 1 10), (0, .nameAndType 11 12), (0, u "checkIndex"), (0, u "(II)V"), (1, .class_ 16), (1, u "java/lang/StringLatin1"), (36, u "([BI)C"), (58, .methodref 1 113), (0, .nameAndType 7 114), (0, u "([BB)V"), (6, u "$assertionsDisabled"), (0, u "Z"), (8, .class_ 133), (1, u "java/util/Arrays"), (17, .string 152), (0, u ""), (43, u "newString"), (0, u "([BII)Ljava/lang/String;"), (23, .class_ 223), (1, u "java/lang/StringLatin1$LinesSpliterator"), (8, .methodref 131 233), (0, .nameAndType 234 235), (0, u "copyOfRange"), (0, u "([BII)[B"), (16, u "charAt"), (137, .class_ 391), (0, u "java/lang/StringLatin1$CharsSpliterator")] 3

def k15m0 : Method := { name := "<init>", desc := "()V", sig := { parameters := [], returnType := none }, accessFlags := 0, code := none }
def k15c1 : Code := { maxStack := 2, maxLocals := 2, code := jdk_43_method_2_code, exceptionTable := #[], attributes := #[] }
def k15m1 : Method := { name := "charAt", desc := "([BI)C", sig := { parameters := [(.array .byte), .int], returnType := some .char }, accessFlags := 9, code := some k15c1 }
def k15c2 : Code := { maxStack := 6, maxLocals := 3, code := jdk_43_method_47_code, exceptionTable := #[], attributes := #[] }
def k15m2 : Method := { name := "newString", desc := "([BII)Ljava/lang/String;", sig := { parameters := [(.array .byte), .int, .int], returnType := some (.object "java/lang/String") }, accessFlags := 9, code := some k15c2 }
/-- java/lang/StringLatin1 -/
def k15 : Class := { plain "java/lang/StringLatin1" (some 0) with
  accessFlags := 48
  interfaces := #[]
  cf := some (fileOf pool15 14 #[.nestMembers #[390, 221]] #[{ accessFlags := 0, nameIndex := 7, descriptorIndex := 8, attributes := #[] }, { accessFlags := 9, nameIndex := 252, descriptorIndex := 53, attributes := #[] }, { accessFlags := 9, nameIndex := 196, descriptorIndex := 197, attributes := #[] }] 48 4 #[] #[{ accessFlags := 4120, nameIndex := 121, descriptorIndex := 122, attributes := #[] }])
  fields := #[{ name := "$assertionsDisabled", type := .boolean, accessFlags := 4120, slot := 0, constantValue := 0 }]
  methods := #[k15m0, k15m1, k15m2]
  instanceTypes := #[]
  staticTypes := #[.boolean]
  resolved := Array.replicate 395 none
  statics := none }

def pool16 : Array CpInfo := pool [(2, .class_ 4), (1, u "java/lang/Object"), (0, u "<init>"), (0, u "()V"), (7, .class_ 16), (1, u "java/util/Arrays"), (57, .class_ 76), (1, u "java/util/Arrays$NaturalOrder"), (36, .class_ 115), (1, u "java/util/Arrays$LegacyMergeSort"), (1, u "Z"), (21, u "copyOfRange"), (10, .methodref 151 152), (0, .class_ 153), (0, .nameAndType 154 155), (0, u "java/lang/System"), (0, u "arraycopy"), (0, u "(Ljava/lang/Object;ILjava/lang/Object;II)V"), (148, .methodref 305 306), (0, .class_ 307), (0, .nameAndType 308 309), (0, u "java/lang/Math"), (0, u "min"), (0, u "(II)I"), (29, .methodref 14 340), (0, .nameAndType 341 342), (0, u "copyOfRangeByte"), (0, u "([BII)[B"), (0, .methodref 14 344), (0, .nameAndType 345 346), (0, u "checkLength"), (0, u "(II)V"), (28, .class_ 376), (0, u "java/util/Arrays$ArrayList"), (68, u "$assertionsDisabled"), (269, u "MIN_ARRAY_SORT_GRAN"), (0, u "I"), (2, u "INSERTIONSORT_THRESHOLD"), (255, .class_ 976), (0, u "java/util/Arrays$ArrayItr")] 52

def k16m0 : Method := { name := "<init>", desc := "()V", sig := { parameters := [], returnType := none }, accessFlags := 2, code := none }
def k16c1 : Code := { maxStack := 4, maxLocals := 2, code := jdk_65_method_131_code, exceptionTable := #[], attributes := #[] }
def k16m1 : Method := { name := "checkLength", desc := "(II)V", sig := { parameters := [.int, .int], returnType := none }, accessFlags := 10, code := some k16c1 }
def k16c2 : Code := { maxStack := 3, maxLocals := 3, code := jdk_65_method_132_code, exceptionTable := #[], attributes := #[] }
def k16m2 : Method := { name := "copyOfRange", desc := "([BII)[B", sig := { parameters := [(.array .byte), .int, .int], returnType := some (.array .byte) }, accessFlags := 9, code := some k16c2 }
def k16c3 : Code := { maxStack := 6, maxLocals := 5, code := jdk_65_method_133_code, exceptionTable := #[], attributes := #[] }
def k16m3 : Method := { name := "copyOfRangeByte", desc := "([BII)[B", sig := { parameters := [(.array .byte), .int, .int], returnType := some (.array .byte) }, accessFlags := 10, code := some k16c3 }
/-- java/util/Arrays -/
def k16 : Class := { plain "java/util/Arrays" (some 0) with
  accessFlags := 49
  interfaces := #[]
  cf := some (fileOf pool16 14 #[.nestMembers #[975, 375, 113, 74]] #[{ accessFlags := 2, nameIndex := 5, descriptorIndex := 6, attributes := #[] }, { accessFlags := 10, nameIndex := 345, descriptorIndex := 346, attributes := #[] }, { accessFlags := 9, nameIndex := 139, descriptorIndex := 342, attributes := #[] }, { accessFlags := 10, nameIndex := 341, descriptorIndex := 342, attributes := #[] }] 49 2 #[] #[{ accessFlags := 26, nameIndex := 715, descriptorIndex := 716, attributes := #[] }, { accessFlags := 26, nameIndex := 719, descriptorIndex := 716, attributes := #[] }, { accessFlags := 4120, nameIndex := 445, descriptorIndex := 117, attributes := #[] }])
  fields := #[{ name := "MIN_ARRAY_SORT_GRAN", type := .int, accessFlags := 26, slot := 0, constantValue := 0 }, { name := "INSERTIONSORT_THRESHOLD", type := .int, accessFlags := 26, slot := 1, constantValue := 0 }, { name := "$assertionsDisabled", type := .boolean, accessFlags := 4120, slot := 2, constantValue := 0 }]
  methods := #[k16m0, k16m1, k16m2, k16m3]
  instanceTypes := #[]
  staticTypes := #[.int, .int, .boolean]
  resolved := Array.replicate 1029 none
  statics := none }

def pool17 : Array CpInfo := pool [(2, .class_ 4), (1, u "java/lang/Object"), (0, u "<init>"), (0, u "()V"), (1, .class_ 10), (1, u "java/lang/System"), (0, u "allowSecurityManager"), (0, u "I"), (16, u "cons"), (0, u "Ljava/io/Console;"), (77, .class_ 110), (1, u "java/lang/System$CallersHolder"), (43, u "initialErrStream"), (0, u "Ljava/io/PrintStream;"), (19, u "security"), (0, u "Ljava/lang/SecurityManager;"), (31, .class_ 209), (0, u "java/lang/System$1"), (7, u "props"), (0, u "Ljava/util/Properties;"), (2, u "lineSeparator"), (0, u "Ljava/lang/String;"), (96, .class_ 321), (1, u "java/lang/System$LoggerFinder"), (5, .class_ 328), (0, u "java/lang/System$Logger"), (67, u "err"), (2, u "out"), (91, u "notSupportedJnuEncoding"), (15, u "in"), (17, u "initialIn"), (0, u "Ljava/io/InputStream;"), (35, u "bootLayer"), (0, u "Ljava/lang/ModuleLayer;"), (99, .class_ 664), (0, u "java/lang/System$2"), (9, u "NEVER"), (2, u "MAYBE"), (49, u "arraycopy"), (0, u "(Ljava/lang/Object;ILjava/lang/Object;II)V"), (72, .class_ 802), (0, u "java/lang/System$Logger$Level")] 31

def k17m0 : Method := { name := "<init>", desc := "()V", sig := { parameters := [], returnType := none }, accessFlags := 2, code := none }
def k17m1 : Method := { name := "arraycopy", desc := "(Ljava/lang/Object;ILjava/lang/Object;II)V", sig := { parameters := [(.object "java/lang/Object"), .int, (.object "java/lang/Object"), .int, .int], returnType := none }, accessFlags := 265, code := none }
/-- java/lang/System -/
def k17 : Class := { plain "java/lang/System" (some 0) with
  accessFlags := 49
  interfaces := #[]
  cf := some (fileOf pool17 8 #[.nestMembers #[319, 327, 801, 108, 663, 208]] #[{ accessFlags := 2, nameIndex := 5, descriptorIndex := 6, attributes := #[] }, { accessFlags := 265, nameIndex := 727, descriptorIndex := 728, attributes := #[] }] 49 2 #[] #[{ accessFlags := 25, nameIndex := 507, descriptorIndex := 526, attributes := #[] }, { accessFlags := 25, nameIndex := 399, descriptorIndex := 155, attributes := #[] }, { accessFlags := 25, nameIndex := 396, descriptorIndex := 155, attributes := #[] }, { accessFlags := 10, nameIndex := 525, descriptorIndex := 526, attributes := #[] }, { accessFlags := 26, nameIndex := 674, descriptorIndex := 12, attributes := #[] }, { accessFlags := 26, nameIndex := 677, descriptorIndex := 12, attributes := #[] }, { accessFlags := 10, nameIndex := 11, descriptorIndex := 12, attributes := #[] }, { accessFlags := 74, nameIndex := 175, descriptorIndex := 176, attributes := #[] }, { accessFlags := 10, nameIndex := 491, descriptorIndex := 222, attributes := #[] }, { accessFlags := 74, nameIndex := 29, descriptorIndex := 30, attributes := #[] }, { accessFlags := 74, nameIndex := 154, descriptorIndex := 155, attributes := #[] }, { accessFlags := 10, nameIndex := 217, descriptorIndex := 218, attributes := #[] }, { accessFlags := 10, nameIndex := 221, descriptorIndex := 222, attributes := #[] }, { accessFlags := 8, nameIndex := 562, descriptorIndex := 563, attributes := #[] }])
  fields := #[{ name := "in", type := (.object "java/io/InputStream"), accessFlags := 25, slot := 0, constantValue := 0 }, { name := "out", type := (.object "java/io/PrintStream"), accessFlags := 25, slot := 1, constantValue := 0 }, { name := "err", type := (.object "java/io/PrintStream"), accessFlags := 25, slot := 2, constantValue := 0 }, { name := "initialIn", type := (.object "java/io/InputStream"), accessFlags := 10, slot := 3, constantValue := 0 }, { name := "NEVER", type := .int, accessFlags := 26, slot := 4, constantValue := 0 }, { name := "MAYBE", type := .int, accessFlags := 26, slot := 5, constantValue := 0 }, { name := "allowSecurityManager", type := .int, accessFlags := 10, slot := 6, constantValue := 0 }, { name := "security", type := (.object "java/lang/SecurityManager"), accessFlags := 74, slot := 7, constantValue := 0 }, { name := "notSupportedJnuEncoding", type := (.object "java/lang/String"), accessFlags := 10, slot := 8, constantValue := 0 }, { name := "cons", type := (.object "java/io/Console"), accessFlags := 74, slot := 9, constantValue := 0 }, { name := "initialErrStream", type := (.object "java/io/PrintStream"), accessFlags := 74, slot := 10, constantValue := 0 }, { name := "props", type := (.object "java/util/Properties"), accessFlags := 10, slot := 11, constantValue := 0 }, { name := "lineSeparator", type := (.object "java/lang/String"), accessFlags := 10, slot := 12, constantValue := 0 }, { name := "bootLayer", type := (.object "java/lang/ModuleLayer"), accessFlags := 8, slot := 13, constantValue := 0 }]
  methods := #[k17m0, k17m1]
  instanceTypes := #[]
  staticTypes := #[(.object "java/io/InputStream"), (.object "java/io/PrintStream"), (.object "java/io/PrintStream"), (.object "java/io/InputStream"), .int, .int, .int, (.object "java/lang/SecurityManager"), (.object "java/lang/String"), (.object "java/io/Console"), (.object "java/io/PrintStream"), (.object "java/util/Properties"), (.object "java/lang/String"), (.object "java/lang/ModuleLayer")]
  resolved := Array.replicate 834 none
  statics := none }

def pool18 : Array CpInfo := pool [(9, u "<init>"), (6, .class_ 18), (1, u "java/lang/Object"), (0, u "()V"), (1, .class_ 23), (1, u "jdk/internal/util/ArraysSupport"), (0, u "LOG2_ARRAY_LONG_INDEX_SCALE"), (0, u "I"), (2, u "U"), (0, u "Ljdk/internal/misc/Unsafe;"), (8, u "BIG_ENDIAN"), (0, u "Z"), (8, u "LOG2_BYTE_BIT_SIZE"), (4, u "LOG2_ARRAY_INT_INDEX_SCALE"), (54, u "JLA"), (0, u "Ljdk/internal/access/JavaLangAccess;"), (11, u "LOG2_ARRAY_BOOLEAN_INDEX_SCALE"), (9, u "LOG2_ARRAY_BYTE_INDEX_SCALE"), (5, u "LOG2_ARRAY_CHAR_INDEX_SCALE"), (5, u "LOG2_ARRAY_SHORT_INDEX_SCALE"), (18, u "LOG2_ARRAY_FLOAT_INDEX_SCALE"), (24, u "LOG2_ARRAY_DOUBLE_INDEX_SCALE"), (89, u "T_BOOLEAN"), (2, u "T_CHAR"), (1, u "T_FLOAT"), (1, u "T_DOUBLE"), (1, u "T_BYTE"), (1, u "T_SHORT"), (1, u "T_INT"), (1, u "T_LONG"), (1, u "SOFT_MAX_ARRAY_LENGTH")] 83

def k18m0 : Method := { name := "<init>", desc := "()V", sig := { parameters := [], returnType := none }, accessFlags := 2, code := none }
/-- jdk/internal/util/ArraysSupport -/
def k18 : Class := { plain "jdk/internal/util/ArraysSupport" (some 0) with
  accessFlags := 33
  interfaces := #[]
  cf := some (fileOf pool18 21 #[] #[{ accessFlags := 2, nameIndex := 9, descriptorIndex := 19, attributes := #[] }] 33 16 #[] #[{ accessFlags := 24, nameIndex := 28, descriptorIndex := 29, attributes := #[] }, { accessFlags := 26, nameIndex := 38, descriptorIndex := 39, attributes := #[] }, { accessFlags := 25, nameIndex := 121, descriptorIndex := 25, attributes := #[] }, { accessFlags := 25, nameIndex := 131, descriptorIndex := 25, attributes := #[] }, { accessFlags := 25, nameIndex := 137, descriptorIndex := 25, attributes := #[] }, { accessFlags := 25, nameIndex := 143, descriptorIndex := 25, attributes := #[] }, { accessFlags := 25, nameIndex := 53, descriptorIndex := 25, attributes := #[] }, { accessFlags := 25, nameIndex := 24, descriptorIndex := 25, attributes := #[] }, { accessFlags := 25, nameIndex := 162, descriptorIndex := 25, attributes := #[] }, { accessFlags := 25, nameIndex := 187, descriptorIndex := 25, attributes := #[] }, { accessFlags := 26, nameIndex := 48, descriptorIndex := 25, attributes := #[] }, { accessFlags := 25, nameIndex := 277, descriptorIndex := 25, attributes := #[] }, { accessFlags := 25, nameIndex := 280, descriptorIndex := 25, attributes := #[] }, { accessFlags := 25, nameIndex := 282, descriptorIndex := 25, attributes := #[] }, { accessFlags := 25, nameIndex := 284, descriptorIndex := 25, attributes := #[] }, { accessFlags := 25, nameIndex := 286, descriptorIndex := 25, attributes := #[] }, { accessFlags := 25, nameIndex := 288, descriptorIndex := 25, attributes := #[] }, { accessFlags := 25, nameIndex := 290, descriptorIndex := 25, attributes := #[] }, { accessFlags := 25, nameIndex := 292, descriptorIndex := 25, attributes := #[] }, { accessFlags := 26, nameIndex := 108, descriptorIndex := 109, attributes := #[] }, { accessFlags := 25, nameIndex := 294, descriptorIndex := 25, attributes := #[] }])
  fields := #[{ name := "U", type := (.object "jdk/internal/misc/Unsafe"), accessFlags := 24, slot := 0, constantValue := 0 }, { name := "BIG_ENDIAN", type := .boolean, accessFlags := 26, slot := 1, constantValue := 0 }, { name := "LOG2_ARRAY_BOOLEAN_INDEX_SCALE", type := .int, accessFlags := 25, slot := 2, constantValue := 0 }, { name := "LOG2_ARRAY_BYTE_INDEX_SCALE", type := .int, accessFlags := 25, slot := 3, constantValue := 0 }, { name := "LOG2_ARRAY_CHAR_INDEX_SCALE", type := .int, accessFlags := 25, slot := 4, constantValue := 0 }, { name := "LOG2_ARRAY_SHORT_INDEX_SCALE", type := .int, accessFlags := 25, slot := 5, constantValue := 0 }, { name := "LOG2_ARRAY_INT_INDEX_SCALE", type := .int, accessFlags := 25, slot := 6, constantValue := 0 }, { name := "LOG2_ARRAY_LONG_INDEX_SCALE", type := .int, accessFlags := 25, slot := 7, constantValue := 0 }, { name := "LOG2_ARRAY_FLOAT_INDEX_SCALE", type := .int, accessFlags := 25, slot := 8, constantValue := 0 }, { name := "LOG2_ARRAY_DOUBLE_INDEX_SCALE", type := .int, accessFlags := 25, slot := 9, constantValue := 0 }, { name := "LOG2_BYTE_BIT_SIZE", type := .int, accessFlags := 26, slot := 10, constantValue := 0 }, { name := "T_BOOLEAN", type := .int, accessFlags := 25, slot := 11, constantValue := 0 }, { name := "T_CHAR", type := .int, accessFlags := 25, slot := 12, constantValue := 0 }, { name := "T_FLOAT", type := .int, accessFlags := 25, slot := 13, constantValue := 0 }, { name := "T_DOUBLE", type := .int, accessFlags := 25, slot := 14, constantValue := 0 }, { name := "T_BYTE", type := .int, accessFlags := 25, slot := 15, constantValue := 0 }, { name := "T_SHORT", type := .int, accessFlags := 25, slot := 16, constantValue := 0 }, { name := "T_INT", type := .int, accessFlags := 25, slot := 17, constantValue := 0 }, { name := "T_LONG", type := .int, accessFlags := 25, slot := 18, constantValue := 0 }, { name := "JLA", type := (.object "jdk/internal/access/JavaLangAccess"), accessFlags := 26, slot := 19, constantValue := 0 }, { name := "SOFT_MAX_ARRAY_LENGTH", type := .int, accessFlags := 25, slot := 20, constantValue := 0 }]
  methods := #[k18m0]
  instanceTypes := #[]
  staticTypes := #[(.object "jdk/internal/misc/Unsafe"), .boolean, .int, .int, .int, .int, .int, .int, .int, .int, .int, .int, .int, .int, .int, .int, .int, .int, .int, (.object "jdk/internal/access/JavaLangAccess"), .int]
  resolved := Array.replicate 378 none
  statics := none }

def pool19 : Array CpInfo := pool [(1, u "java/lang/Cloneable"), (0, .class_ 1), (0, u "java/lang/Object"), (0, .class_ 3)] 3

/-- java/lang/Cloneable -/
def k19 : Class := { plain "java/lang/Cloneable" (some 0) with
  accessFlags := 1537
  interfaces := #[]
  cf := some (fileOf pool19 2 #[] #[] 1537 4 #[] #[])
  fields := #[]
  methods := #[]
  instanceTypes := #[]
  staticTypes := #[]
  resolved := Array.replicate 8 none
  statics := none }

/-- the primitive byte -/
def k20 : Class := { plain "byte" none with kind := .primitive 'B', accessFlags := 0x411 }
/-- [B -/
def k21 : Class := { plain "[B" (some 0) with kind := .array 20 .byte, interfaces := #[19, 2], accessFlags := 1041 }

/-- the primitive char -/
def k22 : Class := { plain "char" none with kind := .primitive 'C', accessFlags := 0x411 }
/-- [C -/
def k23 : Class := { plain "[C" (some 0) with kind := .array 22 .char, interfaces := #[19, 2], accessFlags := 1041 }

/-- the primitive int -/
def k24 : Class := { plain "int" none with kind := .primitive 'I', accessFlags := 0x411 }
/-- [I -/
def k25 : Class := { plain "[I" (some 0) with kind := .array 24 .int, interfaces := #[19, 2], accessFlags := 1041 }

def heap : Heap := #[{ cls := 7, slots := #[.long 0, .int 1, .null, .int 0, .null, .int 0, .int 0], vm := .statics 7 },
  { cls := 13, slots := #[.ref 3, .ref 3, .ref 3, .ref 3, .null], vm := .statics 13 },
  { cls := 14, slots := #[.null, .null, .null], vm := .statics 14 },
  { cls := 13, slots := #[.null, .int 0, .int 0], vm := .none }]
def classes : Array Class := #[k0, k1, k2, k3, k4, k5, k6, k7, k8, k9, k10, k11, k12, k13, k14, k15, k16, k17, k18, k19, k20, k21, k22, k23, k24, k25]
def interned : List (Array UInt16 × Addr) := []
def slotsUsed : Nat := 18
def theMethod : MethodId := ⟨1, 2⟩
def args0 : Array Value := #[.int 5, .int 7, .int 1, .int 2]
def aboutOver (below : List Frame) : State where
  vm := { classes := classes, interned := interned.toArray }
  heap := heap
  slotsUsed := slotsUsed
  threads := #[{ frames := .invoking theMethod args0 :: below }]
def below0 : List Frame := [.native { method := ⟨0, 0⟩, args := #[] }]
def about1 : State := aboutOver below0
def p0 : Program := .bare "" "" ""
def e0 : Env := launch0.env 0 0 0
theorem w_frames : about1.frames = Frame.invoking theMethod args0 :: below0 := rfl
set_option maxRecDepth 65536 in
theorem w_args : argsFit about1.vm theMethod args0 = true := by decide +kernel
set_option maxRecDepth 65536 in
theorem w_heap : heapFits about1 = true := by decide +kernel
set_option maxRecDepth 65536 in
theorem w_runnable : about1.curStatus? = some .runnable := by decide +kernel
set_option maxRecDepth 65536 in
theorem w_alone : about1.alone = true := by decide +kernel
set_option maxRecDepth 65536 in
theorem w_named : about1.methodNamed? x = some theMethod := by decide +kernel
set_option maxRecDepth 65536 in
theorem w_hears : about1.hears theMethod below0 = true := by decide +kernel
set_option maxRecDepth 65536 in
theorem w_ripe : about1.ripe theMethod args0 below0 = true := by decide +kernel
theorem w_running : about1.status = .running := rfl
set_option maxRecDepth 65536 in
theorem w_room : about1.hasRoom e0.platform room_1 = true :=
  launch0.hasRoom_least _ room_1 (by decide +kernel) (by decide +kernel) (by decide +kernel) (by decide +kernel) (by decide +kernel) (by decide +kernel)
theorem allAtoms_all (ts : List Jvm.Cond) (a : Array Jvm.Value) (st : Jvm.State) : (allAtoms ts).before a st = ts.all (fun c => c.before a st) := by
  induction ts with
  | nil => rfl
  | cons c t ih =>
    show (Jvm.Cond.and c (allAtoms t)).before a st = _
    rw [Jvm.Cond.before_and, ih, List.all_cons]
def words1 : List Jvm.Cond := Jvm.Cond.code x code maxLocals ret :: tables_1
/-- a 'code' word, met by the world's own term for the bytes: nothing is compared byte by byte -/
theorem code_word {y : MethodName} {bytes : ByteArray} {mx : Nat} {rt : Option FieldType} {a : Array Value} {s : State} {m : MethodId} {meth : Method} {c : Code} (h1 : s.methodNamed? y = some m) (h2 : s.vm.method? m = some meth) (h3 : meth.code = some c) (h4 : c.code = bytes)
    (h5 : (c.maxLocals == mx && c.exceptionTable.isEmpty && decide (c.maxStack ≤ mostOperands) && decide (meth.sig.returnType = rt) && !meth.locks && decide (parseMethodDescriptor y.desc = some meth.sig)) = true) : (Jvm.Cond.code y bytes mx rt).before a s = true := by
  simp only [Bool.and_eq_true, beq_iff_eq, Bool.not_eq_true', decide_eq_true_eq] at h5
  obtain ⟨⟨⟨⟨⟨g1, g2⟩, g3⟩, g4⟩, g5⟩, g6⟩ := h5
  simp [Cond.before, Cond.holds, Cond.value, h1, h2, h3, h4, g1, g2, g3, g4, g5, g6]
def isCode : Jvm.Cond → Bool
  | .code _ _ _ _ => true
  | _ => false
theorem all_split {L : List Jvm.Cond} {P : Jvm.Cond → Bool} (h1 : L.all (fun c => isCode c || P c) = true) (h2 : ∀ c ∈ L.filter isCode, P c = true) : L.all P = true := by
  refine List.all_eq_true.mpr fun c hc => ?_
  have h := List.all_eq_true.mp h1 c hc
  rcases Bool.eq_false_or_eq_true (isCode c) with hi | hi
  · exact h2 c (List.mem_filter.mpr ⟨hc, hi⟩)
  · simpa [hi] using h
set_option maxRecDepth 65536 in
theorem w_c0 : (Jvm.Cond.code x code maxLocals ret).before args0 about1 = true := code_word (m := ⟨1, 2⟩) (meth := k1m2) (c := k1c2) (by decide +kernel) rfl rfl rfl (by decide +kernel)
set_option maxRecDepth 65536 in
theorem w_c1 : (Jvm.Cond.code ({ cls := "java/lang/String", name := "<init>", desc := "([C)V" } : Jvm.MethodName) jdk_42_method_3_code (2 : Nat) (Option.none : Option Jvm.ClassFile.FieldType)).before args0 about1 = true := code_word (m := ⟨7, 1⟩) (meth := k7m1) (c := k7c1) (by decide +kernel) rfl rfl rfl (by decide +kernel)
set_option maxRecDepth 65536 in
theorem w_c2 : (Jvm.Cond.code ({ cls := "java/lang/String", name := "<init>", desc := "([CIILjava/lang/Void;)V" } : Jvm.MethodName) jdk_42_method_149_code (6 : Nat) (Option.none : Option Jvm.ClassFile.FieldType)).before args0 about1 = true := code_word (m := ⟨7, 5⟩) (meth := k7m5) (c := k7c5) (by decide +kernel) rfl rfl rfl (by decide +kernel)
set_option maxRecDepth 65536 in
theorem w_c3 : (Jvm.Cond.code ({ cls := "java/lang/Object", name := "<init>", desc := "()V" } : Jvm.MethodName) object_method_1_code (1 : Nat) (Option.none : Option Jvm.ClassFile.FieldType)).before args0 about1 = true := code_word (m := ⟨0, 0⟩) (meth := k0m0) (c := k0c0) (by decide +kernel) rfl rfl rfl (by decide +kernel)
set_option maxRecDepth 65536 in
theorem w_c4 : (Jvm.Cond.code ({ cls := "java/lang/StringUTF16", name := "compress", desc := "([CII)[B" } : Jvm.MethodName) jdk_52_method_16_code (6 : Nat) (Option.some (Jvm.ClassFile.FieldType.array Jvm.ClassFile.FieldType.byte))).before args0 about1 = true := code_word (m := ⟨8, 2⟩) (meth := k8m2) (c := k8c2) (by decide +kernel) rfl rfl rfl (by decide +kernel)
set_option maxRecDepth 65536 in
theorem w_c5 : (Jvm.Cond.code ({ cls := "java/lang/StringUTF16", name := "compress", desc := "([CI[BII)I" } : Jvm.MethodName) jdk_52_method_21_code (7 : Nat) (Option.some Jvm.ClassFile.FieldType.int)).before args0 about1 = true := code_word (m := ⟨8, 3⟩) (meth := k8m3) (c := k8c3) (by decide +kernel) rfl rfl rfl (by decide +kernel)
set_option maxRecDepth 65536 in
theorem w_c6 : (Jvm.Cond.code ({ cls := "java/lang/StringUTF16", name := "coderFromArrayLen", desc := "([BI)B" } : Jvm.MethodName) jdk_52_method_15_code (2 : Nat) (Option.some Jvm.ClassFile.FieldType.byte)).before args0 about1 = true := code_word (m := ⟨8, 1⟩) (meth := k8m1) (c := k8c1) (by decide +kernel) rfl rfl rfl (by decide +kernel)
set_option maxRecDepth 65536 in
theorem w_c7 : (Jvm.Cond.code ({ cls := "java/lang/Math", name := "min", desc := "(II)I" } : Jvm.MethodName) jdk_29_method_69_code (2 : Nat) (Option.some Jvm.ClassFile.FieldType.int)).before args0 about1 = true := code_word (m := ⟨9, 2⟩) (meth := k9m2) (c := k9c2) (by decide +kernel) rfl rfl rfl (by decide +kernel)
set_option maxRecDepth 65536 in
theorem w_c8 : (Jvm.Cond.code ({ cls := "java/lang/Math", name := "max", desc := "(II)I" } : Jvm.MethodName) jdk_29_method_65_code (2 : Nat) (Option.some Jvm.ClassFile.FieldType.int)).before args0 about1 = true := code_word (m := ⟨9, 1⟩) (meth := k9m1) (c := k9c1) (by decide +kernel) rfl rfl rfl (by decide +kernel)
set_option maxRecDepth 65536 in
theorem w_c9 : (Jvm.Cond.code ({ cls := "com/example/backfill/backfill/postgres/TokenTextPinLaw", name := "kindOf", desc := "(I)Lcom/example/backfill/backfill/postgres/SqlLexer$Kind;" } : Jvm.MethodName) method_2_code (2 : Nat) (Option.some (Jvm.ClassFile.FieldType.object "com/example/backfill/backfill/postgres/SqlLexer$Kind"))).before args0 about1 = true := code_word (m := ⟨1, 1⟩) (meth := k1m1) (c := k1c1) (by decide +kernel) rfl rfl rfl (by decide +kernel)
set_option maxRecDepth 65536 in
theorem w_c10 : (Jvm.Cond.code ({ cls := "com/example/backfill/backfill/postgres/SqlLexer$Token", name := "<init>", desc := "(Lcom/example/backfill/backfill/postgres/SqlLexer$Kind;Ljava/lang/String;II)V" } : Jvm.MethodName) prog_76_method_1_code (5 : Nat) (Option.none : Option Jvm.ClassFile.FieldType)).before args0 about1 = true := code_word (m := ⟨11, 0⟩) (meth := k11m0) (c := k11c0) (by decide +kernel) rfl rfl rfl (by decide +kernel)
set_option maxRecDepth 65536 in
theorem w_c11 : (Jvm.Cond.code ({ cls := "java/lang/Record", name := "<init>", desc := "()V" } : Jvm.MethodName) jdk_30_method_1_code (1 : Nat) (Option.none : Option Jvm.ClassFile.FieldType)).before args0 about1 = true := code_word (m := ⟨10, 0⟩) (meth := k10m0) (c := k10c0) (by decide +kernel) rfl rfl rfl (by decide +kernel)
set_option maxRecDepth 65536 in
theorem w_c12 : (Jvm.Cond.code ({ cls := "com/example/backfill/backfill/postgres/SqlLexer$Token", name := "text", desc := "()Ljava/lang/String;" } : Jvm.MethodName) prog_76_method_2_code (1 : Nat) (Option.some (Jvm.ClassFile.FieldType.object "java/lang/String"))).before args0 about1 = true := code_word (m := ⟨11, 1⟩) (meth := k11m1) (c := k11c1) (by decide +kernel) rfl rfl rfl (by decide +kernel)
set_option maxRecDepth 65536 in
theorem w_c13 : (Jvm.Cond.code ({ cls := "java/lang/String", name := "substring", desc := "(II)Ljava/lang/String;" } : Jvm.MethodName) jdk_42_method_92_code (5 : Nat) (Option.some (Jvm.ClassFile.FieldType.object "java/lang/String"))).before args0 about1 = true := code_word (m := ⟨7, 4⟩) (meth := k7m4) (c := k7c4) (by decide +kernel) rfl rfl rfl (by decide +kernel)
set_option maxRecDepth 65536 in
theorem w_c14 : (Jvm.Cond.code ({ cls := "java/lang/String", name := "length", desc := "()I" } : Jvm.MethodName) jdk_42_method_54_code (1 : Nat) (Option.some Jvm.ClassFile.FieldType.int)).before args0 about1 = true := code_word (m := ⟨7, 2⟩) (meth := k7m2) (c := k7c2) (by decide +kernel) rfl rfl rfl (by decide +kernel)
set_option maxRecDepth 65536 in
theorem w_c15 : (Jvm.Cond.code ({ cls := "java/lang/String", name := "coder", desc := "()B" } : Jvm.MethodName) jdk_42_method_152_code (1 : Nat) (Option.some Jvm.ClassFile.FieldType.byte)).before args0 about1 = true := code_word (m := ⟨7, 7⟩) (meth := k7m7) (c := k7c7) (by decide +kernel) rfl rfl rfl (by decide +kernel)
set_option maxRecDepth 65536 in
theorem w_c16 : (Jvm.Cond.code ({ cls := "java/lang/String", name := "checkBoundsBeginEnd", desc := "(III)V" } : Jvm.MethodName) jdk_42_method_158_code (3 : Nat) (Option.none : Option Jvm.ClassFile.FieldType)).before args0 about1 = true := code_word (m := ⟨7, 10⟩) (meth := k7m10) (c := k7c10) (by decide +kernel) rfl rfl rfl (by decide +kernel)
set_option maxRecDepth 65536 in
theorem w_c17 : (Jvm.Cond.code ({ cls := "jdk/internal/util/Preconditions", name := "checkFromToIndex", desc := "(IIILjava/util/function/BiFunction;)I" } : Jvm.MethodName) jdk_41_method_12_code (4 : Nat) (Option.some Jvm.ClassFile.FieldType.int)).before args0 about1 = true := code_word (m := ⟨14, 2⟩) (meth := k14m2) (c := k14c2) (by decide +kernel) rfl rfl rfl (by decide +kernel)
set_option maxRecDepth 65536 in
theorem w_c18 : (Jvm.Cond.code ({ cls := "java/lang/String", name := "isLatin1", desc := "()Z" } : Jvm.MethodName) jdk_42_method_154_code (1 : Nat) (Option.some Jvm.ClassFile.FieldType.boolean)).before args0 about1 = true := code_word (m := ⟨7, 8⟩) (meth := k7m8) (c := k7c8) (by decide +kernel) rfl rfl rfl (by decide +kernel)
set_option maxRecDepth 65536 in
theorem w_c19 : (Jvm.Cond.code ({ cls := "java/lang/StringLatin1", name := "newString", desc := "([BII)Ljava/lang/String;" } : Jvm.MethodName) jdk_43_method_47_code (3 : Nat) (Option.some (Jvm.ClassFile.FieldType.object "java/lang/String"))).before args0 about1 = true := code_word (m := ⟨15, 2⟩) (meth := k15m2) (c := k15c2) (by decide +kernel) rfl rfl rfl (by decide +kernel)
set_option maxRecDepth 65536 in
theorem w_c20 : (Jvm.Cond.code ({ cls := "java/util/Arrays", name := "copyOfRange", desc := "([BII)[B" } : Jvm.MethodName) jdk_65_method_132_code (3 : Nat) (Option.some (Jvm.ClassFile.FieldType.array Jvm.ClassFile.FieldType.byte))).before args0 about1 = true := code_word (m := ⟨16, 2⟩) (meth := k16m2) (c := k16c2) (by decide +kernel) rfl rfl rfl (by decide +kernel)
set_option maxRecDepth 65536 in
theorem w_c21 : (Jvm.Cond.code ({ cls := "java/util/Arrays", name := "copyOfRangeByte", desc := "([BII)[B" } : Jvm.MethodName) jdk_65_method_133_code (5 : Nat) (Option.some (Jvm.ClassFile.FieldType.array Jvm.ClassFile.FieldType.byte))).before args0 about1 = true := code_word (m := ⟨16, 3⟩) (meth := k16m3) (c := k16c3) (by decide +kernel) rfl rfl rfl (by decide +kernel)
set_option maxRecDepth 65536 in
theorem w_c22 : (Jvm.Cond.code ({ cls := "java/util/Arrays", name := "checkLength", desc := "(II)V" } : Jvm.MethodName) jdk_65_method_131_code (2 : Nat) (Option.none : Option Jvm.ClassFile.FieldType)).before args0 about1 = true := code_word (m := ⟨16, 1⟩) (meth := k16m1) (c := k16c1) (by decide +kernel) rfl rfl rfl (by decide +kernel)
set_option maxRecDepth 65536 in
theorem w_c23 : (Jvm.Cond.code ({ cls := "java/lang/String", name := "<init>", desc := "([BB)V" } : Jvm.MethodName) jdk_42_method_151_code (3 : Nat) (Option.none : Option Jvm.ClassFile.FieldType)).before args0 about1 = true := code_word (m := ⟨7, 6⟩) (meth := k7m6) (c := k7c6) (by decide +kernel) rfl rfl rfl (by decide +kernel)
set_option maxRecDepth 65536 in
theorem w_c24 : (Jvm.Cond.code ({ cls := "java/lang/String", name := "charAt", desc := "(I)C" } : Jvm.MethodName) jdk_42_method_56_code (2 : Nat) (Option.some Jvm.ClassFile.FieldType.char)).before args0 about1 = true := code_word (m := ⟨7, 3⟩) (meth := k7m3) (c := k7c3) (by decide +kernel) rfl rfl rfl (by decide +kernel)
set_option maxRecDepth 65536 in
theorem w_c25 : (Jvm.Cond.code ({ cls := "java/lang/StringLatin1", name := "charAt", desc := "([BI)C" } : Jvm.MethodName) jdk_43_method_2_code (2 : Nat) (Option.some Jvm.ClassFile.FieldType.char)).before args0 about1 = true := code_word (m := ⟨15, 1⟩) (meth := k15m1) (c := k15c1) (by decide +kernel) rfl rfl rfl (by decide +kernel)
set_option maxRecDepth 65536 in
theorem w_c26 : (Jvm.Cond.code ({ cls := "java/lang/String", name := "checkIndex", desc := "(II)V" } : Jvm.MethodName) jdk_42_method_155_code (2 : Nat) (Option.none : Option Jvm.ClassFile.FieldType)).before args0 about1 = true := code_word (m := ⟨7, 9⟩) (meth := k7m9) (c := k7c9) (by decide +kernel) rfl rfl rfl (by decide +kernel)
set_option maxRecDepth 65536 in
theorem w_c27 : (Jvm.Cond.code ({ cls := "jdk/internal/util/Preconditions", name := "checkIndex", desc := "(IILjava/util/function/BiFunction;)I" } : Jvm.MethodName) jdk_41_method_11_code (3 : Nat) (Option.some Jvm.ClassFile.FieldType.int)).before args0 about1 = true := code_word (m := ⟨14, 1⟩) (meth := k14m1) (c := k14c1) (by decide +kernel) rfl rfl rfl (by decide +kernel)
def codes1 : List Jvm.Cond := [Jvm.Cond.code x code maxLocals ret, Jvm.Cond.code ({ cls := "java/lang/String", name := "<init>", desc := "([C)V" } : Jvm.MethodName) jdk_42_method_3_code (2 : Nat) (Option.none : Option Jvm.ClassFile.FieldType), Jvm.Cond.code ({ cls := "java/lang/String", name := "<init>", desc := "([CIILjava/lang/Void;)V" } : Jvm.MethodName) jdk_42_method_149_code (6 : Nat) (Option.none : Option Jvm.ClassFile.FieldType), Jvm.Cond.code ({ cls := "java/lang/Object", name := "<init>", desc := "()V" } : Jvm.MethodName) object_method_1_code (1 : Nat) (Option.none : Option Jvm.ClassFile.FieldType), Jvm.Cond.code ({ cls := "java/lang/StringUTF16", name := "compress", desc := "([CII)[B" } : Jvm.MethodName) jdk_52_method_16_code (6 : Nat) (Option.some (Jvm.ClassFile.FieldType.array Jvm.ClassFile.FieldType.byte)), Jvm.Cond.code ({ cls := "java/lang/StringUTF16", name := "compress", desc := "([CI[BII)I" } : Jvm.MethodName) jdk_52_method_21_code (7 : Nat) (Option.some Jvm.ClassFile.FieldType.int), Jvm.Cond.code ({ cls := "java/lang/StringUTF16", name := "coderFromArrayLen", desc := "([BI)B" } : Jvm.MethodName) jdk_52_method_15_code (2 : Nat) (Option.some Jvm.ClassFile.FieldType.byte), Jvm.Cond.code ({ cls := "java/lang/Math", name := "min", desc := "(II)I" } : Jvm.MethodName) jdk_29_method_69_code (2 : Nat) (Option.some Jvm.ClassFile.FieldType.int), Jvm.Cond.code ({ cls := "java/lang/Math", name := "max", desc := "(II)I" } : Jvm.MethodName) jdk_29_method_65_code (2 : Nat) (Option.some Jvm.ClassFile.FieldType.int), Jvm.Cond.code ({ cls := "com/example/backfill/backfill/postgres/TokenTextPinLaw", name := "kindOf", desc := "(I)Lcom/example/backfill/backfill/postgres/SqlLexer$Kind;" } : Jvm.MethodName) method_2_code (2 : Nat) (Option.some (Jvm.ClassFile.FieldType.object "com/example/backfill/backfill/postgres/SqlLexer$Kind")), Jvm.Cond.code ({ cls := "com/example/backfill/backfill/postgres/SqlLexer$Token", name := "<init>", desc := "(Lcom/example/backfill/backfill/postgres/SqlLexer$Kind;Ljava/lang/String;II)V" } : Jvm.MethodName) prog_76_method_1_code (5 : Nat) (Option.none : Option Jvm.ClassFile.FieldType), Jvm.Cond.code ({ cls := "java/lang/Record", name := "<init>", desc := "()V" } : Jvm.MethodName) jdk_30_method_1_code (1 : Nat) (Option.none : Option Jvm.ClassFile.FieldType), Jvm.Cond.code ({ cls := "com/example/backfill/backfill/postgres/SqlLexer$Token", name := "text", desc := "()Ljava/lang/String;" } : Jvm.MethodName) prog_76_method_2_code (1 : Nat) (Option.some (Jvm.ClassFile.FieldType.object "java/lang/String")), Jvm.Cond.code ({ cls := "java/lang/String", name := "substring", desc := "(II)Ljava/lang/String;" } : Jvm.MethodName) jdk_42_method_92_code (5 : Nat) (Option.some (Jvm.ClassFile.FieldType.object "java/lang/String")), Jvm.Cond.code ({ cls := "java/lang/String", name := "length", desc := "()I" } : Jvm.MethodName) jdk_42_method_54_code (1 : Nat) (Option.some Jvm.ClassFile.FieldType.int), Jvm.Cond.code ({ cls := "java/lang/String", name := "coder", desc := "()B" } : Jvm.MethodName) jdk_42_method_152_code (1 : Nat) (Option.some Jvm.ClassFile.FieldType.byte), Jvm.Cond.code ({ cls := "java/lang/String", name := "checkBoundsBeginEnd", desc := "(III)V" } : Jvm.MethodName) jdk_42_method_158_code (3 : Nat) (Option.none : Option Jvm.ClassFile.FieldType), Jvm.Cond.code ({ cls := "jdk/internal/util/Preconditions", name := "checkFromToIndex", desc := "(IIILjava/util/function/BiFunction;)I" } : Jvm.MethodName) jdk_41_method_12_code (4 : Nat) (Option.some Jvm.ClassFile.FieldType.int), Jvm.Cond.code ({ cls := "java/lang/String", name := "isLatin1", desc := "()Z" } : Jvm.MethodName) jdk_42_method_154_code (1 : Nat) (Option.some Jvm.ClassFile.FieldType.boolean), Jvm.Cond.code ({ cls := "java/lang/StringLatin1", name := "newString", desc := "([BII)Ljava/lang/String;" } : Jvm.MethodName) jdk_43_method_47_code (3 : Nat) (Option.some (Jvm.ClassFile.FieldType.object "java/lang/String")), Jvm.Cond.code ({ cls := "java/util/Arrays", name := "copyOfRange", desc := "([BII)[B" } : Jvm.MethodName) jdk_65_method_132_code (3 : Nat) (Option.some (Jvm.ClassFile.FieldType.array Jvm.ClassFile.FieldType.byte)), Jvm.Cond.code ({ cls := "java/util/Arrays", name := "copyOfRangeByte", desc := "([BII)[B" } : Jvm.MethodName) jdk_65_method_133_code (5 : Nat) (Option.some (Jvm.ClassFile.FieldType.array Jvm.ClassFile.FieldType.byte)), Jvm.Cond.code ({ cls := "java/util/Arrays", name := "checkLength", desc := "(II)V" } : Jvm.MethodName) jdk_65_method_131_code (2 : Nat) (Option.none : Option Jvm.ClassFile.FieldType), Jvm.Cond.code ({ cls := "java/lang/String", name := "<init>", desc := "([BB)V" } : Jvm.MethodName) jdk_42_method_151_code (3 : Nat) (Option.none : Option Jvm.ClassFile.FieldType), Jvm.Cond.code ({ cls := "java/lang/String", name := "charAt", desc := "(I)C" } : Jvm.MethodName) jdk_42_method_56_code (2 : Nat) (Option.some Jvm.ClassFile.FieldType.char), Jvm.Cond.code ({ cls := "java/lang/StringLatin1", name := "charAt", desc := "([BI)C" } : Jvm.MethodName) jdk_43_method_2_code (2 : Nat) (Option.some Jvm.ClassFile.FieldType.char), Jvm.Cond.code ({ cls := "java/lang/String", name := "checkIndex", desc := "(II)V" } : Jvm.MethodName) jdk_42_method_155_code (2 : Nat) (Option.none : Option Jvm.ClassFile.FieldType), Jvm.Cond.code ({ cls := "jdk/internal/util/Preconditions", name := "checkIndex", desc := "(IILjava/util/function/BiFunction;)I" } : Jvm.MethodName) jdk_41_method_11_code (3 : Nat) (Option.some Jvm.ClassFile.FieldType.int)]
set_option maxRecDepth 65536 in
theorem codes_eq : words1.filter isCode = codes1 := rfl
theorem w_codes : ∀ c ∈ words1.filter isCode, c.before args0 about1 = true := by
  rw [codes_eq]
  intro c hc
  simp only [codes1, List.mem_cons, List.not_mem_nil, or_false] at hc
  rcases hc with rfl | rfl | rfl | rfl | rfl | rfl | rfl | rfl | rfl | rfl | rfl | rfl | rfl | rfl | rfl | rfl | rfl | rfl | rfl | rfl | rfl | rfl | rfl | rfl | rfl | rfl | rfl | rfl
  · exact w_c0
  · exact w_c1
  · exact w_c2
  · exact w_c3
  · exact w_c4
  · exact w_c5
  · exact w_c6
  · exact w_c7
  · exact w_c8
  · exact w_c9
  · exact w_c10
  · exact w_c11
  · exact w_c12
  · exact w_c13
  · exact w_c14
  · exact w_c15
  · exact w_c16
  · exact w_c17
  · exact w_c18
  · exact w_c19
  · exact w_c20
  · exact w_c21
  · exact w_c22
  · exact w_c23
  · exact w_c24
  · exact w_c25
  · exact w_c26
  · exact w_c27
set_option maxRecDepth 65536 in
theorem w_t1 : (words1.take 24).all (fun c => isCode c || c.before args0 about1) = true := by decide +kernel
set_option maxRecDepth 65536 in
theorem w_t2 : ((words1.drop 24).take 24).all (fun c => isCode c || c.before args0 about1) = true := by decide +kernel
set_option maxRecDepth 65536 in
theorem w_t3 : (((words1.drop 24).drop 24).take 24).all (fun c => isCode c || c.before args0 about1) = true := by decide +kernel
set_option maxRecDepth 65536 in
theorem w_t4 : ((((words1.drop 24).drop 24).drop 24).take 24).all (fun c => isCode c || c.before args0 about1) = true := by decide +kernel
set_option maxRecDepth 65536 in
theorem w_t5 : (((((words1.drop 24).drop 24).drop 24).drop 24).take 24).all (fun c => isCode c || c.before args0 about1) = true := by decide +kernel
set_option maxRecDepth 65536 in
theorem w_t6 : ((((((words1.drop 24).drop 24).drop 24).drop 24).drop 24).take 24).all (fun c => isCode c || c.before args0 about1) = true := by decide +kernel
set_option maxRecDepth 65536 in
theorem w_t7 : ((((((words1.drop 24).drop 24).drop 24).drop 24).drop 24).drop 24).all (fun c => isCode c || c.before args0 about1) = true := by decide +kernel
theorem w_tables : (allAtoms (Jvm.Cond.code x code maxLocals ret :: tables_1)).before args0 about1 = true := by
  rw [allAtoms_all]
  show words1.all (fun c => c.before args0 about1) = true
  refine all_split ?_ w_codes
  rw [← List.take_append_drop 24 words1, List.all_append, w_t1, ← List.take_append_drop 24 (words1.drop 24), List.all_append, w_t2, ← List.take_append_drop 24 ((words1.drop 24).drop 24), List.all_append, w_t3, ← List.take_append_drop 24 (((words1.drop 24).drop 24).drop 24), List.all_append, w_t4, ← List.take_append_drop 24 ((((words1.drop 24).drop 24).drop 24).drop 24), List.all_append, w_t5, ← List.take_append_drop 24 (((((words1.drop 24).drop 24).drop 24).drop 24).drop 24), List.all_append, w_t6, w_t7]
  rfl
set_option maxRecDepth 65536 in
theorem w_rest : rest_1_c.before args0 about1 = true := by decide +kernel
set_option maxRecDepth 65536 in
theorem w_case : (Jvm.Cond.and given_1 narrow_1).before args0 about1 = true := by decide +kernel
set_option maxRecDepth 65536 in
theorem w_consts : constsHeld consts_1 about1 := Jvm.Lit.constsHeldB_iff.mp (by decide +kernel)
theorem w_applies : (headSpec (Jvm.Cond.code x code maxLocals ret :: tables_1) room_1).applies x e0.platform about1 = true :=
  (Spec.applies_iff w_frames).mpr ⟨w_running, w_runnable, w_alone, w_named, w_hears, w_ripe, w_room, w_tables⟩
theorem atStart : AtStart classFile x code maxLocals ret World_1 tables_1 room_1 Calls_1 rest_1 Pre_1 launch0 p0 e0 about1 theMethod args0 below0 :=
  ⟨lists_1, trivial, launch0.admits_env _ _ _, launch0.least_env, fairChoices_fair.cas, fairChoices_fair.clock, w_frames, w_args, w_heap, w_applies, ⟨w_consts, trivial⟩, w_rest, w_case⟩
end start1
theorem witness_1 : WitnessClaimed_1 := ⟨start1.p0, start1.e0, start1.about1, start1.theMethod, start1.args0, start1.below0, start1.atStart⟩
end Jvm.Pilot.@@N@@
