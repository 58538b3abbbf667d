import JvmDerived
import JvmDerived.Pilot.@@N@@Statement
import JvmDerived.Pilot.@@N@@Code
set_option linter.unusedVariables false
set_option linter.unusedSimpArgs false
@@BLOCK:NumsL.lean.txt@@
namespace Jvm.Pilot.@@N@@
open Jvm Jvm.ClassFile Sem Op Lib Jvm.Free Jvm.Stand Jvm.LawKit Jvm.RoadKit Bundle Jvm.Pilot.@@N@@.Jvm.D
/-! ## own kit: one body's walk as a goal on the heap, the frame and the room alone -/
/-- what stays the same through one body's walk -/
def Cx (p : Program) (s : State) (m : MethodId) (meth : Method) (c : Code) (Z : State) (n0 : Nat) (own : String) (bc : ByteArray) (maxL : Nat) (ret : Option FieldType) (nm : String) : Prop :=
  p.tables.exec = Jvm.exec ∧ Z.Warmed39 s.vm ∧ s.vm.findClass own = some m.cls ∧ c.code = bc ∧ c.maxLocals = maxL ∧ meth.sig.returnType = ret ∧ meth.name = nm ∧ meth.locks = false ∧ n0 ≤ s.heap.size
/-- from every state with this heap at which the body stands: the run goes on from this frame to the end that F says -/
def Go (p : Program) (l : Launch) (e : Env) (R : Room) (s : State) (m : MethodId) (args : Array Value) (below : List Frame) (meth : Method) (c : Code) (n0 : Nat) (F : State → Outcome → Prop) (h : Heap) (k n pc : Nat) (Ls : Array Slot) (st : List Value) : Prop :=
  ∀ (T : State) (locs : List Loc), Stand p l e R s m args below meth c T locs k n → T.heap = h → Fr n0 locs →
    ∃ s₂ o, Steps p.tables e below (T.setTop (mkF m pc Ls st)) s₂ ∧ s₂.status = .running ∧ Ended s₂ below o ∧ F s₂ o
/-- the end of a body: it returned what Q says, wrote new cells alone -/
def FinQ (s : State) (n0 : Nat) (Q : Option Value → Heap → Prop) (ck cs : Nat) : State → Outcome → Prop := fun s₂ o => ∃ v L, o = .returned v ∧ (Q v s₂.heap ∧ Fr n0 L) ∧ FrameEnd s o s₂ L ck cs
/-- a body's contract at the heap h0 -/
def Con (l : Launch) (Z : State) (n0 : Nat) (ws : List Jvm.Cond) (y : MethodName) (bc : ByteArray) (maxL : Nat) (ret : Option FieldType) (R : Room) (as : Array Value) (h0 : Heap) (Q : Option Value → Heap → Prop) : Prop :=
  MetFree l y (head1 (Jvm.Cond.code y bc maxL ret :: ws) R) (fun a U => a = as ∧ Z.Warmed39 U.vm ∧ U.heap = h0) (fun _ _ _ _ _ => True) (fun _ U o U' => ∃ v L, o = .returned v ∧ (Q v U'.heap ∧ Fr n0 L) ∧ FrameEnd U o U' L R.cells R.slots)
/-- an array: its class, its values -/
def Av (Z : State) (h : Heap) (a : Addr) (ty : FieldType) (vs : List Value) : Prop := ∃ c : Cell, Arr Z h a c ty ∧ c.slots.toList = vs ∧ ∀ v ∈ vs, fits ty v = true
section Own
variable {p : Program} {l : Launch} {e : Env} {R : Room} {s : State} {m : MethodId} {args : Array Value} {below : List Frame} {meth : Method} {c : Code} {n0 : Nat} {F : State → Outcome → Prop} {h : Heap} {k n pc pc' : Nat} {Ls : Array Slot} {st : List Value} {Z : State} {own : String} {bc : ByteArray} {maxL : Nat} {ret : Option FieldType} {nm : String} {a0 : Array Value}
theorem tw {ws : List Jvm.Cond} (hw : ∀ d ∈ ws, d.before a0 Z = true) (i : Nat) {d : Jvm.Cond} (q : ws[i]? = some d) : d.before a0 Z = true := hw _ (List.mem_of_getElem? q)
theorem Av.lt {a : Addr} {ty : FieldType} {vs : List Value} (A : Av Z h a ty vs) : a < h.size := by obtain ⟨c, A, -⟩ := A; exact A.lt
theorem Av.ext {a : Addr} {ty : FieldType} {vs : List Value} {h' : Heap} (A : Av Z h a ty vs) (E : Ext h h') : Av Z h' a ty vs := by obtain ⟨c, A, q⟩ := A; exact ⟨c, A.ext E, q⟩
theorem Av.other {a b : Addr} {ty : FieldType} {vs : List Value} {h' : Heap} {sl : Nat} {v : Value} (A : Av Z h b ty vs) (W : Wr h h' a sl v) (q : b ≠ a) : Av Z h' b ty vs := by obtain ⟨c, A, r⟩ := A; exact ⟨c, A.other W q, r⟩
theorem Av.keep {a : Addr} {ty : FieldType} {vs : List Value} {h' : Heap} {ws : List Addr} (A : Av Z h a ty vs) (K : Keep h h' ws) (q : a ∉ ws) : Av Z h' a ty vs := by obtain ⟨c, A, r⟩ := A; exact ⟨c, ⟨K.2.1 a c A.1 q, A.2⟩, r⟩
theorem Av.same {a : Addr} {ty : FieldType} {vs : List Value} {h' : Heap} {j : Nat} {v : Value} (A : Av Z h a ty vs) (W : Wr h h' a j v) (hf : fits ty v = true) : Av Z h' a ty (vs.set j v) := by
  obtain ⟨c, A, rfl, r⟩ := A
  refine ⟨_, A.same W, by simp [Cell.setSlot], fun w hw => ?_⟩
  rcases List.mem_or_eq_of_mem_set hw with q | rfl
  · exact r w q
  · exact hf
theorem Av.fit {a : Addr} {ty : FieldType} {vs : List Value} {i : Nat} {v : Value} (A : Av Z h a ty vs) (q : vs[i]? = some v) : fits ty v = true := by obtain ⟨c, A, -, r⟩ := A; exact r v (List.mem_of_getElem? q)
theorem Av.new {a : Addr} {kc : ClassId} {ty : FieldType} {z : Int32} (A : Arr Z h a (newA kc ty z) ty) : Av Z h a ty (List.replicate z.toNatClampNeg (defaultValue ty)) :=
  ⟨_, A, by simp [newA], fun v hv => by rw [List.eq_of_mem_replicate hv]; cases ty <;> rfl⟩
theorem own_in {j : Int32} {cl : Cell} {v : Value} (hj : ¬ j < 0) (hv : cl.slots[j.toNatClampNeg]? = some v) : ¬ (j < 0 ∨ cl.slots.size ≤ j.toNatClampNeg) := fun q => q.elim hj fun q => absurd (Array.getElem?_eq_some_iff.mp hv).1 (Nat.not_lt.mpr q)
theorem own_in2 {j : Int32} {cl : Cell} (hj : ¬ j < 0) (hl : j.toNatClampNeg < cl.slots.size) : ¬ (j < 0 ∨ cl.slots.size ≤ j.toNatClampNeg) := fun q => q.elim hj fun q => absurd hl (Nat.not_lt.mpr q)
theorem Go.pl {Ls' : Array Slot} {st' : List Value} (q : ∀ (T : State) (locs : List Loc), Stand p l e R s m args below meth c T locs k n → T.heap = h → ∀ t, Steps p.tables e below (T.setTop (mkF m pc' Ls' st')) t → Steps p.tables e below (T.setTop (mkF m pc Ls st)) t) (hr : Go p l e R s m args below meth c n0 F h k n pc' Ls' st') : Go p l e R s m args below meth c n0 F h k n pc Ls st := fun T locs X eT N => by
  obtain ⟨s₂, o, h1, h2⟩ := hr T locs X eT N
  exact ⟨s₂, o, q T locs X eT _ h1, h2⟩
theorem Go.more {k' n' : Nat} (hr : Go p l e R s m args below meth c n0 F h k' n' pc Ls st) (h1 : k ≤ k') (h2 : n ≤ n') : Go p l e R s m args below meth c n0 F h k n pc Ls st := fun T locs X eT N => hr T locs (X.more h1 h2) eT N
theorem Cx.size (C : Cx p s m meth c Z n0 own bc maxL ret nm) {T : State} {locs : List Loc} (X : Stand p l e R s m args below meth c T locs k n) : n0 ≤ T.heap.size := Nat.le_trans C.2.2.2.2.2.2.2.2 X.same.2.1
theorem Go.cI {x y : Int32} (q : x = y) (hr : Go p l e R s m args below meth c n0 F h k n pc Ls (.int y :: st)) : Go p l e R s m args below meth c n0 F h k n pc Ls (.int x :: st) := q ▸ hr
theorem Go.cL {x y : Int64} (q : x = y) (hr : Go p l e R s m args below meth c n0 F h k n pc Ls (.long y :: st)) : Go p l e R s m args below meth c n0 F h k n pc Ls (.long x :: st) := q ▸ hr
theorem Cx.iloadN (C : Cx p s m meth c Z n0 own bc maxL ret nm) {j : Fin 4} {v : Int32} (hd : decode bc pc = .ok (.iload_n j, 1)) (hp : pc + 1 = pc') (hl : Ls[j.val]? = some (.val (.int v))) (hr : Go p l e R s m args below meth c n0 F h k n pc' Ls (.int v :: st)) : Go p l e R s m args below meth c n0 F h k n pc Ls (st) := by
  subst hp; exact Go.pl (fun T locs X eT t q => XS.iloadN X.here C.1 rfl (hb C.2.2.2.1 hd) hl q) hr
theorem Cx.iload (C : Cx p s m meth c Z n0 own bc maxL ret nm) {j : Nat} {v : Int32} (hd : decode bc pc = .ok (.iload j, 2)) (hp : pc + 2 = pc') (hl : Ls[j]? = some (.val (.int v))) (hr : Go p l e R s m args below meth c n0 F h k n pc' Ls (.int v :: st)) : Go p l e R s m args below meth c n0 F h k n pc Ls (st) := by
  subst hp; exact Go.pl (fun T locs X eT t q => XS.iload X.here C.1 rfl (hb C.2.2.2.1 hd) hl q) hr
theorem Cx.lloadN (C : Cx p s m meth c Z n0 own bc maxL ret nm) {j : Fin 4} {v : Int64} (hd : decode bc pc = .ok (.lload_n j, 1)) (hp : pc + 1 = pc') (hl : Ls[j.val]? = some (.val (.long v))) (hr : Go p l e R s m args below meth c n0 F h k n pc' Ls (.long v :: st)) : Go p l e R s m args below meth c n0 F h k n pc Ls (st) := by
  subst hp; exact Go.pl (fun T locs X eT t q => XT.lloadN X.here C.1 rfl (hb C.2.2.2.1 hd) hl q) hr
theorem Cx.lload (C : Cx p s m meth c Z n0 own bc maxL ret nm) {j : Nat} {v : Int64} (hd : decode bc pc = .ok (.lload j, 2)) (hp : pc + 2 = pc') (hl : Ls[j]? = some (.val (.long v))) (hr : Go p l e R s m args below meth c n0 F h k n pc' Ls (.long v :: st)) : Go p l e R s m args below meth c n0 F h k n pc Ls (st) := by
  subst hp; exact Go.pl (fun T locs X eT t q => XT.lload X.here C.1 rfl (hb C.2.2.2.1 hd) hl q) hr
theorem Cx.aloadN (C : Cx p s m meth c Z n0 own bc maxL ret nm) {j : Fin 4} {v : Value} (hd : decode bc pc = .ok (.aload_n j, 1)) (hp : pc + 1 = pc') (hl : Ls[j.val]? = some (.val v)) (hv : v.isRef = true) (hr : Go p l e R s m args below meth c n0 F h k n pc' Ls (v :: st)) : Go p l e R s m args below meth c n0 F h k n pc Ls (st) := by
  subst hp; exact Go.pl (fun T locs X eT t q => XS.aloadN X.here C.1 rfl (hb C.2.2.2.1 hd) hl hv q) hr
theorem Cx.aload (C : Cx p s m meth c Z n0 own bc maxL ret nm) {j : Nat} {v : Value} (hd : decode bc pc = .ok (.aload j, 2)) (hp : pc + 2 = pc') (hl : Ls[j]? = some (.val v)) (hv : v.isRef = true) (hr : Go p l e R s m args below meth c n0 F h k n pc' Ls (v :: st)) : Go p l e R s m args below meth c n0 F h k n pc Ls (st) := by
  subst hp; exact Go.pl (fun T locs X eT t q => XS.aload X.here C.1 rfl (hb C.2.2.2.1 hd) hl hv q) hr
theorem Cx.istoreN (C : Cx p s m meth c Z n0 own bc maxL ret nm) {j : Fin 4} {v : Int32} {Ls' : Array Slot} (hd : decode bc pc = .ok (.istore_n j, 1)) (hp : pc + 1 = pc') (hl : storeLocals Ls j.val (.int v) = some Ls') (hr : Go p l e R s m args below meth c n0 F h k n pc' Ls' (st)) : Go p l e R s m args below meth c n0 F h k n pc Ls (.int v :: st) := by
  subst hp; exact Go.pl (fun T locs X eT t q => XS.istoreN X.here C.1 rfl (hb C.2.2.2.1 hd) rfl hl q) hr
theorem Cx.istore (C : Cx p s m meth c Z n0 own bc maxL ret nm) {j : Nat} {v : Int32} {Ls' : Array Slot} (hd : decode bc pc = .ok (.istore j, 2)) (hp : pc + 2 = pc') (hl : storeLocals Ls j (.int v) = some Ls') (hr : Go p l e R s m args below meth c n0 F h k n pc' Ls' (st)) : Go p l e R s m args below meth c n0 F h k n pc Ls (.int v :: st) := by
  subst hp; exact Go.pl (fun T locs X eT t q => XS.istore X.here C.1 rfl (hb C.2.2.2.1 hd) rfl hl q) hr
theorem Cx.lstore (C : Cx p s m meth c Z n0 own bc maxL ret nm) {j : Nat} {v : Int64} {Ls' : Array Slot} (hd : decode bc pc = .ok (.lstore j, 2)) (hp : pc + 2 = pc') (hl : storeLocals Ls j (.long v) = some Ls') (hr : Go p l e R s m args below meth c n0 F h k n pc' Ls' (st)) : Go p l e R s m args below meth c n0 F h k n pc Ls (.long v :: st) := by
  subst hp; exact Go.pl (fun T locs X eT t q => XT.lstore X.here C.1 rfl (hb C.2.2.2.1 hd) rfl hl q) hr
theorem Cx.astore (C : Cx p s m meth c Z n0 own bc maxL ret nm) {j : Nat} {v : Value} {Ls' : Array Slot} (hd : decode bc pc = .ok (.astore j, 2)) (hp : pc + 2 = pc') (hv : v.isRef = true) (hl : storeLocals Ls j v = some Ls') (hr : Go p l e R s m args below meth c n0 F h k n pc' Ls' (st)) : Go p l e R s m args below meth c n0 F h k n pc Ls (v :: st) := by
  subst hp; exact Go.pl (fun T locs X eT t q => XS.astore X.here C.1 rfl (hb C.2.2.2.1 hd) rfl hv hl q) hr
theorem Cx.iconst (C : Cx p s m meth c Z n0 own bc maxL ret nm) {i : Int} (v : Int32) (hd : decode bc pc = .ok (.iconst i, 1)) (hp : pc + 1 = pc') (hv : Int32.ofInt i = v) (hr : Go p l e R s m args below meth c n0 F h k n pc' Ls (.int v :: st)) : Go p l e R s m args below meth c n0 F h k n pc Ls st := by
  subst hp hv; exact Go.pl (fun T locs X eT t q => XS.iconst X.here C.1 rfl (hb C.2.2.2.1 hd) q) hr
theorem Cx.bipush (C : Cx p s m meth c Z n0 own bc maxL ret nm) {i : Int} (v : Int32) (hd : decode bc pc = .ok (.bipush i, 2)) (hp : pc + 2 = pc') (hv : (Int8.ofInt i).toInt32 = v) (hr : Go p l e R s m args below meth c n0 F h k n pc' Ls (.int v :: st)) : Go p l e R s m args below meth c n0 F h k n pc Ls st := by
  subst hp hv; exact Go.pl (fun T locs X eT t q => XS.bipush X.here C.1 rfl (hb C.2.2.2.1 hd) q) hr
theorem Cx.sipush (C : Cx p s m meth c Z n0 own bc maxL ret nm) {i : Int} (v : Int32) (hd : decode bc pc = .ok (.sipush i, 3)) (hp : pc + 3 = pc') (hv : (Int16.ofInt i).toInt32 = v) (hr : Go p l e R s m args below meth c n0 F h k n pc' Ls (.int v :: st)) : Go p l e R s m args below meth c n0 F h k n pc Ls st := by
  subst hp hv; exact Go.pl (fun T locs X eT t q => XS.sipush X.here C.1 rfl (hb C.2.2.2.1 hd) q) hr
theorem Cx.lconst (C : Cx p s m meth c Z n0 own bc maxL ret nm) {i : Fin 2} (v : Int64) (hd : decode bc pc = .ok (.lconst i, 1)) (hp : pc + 1 = pc') (hv : Int64.ofNat i = v) (hr : Go p l e R s m args below meth c n0 F h k n pc' Ls (.long v :: st)) : Go p l e R s m args below meth c n0 F h k n pc Ls st := by
  subst hp hv; exact Go.pl (fun T locs X eT t q => XT.lconst X.here C.1 rfl (hb C.2.2.2.1 hd) q) hr
theorem Cx.aconst_null (C : Cx p s m meth c Z n0 own bc maxL ret nm)  (hd : decode bc pc = .ok (.aconst_null, 1)) (hp : pc + 1 = pc')  (hr : Go p l e R s m args below meth c n0 F h k n pc' Ls (.null :: st)) : Go p l e R s m args below meth c n0 F h k n pc Ls (st) := by
  subst hp; exact Go.pl (fun T locs X eT t q => XS.aconstNull X.here C.1 rfl (hb C.2.2.2.1 hd)  q) hr
theorem Cx.iadd (C : Cx p s m meth c Z n0 own bc maxL ret nm) {x y : Int32} (hd : decode bc pc = .ok (.iadd, 1)) (hp : pc + 1 = pc')  (hr : Go p l e R s m args below meth c n0 F h k n pc' Ls (.int (x + y) :: st)) : Go p l e R s m args below meth c n0 F h k n pc Ls (.int y :: .int x :: st) := by
  subst hp; exact Go.pl (fun T locs X eT t q => XS.iadd X.here C.1 rfl (hb C.2.2.2.1 hd) rfl q) hr
theorem Cx.isub (C : Cx p s m meth c Z n0 own bc maxL ret nm) {x y : Int32} (hd : decode bc pc = .ok (.isub, 1)) (hp : pc + 1 = pc')  (hr : Go p l e R s m args below meth c n0 F h k n pc' Ls (.int (x - y) :: st)) : Go p l e R s m args below meth c n0 F h k n pc Ls (.int y :: .int x :: st) := by
  subst hp; exact Go.pl (fun T locs X eT t q => XS.isub X.here C.1 rfl (hb C.2.2.2.1 hd) rfl q) hr
theorem Cx.iand (C : Cx p s m meth c Z n0 own bc maxL ret nm) {x y : Int32} (hd : decode bc pc = .ok (.iand, 1)) (hp : pc + 1 = pc')  (hr : Go p l e R s m args below meth c n0 F h k n pc' Ls (.int (x &&& y) :: st)) : Go p l e R s m args below meth c n0 F h k n pc Ls (.int y :: .int x :: st) := by
  subst hp; exact Go.pl (fun T locs X eT t q => XS.iand X.here C.1 rfl (hb C.2.2.2.1 hd) rfl q) hr
theorem Cx.iushr (C : Cx p s m meth c Z n0 own bc maxL ret nm) {x y : Int32} (hd : decode bc pc = .ok (.iushr, 1)) (hp : pc + 1 = pc')  (hr : Go p l e R s m args below meth c n0 F h k n pc' Ls (.int (XT.ushr x y) :: st)) : Go p l e R s m args below meth c n0 F h k n pc Ls (.int y :: .int x :: st) := by
  subst hp; exact Go.pl (fun T locs X eT t q => XT.iushr X.here C.1 rfl (hb C.2.2.2.1 hd) rfl q) hr
theorem Cx.idiv (C : Cx p s m meth c Z n0 own bc maxL ret nm) {x y : Int32} (hd : decode bc pc = .ok (.idiv, 1)) (hp : pc + 1 = pc') (hy : y ≠ 0) (hr : Go p l e R s m args below meth c n0 F h k n pc' Ls (.int (x / y) :: st)) : Go p l e R s m args below meth c n0 F h k n pc Ls (.int y :: .int x :: st) := by
  subst hp; exact Go.pl (fun T locs X eT t q => XS.idiv X.here C.1 rfl (hb C.2.2.2.1 hd) rfl hy q) hr
theorem Cx.irem (C : Cx p s m meth c Z n0 own bc maxL ret nm) {x y : Int32} (hd : decode bc pc = .ok (.irem, 1)) (hp : pc + 1 = pc') (hy : y ≠ 0) (hr : Go p l e R s m args below meth c n0 F h k n pc' Ls (.int (x % y) :: st)) : Go p l e R s m args below meth c n0 F h k n pc Ls (.int y :: .int x :: st) := by
  subst hp; exact Go.pl (fun T locs X eT t q => iremM X C.1 rfl (hb C.2.2.2.1 hd) rfl hy q) hr
theorem Cx.lor (C : Cx p s m meth c Z n0 own bc maxL ret nm) {x y : Int64} (hd : decode bc pc = .ok (.lor, 1)) (hp : pc + 1 = pc')  (hr : Go p l e R s m args below meth c n0 F h k n pc' Ls (.long (x ||| y) :: st)) : Go p l e R s m args below meth c n0 F h k n pc Ls (.long y :: .long x :: st) := by
  subst hp; exact Go.pl (fun T locs X eT t q => XT.lor X.here C.1 rfl (hb C.2.2.2.1 hd) rfl q) hr
theorem Cx.lshl (C : Cx p s m meth c Z n0 own bc maxL ret nm) {x : Int64} {y : Int32} (hd : decode bc pc = .ok (.lshl, 1)) (hp : pc + 1 = pc')  (hr : Go p l e R s m args below meth c n0 F h k n pc' Ls (.long (x <<< (y.toInt64 &&& 63)) :: st)) : Go p l e R s m args below meth c n0 F h k n pc Ls (.int y :: .long x :: st) := by
  subst hp; exact Go.pl (fun T locs X eT t q => XT.lshl X.here C.1 rfl (hb C.2.2.2.1 hd) rfl q) hr
theorem Cx.lcmp (C : Cx p s m meth c Z n0 own bc maxL ret nm) {x y : Int64} (hd : decode bc pc = .ok (.lcmp, 1)) (hp : pc + 1 = pc')  (hr : Go p l e R s m args below meth c n0 F h k n pc' Ls (.int (XT.cmpL x y) :: st)) : Go p l e R s m args below meth c n0 F h k n pc Ls (.long y :: .long x :: st) := by
  subst hp; exact Go.pl (fun T locs X eT t q => XT.lcmp X.here C.1 rfl (hb C.2.2.2.1 hd) rfl q) hr
theorem Cx.iinc (C : Cx p s m meth c Z n0 own bc maxL ret nm) {j : Nat} {i : Int} {x : Int32} {Ls' : Array Slot} (v : Int32) (hd : decode bc pc = .ok (.iinc j i, 3)) (hp : pc + 3 = pc') (hv : Int32.ofInt i = v) (hl : Ls[j]? = some (.val (.int x))) (hl' : storeLocals Ls j (.int (x + v)) = some Ls') (hr : Go p l e R s m args below meth c n0 F h k n pc' Ls' st) : Go p l e R s m args below meth c n0 F h k n pc Ls st := by
  subst hp hv; exact Go.pl (fun T locs X eT t q => XS.iinc X.here C.1 rfl (hb C.2.2.2.1 hd) hl hl' q) hr
theorem Cx.dup (C : Cx p s m meth c Z n0 own bc maxL ret nm) {x : Value} (hd : decode bc pc = .ok (.dup, 1)) (hp : pc + 1 = pc') (hc : x.category = 1) (hr : Go p l e R s m args below meth c n0 F h k n pc' Ls (x :: x :: st)) : Go p l e R s m args below meth c n0 F h k n pc Ls (x :: st) := by
  subst hp; exact Go.pl (fun T locs X eT t q => XS.dup X.here C.1 rfl (hb C.2.2.2.1 hd) rfl hc q) hr
theorem Cx.dupX1 (C : Cx p s m meth c Z n0 own bc maxL ret nm) {x y : Value} (hd : decode bc pc = .ok (.dup_x1, 1)) (hp : pc + 1 = pc') (hc : x.category = 1) (hc' : y.category = 1) (hr : Go p l e R s m args below meth c n0 F h k n pc' Ls (x :: y :: x :: st)) : Go p l e R s m args below meth c n0 F h k n pc Ls (x :: y :: st) := by
  subst hp; exact Go.pl (fun T locs X eT t q => XT.dupX1 X.here C.1 rfl (hb C.2.2.2.1 hd) rfl hc hc' q) hr
theorem Cx.dup2 (C : Cx p s m meth c Z n0 own bc maxL ret nm) {x y : Value} (hd : decode bc pc = .ok (.dup2, 1)) (hp : pc + 1 = pc') (hc : x.category = 1) (hc' : y.category = 1) (hr : Go p l e R s m args below meth c n0 F h k n pc' Ls (x :: y :: x :: y :: st)) : Go p l e R s m args below meth c n0 F h k n pc Ls (x :: y :: st) := by
  subst hp; exact Go.pl (fun T locs X eT t q => XT.dup2 X.here C.1 rfl (hb C.2.2.2.1 hd) rfl hc hc' q) hr
theorem Cx.goto (C : Cx p s m meth c Z n0 own bc maxL ret nm) {o : Int} (hd : decode bc pc = .ok (.goto o, 3)) (ho : 0 ≤ (pc : Int) + o) (hp : ((pc : Int) + o).toNat = pc') (hr : Go p l e R s m args below meth c n0 F h k n pc' Ls st) : Go p l e R s m args below meth c n0 F h k n pc Ls st := by
  exact Go.pl (fun T locs X eT t q => XS.goto X.here C.1 rfl rfl (hb C.2.2.2.1 hd) ho hp q) hr
theorem Cx.if_eq_t (C : Cx p s m meth c Z n0 own bc maxL ret nm) {x : Int32} {o : Int} (hd : decode bc pc = .ok (.ifCond .eq o, 3)) (ho : 0 ≤ (pc : Int) + o) (hp : ((pc : Int) + o).toNat = pc') (hq : x = 0) (hr : Go p l e R s m args below meth c n0 F h k n pc' Ls st) : Go p l e R s m args below meth c n0 F h k n pc Ls (.int x :: st) :=
  Go.pl (fun T locs X eT t q => XS.ifYes X.here C.1 rfl rfl (hb C.2.2.2.1 hd) rfl (XT.i0_eq_t hq) ho hp q) hr
theorem Cx.if_eq_f (C : Cx p s m meth c Z n0 own bc maxL ret nm) {x : Int32} {o : Int} (hd : decode bc pc = .ok (.ifCond .eq o, 3)) (hp : pc + 3 = pc') (hq : ¬ x = 0) (hr : Go p l e R s m args below meth c n0 F h k n pc' Ls st) : Go p l e R s m args below meth c n0 F h k n pc Ls (.int x :: st) := by
  subst hp; exact Go.pl (fun T locs X eT t q => XS.ifNo X.here C.1 rfl (hb C.2.2.2.1 hd) rfl (XT.i0_eq_f hq) q) hr
theorem Cx.if_eq (C : Cx p s m meth c Z n0 own bc maxL ret nm) {x : Int32} {o : Int} {pc'' : Nat} (hd : decode bc pc = .ok (.ifCond .eq o, 3)) (ho : 0 ≤ (pc : Int) + o) (hp : ((pc : Int) + o).toNat = pc') (hp' : pc + 3 = pc'') (hy : x = 0 → Go p l e R s m args below meth c n0 F h k n pc' Ls st) (hn : ¬ x = 0 → Go p l e R s m args below meth c n0 F h k n pc'' Ls st) : Go p l e R s m args below meth c n0 F h k n pc Ls (.int x :: st) := by
  by_cases q : x = 0
  · exact C.if_eq_t hd ho hp q (hy q)
  · exact C.if_eq_f hd hp' q (hn q)
theorem Cx.icmp_eq_t (C : Cx p s m meth c Z n0 own bc maxL ret nm) {x y : Int32} {o : Int} (hd : decode bc pc = .ok (.if_icmp .eq o, 3)) (ho : 0 ≤ (pc : Int) + o) (hp : ((pc : Int) + o).toNat = pc') (hq : x = y) (hr : Go p l e R s m args below meth c n0 F h k n pc' Ls st) : Go p l e R s m args below meth c n0 F h k n pc Ls (.int y :: .int x :: st) :=
  Go.pl (fun T locs X eT t q => XS.icmpYes X.here C.1 rfl rfl (hb C.2.2.2.1 hd) rfl (XT.ii_eq_t hq) ho hp q) hr
theorem Cx.lif_eq_t (C : Cx p s m meth c Z n0 own bc maxL ret nm) {x y : Int64} {o : Int} (hd : decode bc pc = .ok (.ifCond .eq o, 3)) (ho : 0 ≤ (pc : Int) + o) (hp : ((pc : Int) + o).toNat = pc') (hq : x = y) (hr : Go p l e R s m args below meth c n0 F h k n pc' Ls st) : Go p l e R s m args below meth c n0 F h k n pc Ls (.int (XT.cmpL x y) :: st) :=
  Go.pl (fun T locs X eT t q => XS.ifYes X.here C.1 rfl rfl (hb C.2.2.2.1 hd) rfl (XT.ll_eq_t hq) ho hp q) hr
theorem Cx.lif_eq_f (C : Cx p s m meth c Z n0 own bc maxL ret nm) {x y : Int64} {o : Int} (hd : decode bc pc = .ok (.ifCond .eq o, 3)) (hp : pc + 3 = pc') (hq : ¬ x = y) (hr : Go p l e R s m args below meth c n0 F h k n pc' Ls st) : Go p l e R s m args below meth c n0 F h k n pc Ls (.int (XT.cmpL x y) :: st) := by
  subst hp; exact Go.pl (fun T locs X eT t q => XS.ifNo X.here C.1 rfl (hb C.2.2.2.1 hd) rfl (XT.ll_eq_f hq) q) hr
theorem Cx.lif_eq (C : Cx p s m meth c Z n0 own bc maxL ret nm) {x y : Int64} {o : Int} {pc'' : Nat} (hd : decode bc pc = .ok (.ifCond .eq o, 3)) (ho : 0 ≤ (pc : Int) + o) (hp : ((pc : Int) + o).toNat = pc') (hp' : pc + 3 = pc'') (hy : x = y → Go p l e R s m args below meth c n0 F h k n pc' Ls st) (hn : ¬ x = y → Go p l e R s m args below meth c n0 F h k n pc'' Ls st) : Go p l e R s m args below meth c n0 F h k n pc Ls (.int (XT.cmpL x y) :: st) := by
  by_cases q : x = y
  · exact C.lif_eq_t hd ho hp q (hy q)
  · exact C.lif_eq_f hd hp' q (hn q)
theorem Cx.icmp_ne_t (C : Cx p s m meth c Z n0 own bc maxL ret nm) {x y : Int32} {o : Int} (hd : decode bc pc = .ok (.if_icmp .ne o, 3)) (ho : 0 ≤ (pc : Int) + o) (hp : ((pc : Int) + o).toNat = pc') (hq : ¬ x = y) (hr : Go p l e R s m args below meth c n0 F h k n pc' Ls st) : Go p l e R s m args below meth c n0 F h k n pc Ls (.int y :: .int x :: st) :=
  Go.pl (fun T locs X eT t q => XS.icmpYes X.here C.1 rfl rfl (hb C.2.2.2.1 hd) rfl (XT.ii_ne_t hq) ho hp q) hr
theorem Cx.icmp_ne_f (C : Cx p s m meth c Z n0 own bc maxL ret nm) {x y : Int32} {o : Int} (hd : decode bc pc = .ok (.if_icmp .ne o, 3)) (hp : pc + 3 = pc') (hq : x = y) (hr : Go p l e R s m args below meth c n0 F h k n pc' Ls st) : Go p l e R s m args below meth c n0 F h k n pc Ls (.int y :: .int x :: st) := by
  subst hp; exact Go.pl (fun T locs X eT t q => XS.icmpNo X.here C.1 rfl (hb C.2.2.2.1 hd) rfl (XT.ii_ne_f hq) q) hr
theorem Cx.lif_ne_t (C : Cx p s m meth c Z n0 own bc maxL ret nm) {x y : Int64} {o : Int} (hd : decode bc pc = .ok (.ifCond .ne o, 3)) (ho : 0 ≤ (pc : Int) + o) (hp : ((pc : Int) + o).toNat = pc') (hq : ¬ x = y) (hr : Go p l e R s m args below meth c n0 F h k n pc' Ls st) : Go p l e R s m args below meth c n0 F h k n pc Ls (.int (XT.cmpL x y) :: st) :=
  Go.pl (fun T locs X eT t q => XS.ifYes X.here C.1 rfl rfl (hb C.2.2.2.1 hd) rfl (XT.ll_ne_t hq) ho hp q) hr
theorem Cx.lif_ne_f (C : Cx p s m meth c Z n0 own bc maxL ret nm) {x y : Int64} {o : Int} (hd : decode bc pc = .ok (.ifCond .ne o, 3)) (hp : pc + 3 = pc') (hq : x = y) (hr : Go p l e R s m args below meth c n0 F h k n pc' Ls st) : Go p l e R s m args below meth c n0 F h k n pc Ls (.int (XT.cmpL x y) :: st) := by
  subst hp; exact Go.pl (fun T locs X eT t q => XS.ifNo X.here C.1 rfl (hb C.2.2.2.1 hd) rfl (XT.ll_ne_f hq) q) hr
theorem Cx.lif_ne (C : Cx p s m meth c Z n0 own bc maxL ret nm) {x y : Int64} {o : Int} {pc'' : Nat} (hd : decode bc pc = .ok (.ifCond .ne o, 3)) (ho : 0 ≤ (pc : Int) + o) (hp : ((pc : Int) + o).toNat = pc') (hp' : pc + 3 = pc'') (hy : ¬ x = y → Go p l e R s m args below meth c n0 F h k n pc' Ls st) (hn : x = y → Go p l e R s m args below meth c n0 F h k n pc'' Ls st) : Go p l e R s m args below meth c n0 F h k n pc Ls (.int (XT.cmpL x y) :: st) := by
  by_cases q : x = y
  · exact C.lif_ne_f hd hp' q (hn q)
  · exact C.lif_ne_t hd ho hp q (hy q)
theorem Cx.icmp_lt_t (C : Cx p s m meth c Z n0 own bc maxL ret nm) {x y : Int32} {o : Int} (hd : decode bc pc = .ok (.if_icmp .lt o, 3)) (ho : 0 ≤ (pc : Int) + o) (hp : ((pc : Int) + o).toNat = pc') (hq : x < y) (hr : Go p l e R s m args below meth c n0 F h k n pc' Ls st) : Go p l e R s m args below meth c n0 F h k n pc Ls (.int y :: .int x :: st) :=
  Go.pl (fun T locs X eT t q => XS.icmpYes X.here C.1 rfl rfl (hb C.2.2.2.1 hd) rfl (XT.ii_lt_t hq) ho hp q) hr
theorem Cx.icmp_lt_f (C : Cx p s m meth c Z n0 own bc maxL ret nm) {x y : Int32} {o : Int} (hd : decode bc pc = .ok (.if_icmp .lt o, 3)) (hp : pc + 3 = pc') (hq : ¬ x < y) (hr : Go p l e R s m args below meth c n0 F h k n pc' Ls st) : Go p l e R s m args below meth c n0 F h k n pc Ls (.int y :: .int x :: st) := by
  subst hp; exact Go.pl (fun T locs X eT t q => XS.icmpNo X.here C.1 rfl (hb C.2.2.2.1 hd) rfl (XT.ii_lt_f hq) q) hr
theorem Cx.if_ge_t (C : Cx p s m meth c Z n0 own bc maxL ret nm) {x : Int32} {o : Int} (hd : decode bc pc = .ok (.ifCond .ge o, 3)) (ho : 0 ≤ (pc : Int) + o) (hp : ((pc : Int) + o).toNat = pc') (hq : ¬ x < 0) (hr : Go p l e R s m args below meth c n0 F h k n pc' Ls st) : Go p l e R s m args below meth c n0 F h k n pc Ls (.int x :: st) :=
  Go.pl (fun T locs X eT t q => XS.ifYes X.here C.1 rfl rfl (hb C.2.2.2.1 hd) rfl (XT.i0_ge_t hq) ho hp q) hr
theorem Cx.icmp_ge_t (C : Cx p s m meth c Z n0 own bc maxL ret nm) {x y : Int32} {o : Int} (hd : decode bc pc = .ok (.if_icmp .ge o, 3)) (ho : 0 ≤ (pc : Int) + o) (hp : ((pc : Int) + o).toNat = pc') (hq : ¬ x < y) (hr : Go p l e R s m args below meth c n0 F h k n pc' Ls st) : Go p l e R s m args below meth c n0 F h k n pc Ls (.int y :: .int x :: st) :=
  Go.pl (fun T locs X eT t q => XS.icmpYes X.here C.1 rfl rfl (hb C.2.2.2.1 hd) rfl (XT.ii_ge_t hq) ho hp q) hr
theorem Cx.icmp_ge_f (C : Cx p s m meth c Z n0 own bc maxL ret nm) {x y : Int32} {o : Int} (hd : decode bc pc = .ok (.if_icmp .ge o, 3)) (hp : pc + 3 = pc') (hq : x < y) (hr : Go p l e R s m args below meth c n0 F h k n pc' Ls st) : Go p l e R s m args below meth c n0 F h k n pc Ls (.int y :: .int x :: st) := by
  subst hp; exact Go.pl (fun T locs X eT t q => XS.icmpNo X.here C.1 rfl (hb C.2.2.2.1 hd) rfl (XT.ii_ge_f hq) q) hr
theorem Cx.if_le_t (C : Cx p s m meth c Z n0 own bc maxL ret nm) {x : Int32} {o : Int} (hd : decode bc pc = .ok (.ifCond .le o, 3)) (ho : 0 ≤ (pc : Int) + o) (hp : ((pc : Int) + o).toNat = pc') (hq : ¬ 0 < x) (hr : Go p l e R s m args below meth c n0 F h k n pc' Ls st) : Go p l e R s m args below meth c n0 F h k n pc Ls (.int x :: st) :=
  Go.pl (fun T locs X eT t q => XS.ifYes X.here C.1 rfl rfl (hb C.2.2.2.1 hd) rfl (XT.i0_le_t hq) ho hp q) hr
theorem Cx.if_le_f (C : Cx p s m meth c Z n0 own bc maxL ret nm) {x : Int32} {o : Int} (hd : decode bc pc = .ok (.ifCond .le o, 3)) (hp : pc + 3 = pc') (hq : 0 < x) (hr : Go p l e R s m args below meth c n0 F h k n pc' Ls st) : Go p l e R s m args below meth c n0 F h k n pc Ls (.int x :: st) := by
  subst hp; exact Go.pl (fun T locs X eT t q => XS.ifNo X.here C.1 rfl (hb C.2.2.2.1 hd) rfl (XT.i0_le_f hq) q) hr
theorem Cx.icmp_le_t (C : Cx p s m meth c Z n0 own bc maxL ret nm) {x y : Int32} {o : Int} (hd : decode bc pc = .ok (.if_icmp .le o, 3)) (ho : 0 ≤ (pc : Int) + o) (hp : ((pc : Int) + o).toNat = pc') (hq : ¬ y < x) (hr : Go p l e R s m args below meth c n0 F h k n pc' Ls st) : Go p l e R s m args below meth c n0 F h k n pc Ls (.int y :: .int x :: st) :=
  Go.pl (fun T locs X eT t q => XS.icmpYes X.here C.1 rfl rfl (hb C.2.2.2.1 hd) rfl (XT.ii_le_t hq) ho hp q) hr
theorem Cx.icmp_le_f (C : Cx p s m meth c Z n0 own bc maxL ret nm) {x y : Int32} {o : Int} (hd : decode bc pc = .ok (.if_icmp .le o, 3)) (hp : pc + 3 = pc') (hq : y < x) (hr : Go p l e R s m args below meth c n0 F h k n pc' Ls st) : Go p l e R s m args below meth c n0 F h k n pc Ls (.int y :: .int x :: st) := by
  subst hp; exact Go.pl (fun T locs X eT t q => XS.icmpNo X.here C.1 rfl (hb C.2.2.2.1 hd) rfl (XT.ii_le_f hq) q) hr
theorem Cx.ldcI (C : Cx p s m meth c Z n0 own bc maxL ret nm) {j : Nat} {v : Int32} (hd : decode bc pc = .ok (.ldc j, 2)) (hp : pc + 2 = pc') (w : (Jvm.Cond.constant own j v).before a0 Z = true) (hr : Go p l e R s m args below meth c n0 F h k n pc' Ls (.int v :: st)) : Go p l e R s m args below meth c n0 F h k n pc Ls st := by
  subst hp; exact Go.pl (fun T locs X eT t q => X.ldcI C.1 C.2.2.1 (mv C.2.1 w) rfl (hb C.2.2.2.1 hd) q) hr
theorem Cx.ldc2J (C : Cx p s m meth c Z n0 own bc maxL ret nm) {j : Nat} {v : Int64} (hd : decode bc pc = .ok (.ldc2_w j, 3)) (hp : pc + 3 = pc') (w : (Jvm.Cond.constantLong own j v).before a0 Z = true) (hr : Go p l e R s m args below meth c n0 F h k n pc' Ls (.long v :: st)) : Go p l e R s m args below meth c n0 F h k n pc Ls st := by
  subst hp; exact Go.pl (fun T locs X eT t q => X.ldc2J C.1 C.2.2.1 (mv C.2.1 w) rfl (hb C.2.2.2.1 hd) q) hr
theorem Cx.alen (C : Cx p s m meth c Z n0 own bc maxL ret nm) {a : Addr} {ty : FieldType} {vs : List Value} (hd : decode bc pc = .ok (.arraylength, 1)) (hp : pc + 1 = pc') (A : Av Z h a ty vs) (hr : Go p l e R s m args below meth c n0 F h k n pc' Ls (.int vs.length.toInt32 :: st)) : Go p l e R s m args below meth c n0 F h k n pc Ls (.ref a :: st) := by
  obtain ⟨cl, A, rfl, -⟩ := A; subst hp; refine Go.pl (fun T locs X eT t q => X.arraylength C.1 (cell := cl) (by rw [eT]; exact A.1) (State.isArrayOf_alike C.2.1.alike A.2.1) (g := mkF m pc Ls (.ref a :: st)) rfl rfl (hb C.2.2.2.1 hd) t q) (by simpa using hr)
theorem Cx.iaload (C : Cx p s m meth c Z n0 own bc maxL ret nm) {a : Addr} {vs : List Value} {j : Int32} (v : Value) (hd : decode bc pc = .ok (.iaload, 1)) (hp : pc + 1 = pc') (A : Av Z h a .int vs) (hj : ¬ j < 0) (hv : vs[j.toNatClampNeg]? = some v) (hr : Go p l e R s m args below meth c n0 F h k n pc' Ls (v :: st)) : Go p l e R s m args below meth c n0 F h k n pc Ls (.int j :: .ref a :: st) := by
  obtain ⟨cl, A, rfl, -⟩ := A; subst hp; rw [Array.getElem?_toList] at hv; exact Go.pl (fun T locs X eT t q => X.iaload C.1 (by rw [eT]; exact A.1) (State.isArrayOf_alike C.2.1.alike A.2.1) A.2.2 (own_in hj hv) hv (g := mkF m pc Ls (.int j :: .ref a :: st)) rfl rfl (hb C.2.2.2.1 hd) t q) hr
theorem Cx.laload (C : Cx p s m meth c Z n0 own bc maxL ret nm) {a : Addr} {vs : List Value} {j : Int32} (v : Value) (hd : decode bc pc = .ok (.laload, 1)) (hp : pc + 1 = pc') (A : Av Z h a .long vs) (hj : ¬ j < 0) (hv : vs[j.toNatClampNeg]? = some v) (hr : Go p l e R s m args below meth c n0 F h k n pc' Ls (v :: st)) : Go p l e R s m args below meth c n0 F h k n pc Ls (.int j :: .ref a :: st) := by
  obtain ⟨cl, A, rfl, -⟩ := A; subst hp; rw [Array.getElem?_toList] at hv; exact Go.pl (fun T locs X eT t q => X.laload C.1 (by rw [eT]; exact A.1) (State.isArrayOf_alike C.2.1.alike A.2.1) A.2.2 (own_in hj hv) hv (g := mkF m pc Ls (.int j :: .ref a :: st)) rfl rfl (hb C.2.2.2.1 hd) t q) hr
theorem Cx.iastore (C : Cx p s m meth c Z n0 own bc maxL ret nm) {a : Addr} {vs : List Value} {j : Int32} {x : Int32} (hd : decode bc pc = .ok (.iastore, 1)) (hp : pc + 1 = pc') (A : Av Z h a .int vs) (ha : n0 ≤ a) (hj : ¬ j < 0) (hl : j.toNatClampNeg < vs.length) (hr : ∀ h', Wr h h' a j.toNatClampNeg (.int x) → Av Z h' a .int (vs.set j.toNatClampNeg (.int x)) → Go p l e R s m args below meth c n0 F h' k n pc' Ls st) : Go p l e R s m args below meth c n0 F h k n pc Ls (.int x :: .int j :: .ref a :: st) := by
  intro T locs X eT N; have A0 := A; obtain ⟨cl, A, rfl, -⟩ := A; subst hp; rw [Array.length_toList] at hl
  obtain ⟨T', h', X', e', W, stp⟩ := stI X C.1 C.2.1 eT A (own_in2 hj hl) (g := mkF m pc Ls (.int x :: .int j :: .ref a :: st)) rfl rfl (hb C.2.2.2.1 hd)
  obtain ⟨s₂, o, q1, q2⟩ := hr h' W (A0.same W rfl) T' _ X' e' (Fr.snoc X' N ha)
  exact ⟨s₂, o, stp _ q1, q2⟩
theorem Cx.lastore (C : Cx p s m meth c Z n0 own bc maxL ret nm) {a : Addr} {vs : List Value} {j : Int32} {x : Int64} (hd : decode bc pc = .ok (.lastore, 1)) (hp : pc + 1 = pc') (A : Av Z h a .long vs) (ha : n0 ≤ a) (hj : ¬ j < 0) (hl : j.toNatClampNeg < vs.length) (hr : ∀ h', Wr h h' a j.toNatClampNeg (.long x) → Av Z h' a .long (vs.set j.toNatClampNeg (.long x)) → Go p l e R s m args below meth c n0 F h' k n pc' Ls st) : Go p l e R s m args below meth c n0 F h k n pc Ls (.long x :: .int j :: .ref a :: st) := by
  intro T locs X eT N; have A0 := A; obtain ⟨cl, A, rfl, -⟩ := A; subst hp; rw [Array.length_toList] at hl
  obtain ⟨T', h', X', e', W, stp⟩ := stJ X C.1 C.2.1 eT A (own_in2 hj hl) (g := mkF m pc Ls (.long x :: .int j :: .ref a :: st)) rfl rfl (hb C.2.2.2.1 hd)
  obtain ⟨s₂, o, q1, q2⟩ := hr h' W (A0.same W rfl) T' _ X' e' (Fr.snoc X' N ha)
  exact ⟨s₂, o, stp _ q1, q2⟩
theorem Cx.new (C : Cx p s m meth c Z n0 own bc maxL ret nm) {cls : String} {j nn : Nat} (hd : decode bc pc = .ok (.new j, 3)) (hp : pc + 3 = pc') (w1 : (Jvm.Cond.classLink own j cls).before a0 Z = true) (w2 : (Jvm.Cond.instantiable cls nn).before a0 Z = true) (w3 : (Jvm.Cond.initialized cls).before a0 Z = true) (hk : k + 1 ≤ R.cells) (hn : n + nn ≤ R.slots)
    (hr : ∀ (a : Addr) (h' : Heap), a = h.size → n0 ≤ a → Ext h h' → Exa Z h' a cls → (∀ {O f d : String} {ty : FieldType}, Laid Z a0 cls O f d → parseFieldDescriptor d = some ty → Fld Z h' a O f d (defaultValue ty)) → Go p l e R s m args below meth c n0 F h' (k + 1) (n + nn) pc' Ls (.ref a :: st)) : Go p l e R s m args below meth c n0 F h k n pc Ls st := by
  intro T locs X eT N
  subst hp
  obtain ⟨T', h', X', e', E', A', D', -, stp⟩ := newO X C.1 C.2.1 C.2.2.1 w1 w2 w3 eT (g := mkF m pc Ls st) rfl (hb C.2.2.2.1 hd) hk hn
  obtain ⟨s₂, o, q1, q2⟩ := hr h.size h' rfl (by rw [← eT]; exact C.size X) E' A' D' T' _ X' e' N
  exact ⟨s₂, o, stp _ q1, q2⟩
theorem Cx.newarr (C : Cx p s m meth c Z n0 own bc maxL ret nm) {aty : ArrayType} {ty : FieldType} {z : Int32} (cap : Nat) (hd : decode bc pc = .ok (.newarray aty, 2)) (hp : pc + 2 = pc') (hty : newarray.typeOf aty = ty) (w : (Jvm.Cond.arrayClass ty).before a0 Z = true) (hz : ¬ z < 0) (hcap : z.toNatClampNeg ≤ cap) (hb8 : cap * 8 ≤ 536870912) (hk : k + 1 ≤ R.cells) (hn : n + cap ≤ R.slots)
    (hr : ∀ (a : Addr) (h' : Heap), a = h.size → n0 ≤ a → Ext h h' → Av Z h' a ty (List.replicate z.toNatClampNeg (defaultValue ty)) → Go p l e R s m args below meth c n0 F h' (k + 1) (n + cap) pc' Ls (.ref a :: st)) : Go p l e R s m args below meth c n0 F h k n pc Ls (.int z :: st) := by
  intro T locs X eT N
  subst hp hty
  obtain ⟨T', h', cA, X', e', E', A', stp⟩ := newP X C.1 C.2.1 w eT (g := mkF m pc Ls (.int z :: st)) rfl (hb C.2.2.2.1 hd) rfl hz hcap hb8 hk hn
  obtain ⟨s₂, o, q1, q2⟩ := hr h.size h' rfl (by rw [← eT]; exact C.size X) E' (Av.new A') T' _ X' e' N
  exact ⟨s₂, o, stp _ q1, q2⟩
theorem Cx.initO (C : Cx p s m meth c Z n0 own bc maxL ret nm) {j : Nat} {a : Addr} (W : Nat) (hd : decode bc pc = .ok (.invokespecial j, 3)) (hp : pc + 3 = pc') (w1 : (Jvm.Cond.methodLink own j Lib.objectInit).before a0 Z = true) (w2 : (Jvm.Cond.instanceMethod Lib.objectInit).before a0 Z = true) (w3 : (Jvm.Cond.code Lib.objectInit ⟨#[0xb1]⟩ 1 none).before a0 Z = true) (hsz : Ls.size = maxL) (hf : 1 ≤ R.frames) (hW : (st.map fun v => v.category).sum ≤ W) (hl : W + 12 ≤ R.locals)
    (hr : Go p l e R s m args below meth c n0 F h k n pc' Ls st) : Go p l e R s m args below meth c n0 F h k n pc Ls (.ref a :: st) := by
  intro T locs X eT N
  subst hp
  obtain ⟨T', X', e', stp⟩ := RoadKit.initO X C.1 C.2.1 C.2.2.1 w1 w2 w3 eT (g := mkF m pc Ls (.ref a :: st)) rfl (hsz.trans C.2.2.2.2.1.symm) rfl (hb C.2.2.2.1 hd) hf (W := W) (by show 2 * 0 + _ ≤ W; omega) hl
  obtain ⟨s₂, o, q1, q2⟩ := hr T' _ X' e' N
  exact ⟨s₂, o, stp _ q1, q2⟩
theorem Cx.getF (C : Cx p s m meth c Z n0 own bc maxL ret nm) {O f d : String} {j : Nat} {a : Addr} {v : Value} (hd : decode bc pc = .ok (.getfield j, 3)) (hp : pc + 3 = pc') (w : (Jvm.Cond.fieldLink own j O f d).before a0 Z = true) (F' : Fld Z h a O f d v)
    (hr : Go p l e R s m args below meth c n0 F h k n pc' Ls (v :: st)) : Go p l e R s m args below meth c n0 F h k n pc Ls (.ref a :: st) := by
  intro T locs X eT N
  subst hp
  obtain ⟨T', X', e', stp⟩ := RoadKit.getF X C.1 C.2.1 C.2.2.1 (host := "") (Or.inl w) Via.refl eT F' (g := mkF m pc Ls (.ref a :: st)) rfl rfl (hb C.2.2.2.1 hd)
  obtain ⟨s₂, o, q1, q2⟩ := hr T' _ X' e' N
  exact ⟨s₂, o, stp _ q1, q2⟩
theorem Cx.putF (C : Cx p s m meth c Z n0 own bc maxL ret nm) {O f d cls : String} {j kk : Nat} {ty : FieldType} {a : Addr} {v old : Value} (hd : decode bc pc = .ok (.putfield j, 3)) (hp : pc + 3 = pc') (w : (Jvm.Cond.fieldLink own j O f d).before a0 Z = true) (F' : Fld Z h a O f d old) (E : Exa Z h a cls)
    (L : (Jvm.Cond.lays cls O f d).before a0 Z = true ∨ ((Jvm.Cond.laysFinal cls O f d).before a0 Z = true ∧ own = O ∧ nm = "<init>")) (wi : (Jvm.Cond.instantiable cls kk).before a0 Z = true) (hty : parseFieldDescriptor d = some ty) (hnr : narrow ty v = v) (hf : fits ty v = true) (ha : n0 ≤ a)
    (hr : ∀ h', Wr h h' a (Jvm.RoadKit.slotOf Z O f d) v → Fld Z h' a O f d v → Go p l e R s m args below meth c n0 F h' k n pc' Ls st) : Go p l e R s m args below meth c n0 F h k n pc Ls (v :: .ref a :: st) := by
  intro T locs X eT N
  subst hp
  obtain ⟨T', h', X', e', W, stp⟩ := RoadKit.putF X C.1 C.2.1 C.2.2.1 (host := "") (Or.inl w) Via.refl eT F' E (L.imp id fun q => ⟨q.1, q.2.1, C.2.2.2.2.2.2.1.trans q.2.2⟩) wi hty hnr hf (g := mkF m pc Ls (v :: .ref a :: st)) rfl rfl (hb C.2.2.2.1 hd)
  obtain ⟨s₂, o, q1, q2⟩ := hr h' W (F'.same W) T' _ X' e' (Fr.snoc X' N ha)
  exact ⟨s₂, o, stp _ q1, q2⟩
/-! the end of a body -/
theorem Cx.ret0 {Q : Option Value → Heap → Prop} {ck cs : Nat} (C : Cx p s m meth c Z n0 own bc maxL none nm) (hd : decode bc pc = .ok (.return_, 1)) (hk : k ≤ ck) (hn : n ≤ cs) (hq : Q none h) : Go p l e R s m args below meth c n0 (FinQ s n0 Q ck cs) h k n pc Ls [] := by
  intro T locs X eT N
  have hlk := C.2.2.2.2.2.2.2.1
  obtain ⟨fs, hr, hrun, hended, hW, hsame⟩ := X.leave (v := none) (fun _ => rfl) hlk
  exact ⟨_, _, X.returnOut C.1 C.2.2.2.2.2.1 (hb C.2.2.2.1 hd) hr, hrun, hended, _, _, rfl, ⟨by show Q none T.heap; rw [eT]; exact hq, N⟩, ⟨_, rfl⟩, hW, hsame.mono hk hn⟩
theorem Cx.retW {Q : Option Value → Heap → Prop} {ck cs : Nat} {t : FieldType} {w : Value} {i : Instr} (C : Cx p s m meth c Z n0 own bc maxL (some t) nm) (hd : decode bc pc = .ok (i, 1)) (hnr : narrow t w = w)
    (hi : (i = .ireturn ∧ (t = .int ∨ t = .boolean ∨ t = .byte ∨ t = .char ∨ t = .short) ∧ ∃ z, w = .int z) ∨ (i = .lreturn ∧ t = .long ∧ ∃ z, w = .long z) ∨ (i = .dreturn ∧ t = .double ∧ ∃ z, w = .double z) ∨ (i = .freturn ∧ t = .float ∧ ∃ z, w = .float z) ∨ (i = .areturn ∧ t.isReference = true ∧ w.isRef = true))
    (hk : k ≤ ck) (hn : n ≤ cs) (hq : Q (some w) h) : Go p l e R s m args below meth c n0 (FinQ s n0 Q ck cs) h k n pc Ls (w :: st) := by
  intro T locs X eT N
  have hlk := C.2.2.2.2.2.2.2.1
  have hrt := C.2.2.2.2.2.1
  obtain ⟨fs, hr, hrun, hended, hW, hsame⟩ := X.leave (v := some w) (fun q => by rw [hrt] at q; cases q) hlk
  exact ⟨_, _, retOut X C.1 hrt hnr hi (hb C.2.2.2.1 hd) hr, hrun, hended, _, _, rfl, ⟨by show Q (some w) T.heap; rw [eT]; exact hq, N⟩, ⟨_, rfl⟩, hW, hsame.mono hk hn⟩
theorem Cx.retI {Q : Option Value → Heap → Prop} {ck cs : Nat} {z : Int32} (C : Cx p s m meth c Z n0 own bc maxL (some .int) nm) (hd : decode bc pc = .ok (.ireturn, 1)) (hk : k ≤ ck) (hn : n ≤ cs) (hq : Q (some (.int z)) h) : Go p l e R s m args below meth c n0 (FinQ s n0 Q ck cs) h k n pc Ls (.int z :: st) :=
  C.retW hd rfl (Or.inl ⟨rfl, Or.inl rfl, z, rfl⟩) hk hn hq
theorem Cx.retZ {Q : Option Value → Heap → Prop} {ck cs : Nat} {z : Int32} (C : Cx p s m meth c Z n0 own bc maxL (some .boolean) nm) (hd : decode bc pc = .ok (.ireturn, 1)) (hz : narrow .boolean (.int z) = .int z) (hk : k ≤ ck) (hn : n ≤ cs) (hq : Q (some (.int z)) h) : Go p l e R s m args below meth c n0 (FinQ s n0 Q ck cs) h k n pc Ls (.int z :: st) :=
  C.retW hd hz (Or.inl ⟨rfl, Or.inr (Or.inl rfl), z, rfl⟩) hk hn hq
theorem Cx.retJ {Q : Option Value → Heap → Prop} {ck cs : Nat} {z : Int64} (C : Cx p s m meth c Z n0 own bc maxL (some .long) nm) (hd : decode bc pc = .ok (.lreturn, 1)) (hk : k ≤ ck) (hn : n ≤ cs) (hq : Q (some (.long z)) h) : Go p l e R s m args below meth c n0 (FinQ s n0 Q ck cs) h k n pc Ls (.long z :: st) :=
  C.retW hd rfl (Or.inr (Or.inl ⟨rfl, rfl, z, rfl⟩)) hk hn hq
/-! a body's contract out of its walk -/
theorem Con.of {ws : List Jvm.Cond} {y : MethodName} {as : Array Value} {h0 : Heap} {Q : Option Value → Heap → Prop} (hn : plainFor y = true) (ef : ∀ m, entryFrame m as maxL = mkF m 0 Ls []) (hn0 : n0 ≤ h0.size)
    (body : ∀ p e s m below meth c, Cx p s m meth c Z n0 y.cls bc maxL ret y.name → Go p l e R s m as below meth c n0 (FinQ s n0 Q R.cells R.slots) h0 0 0 0 Ls []) : Con l Z n0 ws y bc maxL ret R as h0 Q := by
  refine MetFree.of_bodySF hn hisR ?_
  intro p e s m args below meth c s₁ Bd hml0 hP hK
  obtain ⟨rfl, hZ, hh⟩ := hP
  have e0 : s₁.heap = h0 := by rw [← hh, Bd.state]; rfl
  have X0 : Stand p l e R s m args below meth c s₁ [] 0 0 := Stand.of_body Bd
  obtain ⟨s₂, o, q1, q2, q3, q4⟩ := body p e s m below meth c ⟨Bd.exec, hZ, findClass_of_methodNamed Bd.named, Bd.bytes, hml0, Bd.returns, (name_of_methodNamed Bd.named Bd.method).1, Bd.notSynchronized, by rw [hh]; exact hn0⟩ s₁ [] X0 e0 (Fr.nil n0)
  exact ⟨s₂, o, castTop (ef m) q1, q2, q3, q4⟩
theorem Con.imp {ws : List Jvm.Cond} {y : MethodName} {as : Array Value} {h0 : Heap} {Q Q' : Option Value → Heap → Prop} (H : Con l Z n0 ws y bc maxL ret R as h0 Q) (q : ∀ v h, Q v h → Q' v h) : Con l Z n0 ws y bc maxL ret R as h0 Q' := by
  intro p e ha hc hk s m args below hf happ hP hK
  obtain ⟨n, o, h1, h2, h3, v, L, r1, ⟨r2, r3⟩, r4⟩ := H p e ha hc hk s m args below hf happ hP hK
  exact ⟨n, o, h1, h2, h3, v, L, r1, ⟨q _ _ r2, r3⟩, r4⟩
/-! calls by contract -/
theorem Cx.callS (C : Cx p s m meth c Z n0 own bc maxL ret nm) {y : MethodName} {bc' : ByteArray} {maxL' j : Nat} {ret' : Option FieldType} {R' : Room} {argsL rest : List Value} {Q : Option Value → Heap → Prop} (W : Nat) (hC : n0 ≤ h.size → Con l Z n0 [] y bc' maxL' ret' R' argsL.toArray h Q) (hd : decode bc pc = .ok (.invokestatic j, 3)) (hp : pc + 3 = pc')
    (w1 : (Jvm.Cond.methodLink own j y).before a0 Z = true) (w2 : (Jvm.Cond.static y).before a0 Z = true) (w3 : (Jvm.Cond.initialized y.cls).before a0 Z = true) (w4 : (Jvm.Cond.code y bc' maxL' ret').before a0 Z = true) (hy : y.cls ≠ "java/lang/invoke/MethodHandle" ∧ y.cls ≠ "java/lang/invoke/VarHandle") {ps : List FieldType} {r : Option FieldType} (hpd : parseMethodDescriptor y.desc = some ⟨ps, r⟩) (hlen : argsL.length = ps.length)
    (hst : st = argsL.reverse ++ rest) (hsz : Ls.size = maxL) (hW : (rest.map fun v => v.category).sum ≤ W) (hf : R'.frames + 1 ≤ R.frames) (hl : W + (maxL' + 11) + R'.locals ≤ R.locals) (hk : k + R'.cells ≤ R.cells) (hn : n + R'.slots ≤ R.slots)
    (hr : ∀ v h', Q v h' → Go p l e R s m args below meth c n0 F h' (k + R'.cells) (n + R'.slots) pc' Ls (v.toList ++ rest)) : Go p l e R s m args below meth c n0 F h k n pc Ls st := by
  intro T locs X eT N
  subst hp hst
  obtain ⟨v, _, ⟨T', L', k', n'⟩, -, X', ⟨Lc, hQ, l1, y1, z1⟩, stp⟩ := Jvm.LawKit.callS X C.1 (y := y) C.2.2.1 (mvT C.2.1 w1) (mvT C.2.1 w2) (mvT C.2.1 w3) (mvT C.2.1 w4) hy (backOf (Z := Z) (h := h) (bytes := bc') (maxL := maxL') (ret := ret') (rm := R') (as' := argsL.toArray) (Q := fun v h' L => Q v h' ∧ Fr n0 L) (W := W) (hC (by rw [← eT]; exact C.size X)) C.2.1 w4 w3 hf hl) (g := mkF m pc Ls (argsL.reverse ++ rest)) rfl (hsz.trans C.2.2.2.2.1.symm) (argsL := argsL) (rest := rest) (lenOf hpd hlen) rfl (by show 2 * 0 + _ ≤ W; omega) (hb C.2.2.2.1 hd) (fun _ _ => ⟨rfl, eT, hk, hn⟩)
  dsimp only [Pt.U, Pt.locs, Pt.cells, Pt.slots] at X' l1 y1 z1 stp hQ
  subst l1 y1 z1
  obtain ⟨s₂, o, q1, q2⟩ := hr v T'.heap hQ.1 T' _ X' rfl (Fr.app N hQ.2)
  exact ⟨s₂, o, stp _ q1, q2⟩
theorem Cx.callN (C : Cx p s m meth c Z n0 own bc maxL ret nm) {y : MethodName} {bc' : ByteArray} {maxL' j : Nat} {R' : Room} {a : Addr} {argsL rest : List Value} {Q : Option Value → Heap → Prop} (W : Nat) (hC : n0 ≤ h.size → Con l Z n0 [] y bc' maxL' none R' (.ref a :: argsL).toArray h Q) (hd : decode bc pc = .ok (.invokespecial j, 3)) (hp : pc + 3 = pc') (hy1 : y.name = "<init>")
    (w1 : (Jvm.Cond.methodLink own j y).before a0 Z = true) (w2 : (Jvm.Cond.instanceMethod y).before a0 Z = true) (w3 : (Jvm.Cond.initialized y.cls).before a0 Z = true) (w4 : (Jvm.Cond.code y bc' maxL' none).before a0 Z = true) (hy : y.cls ≠ "java/lang/invoke/MethodHandle" ∧ y.cls ≠ "java/lang/invoke/VarHandle") {ps : List FieldType} {r : Option FieldType} (hpd : parseMethodDescriptor y.desc = some ⟨ps, r⟩) (hlen : argsL.length = ps.length)
    (hst : st = argsL.reverse ++ .ref a :: rest) (hsz : Ls.size = maxL) (hW : (rest.map fun v => v.category).sum ≤ W) (hf : R'.frames + 1 ≤ R.frames) (hl : W + (maxL' + 11) + R'.locals ≤ R.locals) (hk : k + R'.cells ≤ R.cells) (hn : n + R'.slots ≤ R.slots)
    (hr : ∀ v h', Q v h' → Go p l e R s m args below meth c n0 F h' (k + R'.cells) (n + R'.slots) pc' Ls (v.toList ++ rest)) : Go p l e R s m args below meth c n0 F h k n pc Ls st := by
  intro T locs X eT N
  subst hp hst
  obtain ⟨v, _, ⟨T', L', k', n'⟩, -, X', ⟨Lc, hQ, l1, y1, z1⟩, stp⟩ := X.specialBack C.1 (y := y) hy1 C.2.2.1 (mvT C.2.1 w1) (mvT C.2.1 w2) (mvT C.2.1 w4) hy (backOf (Z := Z) (h := h) (bytes := bc') (maxL := maxL') (ret := none) (rm := R') (as' := (Value.ref a :: argsL).toArray) (Q := fun v h' L => Q v h' ∧ Fr n0 L) (W := W) (hC (by rw [← eT]; exact C.size X)) C.2.1 w4 w3 hf hl) (g := mkF m pc Ls (argsL.reverse ++ .ref a :: rest)) rfl (hsz.trans C.2.2.2.2.1.symm) (Steps.refl _) (a := a) (argsL := argsL) (rest := rest) (lenOf hpd hlen) rfl (by show 2 * 0 + _ ≤ W; omega) (hb C.2.2.2.1 hd) (fun _ _ => ⟨rfl, eT, hk, hn⟩)
  dsimp only [Pt.U, Pt.locs, Pt.cells, Pt.slots] at X' l1 y1 z1 stp hQ
  subst l1 y1 z1
  obtain ⟨s₂, o, q1, q2⟩ := hr v T'.heap hQ.1 T' _ X' rfl (Fr.app N hQ.2)
  exact ⟨s₂, o, stp.trans q1, q2⟩
theorem Cx.callV (C : Cx p s m meth c Z n0 own bc maxL ret nm) {y : MethodName} {cls : String} {bc' : ByteArray} {maxL' j : Nat} {ret' : Option FieldType} {R' : Room} {a : Addr} {argsL rest : List Value} {Q : Option Value → Heap → Prop} (W : Nat) (hC : n0 ≤ h.size → Con l Z n0 [] y bc' maxL' ret' R' (.ref a :: argsL).toArray h Q) (E : Exa Z h a cls) (hd : decode bc pc = .ok (.invokevirtual j, 3)) (hp : pc + 3 = pc')
    (w1 : (Jvm.Cond.methodLink own j y).before a0 Z = true) (w2 : (Jvm.Cond.declares y).before a0 Z = true) (w3 : (Jvm.Cond.instanceMethod y).before a0 Z = true) (w4 : (Jvm.Cond.selects cls y y).before a0 Z = true) (w5 : (Jvm.Cond.initialized y.cls).before a0 Z = true) (w6 : (Jvm.Cond.code y bc' maxL' ret').before a0 Z = true) (hy : y.cls ≠ "java/lang/invoke/MethodHandle" ∧ y.cls ≠ "java/lang/invoke/VarHandle") {ps : List FieldType} {r : Option FieldType} (hpd : parseMethodDescriptor y.desc = some ⟨ps, r⟩) (hlen : argsL.length = ps.length)
    (hst : st = argsL.reverse ++ .ref a :: rest) (hsz : Ls.size = maxL) (hW : (rest.map fun v => v.category).sum ≤ W) (hf : R'.frames + 1 ≤ R.frames) (hl : W + (maxL' + 11) + R'.locals ≤ R.locals) (hk : k + R'.cells ≤ R.cells) (hn : n + R'.slots ≤ R.slots)
    (hr : ∀ v h', Q v h' → Go p l e R s m args below meth c n0 F h' (k + R'.cells) (n + R'.slots) pc' Ls (v.toList ++ rest)) : Go p l e R s m args below meth c n0 F h k n pc Ls st := by
  intro T locs X eT N
  subst hp hst
  obtain ⟨cq, kq, qa, qb, qc⟩ := isOf (T := T) C.2.1 eT E
  obtain ⟨v, _, ⟨T', L', k', n'⟩, -, X', ⟨Lc, hQ, l1, y1, z1⟩, stp⟩ := X.virtualBack C.1 (y := y) (z := y) C.2.2.1 (mvT C.2.1 w1) (mvT C.2.1 w2) (notFace_of_selects (args := #[]) (mvT C.2.1 w4)) (mvT C.2.1 w4) (mvT C.2.1 w3) hy (backOf (Z := Z) (h := h) (bytes := bc') (maxL := maxL') (ret := ret') (rm := R') (as' := (Value.ref a :: argsL).toArray) (Q := fun v h' L => Q v h' ∧ Fr n0 L) (W := W) (hC (by rw [← eT]; exact C.size X)) C.2.1 w6 w5 hf hl) qa qc (g := mkF m pc Ls (argsL.reverse ++ .ref a :: rest)) rfl (hsz.trans C.2.2.2.2.1.symm) (Steps.refl _) (argsL := argsL) (rest := rest) (lenOf hpd hlen) rfl (by show 2 * 0 + _ ≤ W; omega) (hb C.2.2.2.1 hd) (fun _ _ => ⟨rfl, eT, hk, hn⟩)
  dsimp only [Pt.U, Pt.locs, Pt.cells, Pt.slots] at X' l1 y1 z1 stp hQ
  subst l1 y1 z1
  obtain ⟨s₂, o, q1, q2⟩ := hr v T'.heap hQ.1 T' _ X' rfl (Fr.app N hQ.2)
  exact ⟨s₂, o, stp.trans q1, q2⟩
end Own
theorem own_or_l {a b : Int64} (q : ¬ a = 0) : ¬ a ||| b = 0 := fun e => q (by
  have f := congrArg Int64.toBitVec e
  rw [Int64.toBitVec_or] at f
  exact Int64.toBitVec_inj.1 (BitVec.or_eq_zero_iff.mp f).1)
theorem own_or_r {a b : Int64} (q : ¬ b = 0) : ¬ a ||| b = 0 := fun e => q (by
  have f := congrArg Int64.toBitVec e
  rw [Int64.toBitVec_or] at f
  exact Int64.toBitVec_inj.1 (BitVec.or_eq_zero_iff.mp f).2)
section OwnArr
variable {p : Program} {l : Launch} {e : Env} {R : Room} {s : State} {m : MethodId} {args : Array Value} {below : List Frame} {meth : Method} {c : Code} {n0 : Nat} {F : State → Outcome → Prop} {h : Heap} {k n pc pc' : Nat} {Ls : Array Slot} {st : List Value} {Z : State} {own : String} {bc : ByteArray} {maxL : Nat} {ret : Option FieldType} {nm : String} {a0 : Array Value}
theorem own_clamp {j : Nat} (q : j < 2 ^ 31) : j.toInt32.toNatClampNeg = j ∧ ¬ j.toInt32 < 0 := by
  have e := len_toInt q
  constructor
  · simp only [Int32.toNatClampNeg, e]; omega
  · rw [Int32.lt_iff_toInt_lt, e]; simp only [Int32.reduceToInt]; omega
theorem Av.arv {a : Addr} {ty : FieldType} {vs : List Value} (A : Av Z h a ty vs) (q : vs.length < 2 ^ 31) (dv : Value) : ∃ kc, Arv Z h a kc ty vs.length.toInt32 vs dv := by
  obtain ⟨cl, A, rfl, r⟩ := A
  obtain ⟨e1, e2⟩ := own_clamp q
  rw [Array.length_toList] at q e1 e2 ⊢
  refine ⟨cl.cls, cl, A, rfl, e1.symm, e2, fun i hi => ?_, fun i hi => ?_⟩
  · simp [List.getD_eq_getElem?_getD, hi]
  · have : cl.slots.toList.getD i dv = cl.slots[i] := by simp [List.getD_eq_getElem?_getD, hi]
    rw [this]; exact r _ (by simp)
theorem Arv.av {a : Addr} {kc : ClassId} {ty : FieldType} {z : Int32} {vs : List Value} {dv : Value} (A : Arv Z h a kc ty z vs dv) (q : z.toNatClampNeg = vs.length) : Av Z h a ty vs := by
  obtain ⟨cl, A, -, S, -, H, G⟩ := A
  have e : cl.slots.toList = vs := by
    apply List.ext_getElem?
    intro i
    by_cases hi : i < cl.slots.size
    · have := H i hi
      rw [Array.getElem?_toList, this]
      have h2 : i < vs.length := by omega
      simp [List.getD_eq_getElem?_getD, h2]
    · rw [List.getElem?_eq_none (by simpa using hi), List.getElem?_eq_none (by omega)]
  refine ⟨cl, A, e, fun v hv => ?_⟩
  obtain ⟨i, hi, rfl⟩ := List.getElem_of_mem hv
  have := G i (by omega)
  simpa [List.getD_eq_getElem?_getD, hi] using this
theorem own_range (vs : List Value) (sp nn : Nat) (q : sp + nn ≤ vs.length) (d : Value) : (List.range nn).map (fun i => vs.getD (sp + i) d) = (vs.drop sp).take nn := by
  apply List.ext_getElem?
  intro i
  by_cases hi : i < nn
  · simp [hi, List.getElem?_take, List.getD_eq_getElem?_getD, show sp + i < vs.length by omega]
  · rw [List.getElem?_eq_none (by simpa using hi), List.getElem?_eq_none (by simp; omega)]
end OwnArr
section OwnCalls
variable {p : Program} {l : Launch} {e : Env} {R : Room} {s : State} {m : MethodId} {args : Array Value} {below : List Frame} {meth : Method} {c : Code} {n0 : Nat} {F : State → Outcome → Prop} {h : Heap} {k n pc pc' : Nat} {Ls : Array Slot} {st : List Value} {Z : State} {own : String} {bc : ByteArray} {maxL : Nat} {ret : Option FieldType} {nm : String} {a0 : Array Value}
end OwnCalls
section OwnPriv
variable {p : Program} {l : Launch} {e : Env} {R : Room} {s : State} {m : MethodId} {args : Array Value} {below : List Frame} {meth : Method} {c : Code} {n0 : Nat} {F : State → Outcome → Prop} {h : Heap} {k n pc pc' : Nat} {Ls : Array Slot} {st : List Value} {Z : State} {own : String} {bc : ByteArray} {maxL : Nat} {ret : Option FieldType} {nm : String} {a0 : Array Value}
end OwnPriv
def zI48 : List Value := List.replicate 48 (.int 0)
def zI47 : List Value := List.replicate 47 (.int 0)
def zI46 : List Value := List.replicate 46 (.int 0)
def zI45 : List Value := List.replicate 45 (.int 0)
def zJ45 : List Value := List.replicate 45 (.long 0)
def zJ48 : List Value := List.replicate 48 (.long 0)
def zJ47 : List Value := List.replicate 47 (.long 0)
def zJ46 : List Value := List.replicate 46 (.long 0)
abbrev kC0 : String := "com/example/detra/detra/SetWords"
theorem own_four (x : Int32) : x &&& (3 : Int32) = 0 ∨ x &&& (3 : Int32) = 1 ∨ x &&& (3 : Int32) = 2 ∨ x &&& (3 : Int32) = 3 := by
  have e : (x &&& 3).toInt = x.toInt % 2 ^ 2 := Jvm.Kit.i32_mask x 3 (k := 2) (by decide) (by decide)
  simp only [← Int32.toInt_inj, Int32.reduceToInt]; omega
theorem own_three (x : Int32) : (x &&& (3 : Int32)) % 3 = 0 ∨ (x &&& (3 : Int32)) % 3 = 1 ∨ (x &&& (3 : Int32)) % 3 = 2 := by
  rcases own_four x with h | h | h | h <;> rw [h] <;> decide
theorem own_p (x : Int32) : ((x &&& (2147483647 : Int32)) % 192 / 64 = 0 ∧ XT.ushr ((x &&& (2147483647 : Int32)) % 192) 6 = 0) ∨ ((x &&& (2147483647 : Int32)) % 192 / 64 = 1 ∧ XT.ushr ((x &&& (2147483647 : Int32)) % 192) 6 = 1) ∨ ((x &&& (2147483647 : Int32)) % 192 / 64 = 2 ∧ XT.ushr ((x &&& (2147483647 : Int32)) % 192) 6 = 2) := by
  have e : (x &&& 2147483647).toInt = x.toInt % 2 ^ 31 := Jvm.Kit.i32_mask x 2147483647 (k := 31) (by decide) (by decide)
  have f : ((x &&& 2147483647) % 192).toInt = (x &&& 2147483647).toInt % 192 := Jvm.Kit.i32_rem_nonneg (by omega)
  generalize (x &&& (2147483647 : Int32)) % 192 = p at *
  have g : (p / 64).toInt = p.toInt.tdiv 64 := Jvm.Kit.i32_div (by intro q; have := q.2; revert this; decide)
  have g' : p.toInt.tdiv 64 = p.toInt / 64 := Int.tdiv_eq_ediv_of_nonneg (by omega)
  have u : (XT.ushr p 6).toInt = p.toInt / 2 ^ 6 := Jvm.Kit.i32_iushr (Jvm.Kit.i32_nonneg.mpr (by omega)) (by decide) (by decide)
  simp only [← Int32.toInt_inj, Int32.reduceToInt]; omega
theorem own_sh (p : Int32) : (1 : Int64) <<< (Int32.toInt64 (p &&& 63) &&& 63) = 1 <<< (Int32.toInt64 p &&& 63) := by
  have h : Int32.toInt64 (p &&& 63) &&& 63 = Int32.toInt64 p &&& 63 := by
    apply Int64.toBitVec_inj.1
    show BitVec.signExtend 64 (p.toBitVec &&& 63#32) &&& 63#64 = BitVec.signExtend 64 p.toBitVec &&& 63#64
    apply BitVec.eq_of_getLsbD_eq
    intro i hi
    simp only [BitVec.getLsbD_and, BitVec.getLsbD_signExtend, hi, decide_true, Bool.true_and]
    by_cases q : i < 6
    · have a : (63#32).getLsbD i = true := (show ∀ j : Fin 6, (63#32).getLsbD j.val = true by decide) ⟨i, q⟩
      simp only [show i < 32 by omega, if_true, BitVec.getLsbD_and, a, Bool.and_true]
    · have a : (63#64).getLsbD i = false := (show ∀ j : Fin 64, ¬ j.val < 6 → (63#64).getLsbD j.val = false by decide) ⟨i, hi⟩ q
      simp [a]
  rw [h]
theorem own_bit (p : Int32) : ¬ (1 : Int64) <<< (Int32.toInt64 p &&& 63) = 0 := by
  obtain ⟨i, hi⟩ : ∃ i : Fin 64, Int32.toInt64 p &&& 63 = Int64.ofNat i.val :=
    ⟨⟨(Int32.toInt64 p &&& 63).toBitVec.toNat, by simp only [Int64.toBitVec_and, BitVec.toNat_and]; exact Nat.lt_of_le_of_lt Nat.and_le_right (by decide)⟩, by apply Int64.toBitVec_inj.1; apply BitVec.eq_of_toNat_eq; simp⟩
  rw [hi]
  exact (show ∀ i : Fin 64, ¬ (1 : Int64) <<< Int64.ofNat i.val = 0 by decide) i
def own_pu (i : Int32) (v w : Int64) (t : Int32 × List Value) : Int32 × List Value := if ¬ v = 0 ∧ w = 0 then (t.1 + 1, t.2.set t.1.toNatClampNeg (.int i)) else t
def own_ok (c : Int32) (l : List Value) (j : Int) : Prop := 0 ≤ c.toInt ∧ c.toInt ≤ j ∧ l.length = 48
theorem own_okS {i : Int32} {v w : Int64} {c c' : Int32} {l l' : List Value} {j : Int} (h : own_ok c l j) (e : own_pu i v w (c, l) = (c', l')) (hj : j ≤ 10) : own_ok c' l' (j + 1) := by
  obtain ⟨h1, h2, h3⟩ := h
  simp only [own_pu] at e
  split at e
  · cases e
    have q : (c + 1).toInt = c.toInt + 1 := by rw [Jvm.Kit.i32_add (by simp only [Int32.reduceToInt]; omega) (by simp only [Int32.reduceToInt]; omega)]; rfl
    exact ⟨by omega, by omega, by simpa using h3⟩
  · cases e; exact ⟨h1, by omega, h3⟩
theorem own_okB {c : Int32} {l : List Value} {j : Int} (h : own_ok c l j) (hj : j ≤ 20) : ¬ c < 0 ∧ c.toNatClampNeg < l.length := by
  obtain ⟨h1, h2, h3⟩ := h
  rw [Int32.lt_iff_toInt_lt, h3]; simp only [Int32.toNatClampNeg, Int32.reduceToInt]; omega
theorem d3_0 : decode prog_21_method_4_code 0 = .ok (.iconst 0, 1) := by decide +kernel
theorem d3_1 : decode prog_21_method_4_code 1 = .ok (.istore 4, 2) := by decide +kernel
theorem d3_3 : decode prog_21_method_4_code 3 = .ok (.iload 4, 2) := by decide +kernel
theorem d3_5 : decode prog_21_method_4_code 5 = .ok (.iload_n 3, 1) := by decide +kernel
theorem d3_6 : decode prog_21_method_4_code 6 = .ok (.if_icmp .ge 73, 3) := by decide +kernel
theorem d3_9 : decode prog_21_method_4_code 9 = .ok (.aload_n 0, 1) := by decide +kernel
theorem d3_10 : decode prog_21_method_4_code 10 = .ok (.getfield 15, 3) := by decide +kernel
theorem d3_13 : decode prog_21_method_4_code 13 = .ok (.ifCond .eq 44, 3) := by decide +kernel
theorem d3_16 : decode prog_21_method_4_code 16 = .ok (.aload_n 1, 1) := by decide +kernel
theorem d3_17 : decode prog_21_method_4_code 17 = .ok (.iload_n 2, 1) := by decide +kernel
theorem d3_18 : decode prog_21_method_4_code 18 = .ok (.iload 4, 2) := by decide +kernel
theorem d3_20 : decode prog_21_method_4_code 20 = .ok (.iadd, 1) := by decide +kernel
theorem d3_21 : decode prog_21_method_4_code 21 = .ok (.laload, 1) := by decide +kernel
theorem d3_22 : decode prog_21_method_4_code 22 = .ok (.lconst 0, 1) := by decide +kernel
theorem d3_23 : decode prog_21_method_4_code 23 = .ok (.lcmp, 1) := by decide +kernel
theorem d3_24 : decode prog_21_method_4_code 24 = .ok (.ifCond .eq 33, 3) := by decide +kernel
theorem d3_27 : decode prog_21_method_4_code 27 = .ok (.aload_n 0, 1) := by decide +kernel
theorem d3_28 : decode prog_21_method_4_code 28 = .ok (.getfield 9, 3) := by decide +kernel
theorem d3_31 : decode prog_21_method_4_code 31 = .ok (.iload 4, 2) := by decide +kernel
theorem d3_33 : decode prog_21_method_4_code 33 = .ok (.laload, 1) := by decide +kernel
theorem d3_34 : decode prog_21_method_4_code 34 = .ok (.lconst 0, 1) := by decide +kernel
theorem d3_35 : decode prog_21_method_4_code 35 = .ok (.lcmp, 1) := by decide +kernel
theorem d3_36 : decode prog_21_method_4_code 36 = .ok (.ifCond .ne 21, 3) := by decide +kernel
theorem d3_39 : decode prog_21_method_4_code 39 = .ok (.aload_n 0, 1) := by decide +kernel
theorem d3_40 : decode prog_21_method_4_code 40 = .ok (.getfield 19, 3) := by decide +kernel
theorem d3_43 : decode prog_21_method_4_code 43 = .ok (.aload_n 0, 1) := by decide +kernel
theorem d3_44 : decode prog_21_method_4_code 44 = .ok (.dup, 1) := by decide +kernel
theorem d3_45 : decode prog_21_method_4_code 45 = .ok (.getfield 23, 3) := by decide +kernel
theorem d3_48 : decode prog_21_method_4_code 48 = .ok (.dup_x1, 1) := by decide +kernel
theorem d3_49 : decode prog_21_method_4_code 49 = .ok (.iconst 1, 1) := by decide +kernel
theorem d3_50 : decode prog_21_method_4_code 50 = .ok (.iadd, 1) := by decide +kernel
theorem d3_51 : decode prog_21_method_4_code 51 = .ok (.putfield 23, 3) := by decide +kernel
theorem d3_54 : decode prog_21_method_4_code 54 = .ok (.iload 4, 2) := by decide +kernel
theorem d3_56 : decode prog_21_method_4_code 56 = .ok (.iastore, 1) := by decide +kernel
theorem d3_57 : decode prog_21_method_4_code 57 = .ok (.aload_n 0, 1) := by decide +kernel
theorem d3_58 : decode prog_21_method_4_code 58 = .ok (.getfield 9, 3) := by decide +kernel
theorem d3_61 : decode prog_21_method_4_code 61 = .ok (.iload 4, 2) := by decide +kernel
theorem d3_63 : decode prog_21_method_4_code 63 = .ok (.dup2, 1) := by decide +kernel
theorem d3_64 : decode prog_21_method_4_code 64 = .ok (.laload, 1) := by decide +kernel
theorem d3_65 : decode prog_21_method_4_code 65 = .ok (.aload_n 1, 1) := by decide +kernel
theorem d3_66 : decode prog_21_method_4_code 66 = .ok (.iload_n 2, 1) := by decide +kernel
theorem d3_67 : decode prog_21_method_4_code 67 = .ok (.iload 4, 2) := by decide +kernel
theorem d3_69 : decode prog_21_method_4_code 69 = .ok (.iadd, 1) := by decide +kernel
theorem d3_70 : decode prog_21_method_4_code 70 = .ok (.laload, 1) := by decide +kernel
theorem d3_71 : decode prog_21_method_4_code 71 = .ok (.lor, 1) := by decide +kernel
theorem d3_72 : decode prog_21_method_4_code 72 = .ok (.lastore, 1) := by decide +kernel
theorem d3_73 : decode prog_21_method_4_code 73 = .ok (.iinc 4 1, 3) := by decide +kernel
theorem d3_76 : decode prog_21_method_4_code 76 = .ok (.goto (-73), 3) := by decide +kernel
theorem d3_79 : decode prog_21_method_4_code 79 = .ok (.return_, 1) := by decide +kernel
theorem pf_0 : plainFor (⟨"com/example/detra/detra/SetWords", "addWords", "([JII)V"⟩ : MethodName) = true := by first | exact plainFor_of_name (by first | (simp [plainName, overriddenIn]; done) | decide +kernel) | decide +kernel
def Qcon_aw0_0 (Z : State) (n0 : Nat) (h0 : Heap) (o : Addr) (mo : Addr) (f : Int32) (aw : Addr) (ah : Addr) (cnt : Int32) (hl : List Value) (vs : List Value) (w0 : Int64) (w1 : Int64) (w2 : Int64) (v0 : Int64) (v1 : Int64) (v2 : Int64) (v : Option Value) (h' : Heap) : Prop := (v = none) ∧ (h0 = h')
theorem ef_con_aw0_0 (m : MethodId) (o : Addr) (mo : Addr) (f : Int32) : entryFrame m #[(.ref o), (.ref mo), (.int f), (.int 0)] 5 = mkF m 0 #[rv o, rv mo, iv f, iv 0, .unset] [] := by first | (simp [entryFrame, mkF, argsToLocals, Value.category]; done) | rfl
set_option maxRecDepth 65536 in
set_option maxHeartbeats 40000000 in
theorem con_aw0_0 (l : Launch) (Z : State) (a0 : Array Value) (hw : ∀ d ∈ tables_1, d.before a0 Z = true) (n0 : Nat) (h0 : Heap) (hn0 : n0 ≤ h0.size) (o : Addr) (mo : Addr) (f : Int32) (aw : Addr) (ah : Addr) (cnt : Int32) (hl : List Value) (vs : List Value) (w0 : Int64) (w1 : Int64) (w2 : Int64) (v0 : Int64) (v1 : Int64) (v2 : Int64) (P0 : Exa Z h0 o kC0) (P1 : Fld Z h0 o kC0 "words" "[J" (.ref aw)) (P2 : Fld Z h0 o kC0 "held" "[I" (.ref ah)) (P3 : Fld Z h0 o kC0 "listing" "Z" (.int 0)) (P4 : Fld Z h0 o kC0 "count" "I" (.int cnt)) (P5 : Av Z h0 aw .long ([.long w0, .long w1, .long w2])) (P6 : Av Z h0 ah .int hl) (P7 : Av Z h0 mo .long vs) (g_o : n0 ≤ o) (g_aw : n0 ≤ aw) (g_ah : n0 ≤ ah) (ne_o_aw : o ≠ aw) (ne_o_ah : o ≠ ah) (ne_aw_ah : aw ≠ ah) (ne_o_mo : o ≠ mo) (ne_aw_mo : aw ≠ mo) (ne_ah_mo : ah ≠ mo) (hj0 : ¬ f + 0 < 0) (hg0 : vs[Int32.toNatClampNeg (f + 0)]? = some (.long v0)) (hj1 : ¬ f + 1 < 0) (hg1 : vs[Int32.toNatClampNeg (f + 1)]? = some (.long v1)) (hj2 : ¬ f + 2 < 0) (hg2 : vs[Int32.toNatClampNeg (f + 2)]? = some (.long v2)) :
    Con l Z n0 [] (⟨"com/example/detra/detra/SetWords", "addWords", "([JII)V"⟩ : MethodName) prog_21_method_4_code 5 none ({ frames := 0, cells := 0, slots := 0, locals := 0 } : Room) #[(.ref o), (.ref mo), (.int f), (.int 0)] h0 (Qcon_aw0_0 Z n0 h0 o mo f aw ah cnt hl vs w0 w1 w2 v0 v1 v2) := by
  refine Con.of pf_0 (fun m => ef_con_aw0_0 m o mo f) hn0 ?_
  intro p e s m below meth c C
  refine C.iconst 0 d3_0 rfl rfl ?_
  refine C.istore (Ls' := #[rv o, rv mo, iv f, iv 0, iv 0]) d3_1 rfl rfl ?_
  refine C.iload d3_3 rfl rfl ?_
  refine C.iloadN d3_5 rfl rfl ?_
  refine C.icmp_ge_t d3_6 (by decide) rfl (by decide) ?_
  exact C.ret0 d3_79 (by decide) (by decide) ⟨rfl, rfl⟩
def Qcon_aw0_1 (Z : State) (n0 : Nat) (h0 : Heap) (o : Addr) (mo : Addr) (f : Int32) (aw : Addr) (ah : Addr) (cnt : Int32) (hl : List Value) (vs : List Value) (w0 : Int64) (w1 : Int64) (w2 : Int64) (v0 : Int64) (v1 : Int64) (v2 : Int64) (v : Option Value) (h' : Heap) : Prop := (v = none) ∧ (Keep h0 h' [aw]) ∧ (Av Z h' aw .long ([.long (w0 ||| v0), .long w1, .long w2]))
theorem ef_con_aw0_1 (m : MethodId) (o : Addr) (mo : Addr) (f : Int32) : entryFrame m #[(.ref o), (.ref mo), (.int f), (.int 1)] 5 = mkF m 0 #[rv o, rv mo, iv f, iv 1, .unset] [] := by first | (simp [entryFrame, mkF, argsToLocals, Value.category]; done) | rfl
set_option maxRecDepth 65536 in
set_option maxHeartbeats 40000000 in
theorem con_aw0_1 (l : Launch) (Z : State) (a0 : Array Value) (hw : ∀ d ∈ tables_1, d.before a0 Z = true) (n0 : Nat) (h0 : Heap) (hn0 : n0 ≤ h0.size) (o : Addr) (mo : Addr) (f : Int32) (aw : Addr) (ah : Addr) (cnt : Int32) (hl : List Value) (vs : List Value) (w0 : Int64) (w1 : Int64) (w2 : Int64) (v0 : Int64) (v1 : Int64) (v2 : Int64) (P0 : Exa Z h0 o kC0) (P1 : Fld Z h0 o kC0 "words" "[J" (.ref aw)) (P2 : Fld Z h0 o kC0 "held" "[I" (.ref ah)) (P3 : Fld Z h0 o kC0 "listing" "Z" (.int 0)) (P4 : Fld Z h0 o kC0 "count" "I" (.int cnt)) (P5 : Av Z h0 aw .long ([.long w0, .long w1, .long w2])) (P6 : Av Z h0 ah .int hl) (P7 : Av Z h0 mo .long vs) (g_o : n0 ≤ o) (g_aw : n0 ≤ aw) (g_ah : n0 ≤ ah) (ne_o_aw : o ≠ aw) (ne_o_ah : o ≠ ah) (ne_aw_ah : aw ≠ ah) (ne_o_mo : o ≠ mo) (ne_aw_mo : aw ≠ mo) (ne_ah_mo : ah ≠ mo) (hj0 : ¬ f + 0 < 0) (hg0 : vs[Int32.toNatClampNeg (f + 0)]? = some (.long v0)) (hj1 : ¬ f + 1 < 0) (hg1 : vs[Int32.toNatClampNeg (f + 1)]? = some (.long v1)) (hj2 : ¬ f + 2 < 0) (hg2 : vs[Int32.toNatClampNeg (f + 2)]? = some (.long v2)) :
    Con l Z n0 [] (⟨"com/example/detra/detra/SetWords", "addWords", "([JII)V"⟩ : MethodName) prog_21_method_4_code 5 none ({ frames := 0, cells := 0, slots := 0, locals := 0 } : Room) #[(.ref o), (.ref mo), (.int f), (.int 1)] h0 (Qcon_aw0_1 Z n0 h0 o mo f aw ah cnt hl vs w0 w1 w2 v0 v1 v2) := by
  refine Con.of pf_0 (fun m => ef_con_aw0_1 m o mo f) hn0 ?_
  intro p e s m below meth c C
  refine C.iconst 0 d3_0 rfl rfl ?_
  refine C.istore (Ls' := #[rv o, rv mo, iv f, iv 1, iv 0]) d3_1 rfl rfl ?_
  refine C.iload d3_3 rfl rfl ?_
  refine C.iloadN d3_5 rfl rfl ?_
  refine C.icmp_ge_f d3_6 rfl (by decide) ?_
  refine C.aloadN d3_9 rfl rfl rfl ?_
  refine C.getF d3_10 rfl (tw hw 14 rfl) P3 ?_
  refine C.if_eq_t d3_13 (by decide) rfl (by decide) ?_
  refine C.aloadN d3_57 rfl rfl rfl ?_
  refine C.getF d3_58 rfl (tw hw 12 rfl) P1 ?_
  refine C.iload d3_61 rfl rfl ?_
  refine C.dup2 d3_63 rfl rfl rfl ?_
  refine C.laload (.long w0) d3_64 rfl P5 (by decide) rfl ?_
  refine C.aloadN d3_65 rfl rfl rfl ?_
  refine C.iloadN d3_66 rfl rfl ?_
  refine C.iload d3_67 rfl rfl ?_
  refine C.iadd d3_69 rfl ?_
  refine C.laload (.long v0) d3_70 rfl P7 hj0 hg0 ?_
  refine C.lor d3_71 rfl ?_
  refine C.lastore d3_72 rfl P5 g_aw (by decide) (Nat.le_of_ble_eq_true rfl) (fun h12 W13 F14 => ?_)
  have F15 := Exa.wr W13 P0
  have F16 := Fld.other W13 P1 (Or.inl ne_o_aw)
  have F17 := Fld.other W13 P2 (Or.inl ne_o_aw)
  have F18 := Fld.other W13 P3 (Or.inl ne_o_aw)
  have F19 := Fld.other W13 P4 (Or.inl ne_o_aw)
  have F20 := P6.other W13 (Ne.symm ne_aw_ah)
  have F21 := P7.other W13 (Ne.symm ne_aw_mo)
  have F22 : Av Z h12 aw .long ([.long (w0 ||| v0), .long w1, .long w2]) := F14
  refine C.iinc (Ls' := #[rv o, rv mo, iv f, iv 1, iv 1]) 1 d3_73 rfl rfl rfl rfl ?_
  refine C.goto d3_76 (by decide) rfl ?_
  refine C.iload d3_3 rfl rfl ?_
  refine C.iloadN d3_5 rfl rfl ?_
  refine C.icmp_ge_t d3_6 (by decide) rfl (by decide) ?_
  exact C.ret0 d3_79 (by decide) (by decide) ⟨rfl, ((Keep.refl h0 [aw]).wr W13 (Or.inl (List.mem_of_getElem? (i := 0) rfl))), F22⟩
def Qcon_aw0_2 (Z : State) (n0 : Nat) (h0 : Heap) (o : Addr) (mo : Addr) (f : Int32) (aw : Addr) (ah : Addr) (cnt : Int32) (hl : List Value) (vs : List Value) (w0 : Int64) (w1 : Int64) (w2 : Int64) (v0 : Int64) (v1 : Int64) (v2 : Int64) (v : Option Value) (h' : Heap) : Prop := (v = none) ∧ (Keep h0 h' [aw]) ∧ (Av Z h' aw .long ([.long (w0 ||| v0), .long (w1 ||| v1), .long w2]))
theorem ef_con_aw0_2 (m : MethodId) (o : Addr) (mo : Addr) (f : Int32) : entryFrame m #[(.ref o), (.ref mo), (.int f), (.int 2)] 5 = mkF m 0 #[rv o, rv mo, iv f, iv 2, .unset] [] := by first | (simp [entryFrame, mkF, argsToLocals, Value.category]; done) | rfl
set_option maxRecDepth 65536 in
set_option maxHeartbeats 40000000 in
theorem con_aw0_2 (l : Launch) (Z : State) (a0 : Array Value) (hw : ∀ d ∈ tables_1, d.before a0 Z = true) (n0 : Nat) (h0 : Heap) (hn0 : n0 ≤ h0.size) (o : Addr) (mo : Addr) (f : Int32) (aw : Addr) (ah : Addr) (cnt : Int32) (hl : List Value) (vs : List Value) (w0 : Int64) (w1 : Int64) (w2 : Int64) (v0 : Int64) (v1 : Int64) (v2 : Int64) (P0 : Exa Z h0 o kC0) (P1 : Fld Z h0 o kC0 "words" "[J" (.ref aw)) (P2 : Fld Z h0 o kC0 "held" "[I" (.ref ah)) (P3 : Fld Z h0 o kC0 "listing" "Z" (.int 0)) (P4 : Fld Z h0 o kC0 "count" "I" (.int cnt)) (P5 : Av Z h0 aw .long ([.long w0, .long w1, .long w2])) (P6 : Av Z h0 ah .int hl) (P7 : Av Z h0 mo .long vs) (g_o : n0 ≤ o) (g_aw : n0 ≤ aw) (g_ah : n0 ≤ ah) (ne_o_aw : o ≠ aw) (ne_o_ah : o ≠ ah) (ne_aw_ah : aw ≠ ah) (ne_o_mo : o ≠ mo) (ne_aw_mo : aw ≠ mo) (ne_ah_mo : ah ≠ mo) (hj0 : ¬ f + 0 < 0) (hg0 : vs[Int32.toNatClampNeg (f + 0)]? = some (.long v0)) (hj1 : ¬ f + 1 < 0) (hg1 : vs[Int32.toNatClampNeg (f + 1)]? = some (.long v1)) (hj2 : ¬ f + 2 < 0) (hg2 : vs[Int32.toNatClampNeg (f + 2)]? = some (.long v2)) :
    Con l Z n0 [] (⟨"com/example/detra/detra/SetWords", "addWords", "([JII)V"⟩ : MethodName) prog_21_method_4_code 5 none ({ frames := 0, cells := 0, slots := 0, locals := 0 } : Room) #[(.ref o), (.ref mo), (.int f), (.int 2)] h0 (Qcon_aw0_2 Z n0 h0 o mo f aw ah cnt hl vs w0 w1 w2 v0 v1 v2) := by
  refine Con.of pf_0 (fun m => ef_con_aw0_2 m o mo f) hn0 ?_
  intro p e s m below meth c C
  refine C.iconst 0 d3_0 rfl rfl ?_
  refine C.istore (Ls' := #[rv o, rv mo, iv f, iv 2, iv 0]) d3_1 rfl rfl ?_
  refine C.iload d3_3 rfl rfl ?_
  refine C.iloadN d3_5 rfl rfl ?_
  refine C.icmp_ge_f d3_6 rfl (by decide) ?_
  refine C.aloadN d3_9 rfl rfl rfl ?_
  refine C.getF d3_10 rfl (tw hw 14 rfl) P3 ?_
  refine C.if_eq_t d3_13 (by decide) rfl (by decide) ?_
  refine C.aloadN d3_57 rfl rfl rfl ?_
  refine C.getF d3_58 rfl (tw hw 12 rfl) P1 ?_
  refine C.iload d3_61 rfl rfl ?_
  refine C.dup2 d3_63 rfl rfl rfl ?_
  refine C.laload (.long w0) d3_64 rfl P5 (by decide) rfl ?_
  refine C.aloadN d3_65 rfl rfl rfl ?_
  refine C.iloadN d3_66 rfl rfl ?_
  refine C.iload d3_67 rfl rfl ?_
  refine C.iadd d3_69 rfl ?_
  refine C.laload (.long v0) d3_70 rfl P7 hj0 hg0 ?_
  refine C.lor d3_71 rfl ?_
  refine C.lastore d3_72 rfl P5 g_aw (by decide) (Nat.le_of_ble_eq_true rfl) (fun h45 W46 F47 => ?_)
  have F48 := Exa.wr W46 P0
  have F49 := Fld.other W46 P1 (Or.inl ne_o_aw)
  have F50 := Fld.other W46 P2 (Or.inl ne_o_aw)
  have F51 := Fld.other W46 P3 (Or.inl ne_o_aw)
  have F52 := Fld.other W46 P4 (Or.inl ne_o_aw)
  have F53 := P6.other W46 (Ne.symm ne_aw_ah)
  have F54 := P7.other W46 (Ne.symm ne_aw_mo)
  have F55 : Av Z h45 aw .long ([.long (w0 ||| v0), .long w1, .long w2]) := F47
  refine C.iinc (Ls' := #[rv o, rv mo, iv f, iv 2, iv 1]) 1 d3_73 rfl rfl rfl rfl ?_
  refine C.goto d3_76 (by decide) rfl ?_
  refine C.iload d3_3 rfl rfl ?_
  refine C.iloadN d3_5 rfl rfl ?_
  refine C.icmp_ge_f d3_6 rfl (by decide) ?_
  refine C.aloadN d3_9 rfl rfl rfl ?_
  refine C.getF d3_10 rfl (tw hw 14 rfl) F51 ?_
  refine C.if_eq_t d3_13 (by decide) rfl (by decide) ?_
  refine C.aloadN d3_57 rfl rfl rfl ?_
  refine C.getF d3_58 rfl (tw hw 12 rfl) F49 ?_
  refine C.iload d3_61 rfl rfl ?_
  refine C.dup2 d3_63 rfl rfl rfl ?_
  refine C.laload (.long w1) d3_64 rfl F55 (by decide) rfl ?_
  refine C.aloadN d3_65 rfl rfl rfl ?_
  refine C.iloadN d3_66 rfl rfl ?_
  refine C.iload d3_67 rfl rfl ?_
  refine C.iadd d3_69 rfl ?_
  refine C.laload (.long v1) d3_70 rfl F54 hj1 hg1 ?_
  refine C.lor d3_71 rfl ?_
  refine C.lastore d3_72 rfl F55 g_aw (by decide) (Nat.le_of_ble_eq_true rfl) (fun h56 W57 F58 => ?_)
  have F59 := Exa.wr W57 F48
  have F60 := Fld.other W57 F49 (Or.inl ne_o_aw)
  have F61 := Fld.other W57 F50 (Or.inl ne_o_aw)
  have F62 := Fld.other W57 F51 (Or.inl ne_o_aw)
  have F63 := Fld.other W57 F52 (Or.inl ne_o_aw)
  have F64 := F53.other W57 (Ne.symm ne_aw_ah)
  have F65 := F54.other W57 (Ne.symm ne_aw_mo)
  have F66 : Av Z h56 aw .long ([.long (w0 ||| v0), .long (w1 ||| v1), .long w2]) := F58
  refine C.iinc (Ls' := #[rv o, rv mo, iv f, iv 2, iv 2]) 1 d3_73 rfl rfl rfl rfl ?_
  refine C.goto d3_76 (by decide) rfl ?_
  refine C.iload d3_3 rfl rfl ?_
  refine C.iloadN d3_5 rfl rfl ?_
  refine C.icmp_ge_t d3_6 (by decide) rfl (by decide) ?_
  exact C.ret0 d3_79 (by decide) (by decide) ⟨rfl, (((Keep.refl h0 [aw]).wr W46 (Or.inl (List.mem_of_getElem? (i := 0) rfl))).wr W57 (Or.inl (List.mem_of_getElem? (i := 0) rfl))), F66⟩
def Qcon_aw0_3 (Z : State) (n0 : Nat) (h0 : Heap) (o : Addr) (mo : Addr) (f : Int32) (aw : Addr) (ah : Addr) (cnt : Int32) (hl : List Value) (vs : List Value) (w0 : Int64) (w1 : Int64) (w2 : Int64) (v0 : Int64) (v1 : Int64) (v2 : Int64) (v : Option Value) (h' : Heap) : Prop := (v = none) ∧ (Keep h0 h' [aw]) ∧ (Av Z h' aw .long ([.long (w0 ||| v0), .long (w1 ||| v1), .long (w2 ||| v2)]))
theorem ef_con_aw0_3 (m : MethodId) (o : Addr) (mo : Addr) (f : Int32) : entryFrame m #[(.ref o), (.ref mo), (.int f), (.int 3)] 5 = mkF m 0 #[rv o, rv mo, iv f, iv 3, .unset] [] := by first | (simp [entryFrame, mkF, argsToLocals, Value.category]; done) | rfl
set_option maxRecDepth 65536 in
set_option maxHeartbeats 40000000 in
theorem con_aw0_3 (l : Launch) (Z : State) (a0 : Array Value) (hw : ∀ d ∈ tables_1, d.before a0 Z = true) (n0 : Nat) (h0 : Heap) (hn0 : n0 ≤ h0.size) (o : Addr) (mo : Addr) (f : Int32) (aw : Addr) (ah : Addr) (cnt : Int32) (hl : List Value) (vs : List Value) (w0 : Int64) (w1 : Int64) (w2 : Int64) (v0 : Int64) (v1 : Int64) (v2 : Int64) (P0 : Exa Z h0 o kC0) (P1 : Fld Z h0 o kC0 "words" "[J" (.ref aw)) (P2 : Fld Z h0 o kC0 "held" "[I" (.ref ah)) (P3 : Fld Z h0 o kC0 "listing" "Z" (.int 0)) (P4 : Fld Z h0 o kC0 "count" "I" (.int cnt)) (P5 : Av Z h0 aw .long ([.long w0, .long w1, .long w2])) (P6 : Av Z h0 ah .int hl) (P7 : Av Z h0 mo .long vs) (g_o : n0 ≤ o) (g_aw : n0 ≤ aw) (g_ah : n0 ≤ ah) (ne_o_aw : o ≠ aw) (ne_o_ah : o ≠ ah) (ne_aw_ah : aw ≠ ah) (ne_o_mo : o ≠ mo) (ne_aw_mo : aw ≠ mo) (ne_ah_mo : ah ≠ mo) (hj0 : ¬ f + 0 < 0) (hg0 : vs[Int32.toNatClampNeg (f + 0)]? = some (.long v0)) (hj1 : ¬ f + 1 < 0) (hg1 : vs[Int32.toNatClampNeg (f + 1)]? = some (.long v1)) (hj2 : ¬ f + 2 < 0) (hg2 : vs[Int32.toNatClampNeg (f + 2)]? = some (.long v2)) :
    Con l Z n0 [] (⟨"com/example/detra/detra/SetWords", "addWords", "([JII)V"⟩ : MethodName) prog_21_method_4_code 5 none ({ frames := 0, cells := 0, slots := 0, locals := 0 } : Room) #[(.ref o), (.ref mo), (.int f), (.int 3)] h0 (Qcon_aw0_3 Z n0 h0 o mo f aw ah cnt hl vs w0 w1 w2 v0 v1 v2) := by
  refine Con.of pf_0 (fun m => ef_con_aw0_3 m o mo f) hn0 ?_
  intro p e s m below meth c C
  refine C.iconst 0 d3_0 rfl rfl ?_
  refine C.istore (Ls' := #[rv o, rv mo, iv f, iv 3, iv 0]) d3_1 rfl rfl ?_
  refine C.iload d3_3 rfl rfl ?_
  refine C.iloadN d3_5 rfl rfl ?_
  refine C.icmp_ge_f d3_6 rfl (by decide) ?_
  refine C.aloadN d3_9 rfl rfl rfl ?_
  refine C.getF d3_10 rfl (tw hw 14 rfl) P3 ?_
  refine C.if_eq_t d3_13 (by decide) rfl (by decide) ?_
  refine C.aloadN d3_57 rfl rfl rfl ?_
  refine C.getF d3_58 rfl (tw hw 12 rfl) P1 ?_
  refine C.iload d3_61 rfl rfl ?_
  refine C.dup2 d3_63 rfl rfl rfl ?_
  refine C.laload (.long w0) d3_64 rfl P5 (by decide) rfl ?_
  refine C.aloadN d3_65 rfl rfl rfl ?_
  refine C.iloadN d3_66 rfl rfl ?_
  refine C.iload d3_67 rfl rfl ?_
  refine C.iadd d3_69 rfl ?_
  refine C.laload (.long v0) d3_70 rfl P7 hj0 hg0 ?_
  refine C.lor d3_71 rfl ?_
  refine C.lastore d3_72 rfl P5 g_aw (by decide) (Nat.le_of_ble_eq_true rfl) (fun h100 W101 F102 => ?_)
  have F103 := Exa.wr W101 P0
  have F104 := Fld.other W101 P1 (Or.inl ne_o_aw)
  have F105 := Fld.other W101 P2 (Or.inl ne_o_aw)
  have F106 := Fld.other W101 P3 (Or.inl ne_o_aw)
  have F107 := Fld.other W101 P4 (Or.inl ne_o_aw)
  have F108 := P6.other W101 (Ne.symm ne_aw_ah)
  have F109 := P7.other W101 (Ne.symm ne_aw_mo)
  have F110 : Av Z h100 aw .long ([.long (w0 ||| v0), .long w1, .long w2]) := F102
  refine C.iinc (Ls' := #[rv o, rv mo, iv f, iv 3, iv 1]) 1 d3_73 rfl rfl rfl rfl ?_
  refine C.goto d3_76 (by decide) rfl ?_
  refine C.iload d3_3 rfl rfl ?_
  refine C.iloadN d3_5 rfl rfl ?_
  refine C.icmp_ge_f d3_6 rfl (by decide) ?_
  refine C.aloadN d3_9 rfl rfl rfl ?_
  refine C.getF d3_10 rfl (tw hw 14 rfl) F106 ?_
  refine C.if_eq_t d3_13 (by decide) rfl (by decide) ?_
  refine C.aloadN d3_57 rfl rfl rfl ?_
  refine C.getF d3_58 rfl (tw hw 12 rfl) F104 ?_
  refine C.iload d3_61 rfl rfl ?_
  refine C.dup2 d3_63 rfl rfl rfl ?_
  refine C.laload (.long w1) d3_64 rfl F110 (by decide) rfl ?_
  refine C.aloadN d3_65 rfl rfl rfl ?_
  refine C.iloadN d3_66 rfl rfl ?_
  refine C.iload d3_67 rfl rfl ?_
  refine C.iadd d3_69 rfl ?_
  refine C.laload (.long v1) d3_70 rfl F109 hj1 hg1 ?_
  refine C.lor d3_71 rfl ?_
  refine C.lastore d3_72 rfl F110 g_aw (by decide) (Nat.le_of_ble_eq_true rfl) (fun h111 W112 F113 => ?_)
  have F114 := Exa.wr W112 F103
  have F115 := Fld.other W112 F104 (Or.inl ne_o_aw)
  have F116 := Fld.other W112 F105 (Or.inl ne_o_aw)
  have F117 := Fld.other W112 F106 (Or.inl ne_o_aw)
  have F118 := Fld.other W112 F107 (Or.inl ne_o_aw)
  have F119 := F108.other W112 (Ne.symm ne_aw_ah)
  have F120 := F109.other W112 (Ne.symm ne_aw_mo)
  have F121 : Av Z h111 aw .long ([.long (w0 ||| v0), .long (w1 ||| v1), .long w2]) := F113
  refine C.iinc (Ls' := #[rv o, rv mo, iv f, iv 3, iv 2]) 1 d3_73 rfl rfl rfl rfl ?_
  refine C.goto d3_76 (by decide) rfl ?_
  refine C.iload d3_3 rfl rfl ?_
  refine C.iloadN d3_5 rfl rfl ?_
  refine C.icmp_ge_f d3_6 rfl (by decide) ?_
  refine C.aloadN d3_9 rfl rfl rfl ?_
  refine C.getF d3_10 rfl (tw hw 14 rfl) F117 ?_
  refine C.if_eq_t d3_13 (by decide) rfl (by decide) ?_
  refine C.aloadN d3_57 rfl rfl rfl ?_
  refine C.getF d3_58 rfl (tw hw 12 rfl) F115 ?_
  refine C.iload d3_61 rfl rfl ?_
  refine C.dup2 d3_63 rfl rfl rfl ?_
  refine C.laload (.long w2) d3_64 rfl F121 (by decide) rfl ?_
  refine C.aloadN d3_65 rfl rfl rfl ?_
  refine C.iloadN d3_66 rfl rfl ?_
  refine C.iload d3_67 rfl rfl ?_
  refine C.iadd d3_69 rfl ?_
  refine C.laload (.long v2) d3_70 rfl F120 hj2 hg2 ?_
  refine C.lor d3_71 rfl ?_
  refine C.lastore d3_72 rfl F121 g_aw (by decide) (Nat.le_of_ble_eq_true rfl) (fun h122 W123 F124 => ?_)
  have F125 := Exa.wr W123 F114
  have F126 := Fld.other W123 F115 (Or.inl ne_o_aw)
  have F127 := Fld.other W123 F116 (Or.inl ne_o_aw)
  have F128 := Fld.other W123 F117 (Or.inl ne_o_aw)
  have F129 := Fld.other W123 F118 (Or.inl ne_o_aw)
  have F130 := F119.other W123 (Ne.symm ne_aw_ah)
  have F131 := F120.other W123 (Ne.symm ne_aw_mo)
  have F132 : Av Z h122 aw .long ([.long (w0 ||| v0), .long (w1 ||| v1), .long (w2 ||| v2)]) := F124
  refine C.iinc (Ls' := #[rv o, rv mo, iv f, iv 3, iv 3]) 1 d3_73 rfl rfl rfl rfl ?_
  refine C.goto d3_76 (by decide) rfl ?_
  refine C.iload d3_3 rfl rfl ?_
  refine C.iloadN d3_5 rfl rfl ?_
  refine C.icmp_ge_t d3_6 (by decide) rfl (by decide) ?_
  exact C.ret0 d3_79 (by decide) (by decide) ⟨rfl, ((((Keep.refl h0 [aw]).wr W101 (Or.inl (List.mem_of_getElem? (i := 0) rfl))).wr W112 (Or.inl (List.mem_of_getElem? (i := 0) rfl))).wr W123 (Or.inl (List.mem_of_getElem? (i := 0) rfl))), F132⟩
def Qcon_aw1_0 (Z : State) (n0 : Nat) (h0 : Heap) (o : Addr) (mo : Addr) (f : Int32) (aw : Addr) (ah : Addr) (cnt : Int32) (hl : List Value) (vs : List Value) (w0 : Int64) (w1 : Int64) (w2 : Int64) (v0 : Int64) (v1 : Int64) (v2 : Int64) (v : Option Value) (h' : Heap) : Prop := (v = none) ∧ (h0 = h')
theorem ef_con_aw1_0 (m : MethodId) (o : Addr) (mo : Addr) (f : Int32) : entryFrame m #[(.ref o), (.ref mo), (.int f), (.int 0)] 5 = mkF m 0 #[rv o, rv mo, iv f, iv 0, .unset] [] := by first | (simp [entryFrame, mkF, argsToLocals, Value.category]; done) | rfl
set_option maxRecDepth 65536 in
set_option maxHeartbeats 40000000 in
theorem con_aw1_0 (l : Launch) (Z : State) (a0 : Array Value) (hw : ∀ d ∈ tables_1, d.before a0 Z = true) (n0 : Nat) (h0 : Heap) (hn0 : n0 ≤ h0.size) (o : Addr) (mo : Addr) (f : Int32) (aw : Addr) (ah : Addr) (cnt : Int32) (hl : List Value) (vs : List Value) (w0 : Int64) (w1 : Int64) (w2 : Int64) (v0 : Int64) (v1 : Int64) (v2 : Int64) (P0 : Exa Z h0 o kC0) (P1 : Fld Z h0 o kC0 "words" "[J" (.ref aw)) (P2 : Fld Z h0 o kC0 "held" "[I" (.ref ah)) (P3 : Fld Z h0 o kC0 "listing" "Z" (.int 1)) (P4 : Fld Z h0 o kC0 "count" "I" (.int cnt)) (P5 : Av Z h0 aw .long (.long w0 :: .long w1 :: .long w2 :: zJ45)) (P6 : Av Z h0 ah .int hl) (P7 : Av Z h0 mo .long vs) (g_o : n0 ≤ o) (g_aw : n0 ≤ aw) (g_ah : n0 ≤ ah) (ne_o_aw : o ≠ aw) (ne_o_ah : o ≠ ah) (ne_aw_ah : aw ≠ ah) (ne_o_mo : o ≠ mo) (ne_aw_mo : aw ≠ mo) (ne_ah_mo : ah ≠ mo) (hj0 : ¬ f + 0 < 0) (hg0 : vs[Int32.toNatClampNeg (f + 0)]? = some (.long v0)) (hj1 : ¬ f + 1 < 0) (hg1 : vs[Int32.toNatClampNeg (f + 1)]? = some (.long v1)) (hj2 : ¬ f + 2 < 0) (hg2 : vs[Int32.toNatClampNeg (f + 2)]? = some (.long v2)) (ok0 : own_ok cnt hl 1) :
    Con l Z n0 [] (⟨"com/example/detra/detra/SetWords", "addWords", "([JII)V"⟩ : MethodName) prog_21_method_4_code 5 none ({ frames := 0, cells := 0, slots := 0, locals := 0 } : Room) #[(.ref o), (.ref mo), (.int f), (.int 0)] h0 (Qcon_aw1_0 Z n0 h0 o mo f aw ah cnt hl vs w0 w1 w2 v0 v1 v2) := by
  refine Con.of pf_0 (fun m => ef_con_aw1_0 m o mo f) hn0 ?_
  intro p e s m below meth c C
  refine C.iconst 0 d3_0 rfl rfl ?_
  refine C.istore (Ls' := #[rv o, rv mo, iv f, iv 0, iv 0]) d3_1 rfl rfl ?_
  refine C.iload d3_3 rfl rfl ?_
  refine C.iloadN d3_5 rfl rfl ?_
  refine C.icmp_ge_t d3_6 (by decide) rfl (by decide) ?_
  exact C.ret0 d3_79 (by decide) (by decide) ⟨rfl, rfl⟩
def Qcon_aw1_1 (Z : State) (n0 : Nat) (h0 : Heap) (o : Addr) (mo : Addr) (f : Int32) (aw : Addr) (ah : Addr) (cnt : Int32) (hl : List Value) (vs : List Value) (w0 : Int64) (w1 : Int64) (w2 : Int64) (v0 : Int64) (v1 : Int64) (v2 : Int64) (v : Option Value) (h' : Heap) : Prop := (v = none) ∧ (Keep h0 h' [o, aw, ah]) ∧ (Av Z h' aw .long (.long (w0 ||| v0) :: .long w1 :: .long w2 :: zJ45)) ∧ (Fld Z h' o kC0 "words" "[J" (.ref aw)) ∧ (Fld Z h' o kC0 "held" "[I" (.ref ah)) ∧ (Fld Z h' o kC0 "listing" "Z" (.int 1)) ∧ (Fld Z h' o kC0 "count" "I" (.int ((own_pu 0 v0 w0 (cnt, hl)).1))) ∧ (Av Z h' ah .int ((own_pu 0 v0 w0 (cnt, hl)).2))
theorem ef_con_aw1_1 (m : MethodId) (o : Addr) (mo : Addr) (f : Int32) : entryFrame m #[(.ref o), (.ref mo), (.int f), (.int 1)] 5 = mkF m 0 #[rv o, rv mo, iv f, iv 1, .unset] [] := by first | (simp [entryFrame, mkF, argsToLocals, Value.category]; done) | rfl
set_option maxRecDepth 65536 in
set_option maxHeartbeats 40000000 in
theorem con_aw1_1 (l : Launch) (Z : State) (a0 : Array Value) (hw : ∀ d ∈ tables_1, d.before a0 Z = true) (n0 : Nat) (h0 : Heap) (hn0 : n0 ≤ h0.size) (o : Addr) (mo : Addr) (f : Int32) (aw : Addr) (ah : Addr) (cnt : Int32) (hl : List Value) (vs : List Value) (w0 : Int64) (w1 : Int64) (w2 : Int64) (v0 : Int64) (v1 : Int64) (v2 : Int64) (P0 : Exa Z h0 o kC0) (P1 : Fld Z h0 o kC0 "words" "[J" (.ref aw)) (P2 : Fld Z h0 o kC0 "held" "[I" (.ref ah)) (P3 : Fld Z h0 o kC0 "listing" "Z" (.int 1)) (P4 : Fld Z h0 o kC0 "count" "I" (.int cnt)) (P5 : Av Z h0 aw .long (.long w0 :: .long w1 :: .long w2 :: zJ45)) (P6 : Av Z h0 ah .int hl) (P7 : Av Z h0 mo .long vs) (g_o : n0 ≤ o) (g_aw : n0 ≤ aw) (g_ah : n0 ≤ ah) (ne_o_aw : o ≠ aw) (ne_o_ah : o ≠ ah) (ne_aw_ah : aw ≠ ah) (ne_o_mo : o ≠ mo) (ne_aw_mo : aw ≠ mo) (ne_ah_mo : ah ≠ mo) (hj0 : ¬ f + 0 < 0) (hg0 : vs[Int32.toNatClampNeg (f + 0)]? = some (.long v0)) (hj1 : ¬ f + 1 < 0) (hg1 : vs[Int32.toNatClampNeg (f + 1)]? = some (.long v1)) (hj2 : ¬ f + 2 < 0) (hg2 : vs[Int32.toNatClampNeg (f + 2)]? = some (.long v2)) (ok0 : own_ok cnt hl 1) :
    Con l Z n0 [] (⟨"com/example/detra/detra/SetWords", "addWords", "([JII)V"⟩ : MethodName) prog_21_method_4_code 5 none ({ frames := 0, cells := 0, slots := 0, locals := 0 } : Room) #[(.ref o), (.ref mo), (.int f), (.int 1)] h0 (Qcon_aw1_1 Z n0 h0 o mo f aw ah cnt hl vs w0 w1 w2 v0 v1 v2) := by
  refine Con.of pf_0 (fun m => ef_con_aw1_1 m o mo f) hn0 ?_
  intro p e s m below meth c C
  refine C.iconst 0 d3_0 rfl rfl ?_
  refine C.istore (Ls' := #[rv o, rv mo, iv f, iv 1, iv 0]) d3_1 rfl rfl ?_
  refine C.iload d3_3 rfl rfl ?_
  refine C.iloadN d3_5 rfl rfl ?_
  refine C.icmp_ge_f d3_6 rfl (by decide) ?_
  refine C.aloadN d3_9 rfl rfl rfl ?_
  refine C.getF d3_10 rfl (tw hw 14 rfl) P3 ?_
  refine C.if_eq_f d3_13 rfl (by decide) ?_
  refine C.aloadN d3_16 rfl rfl rfl ?_
  refine C.iloadN d3_17 rfl rfl ?_
  refine C.iload d3_18 rfl rfl ?_
  refine C.iadd d3_20 rfl ?_
  refine C.laload (.long v0) d3_21 rfl P7 hj0 hg0 ?_
  refine C.lconst 0 d3_22 rfl rfl ?_
  refine C.lcmp d3_23 rfl ?_
  have J57_175 : ∀ (hJ176 : Heap) (c0 : Int32) (l0 : List Value) (hE0 : own_pu 0 v0 w0 (cnt, hl) = (c0, l0)) (F178 : Exa Z hJ176 o kC0) (F179 : Fld Z hJ176 o kC0 "words" "[J" (.ref aw)) (F180 : Fld Z hJ176 o kC0 "held" "[I" (.ref ah)) (F181 : Fld Z hJ176 o kC0 "listing" "Z" (.int 1)) (F182 : Av Z hJ176 aw .long (.long w0 :: .long w1 :: .long w2 :: zJ45)) (F183 : Av Z hJ176 mo .long vs) (F184 : Fld Z hJ176 o kC0 "count" "I" (.int c0)) (F185 : Av Z hJ176 ah .int l0) (KJ177 : Keep h0 hJ176 [o, aw, ah]), Go p l e ({ frames := 0, cells := 0, slots := 0, locals := 0 } : Room) s m #[(.ref o), (.ref mo), (.int f), (.int 1)] below meth c n0 (FinQ s n0 (Qcon_aw1_1 Z n0 h0 o mo f aw ah cnt hl vs w0 w1 w2 v0 v1 v2) ({ frames := 0, cells := 0, slots := 0, locals := 0 } : Room).cells ({ frames := 0, cells := 0, slots := 0, locals := 0 } : Room).slots) hJ176 0 0 57 #[rv o, rv mo, iv f, iv 1, iv 0] [] := by
    intro hJ176 c0 l0 hE0 F178 F179 F180 F181 F182 F183 F184 F185 KJ177
    have ok1 := own_okS ok0 hE0 (by decide)
    refine C.aloadN d3_57 rfl rfl rfl ?_
    refine C.getF d3_58 rfl (tw hw 12 rfl) F179 ?_
    refine C.iload d3_61 rfl rfl ?_
    refine C.dup2 d3_63 rfl rfl rfl ?_
    refine C.laload (.long w0) d3_64 rfl F182 (by decide) rfl ?_
    refine C.aloadN d3_65 rfl rfl rfl ?_
    refine C.iloadN d3_66 rfl rfl ?_
    refine C.iload d3_67 rfl rfl ?_
    refine C.iadd d3_69 rfl ?_
    refine C.laload (.long v0) d3_70 rfl F183 hj0 hg0 ?_
    refine C.lor d3_71 rfl ?_
    refine C.lastore d3_72 rfl F182 g_aw (by decide) (Nat.le_of_ble_eq_true rfl) (fun h186 W187 F188 => ?_)
    have F189 := Exa.wr W187 F178
    have F190 := Fld.other W187 F179 (Or.inl ne_o_aw)
    have F191 := Fld.other W187 F180 (Or.inl ne_o_aw)
    have F192 := Fld.other W187 F181 (Or.inl ne_o_aw)
    have F193 := F183.other W187 (Ne.symm ne_aw_mo)
    have F194 := Fld.other W187 F184 (Or.inl ne_o_aw)
    have F195 := F185.other W187 (Ne.symm ne_aw_ah)
    have F196 : Av Z h186 aw .long (.long (w0 ||| v0) :: .long w1 :: .long w2 :: zJ45) := F188
    refine C.iinc (Ls' := #[rv o, rv mo, iv f, iv 1, iv 1]) 1 d3_73 rfl rfl rfl rfl ?_
    refine C.goto d3_76 (by decide) rfl ?_
    refine C.iload d3_3 rfl rfl ?_
    refine C.iloadN d3_5 rfl rfl ?_
    refine C.icmp_ge_t d3_6 (by decide) rfl (by decide) ?_
    exact C.ret0 d3_79 (by decide) (by decide) ⟨rfl, (KJ177.wr W187 (Or.inl (List.mem_of_getElem? (i := 1) rfl))), F196, F190, F191, F192, (by rw [hE0]; exact F194), (by rw [hE0]; exact F195)⟩
  refine C.lif_eq d3_24 (by decide) rfl rfl (fun q24 => ?_) (fun q24 => ?_)
  · exact J57_175 h0 cnt hl (if_neg (fun q => q.1 q24)) P0 P1 P2 P3 P5 P7 P4 P6 (Keep.refl h0 [o, aw, ah])
  refine C.aloadN d3_27 rfl rfl rfl ?_
  refine C.getF d3_28 rfl (tw hw 12 rfl) P1 ?_
  refine C.iload d3_31 rfl rfl ?_
  refine C.laload (.long w0) d3_33 rfl P5 (by decide) rfl ?_
  refine C.lconst 0 d3_34 rfl rfl ?_
  refine C.lcmp d3_35 rfl ?_
  refine C.lif_ne d3_36 (by decide) rfl rfl (fun q36 => ?_) (fun q36 => ?_)
  · exact J57_175 h0 cnt hl (if_neg (fun q => q36 q.2)) P0 P1 P2 P3 P5 P7 P4 P6 (Keep.refl h0 [o, aw, ah])
  refine C.aloadN d3_39 rfl rfl rfl ?_
  refine C.getF d3_40 rfl (tw hw 17 rfl) P2 ?_
  refine C.aloadN d3_43 rfl rfl rfl ?_
  refine C.dup d3_44 rfl rfl ?_
  refine C.getF d3_45 rfl (tw hw 38 rfl) P4 ?_
  refine C.dupX1 d3_48 rfl rfl rfl ?_
  refine C.iconst 1 d3_49 rfl rfl ?_
  refine C.iadd d3_50 rfl ?_
  refine C.putF d3_51 rfl (tw hw 38 rfl) P4 P0 (Or.inl (tw hw 39 rfl)) (tw hw 4 rfl) (ty := .int) (by decide) rfl rfl g_o (fun h197 W198 F199 => ?_)
  have F200 := Exa.wr W198 P0
  have F201 := Fld.other W198 P1 (Or.inr (slot_ne (C := kC0) (t := (.array .long)) (t' := .int) (Or.inr (tw hw 13 rfl)) (Or.inl (tw hw 39 rfl)) (by decide) (by decide) (by decide)))
  have F202 := Fld.other W198 P2 (Or.inr (slot_ne (C := kC0) (t := (.array .int)) (t' := .int) (Or.inr (tw hw 18 rfl)) (Or.inl (tw hw 39 rfl)) (by decide) (by decide) (by decide)))
  have F203 := Fld.other W198 P3 (Or.inr (slot_ne (C := kC0) (t := .boolean) (t' := .int) (Or.inr (tw hw 15 rfl)) (Or.inl (tw hw 39 rfl)) (by decide) (by decide) (by decide)))
  have F204 := P5.other W198 (Ne.symm ne_o_aw)
  have F205 := P6.other W198 (Ne.symm ne_o_ah)
  have F206 := P7.other W198 (Ne.symm ne_o_mo)
  refine C.iload d3_54 rfl rfl ?_
  refine C.iastore d3_56 rfl F205 g_ah (own_okB ok0 (by decide)).1 (own_okB ok0 (by decide)).2 (fun h207 W208 F209 => ?_)
  have F210 := Exa.wr W208 F200
  have F211 := Fld.other W208 F201 (Or.inl ne_o_ah)
  have F212 := Fld.other W208 F202 (Or.inl ne_o_ah)
  have F213 := Fld.other W208 F203 (Or.inl ne_o_ah)
  have F214 := F204.other W208 ne_aw_ah
  have F215 := F206.other W208 (Ne.symm ne_ah_mo)
  have F216 := Fld.other W208 F199 (Or.inl ne_o_ah)
  exact J57_175 h207 (cnt + 1) (hl.set (Int32.toNatClampNeg cnt) (.int 0)) (if_pos ⟨q24, q36⟩) F210 F211 F212 F213 F214 F215 F216 F209 (((Keep.refl h0 [o, aw, ah]).wr W198 (Or.inl (List.mem_of_getElem? (i := 0) rfl))).wr W208 (Or.inl (List.mem_of_getElem? (i := 2) rfl)))
def Qcon_aw1_2 (Z : State) (n0 : Nat) (h0 : Heap) (o : Addr) (mo : Addr) (f : Int32) (aw : Addr) (ah : Addr) (cnt : Int32) (hl : List Value) (vs : List Value) (w0 : Int64) (w1 : Int64) (w2 : Int64) (v0 : Int64) (v1 : Int64) (v2 : Int64) (v : Option Value) (h' : Heap) : Prop := (v = none) ∧ (Keep h0 h' [o, aw, ah]) ∧ (Av Z h' aw .long (.long (w0 ||| v0) :: .long (w1 ||| v1) :: .long w2 :: zJ45)) ∧ (Fld Z h' o kC0 "words" "[J" (.ref aw)) ∧ (Fld Z h' o kC0 "held" "[I" (.ref ah)) ∧ (Fld Z h' o kC0 "listing" "Z" (.int 1)) ∧ (Fld Z h' o kC0 "count" "I" (.int ((own_pu 1 v1 w1 (own_pu 0 v0 w0 (cnt, hl))).1))) ∧ (Av Z h' ah .int ((own_pu 1 v1 w1 (own_pu 0 v0 w0 (cnt, hl))).2))
theorem ef_con_aw1_2 (m : MethodId) (o : Addr) (mo : Addr) (f : Int32) : entryFrame m #[(.ref o), (.ref mo), (.int f), (.int 2)] 5 = mkF m 0 #[rv o, rv mo, iv f, iv 2, .unset] [] := by first | (simp [entryFrame, mkF, argsToLocals, Value.category]; done) | rfl
set_option maxRecDepth 65536 in
set_option maxHeartbeats 40000000 in
theorem con_aw1_2 (l : Launch) (Z : State) (a0 : Array Value) (hw : ∀ d ∈ tables_1, d.before a0 Z = true) (n0 : Nat) (h0 : Heap) (hn0 : n0 ≤ h0.size) (o : Addr) (mo : Addr) (f : Int32) (aw : Addr) (ah : Addr) (cnt : Int32) (hl : List Value) (vs : List Value) (w0 : Int64) (w1 : Int64) (w2 : Int64) (v0 : Int64) (v1 : Int64) (v2 : Int64) (P0 : Exa Z h0 o kC0) (P1 : Fld Z h0 o kC0 "words" "[J" (.ref aw)) (P2 : Fld Z h0 o kC0 "held" "[I" (.ref ah)) (P3 : Fld Z h0 o kC0 "listing" "Z" (.int 1)) (P4 : Fld Z h0 o kC0 "count" "I" (.int cnt)) (P5 : Av Z h0 aw .long (.long w0 :: .long w1 :: .long w2 :: zJ45)) (P6 : Av Z h0 ah .int hl) (P7 : Av Z h0 mo .long vs) (g_o : n0 ≤ o) (g_aw : n0 ≤ aw) (g_ah : n0 ≤ ah) (ne_o_aw : o ≠ aw) (ne_o_ah : o ≠ ah) (ne_aw_ah : aw ≠ ah) (ne_o_mo : o ≠ mo) (ne_aw_mo : aw ≠ mo) (ne_ah_mo : ah ≠ mo) (hj0 : ¬ f + 0 < 0) (hg0 : vs[Int32.toNatClampNeg (f + 0)]? = some (.long v0)) (hj1 : ¬ f + 1 < 0) (hg1 : vs[Int32.toNatClampNeg (f + 1)]? = some (.long v1)) (hj2 : ¬ f + 2 < 0) (hg2 : vs[Int32.toNatClampNeg (f + 2)]? = some (.long v2)) (ok0 : own_ok cnt hl 1) :
    Con l Z n0 [] (⟨"com/example/detra/detra/SetWords", "addWords", "([JII)V"⟩ : MethodName) prog_21_method_4_code 5 none ({ frames := 0, cells := 0, slots := 0, locals := 0 } : Room) #[(.ref o), (.ref mo), (.int f), (.int 2)] h0 (Qcon_aw1_2 Z n0 h0 o mo f aw ah cnt hl vs w0 w1 w2 v0 v1 v2) := by
  refine Con.of pf_0 (fun m => ef_con_aw1_2 m o mo f) hn0 ?_
  intro p e s m below meth c C
  refine C.iconst 0 d3_0 rfl rfl ?_
  refine C.istore (Ls' := #[rv o, rv mo, iv f, iv 2, iv 0]) d3_1 rfl rfl ?_
  refine C.iload d3_3 rfl rfl ?_
  refine C.iloadN d3_5 rfl rfl ?_
  refine C.icmp_ge_f d3_6 rfl (by decide) ?_
  refine C.aloadN d3_9 rfl rfl rfl ?_
  refine C.getF d3_10 rfl (tw hw 14 rfl) P3 ?_
  refine C.if_eq_f d3_13 rfl (by decide) ?_
  refine C.aloadN d3_16 rfl rfl rfl ?_
  refine C.iloadN d3_17 rfl rfl ?_
  refine C.iload d3_18 rfl rfl ?_
  refine C.iadd d3_20 rfl ?_
  refine C.laload (.long v0) d3_21 rfl P7 hj0 hg0 ?_
  refine C.lconst 0 d3_22 rfl rfl ?_
  refine C.lcmp d3_23 rfl ?_
  have J57_301 : ∀ (hJ302 : Heap) (c0 : Int32) (l0 : List Value) (hE0 : own_pu 0 v0 w0 (cnt, hl) = (c0, l0)) (F304 : Exa Z hJ302 o kC0) (F305 : Fld Z hJ302 o kC0 "words" "[J" (.ref aw)) (F306 : Fld Z hJ302 o kC0 "held" "[I" (.ref ah)) (F307 : Fld Z hJ302 o kC0 "listing" "Z" (.int 1)) (F308 : Av Z hJ302 aw .long (.long w0 :: .long w1 :: .long w2 :: zJ45)) (F309 : Av Z hJ302 mo .long vs) (F310 : Fld Z hJ302 o kC0 "count" "I" (.int c0)) (F311 : Av Z hJ302 ah .int l0) (KJ303 : Keep h0 hJ302 [o, aw, ah]), Go p l e ({ frames := 0, cells := 0, slots := 0, locals := 0 } : Room) s m #[(.ref o), (.ref mo), (.int f), (.int 2)] below meth c n0 (FinQ s n0 (Qcon_aw1_2 Z n0 h0 o mo f aw ah cnt hl vs w0 w1 w2 v0 v1 v2) ({ frames := 0, cells := 0, slots := 0, locals := 0 } : Room).cells ({ frames := 0, cells := 0, slots := 0, locals := 0 } : Room).slots) hJ302 0 0 57 #[rv o, rv mo, iv f, iv 2, iv 0] [] := by
    intro hJ302 c0 l0 hE0 F304 F305 F306 F307 F308 F309 F310 F311 KJ303
    have ok1 := own_okS ok0 hE0 (by decide)
    refine C.aloadN d3_57 rfl rfl rfl ?_
    refine C.getF d3_58 rfl (tw hw 12 rfl) F305 ?_
    refine C.iload d3_61 rfl rfl ?_
    refine C.dup2 d3_63 rfl rfl rfl ?_
    refine C.laload (.long w0) d3_64 rfl F308 (by decide) rfl ?_
    refine C.aloadN d3_65 rfl rfl rfl ?_
    refine C.iloadN d3_66 rfl rfl ?_
    refine C.iload d3_67 rfl rfl ?_
    refine C.iadd d3_69 rfl ?_
    refine C.laload (.long v0) d3_70 rfl F309 hj0 hg0 ?_
    refine C.lor d3_71 rfl ?_
    refine C.lastore d3_72 rfl F308 g_aw (by decide) (Nat.le_of_ble_eq_true rfl) (fun h312 W313 F314 => ?_)
    have F315 := Exa.wr W313 F304
    have F316 := Fld.other W313 F305 (Or.inl ne_o_aw)
    have F317 := Fld.other W313 F306 (Or.inl ne_o_aw)
    have F318 := Fld.other W313 F307 (Or.inl ne_o_aw)
    have F319 := F309.other W313 (Ne.symm ne_aw_mo)
    have F320 := Fld.other W313 F310 (Or.inl ne_o_aw)
    have F321 := F311.other W313 (Ne.symm ne_aw_ah)
    have F322 : Av Z h312 aw .long (.long (w0 ||| v0) :: .long w1 :: .long w2 :: zJ45) := F314
    refine C.iinc (Ls' := #[rv o, rv mo, iv f, iv 2, iv 1]) 1 d3_73 rfl rfl rfl rfl ?_
    refine C.goto d3_76 (by decide) rfl ?_
    refine C.iload d3_3 rfl rfl ?_
    refine C.iloadN d3_5 rfl rfl ?_
    refine C.icmp_ge_f d3_6 rfl (by decide) ?_
    refine C.aloadN d3_9 rfl rfl rfl ?_
    refine C.getF d3_10 rfl (tw hw 14 rfl) F318 ?_
    refine C.if_eq_f d3_13 rfl (by decide) ?_
    refine C.aloadN d3_16 rfl rfl rfl ?_
    refine C.iloadN d3_17 rfl rfl ?_
    refine C.iload d3_18 rfl rfl ?_
    refine C.iadd d3_20 rfl ?_
    refine C.laload (.long v1) d3_21 rfl F319 hj1 hg1 ?_
    refine C.lconst 0 d3_22 rfl rfl ?_
    refine C.lcmp d3_23 rfl ?_
    have J57_323 : ∀ (hJ324 : Heap) (c1 : Int32) (l1 : List Value) (hE1 : own_pu 1 v1 w1 (c0, l0) = (c1, l1)) (F326 : Exa Z hJ324 o kC0) (F327 : Fld Z hJ324 o kC0 "words" "[J" (.ref aw)) (F328 : Fld Z hJ324 o kC0 "held" "[I" (.ref ah)) (F329 : Fld Z hJ324 o kC0 "listing" "Z" (.int 1)) (F330 : Av Z hJ324 mo .long vs) (F331 : Av Z hJ324 aw .long (.long (w0 ||| v0) :: .long w1 :: .long w2 :: zJ45)) (F332 : Fld Z hJ324 o kC0 "count" "I" (.int c1)) (F333 : Av Z hJ324 ah .int l1) (KJ325 : Keep h0 hJ324 [o, aw, ah]), Go p l e ({ frames := 0, cells := 0, slots := 0, locals := 0 } : Room) s m #[(.ref o), (.ref mo), (.int f), (.int 2)] below meth c n0 (FinQ s n0 (Qcon_aw1_2 Z n0 h0 o mo f aw ah cnt hl vs w0 w1 w2 v0 v1 v2) ({ frames := 0, cells := 0, slots := 0, locals := 0 } : Room).cells ({ frames := 0, cells := 0, slots := 0, locals := 0 } : Room).slots) hJ324 0 0 57 #[rv o, rv mo, iv f, iv 2, iv 1] [] := by
      intro hJ324 c1 l1 hE1 F326 F327 F328 F329 F330 F331 F332 F333 KJ325
      have ok2 := own_okS ok1 hE1 (by decide)
      refine C.aloadN d3_57 rfl rfl rfl ?_
      refine C.getF d3_58 rfl (tw hw 12 rfl) F327 ?_
      refine C.iload d3_61 rfl rfl ?_
      refine C.dup2 d3_63 rfl rfl rfl ?_
      refine C.laload (.long w1) d3_64 rfl F331 (by decide) rfl ?_
      refine C.aloadN d3_65 rfl rfl rfl ?_
      refine C.iloadN d3_66 rfl rfl ?_
      refine C.iload d3_67 rfl rfl ?_
      refine C.iadd d3_69 rfl ?_
      refine C.laload (.long v1) d3_70 rfl F330 hj1 hg1 ?_
      refine C.lor d3_71 rfl ?_
      refine C.lastore d3_72 rfl F331 g_aw (by decide) (Nat.le_of_ble_eq_true rfl) (fun h334 W335 F336 => ?_)
      have F337 := Exa.wr W335 F326
      have F338 := Fld.other W335 F327 (Or.inl ne_o_aw)
      have F339 := Fld.other W335 F328 (Or.inl ne_o_aw)
      have F340 := Fld.other W335 F329 (Or.inl ne_o_aw)
      have F341 := F330.other W335 (Ne.symm ne_aw_mo)
      have F342 := Fld.other W335 F332 (Or.inl ne_o_aw)
      have F343 := F333.other W335 (Ne.symm ne_aw_ah)
      have F344 : Av Z h334 aw .long (.long (w0 ||| v0) :: .long (w1 ||| v1) :: .long w2 :: zJ45) := F336
      refine C.iinc (Ls' := #[rv o, rv mo, iv f, iv 2, iv 2]) 1 d3_73 rfl rfl rfl rfl ?_
      refine C.goto d3_76 (by decide) rfl ?_
      refine C.iload d3_3 rfl rfl ?_
      refine C.iloadN d3_5 rfl rfl ?_
      refine C.icmp_ge_t d3_6 (by decide) rfl (by decide) ?_
      exact C.ret0 d3_79 (by decide) (by decide) ⟨rfl, (KJ325.wr W335 (Or.inl (List.mem_of_getElem? (i := 1) rfl))), F344, F338, F339, F340, (by rw [hE0, hE1]; exact F342), (by rw [hE0, hE1]; exact F343)⟩
    refine C.lif_eq d3_24 (by decide) rfl rfl (fun q24 => ?_) (fun q24 => ?_)
    · exact J57_323 h312 c0 l0 (if_neg (fun q => q.1 q24)) F315 F316 F317 F318 F319 F322 F320 F321 (KJ303.wr W313 (Or.inl (List.mem_of_getElem? (i := 1) rfl)))
    refine C.aloadN d3_27 rfl rfl rfl ?_
    refine C.getF d3_28 rfl (tw hw 12 rfl) F316 ?_
    refine C.iload d3_31 rfl rfl ?_
    refine C.laload (.long w1) d3_33 rfl F322 (by decide) rfl ?_
    refine C.lconst 0 d3_34 rfl rfl ?_
    refine C.lcmp d3_35 rfl ?_
    refine C.lif_ne d3_36 (by decide) rfl rfl (fun q36 => ?_) (fun q36 => ?_)
    · exact J57_323 h312 c0 l0 (if_neg (fun q => q36 q.2)) F315 F316 F317 F318 F319 F322 F320 F321 (KJ303.wr W313 (Or.inl (List.mem_of_getElem? (i := 1) rfl)))
    refine C.aloadN d3_39 rfl rfl rfl ?_
    refine C.getF d3_40 rfl (tw hw 17 rfl) F317 ?_
    refine C.aloadN d3_43 rfl rfl rfl ?_
    refine C.dup d3_44 rfl rfl ?_
    refine C.getF d3_45 rfl (tw hw 38 rfl) F320 ?_
    refine C.dupX1 d3_48 rfl rfl rfl ?_
    refine C.iconst 1 d3_49 rfl rfl ?_
    refine C.iadd d3_50 rfl ?_
    refine C.putF d3_51 rfl (tw hw 38 rfl) F320 F315 (Or.inl (tw hw 39 rfl)) (tw hw 4 rfl) (ty := .int) (by decide) rfl rfl g_o (fun h345 W346 F347 => ?_)
    have F348 := Exa.wr W346 F315
    have F349 := Fld.other W346 F316 (Or.inr (slot_ne (C := kC0) (t := (.array .long)) (t' := .int) (Or.inr (tw hw 13 rfl)) (Or.inl (tw hw 39 rfl)) (by decide) (by decide) (by decide)))
    have F350 := Fld.other W346 F317 (Or.inr (slot_ne (C := kC0) (t := (.array .int)) (t' := .int) (Or.inr (tw hw 18 rfl)) (Or.inl (tw hw 39 rfl)) (by decide) (by decide) (by decide)))
    have F351 := Fld.other W346 F318 (Or.inr (slot_ne (C := kC0) (t := .boolean) (t' := .int) (Or.inr (tw hw 15 rfl)) (Or.inl (tw hw 39 rfl)) (by decide) (by decide) (by decide)))
    have F352 := F319.other W346 (Ne.symm ne_o_mo)
    have F353 := F321.other W346 (Ne.symm ne_o_ah)
    have F354 := F322.other W346 (Ne.symm ne_o_aw)
    refine C.iload d3_54 rfl rfl ?_
    refine C.iastore d3_56 rfl F353 g_ah (own_okB ok1 (by decide)).1 (own_okB ok1 (by decide)).2 (fun h355 W356 F357 => ?_)
    have F358 := Exa.wr W356 F348
    have F359 := Fld.other W356 F349 (Or.inl ne_o_ah)
    have F360 := Fld.other W356 F350 (Or.inl ne_o_ah)
    have F361 := Fld.other W356 F351 (Or.inl ne_o_ah)
    have F362 := F352.other W356 (Ne.symm ne_ah_mo)
    have F363 := F354.other W356 ne_aw_ah
    have F364 := Fld.other W356 F347 (Or.inl ne_o_ah)
    exact J57_323 h355 (c0 + 1) (l0.set (Int32.toNatClampNeg c0) (.int 1)) (if_pos ⟨q24, q36⟩) F358 F359 F360 F361 F362 F363 F364 F357 (((KJ303.wr W313 (Or.inl (List.mem_of_getElem? (i := 1) rfl))).wr W346 (Or.inl (List.mem_of_getElem? (i := 0) rfl))).wr W356 (Or.inl (List.mem_of_getElem? (i := 2) rfl)))
  refine C.lif_eq d3_24 (by decide) rfl rfl (fun q24 => ?_) (fun q24 => ?_)
  · exact J57_301 h0 cnt hl (if_neg (fun q => q.1 q24)) P0 P1 P2 P3 P5 P7 P4 P6 (Keep.refl h0 [o, aw, ah])
  refine C.aloadN d3_27 rfl rfl rfl ?_
  refine C.getF d3_28 rfl (tw hw 12 rfl) P1 ?_
  refine C.iload d3_31 rfl rfl ?_
  refine C.laload (.long w0) d3_33 rfl P5 (by decide) rfl ?_
  refine C.lconst 0 d3_34 rfl rfl ?_
  refine C.lcmp d3_35 rfl ?_
  refine C.lif_ne d3_36 (by decide) rfl rfl (fun q36 => ?_) (fun q36 => ?_)
  · exact J57_301 h0 cnt hl (if_neg (fun q => q36 q.2)) P0 P1 P2 P3 P5 P7 P4 P6 (Keep.refl h0 [o, aw, ah])
  refine C.aloadN d3_39 rfl rfl rfl ?_
  refine C.getF d3_40 rfl (tw hw 17 rfl) P2 ?_
  refine C.aloadN d3_43 rfl rfl rfl ?_
  refine C.dup d3_44 rfl rfl ?_
  refine C.getF d3_45 rfl (tw hw 38 rfl) P4 ?_
  refine C.dupX1 d3_48 rfl rfl rfl ?_
  refine C.iconst 1 d3_49 rfl rfl ?_
  refine C.iadd d3_50 rfl ?_
  refine C.putF d3_51 rfl (tw hw 38 rfl) P4 P0 (Or.inl (tw hw 39 rfl)) (tw hw 4 rfl) (ty := .int) (by decide) rfl rfl g_o (fun h365 W366 F367 => ?_)
  have F368 := Exa.wr W366 P0
  have F369 := Fld.other W366 P1 (Or.inr (slot_ne (C := kC0) (t := (.array .long)) (t' := .int) (Or.inr (tw hw 13 rfl)) (Or.inl (tw hw 39 rfl)) (by decide) (by decide) (by decide)))
  have F370 := Fld.other W366 P2 (Or.inr (slot_ne (C := kC0) (t := (.array .int)) (t' := .int) (Or.inr (tw hw 18 rfl)) (Or.inl (tw hw 39 rfl)) (by decide) (by decide) (by decide)))
  have F371 := Fld.other W366 P3 (Or.inr (slot_ne (C := kC0) (t := .boolean) (t' := .int) (Or.inr (tw hw 15 rfl)) (Or.inl (tw hw 39 rfl)) (by decide) (by decide) (by decide)))
  have F372 := P5.other W366 (Ne.symm ne_o_aw)
  have F373 := P6.other W366 (Ne.symm ne_o_ah)
  have F374 := P7.other W366 (Ne.symm ne_o_mo)
  refine C.iload d3_54 rfl rfl ?_
  refine C.iastore d3_56 rfl F373 g_ah (own_okB ok0 (by decide)).1 (own_okB ok0 (by decide)).2 (fun h375 W376 F377 => ?_)
  have F378 := Exa.wr W376 F368
  have F379 := Fld.other W376 F369 (Or.inl ne_o_ah)
  have F380 := Fld.other W376 F370 (Or.inl ne_o_ah)
  have F381 := Fld.other W376 F371 (Or.inl ne_o_ah)
  have F382 := F372.other W376 ne_aw_ah
  have F383 := F374.other W376 (Ne.symm ne_ah_mo)
  have F384 := Fld.other W376 F367 (Or.inl ne_o_ah)
  exact J57_301 h375 (cnt + 1) (hl.set (Int32.toNatClampNeg cnt) (.int 0)) (if_pos ⟨q24, q36⟩) F378 F379 F380 F381 F382 F383 F384 F377 (((Keep.refl h0 [o, aw, ah]).wr W366 (Or.inl (List.mem_of_getElem? (i := 0) rfl))).wr W376 (Or.inl (List.mem_of_getElem? (i := 2) rfl)))
def Qcon_aw1_3 (Z : State) (n0 : Nat) (h0 : Heap) (o : Addr) (mo : Addr) (f : Int32) (aw : Addr) (ah : Addr) (cnt : Int32) (hl : List Value) (vs : List Value) (w0 : Int64) (w1 : Int64) (w2 : Int64) (v0 : Int64) (v1 : Int64) (v2 : Int64) (v : Option Value) (h' : Heap) : Prop := (v = none) ∧ (Keep h0 h' [o, aw, ah]) ∧ (Av Z h' aw .long (.long (w0 ||| v0) :: .long (w1 ||| v1) :: .long (w2 ||| v2) :: zJ45)) ∧ (Fld Z h' o kC0 "words" "[J" (.ref aw)) ∧ (Fld Z h' o kC0 "held" "[I" (.ref ah)) ∧ (Fld Z h' o kC0 "listing" "Z" (.int 1)) ∧ (Fld Z h' o kC0 "count" "I" (.int ((own_pu 2 v2 w2 (own_pu 1 v1 w1 (own_pu 0 v0 w0 (cnt, hl)))).1))) ∧ (Av Z h' ah .int ((own_pu 2 v2 w2 (own_pu 1 v1 w1 (own_pu 0 v0 w0 (cnt, hl)))).2))
theorem ef_con_aw1_3 (m : MethodId) (o : Addr) (mo : Addr) (f : Int32) : entryFrame m #[(.ref o), (.ref mo), (.int f), (.int 3)] 5 = mkF m 0 #[rv o, rv mo, iv f, iv 3, .unset] [] := by first | (simp [entryFrame, mkF, argsToLocals, Value.category]; done) | rfl
set_option maxRecDepth 65536 in
set_option maxHeartbeats 40000000 in
theorem con_aw1_3 (l : Launch) (Z : State) (a0 : Array Value) (hw : ∀ d ∈ tables_1, d.before a0 Z = true) (n0 : Nat) (h0 : Heap) (hn0 : n0 ≤ h0.size) (o : Addr) (mo : Addr) (f : Int32) (aw : Addr) (ah : Addr) (cnt : Int32) (hl : List Value) (vs : List Value) (w0 : Int64) (w1 : Int64) (w2 : Int64) (v0 : Int64) (v1 : Int64) (v2 : Int64) (P0 : Exa Z h0 o kC0) (P1 : Fld Z h0 o kC0 "words" "[J" (.ref aw)) (P2 : Fld Z h0 o kC0 "held" "[I" (.ref ah)) (P3 : Fld Z h0 o kC0 "listing" "Z" (.int 1)) (P4 : Fld Z h0 o kC0 "count" "I" (.int cnt)) (P5 : Av Z h0 aw .long (.long w0 :: .long w1 :: .long w2 :: zJ45)) (P6 : Av Z h0 ah .int hl) (P7 : Av Z h0 mo .long vs) (g_o : n0 ≤ o) (g_aw : n0 ≤ aw) (g_ah : n0 ≤ ah) (ne_o_aw : o ≠ aw) (ne_o_ah : o ≠ ah) (ne_aw_ah : aw ≠ ah) (ne_o_mo : o ≠ mo) (ne_aw_mo : aw ≠ mo) (ne_ah_mo : ah ≠ mo) (hj0 : ¬ f + 0 < 0) (hg0 : vs[Int32.toNatClampNeg (f + 0)]? = some (.long v0)) (hj1 : ¬ f + 1 < 0) (hg1 : vs[Int32.toNatClampNeg (f + 1)]? = some (.long v1)) (hj2 : ¬ f + 2 < 0) (hg2 : vs[Int32.toNatClampNeg (f + 2)]? = some (.long v2)) (ok0 : own_ok cnt hl 1) :
    Con l Z n0 [] (⟨"com/example/detra/detra/SetWords", "addWords", "([JII)V"⟩ : MethodName) prog_21_method_4_code 5 none ({ frames := 0, cells := 0, slots := 0, locals := 0 } : Room) #[(.ref o), (.ref mo), (.int f), (.int 3)] h0 (Qcon_aw1_3 Z n0 h0 o mo f aw ah cnt hl vs w0 w1 w2 v0 v1 v2) := by
  refine Con.of pf_0 (fun m => ef_con_aw1_3 m o mo f) hn0 ?_
  intro p e s m below meth c C
  refine C.iconst 0 d3_0 rfl rfl ?_
  refine C.istore (Ls' := #[rv o, rv mo, iv f, iv 3, iv 0]) d3_1 rfl rfl ?_
  refine C.iload d3_3 rfl rfl ?_
  refine C.iloadN d3_5 rfl rfl ?_
  refine C.icmp_ge_f d3_6 rfl (by decide) ?_
  refine C.aloadN d3_9 rfl rfl rfl ?_
  refine C.getF d3_10 rfl (tw hw 14 rfl) P3 ?_
  refine C.if_eq_f d3_13 rfl (by decide) ?_
  refine C.aloadN d3_16 rfl rfl rfl ?_
  refine C.iloadN d3_17 rfl rfl ?_
  refine C.iload d3_18 rfl rfl ?_
  refine C.iadd d3_20 rfl ?_
  refine C.laload (.long v0) d3_21 rfl P7 hj0 hg0 ?_
  refine C.lconst 0 d3_22 rfl rfl ?_
  refine C.lcmp d3_23 rfl ?_
  have J57_511 : ∀ (hJ512 : Heap) (c0 : Int32) (l0 : List Value) (hE0 : own_pu 0 v0 w0 (cnt, hl) = (c0, l0)) (F514 : Exa Z hJ512 o kC0) (F515 : Fld Z hJ512 o kC0 "words" "[J" (.ref aw)) (F516 : Fld Z hJ512 o kC0 "held" "[I" (.ref ah)) (F517 : Fld Z hJ512 o kC0 "listing" "Z" (.int 1)) (F518 : Av Z hJ512 aw .long (.long w0 :: .long w1 :: .long w2 :: zJ45)) (F519 : Av Z hJ512 mo .long vs) (F520 : Fld Z hJ512 o kC0 "count" "I" (.int c0)) (F521 : Av Z hJ512 ah .int l0) (KJ513 : Keep h0 hJ512 [o, aw, ah]), Go p l e ({ frames := 0, cells := 0, slots := 0, locals := 0 } : Room) s m #[(.ref o), (.ref mo), (.int f), (.int 3)] below meth c n0 (FinQ s n0 (Qcon_aw1_3 Z n0 h0 o mo f aw ah cnt hl vs w0 w1 w2 v0 v1 v2) ({ frames := 0, cells := 0, slots := 0, locals := 0 } : Room).cells ({ frames := 0, cells := 0, slots := 0, locals := 0 } : Room).slots) hJ512 0 0 57 #[rv o, rv mo, iv f, iv 3, iv 0] [] := by
    intro hJ512 c0 l0 hE0 F514 F515 F516 F517 F518 F519 F520 F521 KJ513
    have ok1 := own_okS ok0 hE0 (by decide)
    refine C.aloadN d3_57 rfl rfl rfl ?_
    refine C.getF d3_58 rfl (tw hw 12 rfl) F515 ?_
    refine C.iload d3_61 rfl rfl ?_
    refine C.dup2 d3_63 rfl rfl rfl ?_
    refine C.laload (.long w0) d3_64 rfl F518 (by decide) rfl ?_
    refine C.aloadN d3_65 rfl rfl rfl ?_
    refine C.iloadN d3_66 rfl rfl ?_
    refine C.iload d3_67 rfl rfl ?_
    refine C.iadd d3_69 rfl ?_
    refine C.laload (.long v0) d3_70 rfl F519 hj0 hg0 ?_
    refine C.lor d3_71 rfl ?_
    refine C.lastore d3_72 rfl F518 g_aw (by decide) (Nat.le_of_ble_eq_true rfl) (fun h522 W523 F524 => ?_)
    have F525 := Exa.wr W523 F514
    have F526 := Fld.other W523 F515 (Or.inl ne_o_aw)
    have F527 := Fld.other W523 F516 (Or.inl ne_o_aw)
    have F528 := Fld.other W523 F517 (Or.inl ne_o_aw)
    have F529 := F519.other W523 (Ne.symm ne_aw_mo)
    have F530 := Fld.other W523 F520 (Or.inl ne_o_aw)
    have F531 := F521.other W523 (Ne.symm ne_aw_ah)
    have F532 : Av Z h522 aw .long (.long (w0 ||| v0) :: .long w1 :: .long w2 :: zJ45) := F524
    refine C.iinc (Ls' := #[rv o, rv mo, iv f, iv 3, iv 1]) 1 d3_73 rfl rfl rfl rfl ?_
    refine C.goto d3_76 (by decide) rfl ?_
    refine C.iload d3_3 rfl rfl ?_
    refine C.iloadN d3_5 rfl rfl ?_
    refine C.icmp_ge_f d3_6 rfl (by decide) ?_
    refine C.aloadN d3_9 rfl rfl rfl ?_
    refine C.getF d3_10 rfl (tw hw 14 rfl) F528 ?_
    refine C.if_eq_f d3_13 rfl (by decide) ?_
    refine C.aloadN d3_16 rfl rfl rfl ?_
    refine C.iloadN d3_17 rfl rfl ?_
    refine C.iload d3_18 rfl rfl ?_
    refine C.iadd d3_20 rfl ?_
    refine C.laload (.long v1) d3_21 rfl F529 hj1 hg1 ?_
    refine C.lconst 0 d3_22 rfl rfl ?_
    refine C.lcmp d3_23 rfl ?_
    have J57_533 : ∀ (hJ534 : Heap) (c1 : Int32) (l1 : List Value) (hE1 : own_pu 1 v1 w1 (c0, l0) = (c1, l1)) (F536 : Exa Z hJ534 o kC0) (F537 : Fld Z hJ534 o kC0 "words" "[J" (.ref aw)) (F538 : Fld Z hJ534 o kC0 "held" "[I" (.ref ah)) (F539 : Fld Z hJ534 o kC0 "listing" "Z" (.int 1)) (F540 : Av Z hJ534 mo .long vs) (F541 : Av Z hJ534 aw .long (.long (w0 ||| v0) :: .long w1 :: .long w2 :: zJ45)) (F542 : Fld Z hJ534 o kC0 "count" "I" (.int c1)) (F543 : Av Z hJ534 ah .int l1) (KJ535 : Keep h0 hJ534 [o, aw, ah]), Go p l e ({ frames := 0, cells := 0, slots := 0, locals := 0 } : Room) s m #[(.ref o), (.ref mo), (.int f), (.int 3)] below meth c n0 (FinQ s n0 (Qcon_aw1_3 Z n0 h0 o mo f aw ah cnt hl vs w0 w1 w2 v0 v1 v2) ({ frames := 0, cells := 0, slots := 0, locals := 0 } : Room).cells ({ frames := 0, cells := 0, slots := 0, locals := 0 } : Room).slots) hJ534 0 0 57 #[rv o, rv mo, iv f, iv 3, iv 1] [] := by
      intro hJ534 c1 l1 hE1 F536 F537 F538 F539 F540 F541 F542 F543 KJ535
      have ok2 := own_okS ok1 hE1 (by decide)
      refine C.aloadN d3_57 rfl rfl rfl ?_
      refine C.getF d3_58 rfl (tw hw 12 rfl) F537 ?_
      refine C.iload d3_61 rfl rfl ?_
      refine C.dup2 d3_63 rfl rfl rfl ?_
      refine C.laload (.long w1) d3_64 rfl F541 (by decide) rfl ?_
      refine C.aloadN d3_65 rfl rfl rfl ?_
      refine C.iloadN d3_66 rfl rfl ?_
      refine C.iload d3_67 rfl rfl ?_
      refine C.iadd d3_69 rfl ?_
      refine C.laload (.long v1) d3_70 rfl F540 hj1 hg1 ?_
      refine C.lor d3_71 rfl ?_
      refine C.lastore d3_72 rfl F541 g_aw (by decide) (Nat.le_of_ble_eq_true rfl) (fun h544 W545 F546 => ?_)
      have F547 := Exa.wr W545 F536
      have F548 := Fld.other W545 F537 (Or.inl ne_o_aw)
      have F549 := Fld.other W545 F538 (Or.inl ne_o_aw)
      have F550 := Fld.other W545 F539 (Or.inl ne_o_aw)
      have F551 := F540.other W545 (Ne.symm ne_aw_mo)
      have F552 := Fld.other W545 F542 (Or.inl ne_o_aw)
      have F553 := F543.other W545 (Ne.symm ne_aw_ah)
      have F554 : Av Z h544 aw .long (.long (w0 ||| v0) :: .long (w1 ||| v1) :: .long w2 :: zJ45) := F546
      refine C.iinc (Ls' := #[rv o, rv mo, iv f, iv 3, iv 2]) 1 d3_73 rfl rfl rfl rfl ?_
      refine C.goto d3_76 (by decide) rfl ?_
      refine C.iload d3_3 rfl rfl ?_
      refine C.iloadN d3_5 rfl rfl ?_
      refine C.icmp_ge_f d3_6 rfl (by decide) ?_
      refine C.aloadN d3_9 rfl rfl rfl ?_
      refine C.getF d3_10 rfl (tw hw 14 rfl) F550 ?_
      refine C.if_eq_f d3_13 rfl (by decide) ?_
      refine C.aloadN d3_16 rfl rfl rfl ?_
      refine C.iloadN d3_17 rfl rfl ?_
      refine C.iload d3_18 rfl rfl ?_
      refine C.iadd d3_20 rfl ?_
      refine C.laload (.long v2) d3_21 rfl F551 hj2 hg2 ?_
      refine C.lconst 0 d3_22 rfl rfl ?_
      refine C.lcmp d3_23 rfl ?_
      have J57_555 : ∀ (hJ556 : Heap) (c2 : Int32) (l2 : List Value) (hE2 : own_pu 2 v2 w2 (c1, l1) = (c2, l2)) (F558 : Exa Z hJ556 o kC0) (F559 : Fld Z hJ556 o kC0 "words" "[J" (.ref aw)) (F560 : Fld Z hJ556 o kC0 "held" "[I" (.ref ah)) (F561 : Fld Z hJ556 o kC0 "listing" "Z" (.int 1)) (F562 : Av Z hJ556 mo .long vs) (F563 : Av Z hJ556 aw .long (.long (w0 ||| v0) :: .long (w1 ||| v1) :: .long w2 :: zJ45)) (F564 : Fld Z hJ556 o kC0 "count" "I" (.int c2)) (F565 : Av Z hJ556 ah .int l2) (KJ557 : Keep h0 hJ556 [o, aw, ah]), Go p l e ({ frames := 0, cells := 0, slots := 0, locals := 0 } : Room) s m #[(.ref o), (.ref mo), (.int f), (.int 3)] below meth c n0 (FinQ s n0 (Qcon_aw1_3 Z n0 h0 o mo f aw ah cnt hl vs w0 w1 w2 v0 v1 v2) ({ frames := 0, cells := 0, slots := 0, locals := 0 } : Room).cells ({ frames := 0, cells := 0, slots := 0, locals := 0 } : Room).slots) hJ556 0 0 57 #[rv o, rv mo, iv f, iv 3, iv 2] [] := by
        intro hJ556 c2 l2 hE2 F558 F559 F560 F561 F562 F563 F564 F565 KJ557
        have ok3 := own_okS ok2 hE2 (by decide)
        refine C.aloadN d3_57 rfl rfl rfl ?_
        refine C.getF d3_58 rfl (tw hw 12 rfl) F559 ?_
        refine C.iload d3_61 rfl rfl ?_
        refine C.dup2 d3_63 rfl rfl rfl ?_
        refine C.laload (.long w2) d3_64 rfl F563 (by decide) rfl ?_
        refine C.aloadN d3_65 rfl rfl rfl ?_
        refine C.iloadN d3_66 rfl rfl ?_
        refine C.iload d3_67 rfl rfl ?_
        refine C.iadd d3_69 rfl ?_
        refine C.laload (.long v2) d3_70 rfl F562 hj2 hg2 ?_
        refine C.lor d3_71 rfl ?_
        refine C.lastore d3_72 rfl F563 g_aw (by decide) (Nat.le_of_ble_eq_true rfl) (fun h566 W567 F568 => ?_)
        have F569 := Exa.wr W567 F558
        have F570 := Fld.other W567 F559 (Or.inl ne_o_aw)
        have F571 := Fld.other W567 F560 (Or.inl ne_o_aw)
        have F572 := Fld.other W567 F561 (Or.inl ne_o_aw)
        have F573 := F562.other W567 (Ne.symm ne_aw_mo)
        have F574 := Fld.other W567 F564 (Or.inl ne_o_aw)
        have F575 := F565.other W567 (Ne.symm ne_aw_ah)
        have F576 : Av Z h566 aw .long (.long (w0 ||| v0) :: .long (w1 ||| v1) :: .long (w2 ||| v2) :: zJ45) := F568
        refine C.iinc (Ls' := #[rv o, rv mo, iv f, iv 3, iv 3]) 1 d3_73 rfl rfl rfl rfl ?_
        refine C.goto d3_76 (by decide) rfl ?_
        refine C.iload d3_3 rfl rfl ?_
        refine C.iloadN d3_5 rfl rfl ?_
        refine C.icmp_ge_t d3_6 (by decide) rfl (by decide) ?_
        exact C.ret0 d3_79 (by decide) (by decide) ⟨rfl, (KJ557.wr W567 (Or.inl (List.mem_of_getElem? (i := 1) rfl))), F576, F570, F571, F572, (by rw [hE0, hE1, hE2]; exact F574), (by rw [hE0, hE1, hE2]; exact F575)⟩
      refine C.lif_eq d3_24 (by decide) rfl rfl (fun q24 => ?_) (fun q24 => ?_)
      · exact J57_555 h544 c1 l1 (if_neg (fun q => q.1 q24)) F547 F548 F549 F550 F551 F554 F552 F553 (KJ535.wr W545 (Or.inl (List.mem_of_getElem? (i := 1) rfl)))
      refine C.aloadN d3_27 rfl rfl rfl ?_
      refine C.getF d3_28 rfl (tw hw 12 rfl) F548 ?_
      refine C.iload d3_31 rfl rfl ?_
      refine C.laload (.long w2) d3_33 rfl F554 (by decide) rfl ?_
      refine C.lconst 0 d3_34 rfl rfl ?_
      refine C.lcmp d3_35 rfl ?_
      refine C.lif_ne d3_36 (by decide) rfl rfl (fun q36 => ?_) (fun q36 => ?_)
      · exact J57_555 h544 c1 l1 (if_neg (fun q => q36 q.2)) F547 F548 F549 F550 F551 F554 F552 F553 (KJ535.wr W545 (Or.inl (List.mem_of_getElem? (i := 1) rfl)))
      refine C.aloadN d3_39 rfl rfl rfl ?_
      refine C.getF d3_40 rfl (tw hw 17 rfl) F549 ?_
      refine C.aloadN d3_43 rfl rfl rfl ?_
      refine C.dup d3_44 rfl rfl ?_
      refine C.getF d3_45 rfl (tw hw 38 rfl) F552 ?_
      refine C.dupX1 d3_48 rfl rfl rfl ?_
      refine C.iconst 1 d3_49 rfl rfl ?_
      refine C.iadd d3_50 rfl ?_
      refine C.putF d3_51 rfl (tw hw 38 rfl) F552 F547 (Or.inl (tw hw 39 rfl)) (tw hw 4 rfl) (ty := .int) (by decide) rfl rfl g_o (fun h577 W578 F579 => ?_)
      have F580 := Exa.wr W578 F547
      have F581 := Fld.other W578 F548 (Or.inr (slot_ne (C := kC0) (t := (.array .long)) (t' := .int) (Or.inr (tw hw 13 rfl)) (Or.inl (tw hw 39 rfl)) (by decide) (by decide) (by decide)))
      have F582 := Fld.other W578 F549 (Or.inr (slot_ne (C := kC0) (t := (.array .int)) (t' := .int) (Or.inr (tw hw 18 rfl)) (Or.inl (tw hw 39 rfl)) (by decide) (by decide) (by decide)))
      have F583 := Fld.other W578 F550 (Or.inr (slot_ne (C := kC0) (t := .boolean) (t' := .int) (Or.inr (tw hw 15 rfl)) (Or.inl (tw hw 39 rfl)) (by decide) (by decide) (by decide)))
      have F584 := F551.other W578 (Ne.symm ne_o_mo)
      have F585 := F553.other W578 (Ne.symm ne_o_ah)
      have F586 := F554.other W578 (Ne.symm ne_o_aw)
      refine C.iload d3_54 rfl rfl ?_
      refine C.iastore d3_56 rfl F585 g_ah (own_okB ok2 (by decide)).1 (own_okB ok2 (by decide)).2 (fun h587 W588 F589 => ?_)
      have F590 := Exa.wr W588 F580
      have F591 := Fld.other W588 F581 (Or.inl ne_o_ah)
      have F592 := Fld.other W588 F582 (Or.inl ne_o_ah)
      have F593 := Fld.other W588 F583 (Or.inl ne_o_ah)
      have F594 := F584.other W588 (Ne.symm ne_ah_mo)
      have F595 := F586.other W588 ne_aw_ah
      have F596 := Fld.other W588 F579 (Or.inl ne_o_ah)
      exact J57_555 h587 (c1 + 1) (l1.set (Int32.toNatClampNeg c1) (.int 2)) (if_pos ⟨q24, q36⟩) F590 F591 F592 F593 F594 F595 F596 F589 (((KJ535.wr W545 (Or.inl (List.mem_of_getElem? (i := 1) rfl))).wr W578 (Or.inl (List.mem_of_getElem? (i := 0) rfl))).wr W588 (Or.inl (List.mem_of_getElem? (i := 2) rfl)))
    refine C.lif_eq d3_24 (by decide) rfl rfl (fun q24 => ?_) (fun q24 => ?_)
    · exact J57_533 h522 c0 l0 (if_neg (fun q => q.1 q24)) F525 F526 F527 F528 F529 F532 F530 F531 (KJ513.wr W523 (Or.inl (List.mem_of_getElem? (i := 1) rfl)))
    refine C.aloadN d3_27 rfl rfl rfl ?_
    refine C.getF d3_28 rfl (tw hw 12 rfl) F526 ?_
    refine C.iload d3_31 rfl rfl ?_
    refine C.laload (.long w1) d3_33 rfl F532 (by decide) rfl ?_
    refine C.lconst 0 d3_34 rfl rfl ?_
    refine C.lcmp d3_35 rfl ?_
    refine C.lif_ne d3_36 (by decide) rfl rfl (fun q36 => ?_) (fun q36 => ?_)
    · exact J57_533 h522 c0 l0 (if_neg (fun q => q36 q.2)) F525 F526 F527 F528 F529 F532 F530 F531 (KJ513.wr W523 (Or.inl (List.mem_of_getElem? (i := 1) rfl)))
    refine C.aloadN d3_39 rfl rfl rfl ?_
    refine C.getF d3_40 rfl (tw hw 17 rfl) F527 ?_
    refine C.aloadN d3_43 rfl rfl rfl ?_
    refine C.dup d3_44 rfl rfl ?_
    refine C.getF d3_45 rfl (tw hw 38 rfl) F530 ?_
    refine C.dupX1 d3_48 rfl rfl rfl ?_
    refine C.iconst 1 d3_49 rfl rfl ?_
    refine C.iadd d3_50 rfl ?_
    refine C.putF d3_51 rfl (tw hw 38 rfl) F530 F525 (Or.inl (tw hw 39 rfl)) (tw hw 4 rfl) (ty := .int) (by decide) rfl rfl g_o (fun h597 W598 F599 => ?_)
    have F600 := Exa.wr W598 F525
    have F601 := Fld.other W598 F526 (Or.inr (slot_ne (C := kC0) (t := (.array .long)) (t' := .int) (Or.inr (tw hw 13 rfl)) (Or.inl (tw hw 39 rfl)) (by decide) (by decide) (by decide)))
    have F602 := Fld.other W598 F527 (Or.inr (slot_ne (C := kC0) (t := (.array .int)) (t' := .int) (Or.inr (tw hw 18 rfl)) (Or.inl (tw hw 39 rfl)) (by decide) (by decide) (by decide)))
    have F603 := Fld.other W598 F528 (Or.inr (slot_ne (C := kC0) (t := .boolean) (t' := .int) (Or.inr (tw hw 15 rfl)) (Or.inl (tw hw 39 rfl)) (by decide) (by decide) (by decide)))
    have F604 := F529.other W598 (Ne.symm ne_o_mo)
    have F605 := F531.other W598 (Ne.symm ne_o_ah)
    have F606 := F532.other W598 (Ne.symm ne_o_aw)
    refine C.iload d3_54 rfl rfl ?_
    refine C.iastore d3_56 rfl F605 g_ah (own_okB ok1 (by decide)).1 (own_okB ok1 (by decide)).2 (fun h607 W608 F609 => ?_)
    have F610 := Exa.wr W608 F600
    have F611 := Fld.other W608 F601 (Or.inl ne_o_ah)
    have F612 := Fld.other W608 F602 (Or.inl ne_o_ah)
    have F613 := Fld.other W608 F603 (Or.inl ne_o_ah)
    have F614 := F604.other W608 (Ne.symm ne_ah_mo)
    have F615 := F606.other W608 ne_aw_ah
    have F616 := Fld.other W608 F599 (Or.inl ne_o_ah)
    exact J57_533 h607 (c0 + 1) (l0.set (Int32.toNatClampNeg c0) (.int 1)) (if_pos ⟨q24, q36⟩) F610 F611 F612 F613 F614 F615 F616 F609 (((KJ513.wr W523 (Or.inl (List.mem_of_getElem? (i := 1) rfl))).wr W598 (Or.inl (List.mem_of_getElem? (i := 0) rfl))).wr W608 (Or.inl (List.mem_of_getElem? (i := 2) rfl)))
  refine C.lif_eq d3_24 (by decide) rfl rfl (fun q24 => ?_) (fun q24 => ?_)
  · exact J57_511 h0 cnt hl (if_neg (fun q => q.1 q24)) P0 P1 P2 P3 P5 P7 P4 P6 (Keep.refl h0 [o, aw, ah])
  refine C.aloadN d3_27 rfl rfl rfl ?_
  refine C.getF d3_28 rfl (tw hw 12 rfl) P1 ?_
  refine C.iload d3_31 rfl rfl ?_
  refine C.laload (.long w0) d3_33 rfl P5 (by decide) rfl ?_
  refine C.lconst 0 d3_34 rfl rfl ?_
  refine C.lcmp d3_35 rfl ?_
  refine C.lif_ne d3_36 (by decide) rfl rfl (fun q36 => ?_) (fun q36 => ?_)
  · exact J57_511 h0 cnt hl (if_neg (fun q => q36 q.2)) P0 P1 P2 P3 P5 P7 P4 P6 (Keep.refl h0 [o, aw, ah])
  refine C.aloadN d3_39 rfl rfl rfl ?_
  refine C.getF d3_40 rfl (tw hw 17 rfl) P2 ?_
  refine C.aloadN d3_43 rfl rfl rfl ?_
  refine C.dup d3_44 rfl rfl ?_
  refine C.getF d3_45 rfl (tw hw 38 rfl) P4 ?_
  refine C.dupX1 d3_48 rfl rfl rfl ?_
  refine C.iconst 1 d3_49 rfl rfl ?_
  refine C.iadd d3_50 rfl ?_
  refine C.putF d3_51 rfl (tw hw 38 rfl) P4 P0 (Or.inl (tw hw 39 rfl)) (tw hw 4 rfl) (ty := .int) (by decide) rfl rfl g_o (fun h617 W618 F619 => ?_)
  have F620 := Exa.wr W618 P0
  have F621 := Fld.other W618 P1 (Or.inr (slot_ne (C := kC0) (t := (.array .long)) (t' := .int) (Or.inr (tw hw 13 rfl)) (Or.inl (tw hw 39 rfl)) (by decide) (by decide) (by decide)))
  have F622 := Fld.other W618 P2 (Or.inr (slot_ne (C := kC0) (t := (.array .int)) (t' := .int) (Or.inr (tw hw 18 rfl)) (Or.inl (tw hw 39 rfl)) (by decide) (by decide) (by decide)))
  have F623 := Fld.other W618 P3 (Or.inr (slot_ne (C := kC0) (t := .boolean) (t' := .int) (Or.inr (tw hw 15 rfl)) (Or.inl (tw hw 39 rfl)) (by decide) (by decide) (by decide)))
  have F624 := P5.other W618 (Ne.symm ne_o_aw)
  have F625 := P6.other W618 (Ne.symm ne_o_ah)
  have F626 := P7.other W618 (Ne.symm ne_o_mo)
  refine C.iload d3_54 rfl rfl ?_
  refine C.iastore d3_56 rfl F625 g_ah (own_okB ok0 (by decide)).1 (own_okB ok0 (by decide)).2 (fun h627 W628 F629 => ?_)
  have F630 := Exa.wr W628 F620
  have F631 := Fld.other W628 F621 (Or.inl ne_o_ah)
  have F632 := Fld.other W628 F622 (Or.inl ne_o_ah)
  have F633 := Fld.other W628 F623 (Or.inl ne_o_ah)
  have F634 := F624.other W628 ne_aw_ah
  have F635 := F626.other W628 (Ne.symm ne_ah_mo)
  have F636 := Fld.other W628 F619 (Or.inl ne_o_ah)
  exact J57_511 h627 (cnt + 1) (hl.set (Int32.toNatClampNeg cnt) (.int 0)) (if_pos ⟨q24, q36⟩) F630 F631 F632 F633 F634 F635 F636 F629 (((Keep.refl h0 [o, aw, ah]).wr W618 (Or.inl (List.mem_of_getElem? (i := 0) rfl))).wr W628 (Or.inl (List.mem_of_getElem? (i := 2) rfl)))
def own_listed (e0 e1 e2 : Int64) (cc : Int32) (hl : List Value) : Prop := (e0 = 0 ∧ e1 = 0 ∧ e2 = 0 ∧ cc = 0 ∧ hl = zI48) ∨ (¬ e0 = 0 ∧ e1 = 0 ∧ e2 = 0 ∧ cc = 1 ∧ hl = zI48) ∨ (e0 = 0 ∧ ¬ e1 = 0 ∧ e2 = 0 ∧ cc = 1 ∧ hl = (.int 1 :: zI47)) ∨ (e0 = 0 ∧ e1 = 0 ∧ ¬ e2 = 0 ∧ cc = 1 ∧ hl = (.int 2 :: zI47)) ∨ (¬ e0 = 0 ∧ ¬ e1 = 0 ∧ e2 = 0 ∧ cc = 2 ∧ hl = (.int 0 :: .int 1 :: zI46)) ∨ (¬ e0 = 0 ∧ e1 = 0 ∧ ¬ e2 = 0 ∧ cc = 2 ∧ hl = (.int 0 :: .int 2 :: zI46)) ∨ (e0 = 0 ∧ ¬ e1 = 0 ∧ ¬ e2 = 0 ∧ cc = 2 ∧ hl = (.int 1 :: .int 2 :: zI46)) ∨ (¬ e0 = 0 ∧ ¬ e1 = 0 ∧ ¬ e2 = 0 ∧ cc = 3 ∧ hl = (.int 0 :: .int 1 :: .int 2 :: zI45)) ∨ (¬ e0 = 0 ∧ ¬ e1 = 0 ∧ e2 = 0 ∧ cc = 2 ∧ hl = (.int 1 :: zI47)) ∨ (¬ e0 = 0 ∧ ¬ e1 = 0 ∧ ¬ e2 = 0 ∧ cc = 3 ∧ hl = (.int 1 :: .int 0 :: .int 2 :: zI45)) ∨ (¬ e0 = 0 ∧ e1 = 0 ∧ ¬ e2 = 0 ∧ cc = 2 ∧ hl = (.int 2 :: zI47)) ∨ (e0 = 0 ∧ ¬ e1 = 0 ∧ ¬ e2 = 0 ∧ cc = 2 ∧ hl = (.int 2 :: .int 1 :: zI46)) ∨ (¬ e0 = 0 ∧ ¬ e1 = 0 ∧ ¬ e2 = 0 ∧ cc = 3 ∧ hl = (.int 2 :: .int 0 :: .int 1 :: zI45))
theorem own_lst_n_0 (x0 x1 x2 bb : Int64) (hb : ¬ bb = 0) : own_listed 0 0 0 (0, zI48).1 (0, zI48).2 := by
  exact (Or.inl ⟨rfl, rfl, rfl, rfl, rfl⟩)
theorem own_lst_n_1 (x0 x1 x2 bb : Int64) (hb : ¬ bb = 0) : own_listed x0 0 0 (own_pu 0 x0 0 (0, zI48)).1 (own_pu 0 x0 0 (0, zI48)).2 := by
  by_cases h0 : x0 = 0
  · have a0 : own_pu 0 x0 0 (0, zI48) = (0, zI48) := if_neg (fun q => q.1 h0)
    rw [a0]
    exact (Or.inl ⟨h0, rfl, rfl, rfl, rfl⟩)
  have a0 : own_pu 0 x0 0 (0, zI48) = (1, zI48) := if_pos ⟨h0, rfl⟩
  rw [a0]
  exact (Or.inr (Or.inl ⟨h0, rfl, rfl, rfl, rfl⟩))
theorem own_lst_n_2 (x0 x1 x2 bb : Int64) (hb : ¬ bb = 0) : own_listed x0 x1 0 (own_pu 1 x1 0 (own_pu 0 x0 0 (0, zI48))).1 (own_pu 1 x1 0 (own_pu 0 x0 0 (0, zI48))).2 := by
  by_cases h0 : x0 = 0
  · by_cases h1 : x1 = 0
    · have a0 : own_pu 0 x0 0 (0, zI48) = (0, zI48) := if_neg (fun q => q.1 h0)
      have a1 : own_pu 1 x1 0 (0, zI48) = (0, zI48) := if_neg (fun q => q.1 h1)
      rw [a0, a1]
      exact (Or.inl ⟨h0, h1, rfl, rfl, rfl⟩)
    have a0 : own_pu 0 x0 0 (0, zI48) = (0, zI48) := if_neg (fun q => q.1 h0)
    have a1 : own_pu 1 x1 0 (0, zI48) = (1, (.int 1 :: zI47)) := if_pos ⟨h1, rfl⟩
    rw [a0, a1]
    exact (Or.inr (Or.inr (Or.inl ⟨h0, h1, rfl, rfl, rfl⟩)))
  by_cases h1 : x1 = 0
  · have a0 : own_pu 0 x0 0 (0, zI48) = (1, zI48) := if_pos ⟨h0, rfl⟩
    have a1 : own_pu 1 x1 0 (1, zI48) = (1, zI48) := if_neg (fun q => q.1 h1)
    rw [a0, a1]
    exact (Or.inr (Or.inl ⟨h0, h1, rfl, rfl, rfl⟩))
  have a0 : own_pu 0 x0 0 (0, zI48) = (1, zI48) := if_pos ⟨h0, rfl⟩
  have a1 : own_pu 1 x1 0 (1, zI48) = (2, (.int 0 :: .int 1 :: zI46)) := if_pos ⟨h1, rfl⟩
  rw [a0, a1]
  exact (Or.inr (Or.inr (Or.inr (Or.inr (Or.inl ⟨h0, h1, rfl, rfl, rfl⟩)))))
theorem own_lst_n_3 (x0 x1 x2 bb : Int64) (hb : ¬ bb = 0) : own_listed x0 x1 x2 (own_pu 2 x2 0 (own_pu 1 x1 0 (own_pu 0 x0 0 (0, zI48)))).1 (own_pu 2 x2 0 (own_pu 1 x1 0 (own_pu 0 x0 0 (0, zI48)))).2 := by
  by_cases h0 : x0 = 0
  · by_cases h1 : x1 = 0
    · by_cases h2 : x2 = 0
      · have a0 : own_pu 0 x0 0 (0, zI48) = (0, zI48) := if_neg (fun q => q.1 h0)
        have a1 : own_pu 1 x1 0 (0, zI48) = (0, zI48) := if_neg (fun q => q.1 h1)
        have a2 : own_pu 2 x2 0 (0, zI48) = (0, zI48) := if_neg (fun q => q.1 h2)
        rw [a0, a1, a2]
        exact (Or.inl ⟨h0, h1, h2, rfl, rfl⟩)
      have a0 : own_pu 0 x0 0 (0, zI48) = (0, zI48) := if_neg (fun q => q.1 h0)
      have a1 : own_pu 1 x1 0 (0, zI48) = (0, zI48) := if_neg (fun q => q.1 h1)
      have a2 : own_pu 2 x2 0 (0, zI48) = (1, (.int 2 :: zI47)) := if_pos ⟨h2, rfl⟩
      rw [a0, a1, a2]
      exact (Or.inr (Or.inr (Or.inr (Or.inl ⟨h0, h1, h2, rfl, rfl⟩))))
    by_cases h2 : x2 = 0
    · have a0 : own_pu 0 x0 0 (0, zI48) = (0, zI48) := if_neg (fun q => q.1 h0)
      have a1 : own_pu 1 x1 0 (0, zI48) = (1, (.int 1 :: zI47)) := if_pos ⟨h1, rfl⟩
      have a2 : own_pu 2 x2 0 (1, (.int 1 :: zI47)) = (1, (.int 1 :: zI47)) := if_neg (fun q => q.1 h2)
      rw [a0, a1, a2]
      exact (Or.inr (Or.inr (Or.inl ⟨h0, h1, h2, rfl, rfl⟩)))
    have a0 : own_pu 0 x0 0 (0, zI48) = (0, zI48) := if_neg (fun q => q.1 h0)
    have a1 : own_pu 1 x1 0 (0, zI48) = (1, (.int 1 :: zI47)) := if_pos ⟨h1, rfl⟩
    have a2 : own_pu 2 x2 0 (1, (.int 1 :: zI47)) = (2, (.int 1 :: .int 2 :: zI46)) := if_pos ⟨h2, rfl⟩
    rw [a0, a1, a2]
    exact (Or.inr (Or.inr (Or.inr (Or.inr (Or.inr (Or.inr (Or.inl ⟨h0, h1, h2, rfl, rfl⟩)))))))
  by_cases h1 : x1 = 0
  · by_cases h2 : x2 = 0
    · have a0 : own_pu 0 x0 0 (0, zI48) = (1, zI48) := if_pos ⟨h0, rfl⟩
      have a1 : own_pu 1 x1 0 (1, zI48) = (1, zI48) := if_neg (fun q => q.1 h1)
      have a2 : own_pu 2 x2 0 (1, zI48) = (1, zI48) := if_neg (fun q => q.1 h2)
      rw [a0, a1, a2]
      exact (Or.inr (Or.inl ⟨h0, h1, h2, rfl, rfl⟩))
    have a0 : own_pu 0 x0 0 (0, zI48) = (1, zI48) := if_pos ⟨h0, rfl⟩
    have a1 : own_pu 1 x1 0 (1, zI48) = (1, zI48) := if_neg (fun q => q.1 h1)
    have a2 : own_pu 2 x2 0 (1, zI48) = (2, (.int 0 :: .int 2 :: zI46)) := if_pos ⟨h2, rfl⟩
    rw [a0, a1, a2]
    exact (Or.inr (Or.inr (Or.inr (Or.inr (Or.inr (Or.inl ⟨h0, h1, h2, rfl, rfl⟩))))))
  by_cases h2 : x2 = 0
  · have a0 : own_pu 0 x0 0 (0, zI48) = (1, zI48) := if_pos ⟨h0, rfl⟩
    have a1 : own_pu 1 x1 0 (1, zI48) = (2, (.int 0 :: .int 1 :: zI46)) := if_pos ⟨h1, rfl⟩
    have a2 : own_pu 2 x2 0 (2, (.int 0 :: .int 1 :: zI46)) = (2, (.int 0 :: .int 1 :: zI46)) := if_neg (fun q => q.1 h2)
    rw [a0, a1, a2]
    exact (Or.inr (Or.inr (Or.inr (Or.inr (Or.inl ⟨h0, h1, h2, rfl, rfl⟩)))))
  have a0 : own_pu 0 x0 0 (0, zI48) = (1, zI48) := if_pos ⟨h0, rfl⟩
  have a1 : own_pu 1 x1 0 (1, zI48) = (2, (.int 0 :: .int 1 :: zI46)) := if_pos ⟨h1, rfl⟩
  have a2 : own_pu 2 x2 0 (2, (.int 0 :: .int 1 :: zI46)) = (3, (.int 0 :: .int 1 :: .int 2 :: zI45)) := if_pos ⟨h2, rfl⟩
  rw [a0, a1, a2]
  exact (Or.inr (Or.inr (Or.inr (Or.inr (Or.inr (Or.inr (Or.inr (Or.inl ⟨h0, h1, h2, rfl, rfl⟩))))))))
theorem own_lst_0_0 (x0 x1 x2 bb : Int64) (hb : ¬ bb = 0) : own_listed bb 0 0 (1, zI48).1 (1, zI48).2 := by
  exact (Or.inr (Or.inl ⟨hb, rfl, rfl, rfl, rfl⟩))
theorem own_lst_0_1 (x0 x1 x2 bb : Int64) (hb : ¬ bb = 0) : own_listed (bb ||| x0) 0 0 (own_pu 0 x0 bb (1, zI48)).1 (own_pu 0 x0 bb (1, zI48)).2 := by
  by_cases h0 : x0 = 0
  · have a0 : own_pu 0 x0 bb (1, zI48) = (1, zI48) := if_neg (fun q => q.1 h0)
    rw [a0]
    exact (Or.inr (Or.inl ⟨own_or_l hb, rfl, rfl, rfl, rfl⟩))
  have a0 : own_pu 0 x0 bb (1, zI48) = (1, zI48) := if_neg (fun q => hb q.2)
  rw [a0]
  exact (Or.inr (Or.inl ⟨own_or_l hb, rfl, rfl, rfl, rfl⟩))
theorem own_lst_0_2 (x0 x1 x2 bb : Int64) (hb : ¬ bb = 0) : own_listed (bb ||| x0) x1 0 (own_pu 1 x1 0 (own_pu 0 x0 bb (1, zI48))).1 (own_pu 1 x1 0 (own_pu 0 x0 bb (1, zI48))).2 := by
  by_cases h0 : x0 = 0
  · by_cases h1 : x1 = 0
    · have a0 : own_pu 0 x0 bb (1, zI48) = (1, zI48) := if_neg (fun q => q.1 h0)
      have a1 : own_pu 1 x1 0 (1, zI48) = (1, zI48) := if_neg (fun q => q.1 h1)
      rw [a0, a1]
      exact (Or.inr (Or.inl ⟨own_or_l hb, h1, rfl, rfl, rfl⟩))
    have a0 : own_pu 0 x0 bb (1, zI48) = (1, zI48) := if_neg (fun q => q.1 h0)
    have a1 : own_pu 1 x1 0 (1, zI48) = (2, (.int 0 :: .int 1 :: zI46)) := if_pos ⟨h1, rfl⟩
    rw [a0, a1]
    exact (Or.inr (Or.inr (Or.inr (Or.inr (Or.inl ⟨own_or_l hb, h1, rfl, rfl, rfl⟩)))))
  by_cases h1 : x1 = 0
  · have a0 : own_pu 0 x0 bb (1, zI48) = (1, zI48) := if_neg (fun q => hb q.2)
    have a1 : own_pu 1 x1 0 (1, zI48) = (1, zI48) := if_neg (fun q => q.1 h1)
    rw [a0, a1]
    exact (Or.inr (Or.inl ⟨own_or_l hb, h1, rfl, rfl, rfl⟩))
  have a0 : own_pu 0 x0 bb (1, zI48) = (1, zI48) := if_neg (fun q => hb q.2)
  have a1 : own_pu 1 x1 0 (1, zI48) = (2, (.int 0 :: .int 1 :: zI46)) := if_pos ⟨h1, rfl⟩
  rw [a0, a1]
  exact (Or.inr (Or.inr (Or.inr (Or.inr (Or.inl ⟨own_or_l hb, h1, rfl, rfl, rfl⟩)))))
theorem own_lst_0_3 (x0 x1 x2 bb : Int64) (hb : ¬ bb = 0) : own_listed (bb ||| x0) x1 x2 (own_pu 2 x2 0 (own_pu 1 x1 0 (own_pu 0 x0 bb (1, zI48)))).1 (own_pu 2 x2 0 (own_pu 1 x1 0 (own_pu 0 x0 bb (1, zI48)))).2 := by
  by_cases h0 : x0 = 0
  · by_cases h1 : x1 = 0
    · by_cases h2 : x2 = 0
      · have a0 : own_pu 0 x0 bb (1, zI48) = (1, zI48) := if_neg (fun q => q.1 h0)
        have a1 : own_pu 1 x1 0 (1, zI48) = (1, zI48) := if_neg (fun q => q.1 h1)
        have a2 : own_pu 2 x2 0 (1, zI48) = (1, zI48) := if_neg (fun q => q.1 h2)
        rw [a0, a1, a2]
        exact (Or.inr (Or.inl ⟨own_or_l hb, h1, h2, rfl, rfl⟩))
      have a0 : own_pu 0 x0 bb (1, zI48) = (1, zI48) := if_neg (fun q => q.1 h0)
      have a1 : own_pu 1 x1 0 (1, zI48) = (1, zI48) := if_neg (fun q => q.1 h1)
      have a2 : own_pu 2 x2 0 (1, zI48) = (2, (.int 0 :: .int 2 :: zI46)) := if_pos ⟨h2, rfl⟩
      rw [a0, a1, a2]
      exact (Or.inr (Or.inr (Or.inr (Or.inr (Or.inr (Or.inl ⟨own_or_l hb, h1, h2, rfl, rfl⟩))))))
    by_cases h2 : x2 = 0
    · have a0 : own_pu 0 x0 bb (1, zI48) = (1, zI48) := if_neg (fun q => q.1 h0)
      have a1 : own_pu 1 x1 0 (1, zI48) = (2, (.int 0 :: .int 1 :: zI46)) := if_pos ⟨h1, rfl⟩
      have a2 : own_pu 2 x2 0 (2, (.int 0 :: .int 1 :: zI46)) = (2, (.int 0 :: .int 1 :: zI46)) := if_neg (fun q => q.1 h2)
      rw [a0, a1, a2]
      exact (Or.inr (Or.inr (Or.inr (Or.inr (Or.inl ⟨own_or_l hb, h1, h2, rfl, rfl⟩)))))
    have a0 : own_pu 0 x0 bb (1, zI48) = (1, zI48) := if_neg (fun q => q.1 h0)
    have a1 : own_pu 1 x1 0 (1, zI48) = (2, (.int 0 :: .int 1 :: zI46)) := if_pos ⟨h1, rfl⟩
    have a2 : own_pu 2 x2 0 (2, (.int 0 :: .int 1 :: zI46)) = (3, (.int 0 :: .int 1 :: .int 2 :: zI45)) := if_pos ⟨h2, rfl⟩
    rw [a0, a1, a2]
    exact (Or.inr (Or.inr (Or.inr (Or.inr (Or.inr (Or.inr (Or.inr (Or.inl ⟨own_or_l hb, h1, h2, rfl, rfl⟩))))))))
  by_cases h1 : x1 = 0
  · by_cases h2 : x2 = 0
    · have a0 : own_pu 0 x0 bb (1, zI48) = (1, zI48) := if_neg (fun q => hb q.2)
      have a1 : own_pu 1 x1 0 (1, zI48) = (1, zI48) := if_neg (fun q => q.1 h1)
      have a2 : own_pu 2 x2 0 (1, zI48) = (1, zI48) := if_neg (fun q => q.1 h2)
      rw [a0, a1, a2]
      exact (Or.inr (Or.inl ⟨own_or_l hb, h1, h2, rfl, rfl⟩))
    have a0 : own_pu 0 x0 bb (1, zI48) = (1, zI48) := if_neg (fun q => hb q.2)
    have a1 : own_pu 1 x1 0 (1, zI48) = (1, zI48) := if_neg (fun q => q.1 h1)
    have a2 : own_pu 2 x2 0 (1, zI48) = (2, (.int 0 :: .int 2 :: zI46)) := if_pos ⟨h2, rfl⟩
    rw [a0, a1, a2]
    exact (Or.inr (Or.inr (Or.inr (Or.inr (Or.inr (Or.inl ⟨own_or_l hb, h1, h2, rfl, rfl⟩))))))
  by_cases h2 : x2 = 0
  · have a0 : own_pu 0 x0 bb (1, zI48) = (1, zI48) := if_neg (fun q => hb q.2)
    have a1 : own_pu 1 x1 0 (1, zI48) = (2, (.int 0 :: .int 1 :: zI46)) := if_pos ⟨h1, rfl⟩
    have a2 : own_pu 2 x2 0 (2, (.int 0 :: .int 1 :: zI46)) = (2, (.int 0 :: .int 1 :: zI46)) := if_neg (fun q => q.1 h2)
    rw [a0, a1, a2]
    exact (Or.inr (Or.inr (Or.inr (Or.inr (Or.inl ⟨own_or_l hb, h1, h2, rfl, rfl⟩)))))
  have a0 : own_pu 0 x0 bb (1, zI48) = (1, zI48) := if_neg (fun q => hb q.2)
  have a1 : own_pu 1 x1 0 (1, zI48) = (2, (.int 0 :: .int 1 :: zI46)) := if_pos ⟨h1, rfl⟩
  have a2 : own_pu 2 x2 0 (2, (.int 0 :: .int 1 :: zI46)) = (3, (.int 0 :: .int 1 :: .int 2 :: zI45)) := if_pos ⟨h2, rfl⟩
  rw [a0, a1, a2]
  exact (Or.inr (Or.inr (Or.inr (Or.inr (Or.inr (Or.inr (Or.inr (Or.inl ⟨own_or_l hb, h1, h2, rfl, rfl⟩))))))))
theorem own_lst_1_0 (x0 x1 x2 bb : Int64) (hb : ¬ bb = 0) : own_listed 0 bb 0 (1, (.int 1 :: zI47)).1 (1, (.int 1 :: zI47)).2 := by
  exact (Or.inr (Or.inr (Or.inl ⟨rfl, hb, rfl, rfl, rfl⟩)))
theorem own_lst_1_1 (x0 x1 x2 bb : Int64) (hb : ¬ bb = 0) : own_listed x0 bb 0 (own_pu 0 x0 0 (1, (.int 1 :: zI47))).1 (own_pu 0 x0 0 (1, (.int 1 :: zI47))).2 := by
  by_cases h0 : x0 = 0
  · have a0 : own_pu 0 x0 0 (1, (.int 1 :: zI47)) = (1, (.int 1 :: zI47)) := if_neg (fun q => q.1 h0)
    rw [a0]
    exact (Or.inr (Or.inr (Or.inl ⟨h0, hb, rfl, rfl, rfl⟩)))
  have a0 : own_pu 0 x0 0 (1, (.int 1 :: zI47)) = (2, (.int 1 :: zI47)) := if_pos ⟨h0, rfl⟩
  rw [a0]
  exact (Or.inr (Or.inr (Or.inr (Or.inr (Or.inr (Or.inr (Or.inr (Or.inr (Or.inl ⟨h0, hb, rfl, rfl, rfl⟩)))))))))
theorem own_lst_1_2 (x0 x1 x2 bb : Int64) (hb : ¬ bb = 0) : own_listed x0 (bb ||| x1) 0 (own_pu 1 x1 bb (own_pu 0 x0 0 (1, (.int 1 :: zI47)))).1 (own_pu 1 x1 bb (own_pu 0 x0 0 (1, (.int 1 :: zI47)))).2 := by
  by_cases h0 : x0 = 0
  · by_cases h1 : x1 = 0
    · have a0 : own_pu 0 x0 0 (1, (.int 1 :: zI47)) = (1, (.int 1 :: zI47)) := if_neg (fun q => q.1 h0)
      have a1 : own_pu 1 x1 bb (1, (.int 1 :: zI47)) = (1, (.int 1 :: zI47)) := if_neg (fun q => q.1 h1)
      rw [a0, a1]
      exact (Or.inr (Or.inr (Or.inl ⟨h0, own_or_l hb, rfl, rfl, rfl⟩)))
    have a0 : own_pu 0 x0 0 (1, (.int 1 :: zI47)) = (1, (.int 1 :: zI47)) := if_neg (fun q => q.1 h0)
    have a1 : own_pu 1 x1 bb (1, (.int 1 :: zI47)) = (1, (.int 1 :: zI47)) := if_neg (fun q => hb q.2)
    rw [a0, a1]
    exact (Or.inr (Or.inr (Or.inl ⟨h0, own_or_l hb, rfl, rfl, rfl⟩)))
  by_cases h1 : x1 = 0
  · have a0 : own_pu 0 x0 0 (1, (.int 1 :: zI47)) = (2, (.int 1 :: zI47)) := if_pos ⟨h0, rfl⟩
    have a1 : own_pu 1 x1 bb (2, (.int 1 :: zI47)) = (2, (.int 1 :: zI47)) := if_neg (fun q => q.1 h1)
    rw [a0, a1]
    exact (Or.inr (Or.inr (Or.inr (Or.inr (Or.inr (Or.inr (Or.inr (Or.inr (Or.inl ⟨h0, own_or_l hb, rfl, rfl, rfl⟩)))))))))
  have a0 : own_pu 0 x0 0 (1, (.int 1 :: zI47)) = (2, (.int 1 :: zI47)) := if_pos ⟨h0, rfl⟩
  have a1 : own_pu 1 x1 bb (2, (.int 1 :: zI47)) = (2, (.int 1 :: zI47)) := if_neg (fun q => hb q.2)
  rw [a0, a1]
  exact (Or.inr (Or.inr (Or.inr (Or.inr (Or.inr (Or.inr (Or.inr (Or.inr (Or.inl ⟨h0, own_or_l hb, rfl, rfl, rfl⟩)))))))))
theorem own_lst_1_3 (x0 x1 x2 bb : Int64) (hb : ¬ bb = 0) : own_listed x0 (bb ||| x1) x2 (own_pu 2 x2 0 (own_pu 1 x1 bb (own_pu 0 x0 0 (1, (.int 1 :: zI47))))).1 (own_pu 2 x2 0 (own_pu 1 x1 bb (own_pu 0 x0 0 (1, (.int 1 :: zI47))))).2 := by
  by_cases h0 : x0 = 0
  · by_cases h1 : x1 = 0
    · by_cases h2 : x2 = 0
      · have a0 : own_pu 0 x0 0 (1, (.int 1 :: zI47)) = (1, (.int 1 :: zI47)) := if_neg (fun q => q.1 h0)
        have a1 : own_pu 1 x1 bb (1, (.int 1 :: zI47)) = (1, (.int 1 :: zI47)) := if_neg (fun q => q.1 h1)
        have a2 : own_pu 2 x2 0 (1, (.int 1 :: zI47)) = (1, (.int 1 :: zI47)) := if_neg (fun q => q.1 h2)
        rw [a0, a1, a2]
        exact (Or.inr (Or.inr (Or.inl ⟨h0, own_or_l hb, h2, rfl, rfl⟩)))
      have a0 : own_pu 0 x0 0 (1, (.int 1 :: zI47)) = (1, (.int 1 :: zI47)) := if_neg (fun q => q.1 h0)
      have a1 : own_pu 1 x1 bb (1, (.int 1 :: zI47)) = (1, (.int 1 :: zI47)) := if_neg (fun q => q.1 h1)
      have a2 : own_pu 2 x2 0 (1, (.int 1 :: zI47)) = (2, (.int 1 :: .int 2 :: zI46)) := if_pos ⟨h2, rfl⟩
      rw [a0, a1, a2]
      exact (Or.inr (Or.inr (Or.inr (Or.inr (Or.inr (Or.inr (Or.inl ⟨h0, own_or_l hb, h2, rfl, rfl⟩)))))))
    by_cases h2 : x2 = 0
    · have a0 : own_pu 0 x0 0 (1, (.int 1 :: zI47)) = (1, (.int 1 :: zI47)) := if_neg (fun q => q.1 h0)
      have a1 : own_pu 1 x1 bb (1, (.int 1 :: zI47)) = (1, (.int 1 :: zI47)) := if_neg (fun q => hb q.2)
      have a2 : own_pu 2 x2 0 (1, (.int 1 :: zI47)) = (1, (.int 1 :: zI47)) := if_neg (fun q => q.1 h2)
      rw [a0, a1, a2]
      exact (Or.inr (Or.inr (Or.inl ⟨h0, own_or_l hb, h2, rfl, rfl⟩)))
    have a0 : own_pu 0 x0 0 (1, (.int 1 :: zI47)) = (1, (.int 1 :: zI47)) := if_neg (fun q => q.1 h0)
    have a1 : own_pu 1 x1 bb (1, (.int 1 :: zI47)) = (1, (.int 1 :: zI47)) := if_neg (fun q => hb q.2)
    have a2 : own_pu 2 x2 0 (1, (.int 1 :: zI47)) = (2, (.int 1 :: .int 2 :: zI46)) := if_pos ⟨h2, rfl⟩
    rw [a0, a1, a2]
    exact (Or.inr (Or.inr (Or.inr (Or.inr (Or.inr (Or.inr (Or.inl ⟨h0, own_or_l hb, h2, rfl, rfl⟩)))))))
  by_cases h1 : x1 = 0
  · by_cases h2 : x2 = 0
    · have a0 : own_pu 0 x0 0 (1, (.int 1 :: zI47)) = (2, (.int 1 :: zI47)) := if_pos ⟨h0, rfl⟩
      have a1 : own_pu 1 x1 bb (2, (.int 1 :: zI47)) = (2, (.int 1 :: zI47)) := if_neg (fun q => q.1 h1)
      have a2 : own_pu 2 x2 0 (2, (.int 1 :: zI47)) = (2, (.int 1 :: zI47)) := if_neg (fun q => q.1 h2)
      rw [a0, a1, a2]
      exact (Or.inr (Or.inr (Or.inr (Or.inr (Or.inr (Or.inr (Or.inr (Or.inr (Or.inl ⟨h0, own_or_l hb, h2, rfl, rfl⟩)))))))))
    have a0 : own_pu 0 x0 0 (1, (.int 1 :: zI47)) = (2, (.int 1 :: zI47)) := if_pos ⟨h0, rfl⟩
    have a1 : own_pu 1 x1 bb (2, (.int 1 :: zI47)) = (2, (.int 1 :: zI47)) := if_neg (fun q => q.1 h1)
    have a2 : own_pu 2 x2 0 (2, (.int 1 :: zI47)) = (3, (.int 1 :: .int 0 :: .int 2 :: zI45)) := if_pos ⟨h2, rfl⟩
    rw [a0, a1, a2]
    exact (Or.inr (Or.inr (Or.inr (Or.inr (Or.inr (Or.inr (Or.inr (Or.inr (Or.inr (Or.inl ⟨h0, own_or_l hb, h2, rfl, rfl⟩))))))))))
  by_cases h2 : x2 = 0
  · have a0 : own_pu 0 x0 0 (1, (.int 1 :: zI47)) = (2, (.int 1 :: zI47)) := if_pos ⟨h0, rfl⟩
    have a1 : own_pu 1 x1 bb (2, (.int 1 :: zI47)) = (2, (.int 1 :: zI47)) := if_neg (fun q => hb q.2)
    have a2 : own_pu 2 x2 0 (2, (.int 1 :: zI47)) = (2, (.int 1 :: zI47)) := if_neg (fun q => q.1 h2)
    rw [a0, a1, a2]
    exact (Or.inr (Or.inr (Or.inr (Or.inr (Or.inr (Or.inr (Or.inr (Or.inr (Or.inl ⟨h0, own_or_l hb, h2, rfl, rfl⟩)))))))))
  have a0 : own_pu 0 x0 0 (1, (.int 1 :: zI47)) = (2, (.int 1 :: zI47)) := if_pos ⟨h0, rfl⟩
  have a1 : own_pu 1 x1 bb (2, (.int 1 :: zI47)) = (2, (.int 1 :: zI47)) := if_neg (fun q => hb q.2)
  have a2 : own_pu 2 x2 0 (2, (.int 1 :: zI47)) = (3, (.int 1 :: .int 0 :: .int 2 :: zI45)) := if_pos ⟨h2, rfl⟩
  rw [a0, a1, a2]
  exact (Or.inr (Or.inr (Or.inr (Or.inr (Or.inr (Or.inr (Or.inr (Or.inr (Or.inr (Or.inl ⟨h0, own_or_l hb, h2, rfl, rfl⟩))))))))))
theorem own_lst_2_0 (x0 x1 x2 bb : Int64) (hb : ¬ bb = 0) : own_listed 0 0 bb (1, (.int 2 :: zI47)).1 (1, (.int 2 :: zI47)).2 := by
  exact (Or.inr (Or.inr (Or.inr (Or.inl ⟨rfl, rfl, hb, rfl, rfl⟩))))
theorem own_lst_2_1 (x0 x1 x2 bb : Int64) (hb : ¬ bb = 0) : own_listed x0 0 bb (own_pu 0 x0 0 (1, (.int 2 :: zI47))).1 (own_pu 0 x0 0 (1, (.int 2 :: zI47))).2 := by
  by_cases h0 : x0 = 0
  · have a0 : own_pu 0 x0 0 (1, (.int 2 :: zI47)) = (1, (.int 2 :: zI47)) := if_neg (fun q => q.1 h0)
    rw [a0]
    exact (Or.inr (Or.inr (Or.inr (Or.inl ⟨h0, rfl, hb, rfl, rfl⟩))))
  have a0 : own_pu 0 x0 0 (1, (.int 2 :: zI47)) = (2, (.int 2 :: zI47)) := if_pos ⟨h0, rfl⟩
  rw [a0]
  exact (Or.inr (Or.inr (Or.inr (Or.inr (Or.inr (Or.inr (Or.inr (Or.inr (Or.inr (Or.inr (Or.inl ⟨h0, rfl, hb, rfl, rfl⟩)))))))))))
theorem own_lst_2_2 (x0 x1 x2 bb : Int64) (hb : ¬ bb = 0) : own_listed x0 x1 bb (own_pu 1 x1 0 (own_pu 0 x0 0 (1, (.int 2 :: zI47)))).1 (own_pu 1 x1 0 (own_pu 0 x0 0 (1, (.int 2 :: zI47)))).2 := by
  by_cases h0 : x0 = 0
  · by_cases h1 : x1 = 0
    · have a0 : own_pu 0 x0 0 (1, (.int 2 :: zI47)) = (1, (.int 2 :: zI47)) := if_neg (fun q => q.1 h0)
      have a1 : own_pu 1 x1 0 (1, (.int 2 :: zI47)) = (1, (.int 2 :: zI47)) := if_neg (fun q => q.1 h1)
      rw [a0, a1]
      exact (Or.inr (Or.inr (Or.inr (Or.inl ⟨h0, h1, hb, rfl, rfl⟩))))
    have a0 : own_pu 0 x0 0 (1, (.int 2 :: zI47)) = (1, (.int 2 :: zI47)) := if_neg (fun q => q.1 h0)
    have a1 : own_pu 1 x1 0 (1, (.int 2 :: zI47)) = (2, (.int 2 :: .int 1 :: zI46)) := if_pos ⟨h1, rfl⟩
    rw [a0, a1]
    exact (Or.inr (Or.inr (Or.inr (Or.inr (Or.inr (Or.inr (Or.inr (Or.inr (Or.inr (Or.inr (Or.inr (Or.inl ⟨h0, h1, hb, rfl, rfl⟩))))))))))))
  by_cases h1 : x1 = 0
  · have a0 : own_pu 0 x0 0 (1, (.int 2 :: zI47)) = (2, (.int 2 :: zI47)) := if_pos ⟨h0, rfl⟩
    have a1 : own_pu 1 x1 0 (2, (.int 2 :: zI47)) = (2, (.int 2 :: zI47)) := if_neg (fun q => q.1 h1)
    rw [a0, a1]
    exact (Or.inr (Or.inr (Or.inr (Or.inr (Or.inr (Or.inr (Or.inr (Or.inr (Or.inr (Or.inr (Or.inl ⟨h0, h1, hb, rfl, rfl⟩)))))))))))
  have a0 : own_pu 0 x0 0 (1, (.int 2 :: zI47)) = (2, (.int 2 :: zI47)) := if_pos ⟨h0, rfl⟩
  have a1 : own_pu 1 x1 0 (2, (.int 2 :: zI47)) = (3, (.int 2 :: .int 0 :: .int 1 :: zI45)) := if_pos ⟨h1, rfl⟩
  rw [a0, a1]
  exact (Or.inr (Or.inr (Or.inr (Or.inr (Or.inr (Or.inr (Or.inr (Or.inr (Or.inr (Or.inr (Or.inr (Or.inr ⟨h0, h1, hb, rfl, rfl⟩))))))))))))
theorem own_lst_2_3 (x0 x1 x2 bb : Int64) (hb : ¬ bb = 0) : own_listed x0 x1 (bb ||| x2) (own_pu 2 x2 bb (own_pu 1 x1 0 (own_pu 0 x0 0 (1, (.int 2 :: zI47))))).1 (own_pu 2 x2 bb (own_pu 1 x1 0 (own_pu 0 x0 0 (1, (.int 2 :: zI47))))).2 := by
  by_cases h0 : x0 = 0
  · by_cases h1 : x1 = 0
    · by_cases h2 : x2 = 0
      · have a0 : own_pu 0 x0 0 (1, (.int 2 :: zI47)) = (1, (.int 2 :: zI47)) := if_neg (fun q => q.1 h0)
        have a1 : own_pu 1 x1 0 (1, (.int 2 :: zI47)) = (1, (.int 2 :: zI47)) := if_neg (fun q => q.1 h1)
        have a2 : own_pu 2 x2 bb (1, (.int 2 :: zI47)) = (1, (.int 2 :: zI47)) := if_neg (fun q => q.1 h2)
        rw [a0, a1, a2]
        exact (Or.inr (Or.inr (Or.inr (Or.inl ⟨h0, h1, own_or_l hb, rfl, rfl⟩))))
      have a0 : own_pu 0 x0 0 (1, (.int 2 :: zI47)) = (1, (.int 2 :: zI47)) := if_neg (fun q => q.1 h0)
      have a1 : own_pu 1 x1 0 (1, (.int 2 :: zI47)) = (1, (.int 2 :: zI47)) := if_neg (fun q => q.1 h1)
      have a2 : own_pu 2 x2 bb (1, (.int 2 :: zI47)) = (1, (.int 2 :: zI47)) := if_neg (fun q => hb q.2)
      rw [a0, a1, a2]
      exact (Or.inr (Or.inr (Or.inr (Or.inl ⟨h0, h1, own_or_l hb, rfl, rfl⟩))))
    by_cases h2 : x2 = 0
    · have a0 : own_pu 0 x0 0 (1, (.int 2 :: zI47)) = (1, (.int 2 :: zI47)) := if_neg (fun q => q.1 h0)
      have a1 : own_pu 1 x1 0 (1, (.int 2 :: zI47)) = (2, (.int 2 :: .int 1 :: zI46)) := if_pos ⟨h1, rfl⟩
      have a2 : own_pu 2 x2 bb (2, (.int 2 :: .int 1 :: zI46)) = (2, (.int 2 :: .int 1 :: zI46)) := if_neg (fun q => q.1 h2)
      rw [a0, a1, a2]
      exact (Or.inr (Or.inr (Or.inr (Or.inr (Or.inr (Or.inr (Or.inr (Or.inr (Or.inr (Or.inr (Or.inr (Or.inl ⟨h0, h1, own_or_l hb, rfl, rfl⟩))))))))))))
    have a0 : own_pu 0 x0 0 (1, (.int 2 :: zI47)) = (1, (.int 2 :: zI47)) := if_neg (fun q => q.1 h0)
    have a1 : own_pu 1 x1 0 (1, (.int 2 :: zI47)) = (2, (.int 2 :: .int 1 :: zI46)) := if_pos ⟨h1, rfl⟩
    have a2 : own_pu 2 x2 bb (2, (.int 2 :: .int 1 :: zI46)) = (2, (.int 2 :: .int 1 :: zI46)) := if_neg (fun q => hb q.2)
    rw [a0, a1, a2]
    exact (Or.inr (Or.inr (Or.inr (Or.inr (Or.inr (Or.inr (Or.inr (Or.inr (Or.inr (Or.inr (Or.inr (Or.inl ⟨h0, h1, own_or_l hb, rfl, rfl⟩))))))))))))
  by_cases h1 : x1 = 0
  · by_cases h2 : x2 = 0
    · have a0 : own_pu 0 x0 0 (1, (.int 2 :: zI47)) = (2, (.int 2 :: zI47)) := if_pos ⟨h0, rfl⟩
      have a1 : own_pu 1 x1 0 (2, (.int 2 :: zI47)) = (2, (.int 2 :: zI47)) := if_neg (fun q => q.1 h1)
      have a2 : own_pu 2 x2 bb (2, (.int 2 :: zI47)) = (2, (.int 2 :: zI47)) := if_neg (fun q => q.1 h2)
      rw [a0, a1, a2]
      exact (Or.inr (Or.inr (Or.inr (Or.inr (Or.inr (Or.inr (Or.inr (Or.inr (Or.inr (Or.inr (Or.inl ⟨h0, h1, own_or_l hb, rfl, rfl⟩)))))))))))
    have a0 : own_pu 0 x0 0 (1, (.int 2 :: zI47)) = (2, (.int 2 :: zI47)) := if_pos ⟨h0, rfl⟩
    have a1 : own_pu 1 x1 0 (2, (.int 2 :: zI47)) = (2, (.int 2 :: zI47)) := if_neg (fun q => q.1 h1)
    have a2 : own_pu 2 x2 bb (2, (.int 2 :: zI47)) = (2, (.int 2 :: zI47)) := if_neg (fun q => hb q.2)
    rw [a0, a1, a2]
    exact (Or.inr (Or.inr (Or.inr (Or.inr (Or.inr (Or.inr (Or.inr (Or.inr (Or.inr (Or.inr (Or.inl ⟨h0, h1, own_or_l hb, rfl, rfl⟩)))))))))))
  by_cases h2 : x2 = 0
  · have a0 : own_pu 0 x0 0 (1, (.int 2 :: zI47)) = (2, (.int 2 :: zI47)) := if_pos ⟨h0, rfl⟩
    have a1 : own_pu 1 x1 0 (2, (.int 2 :: zI47)) = (3, (.int 2 :: .int 0 :: .int 1 :: zI45)) := if_pos ⟨h1, rfl⟩
    have a2 : own_pu 2 x2 bb (3, (.int 2 :: .int 0 :: .int 1 :: zI45)) = (3, (.int 2 :: .int 0 :: .int 1 :: zI45)) := if_neg (fun q => q.1 h2)
    rw [a0, a1, a2]
    exact (Or.inr (Or.inr (Or.inr (Or.inr (Or.inr (Or.inr (Or.inr (Or.inr (Or.inr (Or.inr (Or.inr (Or.inr ⟨h0, h1, own_or_l hb, rfl, rfl⟩))))))))))))
  have a0 : own_pu 0 x0 0 (1, (.int 2 :: zI47)) = (2, (.int 2 :: zI47)) := if_pos ⟨h0, rfl⟩
  have a1 : own_pu 1 x1 0 (2, (.int 2 :: zI47)) = (3, (.int 2 :: .int 0 :: .int 1 :: zI45)) := if_pos ⟨h1, rfl⟩
  have a2 : own_pu 2 x2 bb (3, (.int 2 :: .int 0 :: .int 1 :: zI45)) = (3, (.int 2 :: .int 0 :: .int 1 :: zI45)) := if_neg (fun q => hb q.2)
  rw [a0, a1, a2]
  exact (Or.inr (Or.inr (Or.inr (Or.inr (Or.inr (Or.inr (Or.inr (Or.inr (Or.inr (Or.inr (Or.inr (Or.inr ⟨h0, h1, own_or_l hb, rfl, rfl⟩))))))))))))
theorem pf_1 : plainFor x = true := by first | exact plainFor_of_name (by first | (simp [plainName, overriddenIn]; done) | decide +kernel) | decide +kernel
theorem d5_0 : decode prog_21_method_11_code 0 = .ok (.aload_n 0, 1) := by decide +kernel
theorem d5_1 : decode prog_21_method_11_code 1 = .ok (.getfield 9, 3) := by decide +kernel
theorem d5_4 : decode prog_21_method_11_code 4 = .ok (.iload_n 1, 1) := by decide +kernel
theorem d5_5 : decode prog_21_method_11_code 5 = .ok (.laload, 1) := by decide +kernel
theorem d5_6 : decode prog_21_method_11_code 6 = .ok (.lreturn, 1) := by decide +kernel
theorem pf_2 : plainFor (⟨"com/example/detra/detra/SetWords", "word", "(I)J"⟩ : MethodName) = true := by first | exact plainFor_of_name (by first | (simp [plainName, overriddenIn]; done) | decide +kernel) | decide +kernel
def Qau699_5 (Z : State) (n0 : Nat) (h0 : Heap) (o0 : Addr) (o1 : Addr) (o2 : Addr) (j0 : Int64) (j1 : Int64) (j2 : Int64) (v : Option Value) (h' : Heap) : Prop := (v = some (.long j0)) ∧ (h0 = h')
theorem ef_au699_5 (m : MethodId) (o0 : Addr) : entryFrame m #[(.ref o0), (.int 0)] 2 = mkF m 0 #[rv o0, iv 0] [] := by first | (simp [entryFrame, mkF, argsToLocals, Value.category]; done) | rfl
set_option maxRecDepth 65536 in
set_option maxHeartbeats 40000000 in
theorem au699_5 (l : Launch) (Z : State) (a0 : Array Value) (hw : ∀ d ∈ tables_1, d.before a0 Z = true) (n0 : Nat) (h0 : Heap) (hn0 : n0 ≤ h0.size) (o0 : Addr) (o1 : Addr) (o2 : Addr) (j0 : Int64) (j1 : Int64) (j2 : Int64) (P0 : Exa Z h0 o0 kC0) (P1 : Fld Z h0 o0 kC0 "count" "I" (.int 0)) (P2 : Fld Z h0 o0 kC0 "held" "[I" (.ref o1)) (P3 : Fld Z h0 o0 kC0 "listing" "Z" (.int 0)) (P4 : Fld Z h0 o0 kC0 "words" "[J" (.ref o2)) (P5 : Av Z h0 o1 .int ([.int 0, .int 0, .int 0])) (P6 : Av Z h0 o2 .long ([.long j0, .long j1, .long j2])) (g_o0 : n0 ≤ o0) (g_o1 : n0 ≤ o1) (g_o2 : n0 ≤ o2) (ne_o0_o1 : o0 ≠ o1) (ne_o0_o2 : o0 ≠ o2) (ne_o1_o2 : o1 ≠ o2) :
    Con l Z n0 [] (⟨"com/example/detra/detra/SetWords", "word", "(I)J"⟩ : MethodName) prog_21_method_11_code 2 (some .long) ({ frames := 0, cells := 0, slots := 0, locals := 0 } : Room) #[(.ref o0), (.int 0)] h0 (Qau699_5 Z n0 h0 o0 o1 o2 j0 j1 j2) := by
  refine Con.of pf_2 (fun m => ef_au699_5 m o0) hn0 ?_
  intro p e s m below meth c C
  refine C.aloadN d5_0 rfl rfl rfl ?_
  refine C.getF d5_1 rfl (tw hw 12 rfl) P4 ?_
  refine C.iloadN d5_4 rfl rfl ?_
  refine C.laload (.long j0) d5_5 rfl P6 (by decide) rfl ?_
  exact C.retJ d5_6 (by decide) (by decide) ⟨rfl, rfl⟩
theorem pd_0 : parseMethodDescriptor "(I)J" = some ⟨[.int], some .long⟩ := by decide +kernel
def Qau704_5 (Z : State) (n0 : Nat) (h0 : Heap) (o0 : Addr) (o1 : Addr) (o2 : Addr) (j0 : Int64) (j1 : Int64) (j2 : Int64) (v : Option Value) (h' : Heap) : Prop := (v = some (.long j1)) ∧ (h0 = h')
theorem ef_au704_5 (m : MethodId) (o0 : Addr) : entryFrame m #[(.ref o0), (.int 1)] 2 = mkF m 0 #[rv o0, iv 1] [] := by first | (simp [entryFrame, mkF, argsToLocals, Value.category]; done) | rfl
set_option maxRecDepth 65536 in
set_option maxHeartbeats 40000000 in
theorem au704_5 (l : Launch) (Z : State) (a0 : Array Value) (hw : ∀ d ∈ tables_1, d.before a0 Z = true) (n0 : Nat) (h0 : Heap) (hn0 : n0 ≤ h0.size) (o0 : Addr) (o1 : Addr) (o2 : Addr) (j0 : Int64) (j1 : Int64) (j2 : Int64) (P0 : Exa Z h0 o0 kC0) (P1 : Fld Z h0 o0 kC0 "count" "I" (.int 0)) (P2 : Fld Z h0 o0 kC0 "held" "[I" (.ref o1)) (P3 : Fld Z h0 o0 kC0 "listing" "Z" (.int 0)) (P4 : Fld Z h0 o0 kC0 "words" "[J" (.ref o2)) (P5 : Av Z h0 o1 .int ([.int 0, .int 0, .int 0])) (P6 : Av Z h0 o2 .long ([.long j0, .long j1, .long j2])) (g_o0 : n0 ≤ o0) (g_o1 : n0 ≤ o1) (g_o2 : n0 ≤ o2) (ne_o0_o1 : o0 ≠ o1) (ne_o0_o2 : o0 ≠ o2) (ne_o1_o2 : o1 ≠ o2) :
    Con l Z n0 [] (⟨"com/example/detra/detra/SetWords", "word", "(I)J"⟩ : MethodName) prog_21_method_11_code 2 (some .long) ({ frames := 0, cells := 0, slots := 0, locals := 0 } : Room) #[(.ref o0), (.int 1)] h0 (Qau704_5 Z n0 h0 o0 o1 o2 j0 j1 j2) := by
  refine Con.of pf_2 (fun m => ef_au704_5 m o0) hn0 ?_
  intro p e s m below meth c C
  refine C.aloadN d5_0 rfl rfl rfl ?_
  refine C.getF d5_1 rfl (tw hw 12 rfl) P4 ?_
  refine C.iloadN d5_4 rfl rfl ?_
  refine C.laload (.long j1) d5_5 rfl P6 (by decide) rfl ?_
  exact C.retJ d5_6 (by decide) (by decide) ⟨rfl, rfl⟩
def Qau709_5 (Z : State) (n0 : Nat) (h0 : Heap) (o0 : Addr) (o1 : Addr) (o2 : Addr) (j0 : Int64) (j1 : Int64) (j2 : Int64) (v : Option Value) (h' : Heap) : Prop := (v = some (.long j2)) ∧ (h0 = h')
theorem ef_au709_5 (m : MethodId) (o0 : Addr) : entryFrame m #[(.ref o0), (.int 2)] 2 = mkF m 0 #[rv o0, iv 2] [] := by first | (simp [entryFrame, mkF, argsToLocals, Value.category]; done) | rfl
set_option maxRecDepth 65536 in
set_option maxHeartbeats 40000000 in
theorem au709_5 (l : Launch) (Z : State) (a0 : Array Value) (hw : ∀ d ∈ tables_1, d.before a0 Z = true) (n0 : Nat) (h0 : Heap) (hn0 : n0 ≤ h0.size) (o0 : Addr) (o1 : Addr) (o2 : Addr) (j0 : Int64) (j1 : Int64) (j2 : Int64) (P0 : Exa Z h0 o0 kC0) (P1 : Fld Z h0 o0 kC0 "count" "I" (.int 0)) (P2 : Fld Z h0 o0 kC0 "held" "[I" (.ref o1)) (P3 : Fld Z h0 o0 kC0 "listing" "Z" (.int 0)) (P4 : Fld Z h0 o0 kC0 "words" "[J" (.ref o2)) (P5 : Av Z h0 o1 .int ([.int 0, .int 0, .int 0])) (P6 : Av Z h0 o2 .long ([.long j0, .long j1, .long j2])) (g_o0 : n0 ≤ o0) (g_o1 : n0 ≤ o1) (g_o2 : n0 ≤ o2) (ne_o0_o1 : o0 ≠ o1) (ne_o0_o2 : o0 ≠ o2) (ne_o1_o2 : o1 ≠ o2) :
    Con l Z n0 [] (⟨"com/example/detra/detra/SetWords", "word", "(I)J"⟩ : MethodName) prog_21_method_11_code 2 (some .long) ({ frames := 0, cells := 0, slots := 0, locals := 0 } : Room) #[(.ref o0), (.int 2)] h0 (Qau709_5 Z n0 h0 o0 o1 o2 j0 j1 j2) := by
  refine Con.of pf_2 (fun m => ef_au709_5 m o0) hn0 ?_
  intro p e s m below meth c C
  refine C.aloadN d5_0 rfl rfl rfl ?_
  refine C.getF d5_1 rfl (tw hw 12 rfl) P4 ?_
  refine C.iloadN d5_4 rfl rfl ?_
  refine C.laload (.long j2) d5_5 rfl P6 (by decide) rfl ?_
  exact C.retJ d5_6 (by decide) (by decide) ⟨rfl, rfl⟩
theorem d6_0 : decode prog_21_method_7_code 0 = .ok (.aload_n 0, 1) := by decide +kernel
theorem d6_1 : decode prog_21_method_7_code 1 = .ok (.getfield 15, 3) := by decide +kernel
theorem d6_4 : decode prog_21_method_7_code 4 = .ok (.ifCond .eq 18, 3) := by decide +kernel
theorem d6_7 : decode prog_21_method_7_code 7 = .ok (.aload_n 0, 1) := by decide +kernel
theorem d6_8 : decode prog_21_method_7_code 8 = .ok (.getfield 23, 3) := by decide +kernel
theorem d6_11 : decode prog_21_method_7_code 11 = .ok (.aload_n 0, 1) := by decide +kernel
theorem d6_12 : decode prog_21_method_7_code 12 = .ok (.getfield 9, 3) := by decide +kernel
theorem d6_15 : decode prog_21_method_7_code 15 = .ok (.arraylength, 1) := by decide +kernel
theorem d6_16 : decode prog_21_method_7_code 16 = .ok (.bipush 16, 2) := by decide +kernel
theorem d6_18 : decode prog_21_method_7_code 18 = .ok (.idiv, 1) := by decide +kernel
theorem d6_19 : decode prog_21_method_7_code 19 = .ok (.if_icmp .le 56, 3) := by decide +kernel
theorem d6_22 : decode prog_21_method_7_code 22 = .ok (.aload_n 0, 1) := by decide +kernel
theorem d6_23 : decode prog_21_method_7_code 23 = .ok (.iconst 0, 1) := by decide +kernel
theorem d6_24 : decode prog_21_method_7_code 24 = .ok (.putfield 23, 3) := by decide +kernel
theorem d6_27 : decode prog_21_method_7_code 27 = .ok (.iconst 0, 1) := by decide +kernel
theorem d6_28 : decode prog_21_method_7_code 28 = .ok (.istore_n 1, 1) := by decide +kernel
theorem d6_29 : decode prog_21_method_7_code 29 = .ok (.iload_n 1, 1) := by decide +kernel
theorem d6_30 : decode prog_21_method_7_code 30 = .ok (.aload_n 0, 1) := by decide +kernel
theorem d6_31 : decode prog_21_method_7_code 31 = .ok (.getfield 9, 3) := by decide +kernel
theorem d6_34 : decode prog_21_method_7_code 34 = .ok (.arraylength, 1) := by decide +kernel
theorem d6_35 : decode prog_21_method_7_code 35 = .ok (.if_icmp .ge 37, 3) := by decide +kernel
theorem d6_38 : decode prog_21_method_7_code 38 = .ok (.aload_n 0, 1) := by decide +kernel
theorem d6_39 : decode prog_21_method_7_code 39 = .ok (.getfield 9, 3) := by decide +kernel
theorem d6_42 : decode prog_21_method_7_code 42 = .ok (.iload_n 1, 1) := by decide +kernel
theorem d6_43 : decode prog_21_method_7_code 43 = .ok (.laload, 1) := by decide +kernel
theorem d6_44 : decode prog_21_method_7_code 44 = .ok (.lconst 0, 1) := by decide +kernel
theorem d6_45 : decode prog_21_method_7_code 45 = .ok (.lcmp, 1) := by decide +kernel
theorem d6_46 : decode prog_21_method_7_code 46 = .ok (.ifCond .eq 20, 3) := by decide +kernel
theorem d6_49 : decode prog_21_method_7_code 49 = .ok (.aload_n 0, 1) := by decide +kernel
theorem d6_50 : decode prog_21_method_7_code 50 = .ok (.getfield 19, 3) := by decide +kernel
theorem d6_53 : decode prog_21_method_7_code 53 = .ok (.aload_n 0, 1) := by decide +kernel
theorem d6_54 : decode prog_21_method_7_code 54 = .ok (.dup, 1) := by decide +kernel
theorem d6_55 : decode prog_21_method_7_code 55 = .ok (.getfield 23, 3) := by decide +kernel
theorem d6_58 : decode prog_21_method_7_code 58 = .ok (.dup_x1, 1) := by decide +kernel
theorem d6_59 : decode prog_21_method_7_code 59 = .ok (.iconst 1, 1) := by decide +kernel
theorem d6_60 : decode prog_21_method_7_code 60 = .ok (.iadd, 1) := by decide +kernel
theorem d6_61 : decode prog_21_method_7_code 61 = .ok (.putfield 23, 3) := by decide +kernel
theorem d6_64 : decode prog_21_method_7_code 64 = .ok (.iload_n 1, 1) := by decide +kernel
theorem d6_65 : decode prog_21_method_7_code 65 = .ok (.iastore, 1) := by decide +kernel
theorem d6_66 : decode prog_21_method_7_code 66 = .ok (.iinc 1 1, 3) := by decide +kernel
theorem d6_69 : decode prog_21_method_7_code 69 = .ok (.goto (-40), 3) := by decide +kernel
theorem d6_72 : decode prog_21_method_7_code 72 = .ok (.goto 15, 3) := by decide +kernel
theorem d6_75 : decode prog_21_method_7_code 75 = .ok (.aload_n 0, 1) := by decide +kernel
theorem d6_76 : decode prog_21_method_7_code 76 = .ok (.getfield 19, 3) := by decide +kernel
theorem d6_79 : decode prog_21_method_7_code 79 = .ok (.iconst 0, 1) := by decide +kernel
theorem d6_80 : decode prog_21_method_7_code 80 = .ok (.aload_n 0, 1) := by decide +kernel
theorem d6_81 : decode prog_21_method_7_code 81 = .ok (.getfield 23, 3) := by decide +kernel
theorem d6_84 : decode prog_21_method_7_code 84 = .ok (.invokestatic 49, 3) := by decide +kernel
theorem d6_87 : decode prog_21_method_7_code 87 = .ok (.return_, 1) := by decide +kernel
theorem pf_3 : plainFor (⟨"com/example/detra/detra/SetWords", "listHeld", "()V"⟩ : MethodName) = true := by first | exact plainFor_of_name (by first | (simp [plainName, overriddenIn]; done) | decide +kernel) | decide +kernel
def Qau777_6 (Z : State) (n0 : Nat) (h0 : Heap) (o0 : Addr) (o1 : Addr) (o2 : Addr) (j0 : Int64) (j1 : Int64) (j2 : Int64) (v : Option Value) (h' : Heap) : Prop := (v = none) ∧ (Keep h0 h' [o0]) ∧ (Fld Z h' o0 kC0 "count" "I" (.int 0)) ∧ (Fld Z h' o0 kC0 "held" "[I" (.ref o1)) ∧ (Fld Z h' o0 kC0 "listing" "Z" (.int 0)) ∧ (Fld Z h' o0 kC0 "words" "[J" (.ref o2))
theorem ef_au777_6 (m : MethodId) (o0 : Addr) : entryFrame m #[(.ref o0)] 2 = mkF m 0 #[rv o0, .unset] [] := by first | (simp [entryFrame, mkF, argsToLocals, Value.category]; done) | rfl
set_option maxRecDepth 65536 in
set_option maxHeartbeats 40000000 in
theorem au777_6 (l : Launch) (Z : State) (a0 : Array Value) (hw : ∀ d ∈ tables_1, d.before a0 Z = true) (n0 : Nat) (h0 : Heap) (hn0 : n0 ≤ h0.size) (o0 : Addr) (o1 : Addr) (o2 : Addr) (j0 : Int64) (j1 : Int64) (j2 : Int64) (P0 : Exa Z h0 o0 kC0) (P1 : Fld Z h0 o0 kC0 "count" "I" (.int 0)) (P2 : Fld Z h0 o0 kC0 "held" "[I" (.ref o1)) (P3 : Fld Z h0 o0 kC0 "listing" "Z" (.int 0)) (P4 : Fld Z h0 o0 kC0 "words" "[J" (.ref o2)) (P5 : Av Z h0 o1 .int ([.int 0, .int 0, .int 0])) (P6 : Av Z h0 o2 .long ([.long j0, .long j1, .long j2])) (g_o0 : n0 ≤ o0) (g_o1 : n0 ≤ o1) (g_o2 : n0 ≤ o2) (ne_o0_o1 : o0 ≠ o1) (ne_o0_o2 : o0 ≠ o2) (ne_o1_o2 : o1 ≠ o2) (kq0 : (j0 = (0 : Int64))) (kq1 : (j1 = (0 : Int64))) (kq2 : (j2 = (0 : Int64))) :
    Con l Z n0 [] (⟨"com/example/detra/detra/SetWords", "listHeld", "()V"⟩ : MethodName) prog_21_method_7_code 2 none ({ frames := 0, cells := 0, slots := 0, locals := 0 } : Room) #[(.ref o0)] h0 (Qau777_6 Z n0 h0 o0 o1 o2 j0 j1 j2) := by
  refine Con.of pf_3 (fun m => ef_au777_6 m o0) hn0 ?_
  intro p e s m below meth c C
  refine C.aloadN d6_0 rfl rfl rfl ?_
  refine C.getF d6_1 rfl (tw hw 14 rfl) P3 ?_
  refine C.if_eq_t d6_4 (by decide) rfl (by decide) ?_
  refine C.aloadN d6_22 rfl rfl rfl ?_
  refine C.iconst 0 d6_23 rfl rfl ?_
  refine C.putF d6_24 rfl (tw hw 38 rfl) P1 P0 (Or.inl (tw hw 39 rfl)) (tw hw 4 rfl) (ty := .int) (by decide) rfl rfl g_o0 (fun h796 W797 F798 => ?_)
  have F799 := Exa.wr W797 P0
  have F800 := Fld.other W797 P2 (Or.inr (slot_ne (C := kC0) (t := (.array .int)) (t' := .int) (Or.inr (tw hw 18 rfl)) (Or.inl (tw hw 39 rfl)) (by decide) (by decide) (by decide)))
  have F801 := Fld.other W797 P3 (Or.inr (slot_ne (C := kC0) (t := .boolean) (t' := .int) (Or.inr (tw hw 15 rfl)) (Or.inl (tw hw 39 rfl)) (by decide) (by decide) (by decide)))
  have F802 := Fld.other W797 P4 (Or.inr (slot_ne (C := kC0) (t := (.array .long)) (t' := .int) (Or.inr (tw hw 13 rfl)) (Or.inl (tw hw 39 rfl)) (by decide) (by decide) (by decide)))
  have F803 := P5.other W797 (Ne.symm ne_o0_o1)
  have F804 := P6.other W797 (Ne.symm ne_o0_o2)
  refine C.iconst 0 d6_27 rfl rfl ?_
  refine C.istoreN (Ls' := #[rv o0, iv 0]) d6_28 rfl rfl ?_
  refine C.iloadN d6_29 rfl rfl ?_
  refine C.aloadN d6_30 rfl rfl rfl ?_
  refine C.getF d6_31 rfl (tw hw 12 rfl) F802 ?_
  refine C.alen d6_34 rfl F804 ?_
  refine Go.cI (y := 3) rfl ?_
  refine C.icmp_ge_f d6_35 rfl (by decide) ?_
  refine C.aloadN d6_38 rfl rfl rfl ?_
  refine C.getF d6_39 rfl (tw hw 12 rfl) F802 ?_
  refine C.iloadN d6_42 rfl rfl ?_
  refine C.laload (.long j0) d6_43 rfl F804 (by decide) rfl ?_
  rw [kq0]
  refine C.lconst 0 d6_44 rfl rfl ?_
  refine C.lcmp d6_45 rfl ?_
  refine C.lif_eq_t d6_46 (by decide) rfl (by decide) ?_
  refine C.iinc (Ls' := #[rv o0, iv 1]) 1 d6_66 rfl rfl rfl rfl ?_
  refine C.goto d6_69 (by decide) rfl ?_
  refine C.iloadN d6_29 rfl rfl ?_
  refine C.aloadN d6_30 rfl rfl rfl ?_
  refine C.getF d6_31 rfl (tw hw 12 rfl) F802 ?_
  refine C.alen d6_34 rfl F804 ?_
  refine Go.cI (y := 3) rfl ?_
  refine C.icmp_ge_f d6_35 rfl (by decide) ?_
  refine C.aloadN d6_38 rfl rfl rfl ?_
  refine C.getF d6_39 rfl (tw hw 12 rfl) F802 ?_
  refine C.iloadN d6_42 rfl rfl ?_
  refine C.laload (.long j1) d6_43 rfl F804 (by decide) rfl ?_
  rw [kq1]
  refine C.lconst 0 d6_44 rfl rfl ?_
  refine C.lcmp d6_45 rfl ?_
  refine C.lif_eq_t d6_46 (by decide) rfl (by decide) ?_
  refine C.iinc (Ls' := #[rv o0, iv 2]) 1 d6_66 rfl rfl rfl rfl ?_
  refine C.goto d6_69 (by decide) rfl ?_
  refine C.iloadN d6_29 rfl rfl ?_
  refine C.aloadN d6_30 rfl rfl rfl ?_
  refine C.getF d6_31 rfl (tw hw 12 rfl) F802 ?_
  refine C.alen d6_34 rfl F804 ?_
  refine Go.cI (y := 3) rfl ?_
  refine C.icmp_ge_f d6_35 rfl (by decide) ?_
  refine C.aloadN d6_38 rfl rfl rfl ?_
  refine C.getF d6_39 rfl (tw hw 12 rfl) F802 ?_
  refine C.iloadN d6_42 rfl rfl ?_
  refine C.laload (.long j2) d6_43 rfl F804 (by decide) rfl ?_
  rw [kq2]
  refine C.lconst 0 d6_44 rfl rfl ?_
  refine C.lcmp d6_45 rfl ?_
  refine C.lif_eq_t d6_46 (by decide) rfl (by decide) ?_
  refine C.iinc (Ls' := #[rv o0, iv 3]) 1 d6_66 rfl rfl rfl rfl ?_
  refine C.goto d6_69 (by decide) rfl ?_
  refine C.iloadN d6_29 rfl rfl ?_
  refine C.aloadN d6_30 rfl rfl rfl ?_
  refine C.getF d6_31 rfl (tw hw 12 rfl) F802 ?_
  refine C.alen d6_34 rfl F804 ?_
  refine Go.cI (y := 3) rfl ?_
  refine C.icmp_ge_t d6_35 (by decide) rfl (by decide) ?_
  refine C.goto d6_72 (by decide) rfl ?_
  exact C.ret0 d6_87 (by decide) (by decide) ⟨rfl, ((Keep.refl h0 [o0]).wr W797 (Or.inl (List.mem_of_getElem? (i := 0) rfl))), F798, F800, F801, F802⟩
theorem pd_1 : parseMethodDescriptor "()V" = some ⟨[], none⟩ := by decide +kernel
theorem d12_0 : decode prog_21_method_9_code 0 = .ok (.aload_n 0, 1) := by decide +kernel
theorem d12_1 : decode prog_21_method_9_code 1 = .ok (.getfield 23, 3) := by decide +kernel
theorem d12_4 : decode prog_21_method_9_code 4 = .ok (.ireturn, 1) := by decide +kernel
theorem pf_4 : plainFor (⟨"com/example/detra/detra/SetWords", "heldCount", "()I"⟩ : MethodName) = true := by first | exact plainFor_of_name (by first | (simp [plainName, overriddenIn]; done) | decide +kernel) | decide +kernel
def Qau837_12 (Z : State) (n0 : Nat) (h0 : Heap) (o0 : Addr) (o1 : Addr) (o2 : Addr) (j0 : Int64) (j1 : Int64) (j2 : Int64) (v : Option Value) (h' : Heap) : Prop := (v = some (.int 0)) ∧ (h0 = h')
theorem ef_au837_12 (m : MethodId) (o0 : Addr) : entryFrame m #[(.ref o0)] 1 = mkF m 0 #[rv o0] [] := by first | (simp [entryFrame, mkF, argsToLocals, Value.category]; done) | rfl
set_option maxRecDepth 65536 in
set_option maxHeartbeats 40000000 in
theorem au837_12 (l : Launch) (Z : State) (a0 : Array Value) (hw : ∀ d ∈ tables_1, d.before a0 Z = true) (n0 : Nat) (h0 : Heap) (hn0 : n0 ≤ h0.size) (o0 : Addr) (o1 : Addr) (o2 : Addr) (j0 : Int64) (j1 : Int64) (j2 : Int64) (P0 : Exa Z h0 o0 kC0) (P1 : Fld Z h0 o0 kC0 "count" "I" (.int 0)) (P2 : Fld Z h0 o0 kC0 "held" "[I" (.ref o1)) (P3 : Fld Z h0 o0 kC0 "listing" "Z" (.int 0)) (P4 : Fld Z h0 o0 kC0 "words" "[J" (.ref o2)) (P5 : Av Z h0 o1 .int ([.int 0, .int 0, .int 0])) (P6 : Av Z h0 o2 .long ([.long j0, .long j1, .long j2])) (g_o0 : n0 ≤ o0) (g_o1 : n0 ≤ o1) (g_o2 : n0 ≤ o2) (ne_o0_o1 : o0 ≠ o1) (ne_o0_o2 : o0 ≠ o2) (ne_o1_o2 : o1 ≠ o2) :
    Con l Z n0 [] (⟨"com/example/detra/detra/SetWords", "heldCount", "()I"⟩ : MethodName) prog_21_method_9_code 1 (some .int) ({ frames := 0, cells := 0, slots := 0, locals := 0 } : Room) #[(.ref o0)] h0 (Qau837_12 Z n0 h0 o0 o1 o2 j0 j1 j2) := by
  refine Con.of pf_4 (fun m => ef_au837_12 m o0) hn0 ?_
  intro p e s m below meth c C
  refine C.aloadN d12_0 rfl rfl rfl ?_
  refine C.getF d12_1 rfl (tw hw 38 rfl) P1 ?_
  exact C.retI d12_4 (by decide) (by decide) ⟨rfl, rfl⟩
theorem pd_2 : parseMethodDescriptor "()I" = some ⟨[], some .int⟩ := by decide +kernel
def Qau842_6 (Z : State) (n0 : Nat) (h0 : Heap) (o0 : Addr) (o1 : Addr) (o2 : Addr) (j0 : Int64) (j1 : Int64) (j2 : Int64) (v : Option Value) (h' : Heap) : Prop := (v = none) ∧ (Keep h0 h' [o0, o1]) ∧ (Fld Z h' o0 kC0 "count" "I" (.int 1)) ∧ (Fld Z h' o0 kC0 "held" "[I" (.ref o1)) ∧ (Fld Z h' o0 kC0 "listing" "Z" (.int 0)) ∧ (Fld Z h' o0 kC0 "words" "[J" (.ref o2)) ∧ (Av Z h' o1 .int ([.int 2, .int 0, .int 0]))
theorem ef_au842_6 (m : MethodId) (o0 : Addr) : entryFrame m #[(.ref o0)] 2 = mkF m 0 #[rv o0, .unset] [] := by first | (simp [entryFrame, mkF, argsToLocals, Value.category]; done) | rfl
set_option maxRecDepth 65536 in
set_option maxHeartbeats 40000000 in
theorem au842_6 (l : Launch) (Z : State) (a0 : Array Value) (hw : ∀ d ∈ tables_1, d.before a0 Z = true) (n0 : Nat) (h0 : Heap) (hn0 : n0 ≤ h0.size) (o0 : Addr) (o1 : Addr) (o2 : Addr) (j0 : Int64) (j1 : Int64) (j2 : Int64) (P0 : Exa Z h0 o0 kC0) (P1 : Fld Z h0 o0 kC0 "count" "I" (.int 0)) (P2 : Fld Z h0 o0 kC0 "held" "[I" (.ref o1)) (P3 : Fld Z h0 o0 kC0 "listing" "Z" (.int 0)) (P4 : Fld Z h0 o0 kC0 "words" "[J" (.ref o2)) (P5 : Av Z h0 o1 .int ([.int 0, .int 0, .int 0])) (P6 : Av Z h0 o2 .long ([.long j0, .long j1, .long j2])) (g_o0 : n0 ≤ o0) (g_o1 : n0 ≤ o1) (g_o2 : n0 ≤ o2) (ne_o0_o1 : o0 ≠ o1) (ne_o0_o2 : o0 ≠ o2) (ne_o1_o2 : o1 ≠ o2) (kq0 : (j0 = (0 : Int64))) (kq1 : (j1 = (0 : Int64))) (kq2 : ¬ (j2 = (0 : Int64))) :
    Con l Z n0 [] (⟨"com/example/detra/detra/SetWords", "listHeld", "()V"⟩ : MethodName) prog_21_method_7_code 2 none ({ frames := 0, cells := 0, slots := 0, locals := 0 } : Room) #[(.ref o0)] h0 (Qau842_6 Z n0 h0 o0 o1 o2 j0 j1 j2) := by
  refine Con.of pf_3 (fun m => ef_au842_6 m o0) hn0 ?_
  intro p e s m below meth c C
  refine C.aloadN d6_0 rfl rfl rfl ?_
  refine C.getF d6_1 rfl (tw hw 14 rfl) P3 ?_
  refine C.if_eq_t d6_4 (by decide) rfl (by decide) ?_
  refine C.aloadN d6_22 rfl rfl rfl ?_
  refine C.iconst 0 d6_23 rfl rfl ?_
  refine C.putF d6_24 rfl (tw hw 38 rfl) P1 P0 (Or.inl (tw hw 39 rfl)) (tw hw 4 rfl) (ty := .int) (by decide) rfl rfl g_o0 (fun h899 W900 F901 => ?_)
  have F902 := Exa.wr W900 P0
  have F903 := Fld.other W900 P2 (Or.inr (slot_ne (C := kC0) (t := (.array .int)) (t' := .int) (Or.inr (tw hw 18 rfl)) (Or.inl (tw hw 39 rfl)) (by decide) (by decide) (by decide)))
  have F904 := Fld.other W900 P3 (Or.inr (slot_ne (C := kC0) (t := .boolean) (t' := .int) (Or.inr (tw hw 15 rfl)) (Or.inl (tw hw 39 rfl)) (by decide) (by decide) (by decide)))
  have F905 := Fld.other W900 P4 (Or.inr (slot_ne (C := kC0) (t := (.array .long)) (t' := .int) (Or.inr (tw hw 13 rfl)) (Or.inl (tw hw 39 rfl)) (by decide) (by decide) (by decide)))
  have F906 := P5.other W900 (Ne.symm ne_o0_o1)
  have F907 := P6.other W900 (Ne.symm ne_o0_o2)
  refine C.iconst 0 d6_27 rfl rfl ?_
  refine C.istoreN (Ls' := #[rv o0, iv 0]) d6_28 rfl rfl ?_
  refine C.iloadN d6_29 rfl rfl ?_
  refine C.aloadN d6_30 rfl rfl rfl ?_
  refine C.getF d6_31 rfl (tw hw 12 rfl) F905 ?_
  refine C.alen d6_34 rfl F907 ?_
  refine Go.cI (y := 3) rfl ?_
  refine C.icmp_ge_f d6_35 rfl (by decide) ?_
  refine C.aloadN d6_38 rfl rfl rfl ?_
  refine C.getF d6_39 rfl (tw hw 12 rfl) F905 ?_
  refine C.iloadN d6_42 rfl rfl ?_
  refine C.laload (.long j0) d6_43 rfl F907 (by decide) rfl ?_
  rw [kq0]
  refine C.lconst 0 d6_44 rfl rfl ?_
  refine C.lcmp d6_45 rfl ?_
  refine C.lif_eq_t d6_46 (by decide) rfl (by decide) ?_
  refine C.iinc (Ls' := #[rv o0, iv 1]) 1 d6_66 rfl rfl rfl rfl ?_
  refine C.goto d6_69 (by decide) rfl ?_
  refine C.iloadN d6_29 rfl rfl ?_
  refine C.aloadN d6_30 rfl rfl rfl ?_
  refine C.getF d6_31 rfl (tw hw 12 rfl) F905 ?_
  refine C.alen d6_34 rfl F907 ?_
  refine Go.cI (y := 3) rfl ?_
  refine C.icmp_ge_f d6_35 rfl (by decide) ?_
  refine C.aloadN d6_38 rfl rfl rfl ?_
  refine C.getF d6_39 rfl (tw hw 12 rfl) F905 ?_
  refine C.iloadN d6_42 rfl rfl ?_
  refine C.laload (.long j1) d6_43 rfl F907 (by decide) rfl ?_
  rw [kq1]
  refine C.lconst 0 d6_44 rfl rfl ?_
  refine C.lcmp d6_45 rfl ?_
  refine C.lif_eq_t d6_46 (by decide) rfl (by decide) ?_
  refine C.iinc (Ls' := #[rv o0, iv 2]) 1 d6_66 rfl rfl rfl rfl ?_
  refine C.goto d6_69 (by decide) rfl ?_
  refine C.iloadN d6_29 rfl rfl ?_
  refine C.aloadN d6_30 rfl rfl rfl ?_
  refine C.getF d6_31 rfl (tw hw 12 rfl) F905 ?_
  refine C.alen d6_34 rfl F907 ?_
  refine Go.cI (y := 3) rfl ?_
  refine C.icmp_ge_f d6_35 rfl (by decide) ?_
  refine C.aloadN d6_38 rfl rfl rfl ?_
  refine C.getF d6_39 rfl (tw hw 12 rfl) F905 ?_
  refine C.iloadN d6_42 rfl rfl ?_
  refine C.laload (.long j2) d6_43 rfl F907 (by decide) rfl ?_
  refine C.lconst 0 d6_44 rfl rfl ?_
  refine C.lcmp d6_45 rfl ?_
  refine C.lif_eq_f d6_46 rfl kq2 ?_
  refine C.aloadN d6_49 rfl rfl rfl ?_
  refine C.getF d6_50 rfl (tw hw 17 rfl) F903 ?_
  refine C.aloadN d6_53 rfl rfl rfl ?_
  refine C.dup d6_54 rfl rfl ?_
  refine C.getF d6_55 rfl (tw hw 38 rfl) F901 ?_
  refine C.dupX1 d6_58 rfl rfl rfl ?_
  refine C.iconst 1 d6_59 rfl rfl ?_
  refine C.iadd d6_60 rfl ?_
  refine Go.cI (y := 1) rfl ?_
  refine C.putF d6_61 rfl (tw hw 38 rfl) F901 F902 (Or.inl (tw hw 39 rfl)) (tw hw 4 rfl) (ty := .int) (by decide) rfl rfl g_o0 (fun h908 W909 F910 => ?_)
  have F911 := Exa.wr W909 F902
  have F912 := Fld.other W909 F903 (Or.inr (slot_ne (C := kC0) (t := (.array .int)) (t' := .int) (Or.inr (tw hw 18 rfl)) (Or.inl (tw hw 39 rfl)) (by decide) (by decide) (by decide)))
  have F913 := Fld.other W909 F904 (Or.inr (slot_ne (C := kC0) (t := .boolean) (t' := .int) (Or.inr (tw hw 15 rfl)) (Or.inl (tw hw 39 rfl)) (by decide) (by decide) (by decide)))
  have F914 := Fld.other W909 F905 (Or.inr (slot_ne (C := kC0) (t := (.array .long)) (t' := .int) (Or.inr (tw hw 13 rfl)) (Or.inl (tw hw 39 rfl)) (by decide) (by decide) (by decide)))
  have F915 := F906.other W909 (Ne.symm ne_o0_o1)
  have F916 := F907.other W909 (Ne.symm ne_o0_o2)
  refine C.iloadN d6_64 rfl rfl ?_
  refine C.iastore d6_65 rfl F915 g_o1 (by decide) (Nat.le_of_ble_eq_true rfl) (fun h917 W918 F919 => ?_)
  have F920 := Exa.wr W918 F911
  have F921 := Fld.other W918 F912 (Or.inl ne_o0_o1)
  have F922 := Fld.other W918 F913 (Or.inl ne_o0_o1)
  have F923 := Fld.other W918 F914 (Or.inl ne_o0_o1)
  have F924 := F916.other W918 (Ne.symm ne_o1_o2)
  have F925 := Fld.other W918 F910 (Or.inl ne_o0_o1)
  have F926 : Av Z h917 o1 .int ([.int 2, .int 0, .int 0]) := F919
  refine C.iinc (Ls' := #[rv o0, iv 3]) 1 d6_66 rfl rfl rfl rfl ?_
  refine C.goto d6_69 (by decide) rfl ?_
  refine C.iloadN d6_29 rfl rfl ?_
  refine C.aloadN d6_30 rfl rfl rfl ?_
  refine C.getF d6_31 rfl (tw hw 12 rfl) F923 ?_
  refine C.alen d6_34 rfl F924 ?_
  refine Go.cI (y := 3) rfl ?_
  refine C.icmp_ge_t d6_35 (by decide) rfl (by decide) ?_
  refine C.goto d6_72 (by decide) rfl ?_
  exact C.ret0 d6_87 (by decide) (by decide) ⟨rfl, ((((Keep.refl h0 [o0, o1]).wr W900 (Or.inl (List.mem_of_getElem? (i := 0) rfl))).wr W909 (Or.inl (List.mem_of_getElem? (i := 0) rfl))).wr W918 (Or.inl (List.mem_of_getElem? (i := 1) rfl))), F925, F921, F922, F923, F926⟩
def Qau971_12 (Z : State) (n0 : Nat) (h0 : Heap) (o0 : Addr) (o1 : Addr) (o2 : Addr) (j0 : Int64) (j1 : Int64) (j2 : Int64) (v : Option Value) (h' : Heap) : Prop := (v = some (.int 1)) ∧ (h0 = h')
theorem ef_au971_12 (m : MethodId) (o0 : Addr) : entryFrame m #[(.ref o0)] 1 = mkF m 0 #[rv o0] [] := by first | (simp [entryFrame, mkF, argsToLocals, Value.category]; done) | rfl
set_option maxRecDepth 65536 in
set_option maxHeartbeats 40000000 in
theorem au971_12 (l : Launch) (Z : State) (a0 : Array Value) (hw : ∀ d ∈ tables_1, d.before a0 Z = true) (n0 : Nat) (h0 : Heap) (hn0 : n0 ≤ h0.size) (o0 : Addr) (o1 : Addr) (o2 : Addr) (j0 : Int64) (j1 : Int64) (j2 : Int64) (P0 : Exa Z h0 o0 kC0) (P1 : Fld Z h0 o0 kC0 "count" "I" (.int 1)) (P2 : Fld Z h0 o0 kC0 "held" "[I" (.ref o1)) (P3 : Fld Z h0 o0 kC0 "listing" "Z" (.int 0)) (P4 : Fld Z h0 o0 kC0 "words" "[J" (.ref o2)) (P5 : Av Z h0 o1 .int ([.int 2, .int 0, .int 0])) (P6 : Av Z h0 o2 .long ([.long j0, .long j1, .long j2])) (g_o0 : n0 ≤ o0) (g_o1 : n0 ≤ o1) (g_o2 : n0 ≤ o2) (ne_o0_o1 : o0 ≠ o1) (ne_o0_o2 : o0 ≠ o2) (ne_o1_o2 : o1 ≠ o2) :
    Con l Z n0 [] (⟨"com/example/detra/detra/SetWords", "heldCount", "()I"⟩ : MethodName) prog_21_method_9_code 1 (some .int) ({ frames := 0, cells := 0, slots := 0, locals := 0 } : Room) #[(.ref o0)] h0 (Qau971_12 Z n0 h0 o0 o1 o2 j0 j1 j2) := by
  refine Con.of pf_4 (fun m => ef_au971_12 m o0) hn0 ?_
  intro p e s m below meth c C
  refine C.aloadN d12_0 rfl rfl rfl ?_
  refine C.getF d12_1 rfl (tw hw 38 rfl) P1 ?_
  exact C.retI d12_4 (by decide) (by decide) ⟨rfl, rfl⟩
theorem d13_0 : decode prog_21_method_10_code 0 = .ok (.aload_n 0, 1) := by decide +kernel
theorem d13_1 : decode prog_21_method_10_code 1 = .ok (.getfield 19, 3) := by decide +kernel
theorem d13_4 : decode prog_21_method_10_code 4 = .ok (.iload_n 1, 1) := by decide +kernel
theorem d13_5 : decode prog_21_method_10_code 5 = .ok (.iaload, 1) := by decide +kernel
theorem d13_6 : decode prog_21_method_10_code 6 = .ok (.ireturn, 1) := by decide +kernel
theorem pf_5 : plainFor (⟨"com/example/detra/detra/SetWords", "heldIndex", "(I)I"⟩ : MethodName) = true := by first | exact plainFor_of_name (by first | (simp [plainName, overriddenIn]; done) | decide +kernel) | decide +kernel
def Qau976_13 (Z : State) (n0 : Nat) (h0 : Heap) (o0 : Addr) (o1 : Addr) (o2 : Addr) (j0 : Int64) (j1 : Int64) (j2 : Int64) (v : Option Value) (h' : Heap) : Prop := (v = some (.int 2)) ∧ (h0 = h')
theorem ef_au976_13 (m : MethodId) (o0 : Addr) : entryFrame m #[(.ref o0), (.int 0)] 2 = mkF m 0 #[rv o0, iv 0] [] := by first | (simp [entryFrame, mkF, argsToLocals, Value.category]; done) | rfl
set_option maxRecDepth 65536 in
set_option maxHeartbeats 40000000 in
theorem au976_13 (l : Launch) (Z : State) (a0 : Array Value) (hw : ∀ d ∈ tables_1, d.before a0 Z = true) (n0 : Nat) (h0 : Heap) (hn0 : n0 ≤ h0.size) (o0 : Addr) (o1 : Addr) (o2 : Addr) (j0 : Int64) (j1 : Int64) (j2 : Int64) (P0 : Exa Z h0 o0 kC0) (P1 : Fld Z h0 o0 kC0 "count" "I" (.int 1)) (P2 : Fld Z h0 o0 kC0 "held" "[I" (.ref o1)) (P3 : Fld Z h0 o0 kC0 "listing" "Z" (.int 0)) (P4 : Fld Z h0 o0 kC0 "words" "[J" (.ref o2)) (P5 : Av Z h0 o1 .int ([.int 2, .int 0, .int 0])) (P6 : Av Z h0 o2 .long ([.long j0, .long j1, .long j2])) (g_o0 : n0 ≤ o0) (g_o1 : n0 ≤ o1) (g_o2 : n0 ≤ o2) (ne_o0_o1 : o0 ≠ o1) (ne_o0_o2 : o0 ≠ o2) (ne_o1_o2 : o1 ≠ o2) :
    Con l Z n0 [] (⟨"com/example/detra/detra/SetWords", "heldIndex", "(I)I"⟩ : MethodName) prog_21_method_10_code 2 (some .int) ({ frames := 0, cells := 0, slots := 0, locals := 0 } : Room) #[(.ref o0), (.int 0)] h0 (Qau976_13 Z n0 h0 o0 o1 o2 j0 j1 j2) := by
  refine Con.of pf_5 (fun m => ef_au976_13 m o0) hn0 ?_
  intro p e s m below meth c C
  refine C.aloadN d13_0 rfl rfl rfl ?_
  refine C.getF d13_1 rfl (tw hw 17 rfl) P2 ?_
  refine C.iloadN d13_4 rfl rfl ?_
  refine C.iaload (.int 2) d13_5 rfl P5 (by decide) rfl ?_
  exact C.retI d13_6 (by decide) (by decide) ⟨rfl, rfl⟩
theorem pd_3 : parseMethodDescriptor "(I)I" = some ⟨[.int], some .int⟩ := by decide +kernel
def Qau1011_6 (Z : State) (n0 : Nat) (h0 : Heap) (o0 : Addr) (o1 : Addr) (o2 : Addr) (j0 : Int64) (j1 : Int64) (j2 : Int64) (v : Option Value) (h' : Heap) : Prop := (v = none) ∧ (Keep h0 h' [o0, o1]) ∧ (Fld Z h' o0 kC0 "count" "I" (.int 1)) ∧ (Fld Z h' o0 kC0 "held" "[I" (.ref o1)) ∧ (Fld Z h' o0 kC0 "listing" "Z" (.int 0)) ∧ (Fld Z h' o0 kC0 "words" "[J" (.ref o2)) ∧ (Av Z h' o1 .int ([.int 1, .int 0, .int 0]))
theorem ef_au1011_6 (m : MethodId) (o0 : Addr) : entryFrame m #[(.ref o0)] 2 = mkF m 0 #[rv o0, .unset] [] := by first | (simp [entryFrame, mkF, argsToLocals, Value.category]; done) | rfl
set_option maxRecDepth 65536 in
set_option maxHeartbeats 40000000 in
theorem au1011_6 (l : Launch) (Z : State) (a0 : Array Value) (hw : ∀ d ∈ tables_1, d.before a0 Z = true) (n0 : Nat) (h0 : Heap) (hn0 : n0 ≤ h0.size) (o0 : Addr) (o1 : Addr) (o2 : Addr) (j0 : Int64) (j1 : Int64) (j2 : Int64) (P0 : Exa Z h0 o0 kC0) (P1 : Fld Z h0 o0 kC0 "count" "I" (.int 0)) (P2 : Fld Z h0 o0 kC0 "held" "[I" (.ref o1)) (P3 : Fld Z h0 o0 kC0 "listing" "Z" (.int 0)) (P4 : Fld Z h0 o0 kC0 "words" "[J" (.ref o2)) (P5 : Av Z h0 o1 .int ([.int 0, .int 0, .int 0])) (P6 : Av Z h0 o2 .long ([.long j0, .long j1, .long j2])) (g_o0 : n0 ≤ o0) (g_o1 : n0 ≤ o1) (g_o2 : n0 ≤ o2) (ne_o0_o1 : o0 ≠ o1) (ne_o0_o2 : o0 ≠ o2) (ne_o1_o2 : o1 ≠ o2) (kq0 : (j0 = (0 : Int64))) (kq1 : ¬ (j1 = (0 : Int64))) (kq2 : (j2 = (0 : Int64))) :
    Con l Z n0 [] (⟨"com/example/detra/detra/SetWords", "listHeld", "()V"⟩ : MethodName) prog_21_method_7_code 2 none ({ frames := 0, cells := 0, slots := 0, locals := 0 } : Room) #[(.ref o0)] h0 (Qau1011_6 Z n0 h0 o0 o1 o2 j0 j1 j2) := by
  refine Con.of pf_3 (fun m => ef_au1011_6 m o0) hn0 ?_
  intro p e s m below meth c C
  refine C.aloadN d6_0 rfl rfl rfl ?_
  refine C.getF d6_1 rfl (tw hw 14 rfl) P3 ?_
  refine C.if_eq_t d6_4 (by decide) rfl (by decide) ?_
  refine C.aloadN d6_22 rfl rfl rfl ?_
  refine C.iconst 0 d6_23 rfl rfl ?_
  refine C.putF d6_24 rfl (tw hw 38 rfl) P1 P0 (Or.inl (tw hw 39 rfl)) (tw hw 4 rfl) (ty := .int) (by decide) rfl rfl g_o0 (fun h1068 W1069 F1070 => ?_)
  have F1071 := Exa.wr W1069 P0
  have F1072 := Fld.other W1069 P2 (Or.inr (slot_ne (C := kC0) (t := (.array .int)) (t' := .int) (Or.inr (tw hw 18 rfl)) (Or.inl (tw hw 39 rfl)) (by decide) (by decide) (by decide)))
  have F1073 := Fld.other W1069 P3 (Or.inr (slot_ne (C := kC0) (t := .boolean) (t' := .int) (Or.inr (tw hw 15 rfl)) (Or.inl (tw hw 39 rfl)) (by decide) (by decide) (by decide)))
  have F1074 := Fld.other W1069 P4 (Or.inr (slot_ne (C := kC0) (t := (.array .long)) (t' := .int) (Or.inr (tw hw 13 rfl)) (Or.inl (tw hw 39 rfl)) (by decide) (by decide) (by decide)))
  have F1075 := P5.other W1069 (Ne.symm ne_o0_o1)
  have F1076 := P6.other W1069 (Ne.symm ne_o0_o2)
  refine C.iconst 0 d6_27 rfl rfl ?_
  refine C.istoreN (Ls' := #[rv o0, iv 0]) d6_28 rfl rfl ?_
  refine C.iloadN d6_29 rfl rfl ?_
  refine C.aloadN d6_30 rfl rfl rfl ?_
  refine C.getF d6_31 rfl (tw hw 12 rfl) F1074 ?_
  refine C.alen d6_34 rfl F1076 ?_
  refine Go.cI (y := 3) rfl ?_
  refine C.icmp_ge_f d6_35 rfl (by decide) ?_
  refine C.aloadN d6_38 rfl rfl rfl ?_
  refine C.getF d6_39 rfl (tw hw 12 rfl) F1074 ?_
  refine C.iloadN d6_42 rfl rfl ?_
  refine C.laload (.long j0) d6_43 rfl F1076 (by decide) rfl ?_
  rw [kq0]
  refine C.lconst 0 d6_44 rfl rfl ?_
  refine C.lcmp d6_45 rfl ?_
  refine C.lif_eq_t d6_46 (by decide) rfl (by decide) ?_
  refine C.iinc (Ls' := #[rv o0, iv 1]) 1 d6_66 rfl rfl rfl rfl ?_
  refine C.goto d6_69 (by decide) rfl ?_
  refine C.iloadN d6_29 rfl rfl ?_
  refine C.aloadN d6_30 rfl rfl rfl ?_
  refine C.getF d6_31 rfl (tw hw 12 rfl) F1074 ?_
  refine C.alen d6_34 rfl F1076 ?_
  refine Go.cI (y := 3) rfl ?_
  refine C.icmp_ge_f d6_35 rfl (by decide) ?_
  refine C.aloadN d6_38 rfl rfl rfl ?_
  refine C.getF d6_39 rfl (tw hw 12 rfl) F1074 ?_
  refine C.iloadN d6_42 rfl rfl ?_
  refine C.laload (.long j1) d6_43 rfl F1076 (by decide) rfl ?_
  refine C.lconst 0 d6_44 rfl rfl ?_
  refine C.lcmp d6_45 rfl ?_
  refine C.lif_eq_f d6_46 rfl kq1 ?_
  refine C.aloadN d6_49 rfl rfl rfl ?_
  refine C.getF d6_50 rfl (tw hw 17 rfl) F1072 ?_
  refine C.aloadN d6_53 rfl rfl rfl ?_
  refine C.dup d6_54 rfl rfl ?_
  refine C.getF d6_55 rfl (tw hw 38 rfl) F1070 ?_
  refine C.dupX1 d6_58 rfl rfl rfl ?_
  refine C.iconst 1 d6_59 rfl rfl ?_
  refine C.iadd d6_60 rfl ?_
  refine Go.cI (y := 1) rfl ?_
  refine C.putF d6_61 rfl (tw hw 38 rfl) F1070 F1071 (Or.inl (tw hw 39 rfl)) (tw hw 4 rfl) (ty := .int) (by decide) rfl rfl g_o0 (fun h1077 W1078 F1079 => ?_)
  have F1080 := Exa.wr W1078 F1071
  have F1081 := Fld.other W1078 F1072 (Or.inr (slot_ne (C := kC0) (t := (.array .int)) (t' := .int) (Or.inr (tw hw 18 rfl)) (Or.inl (tw hw 39 rfl)) (by decide) (by decide) (by decide)))
  have F1082 := Fld.other W1078 F1073 (Or.inr (slot_ne (C := kC0) (t := .boolean) (t' := .int) (Or.inr (tw hw 15 rfl)) (Or.inl (tw hw 39 rfl)) (by decide) (by decide) (by decide)))
  have F1083 := Fld.other W1078 F1074 (Or.inr (slot_ne (C := kC0) (t := (.array .long)) (t' := .int) (Or.inr (tw hw 13 rfl)) (Or.inl (tw hw 39 rfl)) (by decide) (by decide) (by decide)))
  have F1084 := F1075.other W1078 (Ne.symm ne_o0_o1)
  have F1085 := F1076.other W1078 (Ne.symm ne_o0_o2)
  refine C.iloadN d6_64 rfl rfl ?_
  refine C.iastore d6_65 rfl F1084 g_o1 (by decide) (Nat.le_of_ble_eq_true rfl) (fun h1086 W1087 F1088 => ?_)
  have F1089 := Exa.wr W1087 F1080
  have F1090 := Fld.other W1087 F1081 (Or.inl ne_o0_o1)
  have F1091 := Fld.other W1087 F1082 (Or.inl ne_o0_o1)
  have F1092 := Fld.other W1087 F1083 (Or.inl ne_o0_o1)
  have F1093 := F1085.other W1087 (Ne.symm ne_o1_o2)
  have F1094 := Fld.other W1087 F1079 (Or.inl ne_o0_o1)
  have F1095 : Av Z h1086 o1 .int ([.int 1, .int 0, .int 0]) := F1088
  refine C.iinc (Ls' := #[rv o0, iv 2]) 1 d6_66 rfl rfl rfl rfl ?_
  refine C.goto d6_69 (by decide) rfl ?_
  refine C.iloadN d6_29 rfl rfl ?_
  refine C.aloadN d6_30 rfl rfl rfl ?_
  refine C.getF d6_31 rfl (tw hw 12 rfl) F1092 ?_
  refine C.alen d6_34 rfl F1093 ?_
  refine Go.cI (y := 3) rfl ?_
  refine C.icmp_ge_f d6_35 rfl (by decide) ?_
  refine C.aloadN d6_38 rfl rfl rfl ?_
  refine C.getF d6_39 rfl (tw hw 12 rfl) F1092 ?_
  refine C.iloadN d6_42 rfl rfl ?_
  refine C.laload (.long j2) d6_43 rfl F1093 (by decide) rfl ?_
  rw [kq2]
  refine C.lconst 0 d6_44 rfl rfl ?_
  refine C.lcmp d6_45 rfl ?_
  refine C.lif_eq_t d6_46 (by decide) rfl (by decide) ?_
  refine C.iinc (Ls' := #[rv o0, iv 3]) 1 d6_66 rfl rfl rfl rfl ?_
  refine C.goto d6_69 (by decide) rfl ?_
  refine C.iloadN d6_29 rfl rfl ?_
  refine C.aloadN d6_30 rfl rfl rfl ?_
  refine C.getF d6_31 rfl (tw hw 12 rfl) F1092 ?_
  refine C.alen d6_34 rfl F1093 ?_
  refine Go.cI (y := 3) rfl ?_
  refine C.icmp_ge_t d6_35 (by decide) rfl (by decide) ?_
  refine C.goto d6_72 (by decide) rfl ?_
  exact C.ret0 d6_87 (by decide) (by decide) ⟨rfl, ((((Keep.refl h0 [o0, o1]).wr W1069 (Or.inl (List.mem_of_getElem? (i := 0) rfl))).wr W1078 (Or.inl (List.mem_of_getElem? (i := 0) rfl))).wr W1087 (Or.inl (List.mem_of_getElem? (i := 1) rfl))), F1094, F1090, F1091, F1092, F1095⟩
def Qau1140_12 (Z : State) (n0 : Nat) (h0 : Heap) (o0 : Addr) (o1 : Addr) (o2 : Addr) (j0 : Int64) (j1 : Int64) (j2 : Int64) (v : Option Value) (h' : Heap) : Prop := (v = some (.int 1)) ∧ (h0 = h')
theorem ef_au1140_12 (m : MethodId) (o0 : Addr) : entryFrame m #[(.ref o0)] 1 = mkF m 0 #[rv o0] [] := by first | (simp [entryFrame, mkF, argsToLocals, Value.category]; done) | rfl
set_option maxRecDepth 65536 in
set_option maxHeartbeats 40000000 in
theorem au1140_12 (l : Launch) (Z : State) (a0 : Array Value) (hw : ∀ d ∈ tables_1, d.before a0 Z = true) (n0 : Nat) (h0 : Heap) (hn0 : n0 ≤ h0.size) (o0 : Addr) (o1 : Addr) (o2 : Addr) (j0 : Int64) (j1 : Int64) (j2 : Int64) (P0 : Exa Z h0 o0 kC0) (P1 : Fld Z h0 o0 kC0 "count" "I" (.int 1)) (P2 : Fld Z h0 o0 kC0 "held" "[I" (.ref o1)) (P3 : Fld Z h0 o0 kC0 "listing" "Z" (.int 0)) (P4 : Fld Z h0 o0 kC0 "words" "[J" (.ref o2)) (P5 : Av Z h0 o1 .int ([.int 1, .int 0, .int 0])) (P6 : Av Z h0 o2 .long ([.long j0, .long j1, .long j2])) (g_o0 : n0 ≤ o0) (g_o1 : n0 ≤ o1) (g_o2 : n0 ≤ o2) (ne_o0_o1 : o0 ≠ o1) (ne_o0_o2 : o0 ≠ o2) (ne_o1_o2 : o1 ≠ o2) :
    Con l Z n0 [] (⟨"com/example/detra/detra/SetWords", "heldCount", "()I"⟩ : MethodName) prog_21_method_9_code 1 (some .int) ({ frames := 0, cells := 0, slots := 0, locals := 0 } : Room) #[(.ref o0)] h0 (Qau1140_12 Z n0 h0 o0 o1 o2 j0 j1 j2) := by
  refine Con.of pf_4 (fun m => ef_au1140_12 m o0) hn0 ?_
  intro p e s m below meth c C
  refine C.aloadN d12_0 rfl rfl rfl ?_
  refine C.getF d12_1 rfl (tw hw 38 rfl) P1 ?_
  exact C.retI d12_4 (by decide) (by decide) ⟨rfl, rfl⟩
def Qau1145_13 (Z : State) (n0 : Nat) (h0 : Heap) (o0 : Addr) (o1 : Addr) (o2 : Addr) (j0 : Int64) (j1 : Int64) (j2 : Int64) (v : Option Value) (h' : Heap) : Prop := (v = some (.int 1)) ∧ (h0 = h')
theorem ef_au1145_13 (m : MethodId) (o0 : Addr) : entryFrame m #[(.ref o0), (.int 0)] 2 = mkF m 0 #[rv o0, iv 0] [] := by first | (simp [entryFrame, mkF, argsToLocals, Value.category]; done) | rfl
set_option maxRecDepth 65536 in
set_option maxHeartbeats 40000000 in
theorem au1145_13 (l : Launch) (Z : State) (a0 : Array Value) (hw : ∀ d ∈ tables_1, d.before a0 Z = true) (n0 : Nat) (h0 : Heap) (hn0 : n0 ≤ h0.size) (o0 : Addr) (o1 : Addr) (o2 : Addr) (j0 : Int64) (j1 : Int64) (j2 : Int64) (P0 : Exa Z h0 o0 kC0) (P1 : Fld Z h0 o0 kC0 "count" "I" (.int 1)) (P2 : Fld Z h0 o0 kC0 "held" "[I" (.ref o1)) (P3 : Fld Z h0 o0 kC0 "listing" "Z" (.int 0)) (P4 : Fld Z h0 o0 kC0 "words" "[J" (.ref o2)) (P5 : Av Z h0 o1 .int ([.int 1, .int 0, .int 0])) (P6 : Av Z h0 o2 .long ([.long j0, .long j1, .long j2])) (g_o0 : n0 ≤ o0) (g_o1 : n0 ≤ o1) (g_o2 : n0 ≤ o2) (ne_o0_o1 : o0 ≠ o1) (ne_o0_o2 : o0 ≠ o2) (ne_o1_o2 : o1 ≠ o2) :
    Con l Z n0 [] (⟨"com/example/detra/detra/SetWords", "heldIndex", "(I)I"⟩ : MethodName) prog_21_method_10_code 2 (some .int) ({ frames := 0, cells := 0, slots := 0, locals := 0 } : Room) #[(.ref o0), (.int 0)] h0 (Qau1145_13 Z n0 h0 o0 o1 o2 j0 j1 j2) := by
  refine Con.of pf_5 (fun m => ef_au1145_13 m o0) hn0 ?_
  intro p e s m below meth c C
  refine C.aloadN d13_0 rfl rfl rfl ?_
  refine C.getF d13_1 rfl (tw hw 17 rfl) P2 ?_
  refine C.iloadN d13_4 rfl rfl ?_
  refine C.iaload (.int 1) d13_5 rfl P5 (by decide) rfl ?_
  exact C.retI d13_6 (by decide) (by decide) ⟨rfl, rfl⟩
def Qau1150_6 (Z : State) (n0 : Nat) (h0 : Heap) (o0 : Addr) (o1 : Addr) (o2 : Addr) (j0 : Int64) (j1 : Int64) (j2 : Int64) (v : Option Value) (h' : Heap) : Prop := (v = none) ∧ (Keep h0 h' [o0, o1]) ∧ (Fld Z h' o0 kC0 "count" "I" (.int 2)) ∧ (Fld Z h' o0 kC0 "held" "[I" (.ref o1)) ∧ (Fld Z h' o0 kC0 "listing" "Z" (.int 0)) ∧ (Fld Z h' o0 kC0 "words" "[J" (.ref o2)) ∧ (Av Z h' o1 .int ([.int 1, .int 2, .int 0]))
theorem ef_au1150_6 (m : MethodId) (o0 : Addr) : entryFrame m #[(.ref o0)] 2 = mkF m 0 #[rv o0, .unset] [] := by first | (simp [entryFrame, mkF, argsToLocals, Value.category]; done) | rfl
set_option maxRecDepth 65536 in
set_option maxHeartbeats 40000000 in
theorem au1150_6 (l : Launch) (Z : State) (a0 : Array Value) (hw : ∀ d ∈ tables_1, d.before a0 Z = true) (n0 : Nat) (h0 : Heap) (hn0 : n0 ≤ h0.size) (o0 : Addr) (o1 : Addr) (o2 : Addr) (j0 : Int64) (j1 : Int64) (j2 : Int64) (P0 : Exa Z h0 o0 kC0) (P1 : Fld Z h0 o0 kC0 "count" "I" (.int 0)) (P2 : Fld Z h0 o0 kC0 "held" "[I" (.ref o1)) (P3 : Fld Z h0 o0 kC0 "listing" "Z" (.int 0)) (P4 : Fld Z h0 o0 kC0 "words" "[J" (.ref o2)) (P5 : Av Z h0 o1 .int ([.int 0, .int 0, .int 0])) (P6 : Av Z h0 o2 .long ([.long j0, .long j1, .long j2])) (g_o0 : n0 ≤ o0) (g_o1 : n0 ≤ o1) (g_o2 : n0 ≤ o2) (ne_o0_o1 : o0 ≠ o1) (ne_o0_o2 : o0 ≠ o2) (ne_o1_o2 : o1 ≠ o2) (kq0 : (j0 = (0 : Int64))) (kq1 : ¬ (j1 = (0 : Int64))) (kq2 : ¬ (j2 = (0 : Int64))) :
    Con l Z n0 [] (⟨"com/example/detra/detra/SetWords", "listHeld", "()V"⟩ : MethodName) prog_21_method_7_code 2 none ({ frames := 0, cells := 0, slots := 0, locals := 0 } : Room) #[(.ref o0)] h0 (Qau1150_6 Z n0 h0 o0 o1 o2 j0 j1 j2) := by
  refine Con.of pf_3 (fun m => ef_au1150_6 m o0) hn0 ?_
  intro p e s m below meth c C
  refine C.aloadN d6_0 rfl rfl rfl ?_
  refine C.getF d6_1 rfl (tw hw 14 rfl) P3 ?_
  refine C.if_eq_t d6_4 (by decide) rfl (by decide) ?_
  refine C.aloadN d6_22 rfl rfl rfl ?_
  refine C.iconst 0 d6_23 rfl rfl ?_
  refine C.putF d6_24 rfl (tw hw 38 rfl) P1 P0 (Or.inl (tw hw 39 rfl)) (tw hw 4 rfl) (ty := .int) (by decide) rfl rfl g_o0 (fun h1245 W1246 F1247 => ?_)
  have F1248 := Exa.wr W1246 P0
  have F1249 := Fld.other W1246 P2 (Or.inr (slot_ne (C := kC0) (t := (.array .int)) (t' := .int) (Or.inr (tw hw 18 rfl)) (Or.inl (tw hw 39 rfl)) (by decide) (by decide) (by decide)))
  have F1250 := Fld.other W1246 P3 (Or.inr (slot_ne (C := kC0) (t := .boolean) (t' := .int) (Or.inr (tw hw 15 rfl)) (Or.inl (tw hw 39 rfl)) (by decide) (by decide) (by decide)))
  have F1251 := Fld.other W1246 P4 (Or.inr (slot_ne (C := kC0) (t := (.array .long)) (t' := .int) (Or.inr (tw hw 13 rfl)) (Or.inl (tw hw 39 rfl)) (by decide) (by decide) (by decide)))
  have F1252 := P5.other W1246 (Ne.symm ne_o0_o1)
  have F1253 := P6.other W1246 (Ne.symm ne_o0_o2)
  refine C.iconst 0 d6_27 rfl rfl ?_
  refine C.istoreN (Ls' := #[rv o0, iv 0]) d6_28 rfl rfl ?_
  refine C.iloadN d6_29 rfl rfl ?_
  refine C.aloadN d6_30 rfl rfl rfl ?_
  refine C.getF d6_31 rfl (tw hw 12 rfl) F1251 ?_
  refine C.alen d6_34 rfl F1253 ?_
  refine Go.cI (y := 3) rfl ?_
  refine C.icmp_ge_f d6_35 rfl (by decide) ?_
  refine C.aloadN d6_38 rfl rfl rfl ?_
  refine C.getF d6_39 rfl (tw hw 12 rfl) F1251 ?_
  refine C.iloadN d6_42 rfl rfl ?_
  refine C.laload (.long j0) d6_43 rfl F1253 (by decide) rfl ?_
  rw [kq0]
  refine C.lconst 0 d6_44 rfl rfl ?_
  refine C.lcmp d6_45 rfl ?_
  refine C.lif_eq_t d6_46 (by decide) rfl (by decide) ?_
  refine C.iinc (Ls' := #[rv o0, iv 1]) 1 d6_66 rfl rfl rfl rfl ?_
  refine C.goto d6_69 (by decide) rfl ?_
  refine C.iloadN d6_29 rfl rfl ?_
  refine C.aloadN d6_30 rfl rfl rfl ?_
  refine C.getF d6_31 rfl (tw hw 12 rfl) F1251 ?_
  refine C.alen d6_34 rfl F1253 ?_
  refine Go.cI (y := 3) rfl ?_
  refine C.icmp_ge_f d6_35 rfl (by decide) ?_
  refine C.aloadN d6_38 rfl rfl rfl ?_
  refine C.getF d6_39 rfl (tw hw 12 rfl) F1251 ?_
  refine C.iloadN d6_42 rfl rfl ?_
  refine C.laload (.long j1) d6_43 rfl F1253 (by decide) rfl ?_
  refine C.lconst 0 d6_44 rfl rfl ?_
  refine C.lcmp d6_45 rfl ?_
  refine C.lif_eq_f d6_46 rfl kq1 ?_
  refine C.aloadN d6_49 rfl rfl rfl ?_
  refine C.getF d6_50 rfl (tw hw 17 rfl) F1249 ?_
  refine C.aloadN d6_53 rfl rfl rfl ?_
  refine C.dup d6_54 rfl rfl ?_
  refine C.getF d6_55 rfl (tw hw 38 rfl) F1247 ?_
  refine C.dupX1 d6_58 rfl rfl rfl ?_
  refine C.iconst 1 d6_59 rfl rfl ?_
  refine C.iadd d6_60 rfl ?_
  refine Go.cI (y := 1) rfl ?_
  refine C.putF d6_61 rfl (tw hw 38 rfl) F1247 F1248 (Or.inl (tw hw 39 rfl)) (tw hw 4 rfl) (ty := .int) (by decide) rfl rfl g_o0 (fun h1254 W1255 F1256 => ?_)
  have F1257 := Exa.wr W1255 F1248
  have F1258 := Fld.other W1255 F1249 (Or.inr (slot_ne (C := kC0) (t := (.array .int)) (t' := .int) (Or.inr (tw hw 18 rfl)) (Or.inl (tw hw 39 rfl)) (by decide) (by decide) (by decide)))
  have F1259 := Fld.other W1255 F1250 (Or.inr (slot_ne (C := kC0) (t := .boolean) (t' := .int) (Or.inr (tw hw 15 rfl)) (Or.inl (tw hw 39 rfl)) (by decide) (by decide) (by decide)))
  have F1260 := Fld.other W1255 F1251 (Or.inr (slot_ne (C := kC0) (t := (.array .long)) (t' := .int) (Or.inr (tw hw 13 rfl)) (Or.inl (tw hw 39 rfl)) (by decide) (by decide) (by decide)))
  have F1261 := F1252.other W1255 (Ne.symm ne_o0_o1)
  have F1262 := F1253.other W1255 (Ne.symm ne_o0_o2)
  refine C.iloadN d6_64 rfl rfl ?_
  refine C.iastore d6_65 rfl F1261 g_o1 (by decide) (Nat.le_of_ble_eq_true rfl) (fun h1263 W1264 F1265 => ?_)
  have F1266 := Exa.wr W1264 F1257
  have F1267 := Fld.other W1264 F1258 (Or.inl ne_o0_o1)
  have F1268 := Fld.other W1264 F1259 (Or.inl ne_o0_o1)
  have F1269 := Fld.other W1264 F1260 (Or.inl ne_o0_o1)
  have F1270 := F1262.other W1264 (Ne.symm ne_o1_o2)
  have F1271 := Fld.other W1264 F1256 (Or.inl ne_o0_o1)
  have F1272 : Av Z h1263 o1 .int ([.int 1, .int 0, .int 0]) := F1265
  refine C.iinc (Ls' := #[rv o0, iv 2]) 1 d6_66 rfl rfl rfl rfl ?_
  refine C.goto d6_69 (by decide) rfl ?_
  refine C.iloadN d6_29 rfl rfl ?_
  refine C.aloadN d6_30 rfl rfl rfl ?_
  refine C.getF d6_31 rfl (tw hw 12 rfl) F1269 ?_
  refine C.alen d6_34 rfl F1270 ?_
  refine Go.cI (y := 3) rfl ?_
  refine C.icmp_ge_f d6_35 rfl (by decide) ?_
  refine C.aloadN d6_38 rfl rfl rfl ?_
  refine C.getF d6_39 rfl (tw hw 12 rfl) F1269 ?_
  refine C.iloadN d6_42 rfl rfl ?_
  refine C.laload (.long j2) d6_43 rfl F1270 (by decide) rfl ?_
  refine C.lconst 0 d6_44 rfl rfl ?_
  refine C.lcmp d6_45 rfl ?_
  refine C.lif_eq_f d6_46 rfl kq2 ?_
  refine C.aloadN d6_49 rfl rfl rfl ?_
  refine C.getF d6_50 rfl (tw hw 17 rfl) F1267 ?_
  refine C.aloadN d6_53 rfl rfl rfl ?_
  refine C.dup d6_54 rfl rfl ?_
  refine C.getF d6_55 rfl (tw hw 38 rfl) F1271 ?_
  refine C.dupX1 d6_58 rfl rfl rfl ?_
  refine C.iconst 1 d6_59 rfl rfl ?_
  refine C.iadd d6_60 rfl ?_
  refine Go.cI (y := 2) rfl ?_
  refine C.putF d6_61 rfl (tw hw 38 rfl) F1271 F1266 (Or.inl (tw hw 39 rfl)) (tw hw 4 rfl) (ty := .int) (by decide) rfl rfl g_o0 (fun h1273 W1274 F1275 => ?_)
  have F1276 := Exa.wr W1274 F1266
  have F1277 := Fld.other W1274 F1267 (Or.inr (slot_ne (C := kC0) (t := (.array .int)) (t' := .int) (Or.inr (tw hw 18 rfl)) (Or.inl (tw hw 39 rfl)) (by decide) (by decide) (by decide)))
  have F1278 := Fld.other W1274 F1268 (Or.inr (slot_ne (C := kC0) (t := .boolean) (t' := .int) (Or.inr (tw hw 15 rfl)) (Or.inl (tw hw 39 rfl)) (by decide) (by decide) (by decide)))
  have F1279 := Fld.other W1274 F1269 (Or.inr (slot_ne (C := kC0) (t := (.array .long)) (t' := .int) (Or.inr (tw hw 13 rfl)) (Or.inl (tw hw 39 rfl)) (by decide) (by decide) (by decide)))
  have F1280 := F1270.other W1274 (Ne.symm ne_o0_o2)
  have F1281 := F1272.other W1274 (Ne.symm ne_o0_o1)
  refine C.iloadN d6_64 rfl rfl ?_
  refine C.iastore d6_65 rfl F1281 g_o1 (by decide) (Nat.le_of_ble_eq_true rfl) (fun h1282 W1283 F1284 => ?_)
  have F1285 := Exa.wr W1283 F1276
  have F1286 := Fld.other W1283 F1277 (Or.inl ne_o0_o1)
  have F1287 := Fld.other W1283 F1278 (Or.inl ne_o0_o1)
  have F1288 := Fld.other W1283 F1279 (Or.inl ne_o0_o1)
  have F1289 := F1280.other W1283 (Ne.symm ne_o1_o2)
  have F1290 := Fld.other W1283 F1275 (Or.inl ne_o0_o1)
  have F1291 : Av Z h1282 o1 .int ([.int 1, .int 2, .int 0]) := F1284
  refine C.iinc (Ls' := #[rv o0, iv 3]) 1 d6_66 rfl rfl rfl rfl ?_
  refine C.goto d6_69 (by decide) rfl ?_
  refine C.iloadN d6_29 rfl rfl ?_
  refine C.aloadN d6_30 rfl rfl rfl ?_
  refine C.getF d6_31 rfl (tw hw 12 rfl) F1288 ?_
  refine C.alen d6_34 rfl F1289 ?_
  refine Go.cI (y := 3) rfl ?_
  refine C.icmp_ge_t d6_35 (by decide) rfl (by decide) ?_
  refine C.goto d6_72 (by decide) rfl ?_
  exact C.ret0 d6_87 (by decide) (by decide) ⟨rfl, ((((((Keep.refl h0 [o0, o1]).wr W1246 (Or.inl (List.mem_of_getElem? (i := 0) rfl))).wr W1255 (Or.inl (List.mem_of_getElem? (i := 0) rfl))).wr W1264 (Or.inl (List.mem_of_getElem? (i := 1) rfl))).wr W1274 (Or.inl (List.mem_of_getElem? (i := 0) rfl))).wr W1283 (Or.inl (List.mem_of_getElem? (i := 1) rfl))), F1290, F1286, F1287, F1288, F1291⟩
def Qau1347_12 (Z : State) (n0 : Nat) (h0 : Heap) (o0 : Addr) (o1 : Addr) (o2 : Addr) (j0 : Int64) (j1 : Int64) (j2 : Int64) (v : Option Value) (h' : Heap) : Prop := (v = some (.int 2)) ∧ (h0 = h')
theorem ef_au1347_12 (m : MethodId) (o0 : Addr) : entryFrame m #[(.ref o0)] 1 = mkF m 0 #[rv o0] [] := by first | (simp [entryFrame, mkF, argsToLocals, Value.category]; done) | rfl
set_option maxRecDepth 65536 in
set_option maxHeartbeats 40000000 in
theorem au1347_12 (l : Launch) (Z : State) (a0 : Array Value) (hw : ∀ d ∈ tables_1, d.before a0 Z = true) (n0 : Nat) (h0 : Heap) (hn0 : n0 ≤ h0.size) (o0 : Addr) (o1 : Addr) (o2 : Addr) (j0 : Int64) (j1 : Int64) (j2 : Int64) (P0 : Exa Z h0 o0 kC0) (P1 : Fld Z h0 o0 kC0 "count" "I" (.int 2)) (P2 : Fld Z h0 o0 kC0 "held" "[I" (.ref o1)) (P3 : Fld Z h0 o0 kC0 "listing" "Z" (.int 0)) (P4 : Fld Z h0 o0 kC0 "words" "[J" (.ref o2)) (P5 : Av Z h0 o1 .int ([.int 1, .int 2, .int 0])) (P6 : Av Z h0 o2 .long ([.long j0, .long j1, .long j2])) (g_o0 : n0 ≤ o0) (g_o1 : n0 ≤ o1) (g_o2 : n0 ≤ o2) (ne_o0_o1 : o0 ≠ o1) (ne_o0_o2 : o0 ≠ o2) (ne_o1_o2 : o1 ≠ o2) :
    Con l Z n0 [] (⟨"com/example/detra/detra/SetWords", "heldCount", "()I"⟩ : MethodName) prog_21_method_9_code 1 (some .int) ({ frames := 0, cells := 0, slots := 0, locals := 0 } : Room) #[(.ref o0)] h0 (Qau1347_12 Z n0 h0 o0 o1 o2 j0 j1 j2) := by
  refine Con.of pf_4 (fun m => ef_au1347_12 m o0) hn0 ?_
  intro p e s m below meth c C
  refine C.aloadN d12_0 rfl rfl rfl ?_
  refine C.getF d12_1 rfl (tw hw 38 rfl) P1 ?_
  exact C.retI d12_4 (by decide) (by decide) ⟨rfl, rfl⟩
def Qau1352_13 (Z : State) (n0 : Nat) (h0 : Heap) (o0 : Addr) (o1 : Addr) (o2 : Addr) (j0 : Int64) (j1 : Int64) (j2 : Int64) (v : Option Value) (h' : Heap) : Prop := (v = some (.int 1)) ∧ (h0 = h')
theorem ef_au1352_13 (m : MethodId) (o0 : Addr) : entryFrame m #[(.ref o0), (.int 0)] 2 = mkF m 0 #[rv o0, iv 0] [] := by first | (simp [entryFrame, mkF, argsToLocals, Value.category]; done) | rfl
set_option maxRecDepth 65536 in
set_option maxHeartbeats 40000000 in
theorem au1352_13 (l : Launch) (Z : State) (a0 : Array Value) (hw : ∀ d ∈ tables_1, d.before a0 Z = true) (n0 : Nat) (h0 : Heap) (hn0 : n0 ≤ h0.size) (o0 : Addr) (o1 : Addr) (o2 : Addr) (j0 : Int64) (j1 : Int64) (j2 : Int64) (P0 : Exa Z h0 o0 kC0) (P1 : Fld Z h0 o0 kC0 "count" "I" (.int 2)) (P2 : Fld Z h0 o0 kC0 "held" "[I" (.ref o1)) (P3 : Fld Z h0 o0 kC0 "listing" "Z" (.int 0)) (P4 : Fld Z h0 o0 kC0 "words" "[J" (.ref o2)) (P5 : Av Z h0 o1 .int ([.int 1, .int 2, .int 0])) (P6 : Av Z h0 o2 .long ([.long j0, .long j1, .long j2])) (g_o0 : n0 ≤ o0) (g_o1 : n0 ≤ o1) (g_o2 : n0 ≤ o2) (ne_o0_o1 : o0 ≠ o1) (ne_o0_o2 : o0 ≠ o2) (ne_o1_o2 : o1 ≠ o2) :
    Con l Z n0 [] (⟨"com/example/detra/detra/SetWords", "heldIndex", "(I)I"⟩ : MethodName) prog_21_method_10_code 2 (some .int) ({ frames := 0, cells := 0, slots := 0, locals := 0 } : Room) #[(.ref o0), (.int 0)] h0 (Qau1352_13 Z n0 h0 o0 o1 o2 j0 j1 j2) := by
  refine Con.of pf_5 (fun m => ef_au1352_13 m o0) hn0 ?_
  intro p e s m below meth c C
  refine C.aloadN d13_0 rfl rfl rfl ?_
  refine C.getF d13_1 rfl (tw hw 17 rfl) P2 ?_
  refine C.iloadN d13_4 rfl rfl ?_
  refine C.iaload (.int 1) d13_5 rfl P5 (by decide) rfl ?_
  exact C.retI d13_6 (by decide) (by decide) ⟨rfl, rfl⟩
def Qau1357_13 (Z : State) (n0 : Nat) (h0 : Heap) (o0 : Addr) (o1 : Addr) (o2 : Addr) (j0 : Int64) (j1 : Int64) (j2 : Int64) (v : Option Value) (h' : Heap) : Prop := (v = some (.int 2)) ∧ (h0 = h')
theorem ef_au1357_13 (m : MethodId) (o0 : Addr) : entryFrame m #[(.ref o0), (.int 1)] 2 = mkF m 0 #[rv o0, iv 1] [] := by first | (simp [entryFrame, mkF, argsToLocals, Value.category]; done) | rfl
set_option maxRecDepth 65536 in
set_option maxHeartbeats 40000000 in
theorem au1357_13 (l : Launch) (Z : State) (a0 : Array Value) (hw : ∀ d ∈ tables_1, d.before a0 Z = true) (n0 : Nat) (h0 : Heap) (hn0 : n0 ≤ h0.size) (o0 : Addr) (o1 : Addr) (o2 : Addr) (j0 : Int64) (j1 : Int64) (j2 : Int64) (P0 : Exa Z h0 o0 kC0) (P1 : Fld Z h0 o0 kC0 "count" "I" (.int 2)) (P2 : Fld Z h0 o0 kC0 "held" "[I" (.ref o1)) (P3 : Fld Z h0 o0 kC0 "listing" "Z" (.int 0)) (P4 : Fld Z h0 o0 kC0 "words" "[J" (.ref o2)) (P5 : Av Z h0 o1 .int ([.int 1, .int 2, .int 0])) (P6 : Av Z h0 o2 .long ([.long j0, .long j1, .long j2])) (g_o0 : n0 ≤ o0) (g_o1 : n0 ≤ o1) (g_o2 : n0 ≤ o2) (ne_o0_o1 : o0 ≠ o1) (ne_o0_o2 : o0 ≠ o2) (ne_o1_o2 : o1 ≠ o2) :
    Con l Z n0 [] (⟨"com/example/detra/detra/SetWords", "heldIndex", "(I)I"⟩ : MethodName) prog_21_method_10_code 2 (some .int) ({ frames := 0, cells := 0, slots := 0, locals := 0 } : Room) #[(.ref o0), (.int 1)] h0 (Qau1357_13 Z n0 h0 o0 o1 o2 j0 j1 j2) := by
  refine Con.of pf_5 (fun m => ef_au1357_13 m o0) hn0 ?_
  intro p e s m below meth c C
  refine C.aloadN d13_0 rfl rfl rfl ?_
  refine C.getF d13_1 rfl (tw hw 17 rfl) P2 ?_
  refine C.iloadN d13_4 rfl rfl ?_
  refine C.iaload (.int 2) d13_5 rfl P5 (by decide) rfl ?_
  exact C.retI d13_6 (by decide) (by decide) ⟨rfl, rfl⟩
def Qau1422_6 (Z : State) (n0 : Nat) (h0 : Heap) (o0 : Addr) (o1 : Addr) (o2 : Addr) (j0 : Int64) (j1 : Int64) (j2 : Int64) (v : Option Value) (h' : Heap) : Prop := (v = none) ∧ (Keep h0 h' [o0, o1]) ∧ (Fld Z h' o0 kC0 "count" "I" (.int 1)) ∧ (Fld Z h' o0 kC0 "held" "[I" (.ref o1)) ∧ (Fld Z h' o0 kC0 "listing" "Z" (.int 0)) ∧ (Fld Z h' o0 kC0 "words" "[J" (.ref o2)) ∧ (Av Z h' o1 .int ([.int 0, .int 0, .int 0]))
theorem ef_au1422_6 (m : MethodId) (o0 : Addr) : entryFrame m #[(.ref o0)] 2 = mkF m 0 #[rv o0, .unset] [] := by first | (simp [entryFrame, mkF, argsToLocals, Value.category]; done) | rfl
set_option maxRecDepth 65536 in
set_option maxHeartbeats 40000000 in
theorem au1422_6 (l : Launch) (Z : State) (a0 : Array Value) (hw : ∀ d ∈ tables_1, d.before a0 Z = true) (n0 : Nat) (h0 : Heap) (hn0 : n0 ≤ h0.size) (o0 : Addr) (o1 : Addr) (o2 : Addr) (j0 : Int64) (j1 : Int64) (j2 : Int64) (P0 : Exa Z h0 o0 kC0) (P1 : Fld Z h0 o0 kC0 "count" "I" (.int 0)) (P2 : Fld Z h0 o0 kC0 "held" "[I" (.ref o1)) (P3 : Fld Z h0 o0 kC0 "listing" "Z" (.int 0)) (P4 : Fld Z h0 o0 kC0 "words" "[J" (.ref o2)) (P5 : Av Z h0 o1 .int ([.int 0, .int 0, .int 0])) (P6 : Av Z h0 o2 .long ([.long j0, .long j1, .long j2])) (g_o0 : n0 ≤ o0) (g_o1 : n0 ≤ o1) (g_o2 : n0 ≤ o2) (ne_o0_o1 : o0 ≠ o1) (ne_o0_o2 : o0 ≠ o2) (ne_o1_o2 : o1 ≠ o2) (kq0 : ¬ (j0 = (0 : Int64))) (kq1 : (j1 = (0 : Int64))) (kq2 : (j2 = (0 : Int64))) :
    Con l Z n0 [] (⟨"com/example/detra/detra/SetWords", "listHeld", "()V"⟩ : MethodName) prog_21_method_7_code 2 none ({ frames := 0, cells := 0, slots := 0, locals := 0 } : Room) #[(.ref o0)] h0 (Qau1422_6 Z n0 h0 o0 o1 o2 j0 j1 j2) := by
  refine Con.of pf_3 (fun m => ef_au1422_6 m o0) hn0 ?_
  intro p e s m below meth c C
  refine C.aloadN d6_0 rfl rfl rfl ?_
  refine C.getF d6_1 rfl (tw hw 14 rfl) P3 ?_
  refine C.if_eq_t d6_4 (by decide) rfl (by decide) ?_
  refine C.aloadN d6_22 rfl rfl rfl ?_
  refine C.iconst 0 d6_23 rfl rfl ?_
  refine C.putF d6_24 rfl (tw hw 38 rfl) P1 P0 (Or.inl (tw hw 39 rfl)) (tw hw 4 rfl) (ty := .int) (by decide) rfl rfl g_o0 (fun h1479 W1480 F1481 => ?_)
  have F1482 := Exa.wr W1480 P0
  have F1483 := Fld.other W1480 P2 (Or.inr (slot_ne (C := kC0) (t := (.array .int)) (t' := .int) (Or.inr (tw hw 18 rfl)) (Or.inl (tw hw 39 rfl)) (by decide) (by decide) (by decide)))
  have F1484 := Fld.other W1480 P3 (Or.inr (slot_ne (C := kC0) (t := .boolean) (t' := .int) (Or.inr (tw hw 15 rfl)) (Or.inl (tw hw 39 rfl)) (by decide) (by decide) (by decide)))
  have F1485 := Fld.other W1480 P4 (Or.inr (slot_ne (C := kC0) (t := (.array .long)) (t' := .int) (Or.inr (tw hw 13 rfl)) (Or.inl (tw hw 39 rfl)) (by decide) (by decide) (by decide)))
  have F1486 := P5.other W1480 (Ne.symm ne_o0_o1)
  have F1487 := P6.other W1480 (Ne.symm ne_o0_o2)
  refine C.iconst 0 d6_27 rfl rfl ?_
  refine C.istoreN (Ls' := #[rv o0, iv 0]) d6_28 rfl rfl ?_
  refine C.iloadN d6_29 rfl rfl ?_
  refine C.aloadN d6_30 rfl rfl rfl ?_
  refine C.getF d6_31 rfl (tw hw 12 rfl) F1485 ?_
  refine C.alen d6_34 rfl F1487 ?_
  refine Go.cI (y := 3) rfl ?_
  refine C.icmp_ge_f d6_35 rfl (by decide) ?_
  refine C.aloadN d6_38 rfl rfl rfl ?_
  refine C.getF d6_39 rfl (tw hw 12 rfl) F1485 ?_
  refine C.iloadN d6_42 rfl rfl ?_
  refine C.laload (.long j0) d6_43 rfl F1487 (by decide) rfl ?_
  refine C.lconst 0 d6_44 rfl rfl ?_
  refine C.lcmp d6_45 rfl ?_
  refine C.lif_eq_f d6_46 rfl kq0 ?_
  refine C.aloadN d6_49 rfl rfl rfl ?_
  refine C.getF d6_50 rfl (tw hw 17 rfl) F1483 ?_
  refine C.aloadN d6_53 rfl rfl rfl ?_
  refine C.dup d6_54 rfl rfl ?_
  refine C.getF d6_55 rfl (tw hw 38 rfl) F1481 ?_
  refine C.dupX1 d6_58 rfl rfl rfl ?_
  refine C.iconst 1 d6_59 rfl rfl ?_
  refine C.iadd d6_60 rfl ?_
  refine Go.cI (y := 1) rfl ?_
  refine C.putF d6_61 rfl (tw hw 38 rfl) F1481 F1482 (Or.inl (tw hw 39 rfl)) (tw hw 4 rfl) (ty := .int) (by decide) rfl rfl g_o0 (fun h1488 W1489 F1490 => ?_)
  have F1491 := Exa.wr W1489 F1482
  have F1492 := Fld.other W1489 F1483 (Or.inr (slot_ne (C := kC0) (t := (.array .int)) (t' := .int) (Or.inr (tw hw 18 rfl)) (Or.inl (tw hw 39 rfl)) (by decide) (by decide) (by decide)))
  have F1493 := Fld.other W1489 F1484 (Or.inr (slot_ne (C := kC0) (t := .boolean) (t' := .int) (Or.inr (tw hw 15 rfl)) (Or.inl (tw hw 39 rfl)) (by decide) (by decide) (by decide)))
  have F1494 := Fld.other W1489 F1485 (Or.inr (slot_ne (C := kC0) (t := (.array .long)) (t' := .int) (Or.inr (tw hw 13 rfl)) (Or.inl (tw hw 39 rfl)) (by decide) (by decide) (by decide)))
  have F1495 := F1486.other W1489 (Ne.symm ne_o0_o1)
  have F1496 := F1487.other W1489 (Ne.symm ne_o0_o2)
  refine C.iloadN d6_64 rfl rfl ?_
  refine C.iastore d6_65 rfl F1495 g_o1 (by decide) (Nat.le_of_ble_eq_true rfl) (fun h1497 W1498 F1499 => ?_)
  have F1500 := Exa.wr W1498 F1491
  have F1501 := Fld.other W1498 F1492 (Or.inl ne_o0_o1)
  have F1502 := Fld.other W1498 F1493 (Or.inl ne_o0_o1)
  have F1503 := Fld.other W1498 F1494 (Or.inl ne_o0_o1)
  have F1504 := F1496.other W1498 (Ne.symm ne_o1_o2)
  have F1505 := Fld.other W1498 F1490 (Or.inl ne_o0_o1)
  have F1506 : Av Z h1497 o1 .int ([.int 0, .int 0, .int 0]) := F1499
  refine C.iinc (Ls' := #[rv o0, iv 1]) 1 d6_66 rfl rfl rfl rfl ?_
  refine C.goto d6_69 (by decide) rfl ?_
  refine C.iloadN d6_29 rfl rfl ?_
  refine C.aloadN d6_30 rfl rfl rfl ?_
  refine C.getF d6_31 rfl (tw hw 12 rfl) F1503 ?_
  refine C.alen d6_34 rfl F1504 ?_
  refine Go.cI (y := 3) rfl ?_
  refine C.icmp_ge_f d6_35 rfl (by decide) ?_
  refine C.aloadN d6_38 rfl rfl rfl ?_
  refine C.getF d6_39 rfl (tw hw 12 rfl) F1503 ?_
  refine C.iloadN d6_42 rfl rfl ?_
  refine C.laload (.long j1) d6_43 rfl F1504 (by decide) rfl ?_
  rw [kq1]
  refine C.lconst 0 d6_44 rfl rfl ?_
  refine C.lcmp d6_45 rfl ?_
  refine C.lif_eq_t d6_46 (by decide) rfl (by decide) ?_
  refine C.iinc (Ls' := #[rv o0, iv 2]) 1 d6_66 rfl rfl rfl rfl ?_
  refine C.goto d6_69 (by decide) rfl ?_
  refine C.iloadN d6_29 rfl rfl ?_
  refine C.aloadN d6_30 rfl rfl rfl ?_
  refine C.getF d6_31 rfl (tw hw 12 rfl) F1503 ?_
  refine C.alen d6_34 rfl F1504 ?_
  refine Go.cI (y := 3) rfl ?_
  refine C.icmp_ge_f d6_35 rfl (by decide) ?_
  refine C.aloadN d6_38 rfl rfl rfl ?_
  refine C.getF d6_39 rfl (tw hw 12 rfl) F1503 ?_
  refine C.iloadN d6_42 rfl rfl ?_
  refine C.laload (.long j2) d6_43 rfl F1504 (by decide) rfl ?_
  rw [kq2]
  refine C.lconst 0 d6_44 rfl rfl ?_
  refine C.lcmp d6_45 rfl ?_
  refine C.lif_eq_t d6_46 (by decide) rfl (by decide) ?_
  refine C.iinc (Ls' := #[rv o0, iv 3]) 1 d6_66 rfl rfl rfl rfl ?_
  refine C.goto d6_69 (by decide) rfl ?_
  refine C.iloadN d6_29 rfl rfl ?_
  refine C.aloadN d6_30 rfl rfl rfl ?_
  refine C.getF d6_31 rfl (tw hw 12 rfl) F1503 ?_
  refine C.alen d6_34 rfl F1504 ?_
  refine Go.cI (y := 3) rfl ?_
  refine C.icmp_ge_t d6_35 (by decide) rfl (by decide) ?_
  refine C.goto d6_72 (by decide) rfl ?_
  exact C.ret0 d6_87 (by decide) (by decide) ⟨rfl, ((((Keep.refl h0 [o0, o1]).wr W1480 (Or.inl (List.mem_of_getElem? (i := 0) rfl))).wr W1489 (Or.inl (List.mem_of_getElem? (i := 0) rfl))).wr W1498 (Or.inl (List.mem_of_getElem? (i := 1) rfl))), F1505, F1501, F1502, F1503, F1506⟩
def Qau1551_12 (Z : State) (n0 : Nat) (h0 : Heap) (o0 : Addr) (o1 : Addr) (o2 : Addr) (j0 : Int64) (j1 : Int64) (j2 : Int64) (v : Option Value) (h' : Heap) : Prop := (v = some (.int 1)) ∧ (h0 = h')
theorem ef_au1551_12 (m : MethodId) (o0 : Addr) : entryFrame m #[(.ref o0)] 1 = mkF m 0 #[rv o0] [] := by first | (simp [entryFrame, mkF, argsToLocals, Value.category]; done) | rfl
set_option maxRecDepth 65536 in
set_option maxHeartbeats 40000000 in
theorem au1551_12 (l : Launch) (Z : State) (a0 : Array Value) (hw : ∀ d ∈ tables_1, d.before a0 Z = true) (n0 : Nat) (h0 : Heap) (hn0 : n0 ≤ h0.size) (o0 : Addr) (o1 : Addr) (o2 : Addr) (j0 : Int64) (j1 : Int64) (j2 : Int64) (P0 : Exa Z h0 o0 kC0) (P1 : Fld Z h0 o0 kC0 "count" "I" (.int 1)) (P2 : Fld Z h0 o0 kC0 "held" "[I" (.ref o1)) (P3 : Fld Z h0 o0 kC0 "listing" "Z" (.int 0)) (P4 : Fld Z h0 o0 kC0 "words" "[J" (.ref o2)) (P5 : Av Z h0 o1 .int ([.int 0, .int 0, .int 0])) (P6 : Av Z h0 o2 .long ([.long j0, .long j1, .long j2])) (g_o0 : n0 ≤ o0) (g_o1 : n0 ≤ o1) (g_o2 : n0 ≤ o2) (ne_o0_o1 : o0 ≠ o1) (ne_o0_o2 : o0 ≠ o2) (ne_o1_o2 : o1 ≠ o2) :
    Con l Z n0 [] (⟨"com/example/detra/detra/SetWords", "heldCount", "()I"⟩ : MethodName) prog_21_method_9_code 1 (some .int) ({ frames := 0, cells := 0, slots := 0, locals := 0 } : Room) #[(.ref o0)] h0 (Qau1551_12 Z n0 h0 o0 o1 o2 j0 j1 j2) := by
  refine Con.of pf_4 (fun m => ef_au1551_12 m o0) hn0 ?_
  intro p e s m below meth c C
  refine C.aloadN d12_0 rfl rfl rfl ?_
  refine C.getF d12_1 rfl (tw hw 38 rfl) P1 ?_
  exact C.retI d12_4 (by decide) (by decide) ⟨rfl, rfl⟩
def Qau1556_13 (Z : State) (n0 : Nat) (h0 : Heap) (o0 : Addr) (o1 : Addr) (o2 : Addr) (j0 : Int64) (j1 : Int64) (j2 : Int64) (v : Option Value) (h' : Heap) : Prop := (v = some (.int 0)) ∧ (h0 = h')
theorem ef_au1556_13 (m : MethodId) (o0 : Addr) : entryFrame m #[(.ref o0), (.int 0)] 2 = mkF m 0 #[rv o0, iv 0] [] := by first | (simp [entryFrame, mkF, argsToLocals, Value.category]; done) | rfl
set_option maxRecDepth 65536 in
set_option maxHeartbeats 40000000 in
theorem au1556_13 (l : Launch) (Z : State) (a0 : Array Value) (hw : ∀ d ∈ tables_1, d.before a0 Z = true) (n0 : Nat) (h0 : Heap) (hn0 : n0 ≤ h0.size) (o0 : Addr) (o1 : Addr) (o2 : Addr) (j0 : Int64) (j1 : Int64) (j2 : Int64) (P0 : Exa Z h0 o0 kC0) (P1 : Fld Z h0 o0 kC0 "count" "I" (.int 1)) (P2 : Fld Z h0 o0 kC0 "held" "[I" (.ref o1)) (P3 : Fld Z h0 o0 kC0 "listing" "Z" (.int 0)) (P4 : Fld Z h0 o0 kC0 "words" "[J" (.ref o2)) (P5 : Av Z h0 o1 .int ([.int 0, .int 0, .int 0])) (P6 : Av Z h0 o2 .long ([.long j0, .long j1, .long j2])) (g_o0 : n0 ≤ o0) (g_o1 : n0 ≤ o1) (g_o2 : n0 ≤ o2) (ne_o0_o1 : o0 ≠ o1) (ne_o0_o2 : o0 ≠ o2) (ne_o1_o2 : o1 ≠ o2) :
    Con l Z n0 [] (⟨"com/example/detra/detra/SetWords", "heldIndex", "(I)I"⟩ : MethodName) prog_21_method_10_code 2 (some .int) ({ frames := 0, cells := 0, slots := 0, locals := 0 } : Room) #[(.ref o0), (.int 0)] h0 (Qau1556_13 Z n0 h0 o0 o1 o2 j0 j1 j2) := by
  refine Con.of pf_5 (fun m => ef_au1556_13 m o0) hn0 ?_
  intro p e s m below meth c C
  refine C.aloadN d13_0 rfl rfl rfl ?_
  refine C.getF d13_1 rfl (tw hw 17 rfl) P2 ?_
  refine C.iloadN d13_4 rfl rfl ?_
  refine C.iaload (.int 0) d13_5 rfl P5 (by decide) rfl ?_
  exact C.retI d13_6 (by decide) (by decide) ⟨rfl, rfl⟩
def Qau1561_6 (Z : State) (n0 : Nat) (h0 : Heap) (o0 : Addr) (o1 : Addr) (o2 : Addr) (j0 : Int64) (j1 : Int64) (j2 : Int64) (v : Option Value) (h' : Heap) : Prop := (v = none) ∧ (Keep h0 h' [o0, o1]) ∧ (Fld Z h' o0 kC0 "count" "I" (.int 2)) ∧ (Fld Z h' o0 kC0 "held" "[I" (.ref o1)) ∧ (Fld Z h' o0 kC0 "listing" "Z" (.int 0)) ∧ (Fld Z h' o0 kC0 "words" "[J" (.ref o2)) ∧ (Av Z h' o1 .int ([.int 0, .int 2, .int 0]))
theorem ef_au1561_6 (m : MethodId) (o0 : Addr) : entryFrame m #[(.ref o0)] 2 = mkF m 0 #[rv o0, .unset] [] := by first | (simp [entryFrame, mkF, argsToLocals, Value.category]; done) | rfl
set_option maxRecDepth 65536 in
set_option maxHeartbeats 40000000 in
theorem au1561_6 (l : Launch) (Z : State) (a0 : Array Value) (hw : ∀ d ∈ tables_1, d.before a0 Z = true) (n0 : Nat) (h0 : Heap) (hn0 : n0 ≤ h0.size) (o0 : Addr) (o1 : Addr) (o2 : Addr) (j0 : Int64) (j1 : Int64) (j2 : Int64) (P0 : Exa Z h0 o0 kC0) (P1 : Fld Z h0 o0 kC0 "count" "I" (.int 0)) (P2 : Fld Z h0 o0 kC0 "held" "[I" (.ref o1)) (P3 : Fld Z h0 o0 kC0 "listing" "Z" (.int 0)) (P4 : Fld Z h0 o0 kC0 "words" "[J" (.ref o2)) (P5 : Av Z h0 o1 .int ([.int 0, .int 0, .int 0])) (P6 : Av Z h0 o2 .long ([.long j0, .long j1, .long j2])) (g_o0 : n0 ≤ o0) (g_o1 : n0 ≤ o1) (g_o2 : n0 ≤ o2) (ne_o0_o1 : o0 ≠ o1) (ne_o0_o2 : o0 ≠ o2) (ne_o1_o2 : o1 ≠ o2) (kq0 : ¬ (j0 = (0 : Int64))) (kq1 : (j1 = (0 : Int64))) (kq2 : ¬ (j2 = (0 : Int64))) :
    Con l Z n0 [] (⟨"com/example/detra/detra/SetWords", "listHeld", "()V"⟩ : MethodName) prog_21_method_7_code 2 none ({ frames := 0, cells := 0, slots := 0, locals := 0 } : Room) #[(.ref o0)] h0 (Qau1561_6 Z n0 h0 o0 o1 o2 j0 j1 j2) := by
  refine Con.of pf_3 (fun m => ef_au1561_6 m o0) hn0 ?_
  intro p e s m below meth c C
  refine C.aloadN d6_0 rfl rfl rfl ?_
  refine C.getF d6_1 rfl (tw hw 14 rfl) P3 ?_
  refine C.if_eq_t d6_4 (by decide) rfl (by decide) ?_
  refine C.aloadN d6_22 rfl rfl rfl ?_
  refine C.iconst 0 d6_23 rfl rfl ?_
  refine C.putF d6_24 rfl (tw hw 38 rfl) P1 P0 (Or.inl (tw hw 39 rfl)) (tw hw 4 rfl) (ty := .int) (by decide) rfl rfl g_o0 (fun h1656 W1657 F1658 => ?_)
  have F1659 := Exa.wr W1657 P0
  have F1660 := Fld.other W1657 P2 (Or.inr (slot_ne (C := kC0) (t := (.array .int)) (t' := .int) (Or.inr (tw hw 18 rfl)) (Or.inl (tw hw 39 rfl)) (by decide) (by decide) (by decide)))
  have F1661 := Fld.other W1657 P3 (Or.inr (slot_ne (C := kC0) (t := .boolean) (t' := .int) (Or.inr (tw hw 15 rfl)) (Or.inl (tw hw 39 rfl)) (by decide) (by decide) (by decide)))
  have F1662 := Fld.other W1657 P4 (Or.inr (slot_ne (C := kC0) (t := (.array .long)) (t' := .int) (Or.inr (tw hw 13 rfl)) (Or.inl (tw hw 39 rfl)) (by decide) (by decide) (by decide)))
  have F1663 := P5.other W1657 (Ne.symm ne_o0_o1)
  have F1664 := P6.other W1657 (Ne.symm ne_o0_o2)
  refine C.iconst 0 d6_27 rfl rfl ?_
  refine C.istoreN (Ls' := #[rv o0, iv 0]) d6_28 rfl rfl ?_
  refine C.iloadN d6_29 rfl rfl ?_
  refine C.aloadN d6_30 rfl rfl rfl ?_
  refine C.getF d6_31 rfl (tw hw 12 rfl) F1662 ?_
  refine C.alen d6_34 rfl F1664 ?_
  refine Go.cI (y := 3) rfl ?_
  refine C.icmp_ge_f d6_35 rfl (by decide) ?_
  refine C.aloadN d6_38 rfl rfl rfl ?_
  refine C.getF d6_39 rfl (tw hw 12 rfl) F1662 ?_
  refine C.iloadN d6_42 rfl rfl ?_
  refine C.laload (.long j0) d6_43 rfl F1664 (by decide) rfl ?_
  refine C.lconst 0 d6_44 rfl rfl ?_
  refine C.lcmp d6_45 rfl ?_
  refine C.lif_eq_f d6_46 rfl kq0 ?_
  refine C.aloadN d6_49 rfl rfl rfl ?_
  refine C.getF d6_50 rfl (tw hw 17 rfl) F1660 ?_
  refine C.aloadN d6_53 rfl rfl rfl ?_
  refine C.dup d6_54 rfl rfl ?_
  refine C.getF d6_55 rfl (tw hw 38 rfl) F1658 ?_
  refine C.dupX1 d6_58 rfl rfl rfl ?_
  refine C.iconst 1 d6_59 rfl rfl ?_
  refine C.iadd d6_60 rfl ?_
  refine Go.cI (y := 1) rfl ?_
  refine C.putF d6_61 rfl (tw hw 38 rfl) F1658 F1659 (Or.inl (tw hw 39 rfl)) (tw hw 4 rfl) (ty := .int) (by decide) rfl rfl g_o0 (fun h1665 W1666 F1667 => ?_)
  have F1668 := Exa.wr W1666 F1659
  have F1669 := Fld.other W1666 F1660 (Or.inr (slot_ne (C := kC0) (t := (.array .int)) (t' := .int) (Or.inr (tw hw 18 rfl)) (Or.inl (tw hw 39 rfl)) (by decide) (by decide) (by decide)))
  have F1670 := Fld.other W1666 F1661 (Or.inr (slot_ne (C := kC0) (t := .boolean) (t' := .int) (Or.inr (tw hw 15 rfl)) (Or.inl (tw hw 39 rfl)) (by decide) (by decide) (by decide)))
  have F1671 := Fld.other W1666 F1662 (Or.inr (slot_ne (C := kC0) (t := (.array .long)) (t' := .int) (Or.inr (tw hw 13 rfl)) (Or.inl (tw hw 39 rfl)) (by decide) (by decide) (by decide)))
  have F1672 := F1663.other W1666 (Ne.symm ne_o0_o1)
  have F1673 := F1664.other W1666 (Ne.symm ne_o0_o2)
  refine C.iloadN d6_64 rfl rfl ?_
  refine C.iastore d6_65 rfl F1672 g_o1 (by decide) (Nat.le_of_ble_eq_true rfl) (fun h1674 W1675 F1676 => ?_)
  have F1677 := Exa.wr W1675 F1668
  have F1678 := Fld.other W1675 F1669 (Or.inl ne_o0_o1)
  have F1679 := Fld.other W1675 F1670 (Or.inl ne_o0_o1)
  have F1680 := Fld.other W1675 F1671 (Or.inl ne_o0_o1)
  have F1681 := F1673.other W1675 (Ne.symm ne_o1_o2)
  have F1682 := Fld.other W1675 F1667 (Or.inl ne_o0_o1)
  have F1683 : Av Z h1674 o1 .int ([.int 0, .int 0, .int 0]) := F1676
  refine C.iinc (Ls' := #[rv o0, iv 1]) 1 d6_66 rfl rfl rfl rfl ?_
  refine C.goto d6_69 (by decide) rfl ?_
  refine C.iloadN d6_29 rfl rfl ?_
  refine C.aloadN d6_30 rfl rfl rfl ?_
  refine C.getF d6_31 rfl (tw hw 12 rfl) F1680 ?_
  refine C.alen d6_34 rfl F1681 ?_
  refine Go.cI (y := 3) rfl ?_
  refine C.icmp_ge_f d6_35 rfl (by decide) ?_
  refine C.aloadN d6_38 rfl rfl rfl ?_
  refine C.getF d6_39 rfl (tw hw 12 rfl) F1680 ?_
  refine C.iloadN d6_42 rfl rfl ?_
  refine C.laload (.long j1) d6_43 rfl F1681 (by decide) rfl ?_
  rw [kq1]
  refine C.lconst 0 d6_44 rfl rfl ?_
  refine C.lcmp d6_45 rfl ?_
  refine C.lif_eq_t d6_46 (by decide) rfl (by decide) ?_
  refine C.iinc (Ls' := #[rv o0, iv 2]) 1 d6_66 rfl rfl rfl rfl ?_
  refine C.goto d6_69 (by decide) rfl ?_
  refine C.iloadN d6_29 rfl rfl ?_
  refine C.aloadN d6_30 rfl rfl rfl ?_
  refine C.getF d6_31 rfl (tw hw 12 rfl) F1680 ?_
  refine C.alen d6_34 rfl F1681 ?_
  refine Go.cI (y := 3) rfl ?_
  refine C.icmp_ge_f d6_35 rfl (by decide) ?_
  refine C.aloadN d6_38 rfl rfl rfl ?_
  refine C.getF d6_39 rfl (tw hw 12 rfl) F1680 ?_
  refine C.iloadN d6_42 rfl rfl ?_
  refine C.laload (.long j2) d6_43 rfl F1681 (by decide) rfl ?_
  refine C.lconst 0 d6_44 rfl rfl ?_
  refine C.lcmp d6_45 rfl ?_
  refine C.lif_eq_f d6_46 rfl kq2 ?_
  refine C.aloadN d6_49 rfl rfl rfl ?_
  refine C.getF d6_50 rfl (tw hw 17 rfl) F1678 ?_
  refine C.aloadN d6_53 rfl rfl rfl ?_
  refine C.dup d6_54 rfl rfl ?_
  refine C.getF d6_55 rfl (tw hw 38 rfl) F1682 ?_
  refine C.dupX1 d6_58 rfl rfl rfl ?_
  refine C.iconst 1 d6_59 rfl rfl ?_
  refine C.iadd d6_60 rfl ?_
  refine Go.cI (y := 2) rfl ?_
  refine C.putF d6_61 rfl (tw hw 38 rfl) F1682 F1677 (Or.inl (tw hw 39 rfl)) (tw hw 4 rfl) (ty := .int) (by decide) rfl rfl g_o0 (fun h1684 W1685 F1686 => ?_)
  have F1687 := Exa.wr W1685 F1677
  have F1688 := Fld.other W1685 F1678 (Or.inr (slot_ne (C := kC0) (t := (.array .int)) (t' := .int) (Or.inr (tw hw 18 rfl)) (Or.inl (tw hw 39 rfl)) (by decide) (by decide) (by decide)))
  have F1689 := Fld.other W1685 F1679 (Or.inr (slot_ne (C := kC0) (t := .boolean) (t' := .int) (Or.inr (tw hw 15 rfl)) (Or.inl (tw hw 39 rfl)) (by decide) (by decide) (by decide)))
  have F1690 := Fld.other W1685 F1680 (Or.inr (slot_ne (C := kC0) (t := (.array .long)) (t' := .int) (Or.inr (tw hw 13 rfl)) (Or.inl (tw hw 39 rfl)) (by decide) (by decide) (by decide)))
  have F1691 := F1681.other W1685 (Ne.symm ne_o0_o2)
  have F1692 := F1683.other W1685 (Ne.symm ne_o0_o1)
  refine C.iloadN d6_64 rfl rfl ?_
  refine C.iastore d6_65 rfl F1692 g_o1 (by decide) (Nat.le_of_ble_eq_true rfl) (fun h1693 W1694 F1695 => ?_)
  have F1696 := Exa.wr W1694 F1687
  have F1697 := Fld.other W1694 F1688 (Or.inl ne_o0_o1)
  have F1698 := Fld.other W1694 F1689 (Or.inl ne_o0_o1)
  have F1699 := Fld.other W1694 F1690 (Or.inl ne_o0_o1)
  have F1700 := F1691.other W1694 (Ne.symm ne_o1_o2)
  have F1701 := Fld.other W1694 F1686 (Or.inl ne_o0_o1)
  have F1702 : Av Z h1693 o1 .int ([.int 0, .int 2, .int 0]) := F1695
  refine C.iinc (Ls' := #[rv o0, iv 3]) 1 d6_66 rfl rfl rfl rfl ?_
  refine C.goto d6_69 (by decide) rfl ?_
  refine C.iloadN d6_29 rfl rfl ?_
  refine C.aloadN d6_30 rfl rfl rfl ?_
  refine C.getF d6_31 rfl (tw hw 12 rfl) F1699 ?_
  refine C.alen d6_34 rfl F1700 ?_
  refine Go.cI (y := 3) rfl ?_
  refine C.icmp_ge_t d6_35 (by decide) rfl (by decide) ?_
  refine C.goto d6_72 (by decide) rfl ?_
  exact C.ret0 d6_87 (by decide) (by decide) ⟨rfl, ((((((Keep.refl h0 [o0, o1]).wr W1657 (Or.inl (List.mem_of_getElem? (i := 0) rfl))).wr W1666 (Or.inl (List.mem_of_getElem? (i := 0) rfl))).wr W1675 (Or.inl (List.mem_of_getElem? (i := 1) rfl))).wr W1685 (Or.inl (List.mem_of_getElem? (i := 0) rfl))).wr W1694 (Or.inl (List.mem_of_getElem? (i := 1) rfl))), F1701, F1697, F1698, F1699, F1702⟩
def Qau1758_12 (Z : State) (n0 : Nat) (h0 : Heap) (o0 : Addr) (o1 : Addr) (o2 : Addr) (j0 : Int64) (j1 : Int64) (j2 : Int64) (v : Option Value) (h' : Heap) : Prop := (v = some (.int 2)) ∧ (h0 = h')
theorem ef_au1758_12 (m : MethodId) (o0 : Addr) : entryFrame m #[(.ref o0)] 1 = mkF m 0 #[rv o0] [] := by first | (simp [entryFrame, mkF, argsToLocals, Value.category]; done) | rfl
set_option maxRecDepth 65536 in
set_option maxHeartbeats 40000000 in
theorem au1758_12 (l : Launch) (Z : State) (a0 : Array Value) (hw : ∀ d ∈ tables_1, d.before a0 Z = true) (n0 : Nat) (h0 : Heap) (hn0 : n0 ≤ h0.size) (o0 : Addr) (o1 : Addr) (o2 : Addr) (j0 : Int64) (j1 : Int64) (j2 : Int64) (P0 : Exa Z h0 o0 kC0) (P1 : Fld Z h0 o0 kC0 "count" "I" (.int 2)) (P2 : Fld Z h0 o0 kC0 "held" "[I" (.ref o1)) (P3 : Fld Z h0 o0 kC0 "listing" "Z" (.int 0)) (P4 : Fld Z h0 o0 kC0 "words" "[J" (.ref o2)) (P5 : Av Z h0 o1 .int ([.int 0, .int 2, .int 0])) (P6 : Av Z h0 o2 .long ([.long j0, .long j1, .long j2])) (g_o0 : n0 ≤ o0) (g_o1 : n0 ≤ o1) (g_o2 : n0 ≤ o2) (ne_o0_o1 : o0 ≠ o1) (ne_o0_o2 : o0 ≠ o2) (ne_o1_o2 : o1 ≠ o2) :
    Con l Z n0 [] (⟨"com/example/detra/detra/SetWords", "heldCount", "()I"⟩ : MethodName) prog_21_method_9_code 1 (some .int) ({ frames := 0, cells := 0, slots := 0, locals := 0 } : Room) #[(.ref o0)] h0 (Qau1758_12 Z n0 h0 o0 o1 o2 j0 j1 j2) := by
  refine Con.of pf_4 (fun m => ef_au1758_12 m o0) hn0 ?_
  intro p e s m below meth c C
  refine C.aloadN d12_0 rfl rfl rfl ?_
  refine C.getF d12_1 rfl (tw hw 38 rfl) P1 ?_
  exact C.retI d12_4 (by decide) (by decide) ⟨rfl, rfl⟩
def Qau1763_13 (Z : State) (n0 : Nat) (h0 : Heap) (o0 : Addr) (o1 : Addr) (o2 : Addr) (j0 : Int64) (j1 : Int64) (j2 : Int64) (v : Option Value) (h' : Heap) : Prop := (v = some (.int 0)) ∧ (h0 = h')
theorem ef_au1763_13 (m : MethodId) (o0 : Addr) : entryFrame m #[(.ref o0), (.int 0)] 2 = mkF m 0 #[rv o0, iv 0] [] := by first | (simp [entryFrame, mkF, argsToLocals, Value.category]; done) | rfl
set_option maxRecDepth 65536 in
set_option maxHeartbeats 40000000 in
theorem au1763_13 (l : Launch) (Z : State) (a0 : Array Value) (hw : ∀ d ∈ tables_1, d.before a0 Z = true) (n0 : Nat) (h0 : Heap) (hn0 : n0 ≤ h0.size) (o0 : Addr) (o1 : Addr) (o2 : Addr) (j0 : Int64) (j1 : Int64) (j2 : Int64) (P0 : Exa Z h0 o0 kC0) (P1 : Fld Z h0 o0 kC0 "count" "I" (.int 2)) (P2 : Fld Z h0 o0 kC0 "held" "[I" (.ref o1)) (P3 : Fld Z h0 o0 kC0 "listing" "Z" (.int 0)) (P4 : Fld Z h0 o0 kC0 "words" "[J" (.ref o2)) (P5 : Av Z h0 o1 .int ([.int 0, .int 2, .int 0])) (P6 : Av Z h0 o2 .long ([.long j0, .long j1, .long j2])) (g_o0 : n0 ≤ o0) (g_o1 : n0 ≤ o1) (g_o2 : n0 ≤ o2) (ne_o0_o1 : o0 ≠ o1) (ne_o0_o2 : o0 ≠ o2) (ne_o1_o2 : o1 ≠ o2) :
    Con l Z n0 [] (⟨"com/example/detra/detra/SetWords", "heldIndex", "(I)I"⟩ : MethodName) prog_21_method_10_code 2 (some .int) ({ frames := 0, cells := 0, slots := 0, locals := 0 } : Room) #[(.ref o0), (.int 0)] h0 (Qau1763_13 Z n0 h0 o0 o1 o2 j0 j1 j2) := by
  refine Con.of pf_5 (fun m => ef_au1763_13 m o0) hn0 ?_
  intro p e s m below meth c C
  refine C.aloadN d13_0 rfl rfl rfl ?_
  refine C.getF d13_1 rfl (tw hw 17 rfl) P2 ?_
  refine C.iloadN d13_4 rfl rfl ?_
  refine C.iaload (.int 0) d13_5 rfl P5 (by decide) rfl ?_
  exact C.retI d13_6 (by decide) (by decide) ⟨rfl, rfl⟩
def Qau1768_13 (Z : State) (n0 : Nat) (h0 : Heap) (o0 : Addr) (o1 : Addr) (o2 : Addr) (j0 : Int64) (j1 : Int64) (j2 : Int64) (v : Option Value) (h' : Heap) : Prop := (v = some (.int 2)) ∧ (h0 = h')
theorem ef_au1768_13 (m : MethodId) (o0 : Addr) : entryFrame m #[(.ref o0), (.int 1)] 2 = mkF m 0 #[rv o0, iv 1] [] := by first | (simp [entryFrame, mkF, argsToLocals, Value.category]; done) | rfl
set_option maxRecDepth 65536 in
set_option maxHeartbeats 40000000 in
theorem au1768_13 (l : Launch) (Z : State) (a0 : Array Value) (hw : ∀ d ∈ tables_1, d.before a0 Z = true) (n0 : Nat) (h0 : Heap) (hn0 : n0 ≤ h0.size) (o0 : Addr) (o1 : Addr) (o2 : Addr) (j0 : Int64) (j1 : Int64) (j2 : Int64) (P0 : Exa Z h0 o0 kC0) (P1 : Fld Z h0 o0 kC0 "count" "I" (.int 2)) (P2 : Fld Z h0 o0 kC0 "held" "[I" (.ref o1)) (P3 : Fld Z h0 o0 kC0 "listing" "Z" (.int 0)) (P4 : Fld Z h0 o0 kC0 "words" "[J" (.ref o2)) (P5 : Av Z h0 o1 .int ([.int 0, .int 2, .int 0])) (P6 : Av Z h0 o2 .long ([.long j0, .long j1, .long j2])) (g_o0 : n0 ≤ o0) (g_o1 : n0 ≤ o1) (g_o2 : n0 ≤ o2) (ne_o0_o1 : o0 ≠ o1) (ne_o0_o2 : o0 ≠ o2) (ne_o1_o2 : o1 ≠ o2) :
    Con l Z n0 [] (⟨"com/example/detra/detra/SetWords", "heldIndex", "(I)I"⟩ : MethodName) prog_21_method_10_code 2 (some .int) ({ frames := 0, cells := 0, slots := 0, locals := 0 } : Room) #[(.ref o0), (.int 1)] h0 (Qau1768_13 Z n0 h0 o0 o1 o2 j0 j1 j2) := by
  refine Con.of pf_5 (fun m => ef_au1768_13 m o0) hn0 ?_
  intro p e s m below meth c C
  refine C.aloadN d13_0 rfl rfl rfl ?_
  refine C.getF d13_1 rfl (tw hw 17 rfl) P2 ?_
  refine C.iloadN d13_4 rfl rfl ?_
  refine C.iaload (.int 2) d13_5 rfl P5 (by decide) rfl ?_
  exact C.retI d13_6 (by decide) (by decide) ⟨rfl, rfl⟩
def Qau1822_6 (Z : State) (n0 : Nat) (h0 : Heap) (o0 : Addr) (o1 : Addr) (o2 : Addr) (j0 : Int64) (j1 : Int64) (j2 : Int64) (v : Option Value) (h' : Heap) : Prop := (v = none) ∧ (Keep h0 h' [o0, o1]) ∧ (Fld Z h' o0 kC0 "count" "I" (.int 2)) ∧ (Fld Z h' o0 kC0 "held" "[I" (.ref o1)) ∧ (Fld Z h' o0 kC0 "listing" "Z" (.int 0)) ∧ (Fld Z h' o0 kC0 "words" "[J" (.ref o2)) ∧ (Av Z h' o1 .int ([.int 0, .int 1, .int 0]))
theorem ef_au1822_6 (m : MethodId) (o0 : Addr) : entryFrame m #[(.ref o0)] 2 = mkF m 0 #[rv o0, .unset] [] := by first | (simp [entryFrame, mkF, argsToLocals, Value.category]; done) | rfl
set_option maxRecDepth 65536 in
set_option maxHeartbeats 40000000 in
theorem au1822_6 (l : Launch) (Z : State) (a0 : Array Value) (hw : ∀ d ∈ tables_1, d.before a0 Z = true) (n0 : Nat) (h0 : Heap) (hn0 : n0 ≤ h0.size) (o0 : Addr) (o1 : Addr) (o2 : Addr) (j0 : Int64) (j1 : Int64) (j2 : Int64) (P0 : Exa Z h0 o0 kC0) (P1 : Fld Z h0 o0 kC0 "count" "I" (.int 0)) (P2 : Fld Z h0 o0 kC0 "held" "[I" (.ref o1)) (P3 : Fld Z h0 o0 kC0 "listing" "Z" (.int 0)) (P4 : Fld Z h0 o0 kC0 "words" "[J" (.ref o2)) (P5 : Av Z h0 o1 .int ([.int 0, .int 0, .int 0])) (P6 : Av Z h0 o2 .long ([.long j0, .long j1, .long j2])) (g_o0 : n0 ≤ o0) (g_o1 : n0 ≤ o1) (g_o2 : n0 ≤ o2) (ne_o0_o1 : o0 ≠ o1) (ne_o0_o2 : o0 ≠ o2) (ne_o1_o2 : o1 ≠ o2) (kq0 : ¬ (j0 = (0 : Int64))) (kq1 : ¬ (j1 = (0 : Int64))) (kq2 : (j2 = (0 : Int64))) :
    Con l Z n0 [] (⟨"com/example/detra/detra/SetWords", "listHeld", "()V"⟩ : MethodName) prog_21_method_7_code 2 none ({ frames := 0, cells := 0, slots := 0, locals := 0 } : Room) #[(.ref o0)] h0 (Qau1822_6 Z n0 h0 o0 o1 o2 j0 j1 j2) := by
  refine Con.of pf_3 (fun m => ef_au1822_6 m o0) hn0 ?_
  intro p e s m below meth c C
  refine C.aloadN d6_0 rfl rfl rfl ?_
  refine C.getF d6_1 rfl (tw hw 14 rfl) P3 ?_
  refine C.if_eq_t d6_4 (by decide) rfl (by decide) ?_
  refine C.aloadN d6_22 rfl rfl rfl ?_
  refine C.iconst 0 d6_23 rfl rfl ?_
  refine C.putF d6_24 rfl (tw hw 38 rfl) P1 P0 (Or.inl (tw hw 39 rfl)) (tw hw 4 rfl) (ty := .int) (by decide) rfl rfl g_o0 (fun h1917 W1918 F1919 => ?_)
  have F1920 := Exa.wr W1918 P0
  have F1921 := Fld.other W1918 P2 (Or.inr (slot_ne (C := kC0) (t := (.array .int)) (t' := .int) (Or.inr (tw hw 18 rfl)) (Or.inl (tw hw 39 rfl)) (by decide) (by decide) (by decide)))
  have F1922 := Fld.other W1918 P3 (Or.inr (slot_ne (C := kC0) (t := .boolean) (t' := .int) (Or.inr (tw hw 15 rfl)) (Or.inl (tw hw 39 rfl)) (by decide) (by decide) (by decide)))
  have F1923 := Fld.other W1918 P4 (Or.inr (slot_ne (C := kC0) (t := (.array .long)) (t' := .int) (Or.inr (tw hw 13 rfl)) (Or.inl (tw hw 39 rfl)) (by decide) (by decide) (by decide)))
  have F1924 := P5.other W1918 (Ne.symm ne_o0_o1)
  have F1925 := P6.other W1918 (Ne.symm ne_o0_o2)
  refine C.iconst 0 d6_27 rfl rfl ?_
  refine C.istoreN (Ls' := #[rv o0, iv 0]) d6_28 rfl rfl ?_
  refine C.iloadN d6_29 rfl rfl ?_
  refine C.aloadN d6_30 rfl rfl rfl ?_
  refine C.getF d6_31 rfl (tw hw 12 rfl) F1923 ?_
  refine C.alen d6_34 rfl F1925 ?_
  refine Go.cI (y := 3) rfl ?_
  refine C.icmp_ge_f d6_35 rfl (by decide) ?_
  refine C.aloadN d6_38 rfl rfl rfl ?_
  refine C.getF d6_39 rfl (tw hw 12 rfl) F1923 ?_
  refine C.iloadN d6_42 rfl rfl ?_
  refine C.laload (.long j0) d6_43 rfl F1925 (by decide) rfl ?_
  refine C.lconst 0 d6_44 rfl rfl ?_
  refine C.lcmp d6_45 rfl ?_
  refine C.lif_eq_f d6_46 rfl kq0 ?_
  refine C.aloadN d6_49 rfl rfl rfl ?_
  refine C.getF d6_50 rfl (tw hw 17 rfl) F1921 ?_
  refine C.aloadN d6_53 rfl rfl rfl ?_
  refine C.dup d6_54 rfl rfl ?_
  refine C.getF d6_55 rfl (tw hw 38 rfl) F1919 ?_
  refine C.dupX1 d6_58 rfl rfl rfl ?_
  refine C.iconst 1 d6_59 rfl rfl ?_
  refine C.iadd d6_60 rfl ?_
  refine Go.cI (y := 1) rfl ?_
  refine C.putF d6_61 rfl (tw hw 38 rfl) F1919 F1920 (Or.inl (tw hw 39 rfl)) (tw hw 4 rfl) (ty := .int) (by decide) rfl rfl g_o0 (fun h1926 W1927 F1928 => ?_)
  have F1929 := Exa.wr W1927 F1920
  have F1930 := Fld.other W1927 F1921 (Or.inr (slot_ne (C := kC0) (t := (.array .int)) (t' := .int) (Or.inr (tw hw 18 rfl)) (Or.inl (tw hw 39 rfl)) (by decide) (by decide) (by decide)))
  have F1931 := Fld.other W1927 F1922 (Or.inr (slot_ne (C := kC0) (t := .boolean) (t' := .int) (Or.inr (tw hw 15 rfl)) (Or.inl (tw hw 39 rfl)) (by decide) (by decide) (by decide)))
  have F1932 := Fld.other W1927 F1923 (Or.inr (slot_ne (C := kC0) (t := (.array .long)) (t' := .int) (Or.inr (tw hw 13 rfl)) (Or.inl (tw hw 39 rfl)) (by decide) (by decide) (by decide)))
  have F1933 := F1924.other W1927 (Ne.symm ne_o0_o1)
  have F1934 := F1925.other W1927 (Ne.symm ne_o0_o2)
  refine C.iloadN d6_64 rfl rfl ?_
  refine C.iastore d6_65 rfl F1933 g_o1 (by decide) (Nat.le_of_ble_eq_true rfl) (fun h1935 W1936 F1937 => ?_)
  have F1938 := Exa.wr W1936 F1929
  have F1939 := Fld.other W1936 F1930 (Or.inl ne_o0_o1)
  have F1940 := Fld.other W1936 F1931 (Or.inl ne_o0_o1)
  have F1941 := Fld.other W1936 F1932 (Or.inl ne_o0_o1)
  have F1942 := F1934.other W1936 (Ne.symm ne_o1_o2)
  have F1943 := Fld.other W1936 F1928 (Or.inl ne_o0_o1)
  have F1944 : Av Z h1935 o1 .int ([.int 0, .int 0, .int 0]) := F1937
  refine C.iinc (Ls' := #[rv o0, iv 1]) 1 d6_66 rfl rfl rfl rfl ?_
  refine C.goto d6_69 (by decide) rfl ?_
  refine C.iloadN d6_29 rfl rfl ?_
  refine C.aloadN d6_30 rfl rfl rfl ?_
  refine C.getF d6_31 rfl (tw hw 12 rfl) F1941 ?_
  refine C.alen d6_34 rfl F1942 ?_
  refine Go.cI (y := 3) rfl ?_
  refine C.icmp_ge_f d6_35 rfl (by decide) ?_
  refine C.aloadN d6_38 rfl rfl rfl ?_
  refine C.getF d6_39 rfl (tw hw 12 rfl) F1941 ?_
  refine C.iloadN d6_42 rfl rfl ?_
  refine C.laload (.long j1) d6_43 rfl F1942 (by decide) rfl ?_
  refine C.lconst 0 d6_44 rfl rfl ?_
  refine C.lcmp d6_45 rfl ?_
  refine C.lif_eq_f d6_46 rfl kq1 ?_
  refine C.aloadN d6_49 rfl rfl rfl ?_
  refine C.getF d6_50 rfl (tw hw 17 rfl) F1939 ?_
  refine C.aloadN d6_53 rfl rfl rfl ?_
  refine C.dup d6_54 rfl rfl ?_
  refine C.getF d6_55 rfl (tw hw 38 rfl) F1943 ?_
  refine C.dupX1 d6_58 rfl rfl rfl ?_
  refine C.iconst 1 d6_59 rfl rfl ?_
  refine C.iadd d6_60 rfl ?_
  refine Go.cI (y := 2) rfl ?_
  refine C.putF d6_61 rfl (tw hw 38 rfl) F1943 F1938 (Or.inl (tw hw 39 rfl)) (tw hw 4 rfl) (ty := .int) (by decide) rfl rfl g_o0 (fun h1945 W1946 F1947 => ?_)
  have F1948 := Exa.wr W1946 F1938
  have F1949 := Fld.other W1946 F1939 (Or.inr (slot_ne (C := kC0) (t := (.array .int)) (t' := .int) (Or.inr (tw hw 18 rfl)) (Or.inl (tw hw 39 rfl)) (by decide) (by decide) (by decide)))
  have F1950 := Fld.other W1946 F1940 (Or.inr (slot_ne (C := kC0) (t := .boolean) (t' := .int) (Or.inr (tw hw 15 rfl)) (Or.inl (tw hw 39 rfl)) (by decide) (by decide) (by decide)))
  have F1951 := Fld.other W1946 F1941 (Or.inr (slot_ne (C := kC0) (t := (.array .long)) (t' := .int) (Or.inr (tw hw 13 rfl)) (Or.inl (tw hw 39 rfl)) (by decide) (by decide) (by decide)))
  have F1952 := F1942.other W1946 (Ne.symm ne_o0_o2)
  have F1953 := F1944.other W1946 (Ne.symm ne_o0_o1)
  refine C.iloadN d6_64 rfl rfl ?_
  refine C.iastore d6_65 rfl F1953 g_o1 (by decide) (Nat.le_of_ble_eq_true rfl) (fun h1954 W1955 F1956 => ?_)
  have F1957 := Exa.wr W1955 F1948
  have F1958 := Fld.other W1955 F1949 (Or.inl ne_o0_o1)
  have F1959 := Fld.other W1955 F1950 (Or.inl ne_o0_o1)
  have F1960 := Fld.other W1955 F1951 (Or.inl ne_o0_o1)
  have F1961 := F1952.other W1955 (Ne.symm ne_o1_o2)
  have F1962 := Fld.other W1955 F1947 (Or.inl ne_o0_o1)
  have F1963 : Av Z h1954 o1 .int ([.int 0, .int 1, .int 0]) := F1956
  refine C.iinc (Ls' := #[rv o0, iv 2]) 1 d6_66 rfl rfl rfl rfl ?_
  refine C.goto d6_69 (by decide) rfl ?_
  refine C.iloadN d6_29 rfl rfl ?_
  refine C.aloadN d6_30 rfl rfl rfl ?_
  refine C.getF d6_31 rfl (tw hw 12 rfl) F1960 ?_
  refine C.alen d6_34 rfl F1961 ?_
  refine Go.cI (y := 3) rfl ?_
  refine C.icmp_ge_f d6_35 rfl (by decide) ?_
  refine C.aloadN d6_38 rfl rfl rfl ?_
  refine C.getF d6_39 rfl (tw hw 12 rfl) F1960 ?_
  refine C.iloadN d6_42 rfl rfl ?_
  refine C.laload (.long j2) d6_43 rfl F1961 (by decide) rfl ?_
  rw [kq2]
  refine C.lconst 0 d6_44 rfl rfl ?_
  refine C.lcmp d6_45 rfl ?_
  refine C.lif_eq_t d6_46 (by decide) rfl (by decide) ?_
  refine C.iinc (Ls' := #[rv o0, iv 3]) 1 d6_66 rfl rfl rfl rfl ?_
  refine C.goto d6_69 (by decide) rfl ?_
  refine C.iloadN d6_29 rfl rfl ?_
  refine C.aloadN d6_30 rfl rfl rfl ?_
  refine C.getF d6_31 rfl (tw hw 12 rfl) F1960 ?_
  refine C.alen d6_34 rfl F1961 ?_
  refine Go.cI (y := 3) rfl ?_
  refine C.icmp_ge_t d6_35 (by decide) rfl (by decide) ?_
  refine C.goto d6_72 (by decide) rfl ?_
  exact C.ret0 d6_87 (by decide) (by decide) ⟨rfl, ((((((Keep.refl h0 [o0, o1]).wr W1918 (Or.inl (List.mem_of_getElem? (i := 0) rfl))).wr W1927 (Or.inl (List.mem_of_getElem? (i := 0) rfl))).wr W1936 (Or.inl (List.mem_of_getElem? (i := 1) rfl))).wr W1946 (Or.inl (List.mem_of_getElem? (i := 0) rfl))).wr W1955 (Or.inl (List.mem_of_getElem? (i := 1) rfl))), F1962, F1958, F1959, F1960, F1963⟩
def Qau2019_12 (Z : State) (n0 : Nat) (h0 : Heap) (o0 : Addr) (o1 : Addr) (o2 : Addr) (j0 : Int64) (j1 : Int64) (j2 : Int64) (v : Option Value) (h' : Heap) : Prop := (v = some (.int 2)) ∧ (h0 = h')
theorem ef_au2019_12 (m : MethodId) (o0 : Addr) : entryFrame m #[(.ref o0)] 1 = mkF m 0 #[rv o0] [] := by first | (simp [entryFrame, mkF, argsToLocals, Value.category]; done) | rfl
set_option maxRecDepth 65536 in
set_option maxHeartbeats 40000000 in
theorem au2019_12 (l : Launch) (Z : State) (a0 : Array Value) (hw : ∀ d ∈ tables_1, d.before a0 Z = true) (n0 : Nat) (h0 : Heap) (hn0 : n0 ≤ h0.size) (o0 : Addr) (o1 : Addr) (o2 : Addr) (j0 : Int64) (j1 : Int64) (j2 : Int64) (P0 : Exa Z h0 o0 kC0) (P1 : Fld Z h0 o0 kC0 "count" "I" (.int 2)) (P2 : Fld Z h0 o0 kC0 "held" "[I" (.ref o1)) (P3 : Fld Z h0 o0 kC0 "listing" "Z" (.int 0)) (P4 : Fld Z h0 o0 kC0 "words" "[J" (.ref o2)) (P5 : Av Z h0 o1 .int ([.int 0, .int 1, .int 0])) (P6 : Av Z h0 o2 .long ([.long j0, .long j1, .long j2])) (g_o0 : n0 ≤ o0) (g_o1 : n0 ≤ o1) (g_o2 : n0 ≤ o2) (ne_o0_o1 : o0 ≠ o1) (ne_o0_o2 : o0 ≠ o2) (ne_o1_o2 : o1 ≠ o2) :
    Con l Z n0 [] (⟨"com/example/detra/detra/SetWords", "heldCount", "()I"⟩ : MethodName) prog_21_method_9_code 1 (some .int) ({ frames := 0, cells := 0, slots := 0, locals := 0 } : Room) #[(.ref o0)] h0 (Qau2019_12 Z n0 h0 o0 o1 o2 j0 j1 j2) := by
  refine Con.of pf_4 (fun m => ef_au2019_12 m o0) hn0 ?_
  intro p e s m below meth c C
  refine C.aloadN d12_0 rfl rfl rfl ?_
  refine C.getF d12_1 rfl (tw hw 38 rfl) P1 ?_
  exact C.retI d12_4 (by decide) (by decide) ⟨rfl, rfl⟩
def Qau2024_13 (Z : State) (n0 : Nat) (h0 : Heap) (o0 : Addr) (o1 : Addr) (o2 : Addr) (j0 : Int64) (j1 : Int64) (j2 : Int64) (v : Option Value) (h' : Heap) : Prop := (v = some (.int 0)) ∧ (h0 = h')
theorem ef_au2024_13 (m : MethodId) (o0 : Addr) : entryFrame m #[(.ref o0), (.int 0)] 2 = mkF m 0 #[rv o0, iv 0] [] := by first | (simp [entryFrame, mkF, argsToLocals, Value.category]; done) | rfl
set_option maxRecDepth 65536 in
set_option maxHeartbeats 40000000 in
theorem au2024_13 (l : Launch) (Z : State) (a0 : Array Value) (hw : ∀ d ∈ tables_1, d.before a0 Z = true) (n0 : Nat) (h0 : Heap) (hn0 : n0 ≤ h0.size) (o0 : Addr) (o1 : Addr) (o2 : Addr) (j0 : Int64) (j1 : Int64) (j2 : Int64) (P0 : Exa Z h0 o0 kC0) (P1 : Fld Z h0 o0 kC0 "count" "I" (.int 2)) (P2 : Fld Z h0 o0 kC0 "held" "[I" (.ref o1)) (P3 : Fld Z h0 o0 kC0 "listing" "Z" (.int 0)) (P4 : Fld Z h0 o0 kC0 "words" "[J" (.ref o2)) (P5 : Av Z h0 o1 .int ([.int 0, .int 1, .int 0])) (P6 : Av Z h0 o2 .long ([.long j0, .long j1, .long j2])) (g_o0 : n0 ≤ o0) (g_o1 : n0 ≤ o1) (g_o2 : n0 ≤ o2) (ne_o0_o1 : o0 ≠ o1) (ne_o0_o2 : o0 ≠ o2) (ne_o1_o2 : o1 ≠ o2) :
    Con l Z n0 [] (⟨"com/example/detra/detra/SetWords", "heldIndex", "(I)I"⟩ : MethodName) prog_21_method_10_code 2 (some .int) ({ frames := 0, cells := 0, slots := 0, locals := 0 } : Room) #[(.ref o0), (.int 0)] h0 (Qau2024_13 Z n0 h0 o0 o1 o2 j0 j1 j2) := by
  refine Con.of pf_5 (fun m => ef_au2024_13 m o0) hn0 ?_
  intro p e s m below meth c C
  refine C.aloadN d13_0 rfl rfl rfl ?_
  refine C.getF d13_1 rfl (tw hw 17 rfl) P2 ?_
  refine C.iloadN d13_4 rfl rfl ?_
  refine C.iaload (.int 0) d13_5 rfl P5 (by decide) rfl ?_
  exact C.retI d13_6 (by decide) (by decide) ⟨rfl, rfl⟩
def Qau2029_13 (Z : State) (n0 : Nat) (h0 : Heap) (o0 : Addr) (o1 : Addr) (o2 : Addr) (j0 : Int64) (j1 : Int64) (j2 : Int64) (v : Option Value) (h' : Heap) : Prop := (v = some (.int 1)) ∧ (h0 = h')
theorem ef_au2029_13 (m : MethodId) (o0 : Addr) : entryFrame m #[(.ref o0), (.int 1)] 2 = mkF m 0 #[rv o0, iv 1] [] := by first | (simp [entryFrame, mkF, argsToLocals, Value.category]; done) | rfl
set_option maxRecDepth 65536 in
set_option maxHeartbeats 40000000 in
theorem au2029_13 (l : Launch) (Z : State) (a0 : Array Value) (hw : ∀ d ∈ tables_1, d.before a0 Z = true) (n0 : Nat) (h0 : Heap) (hn0 : n0 ≤ h0.size) (o0 : Addr) (o1 : Addr) (o2 : Addr) (j0 : Int64) (j1 : Int64) (j2 : Int64) (P0 : Exa Z h0 o0 kC0) (P1 : Fld Z h0 o0 kC0 "count" "I" (.int 2)) (P2 : Fld Z h0 o0 kC0 "held" "[I" (.ref o1)) (P3 : Fld Z h0 o0 kC0 "listing" "Z" (.int 0)) (P4 : Fld Z h0 o0 kC0 "words" "[J" (.ref o2)) (P5 : Av Z h0 o1 .int ([.int 0, .int 1, .int 0])) (P6 : Av Z h0 o2 .long ([.long j0, .long j1, .long j2])) (g_o0 : n0 ≤ o0) (g_o1 : n0 ≤ o1) (g_o2 : n0 ≤ o2) (ne_o0_o1 : o0 ≠ o1) (ne_o0_o2 : o0 ≠ o2) (ne_o1_o2 : o1 ≠ o2) :
    Con l Z n0 [] (⟨"com/example/detra/detra/SetWords", "heldIndex", "(I)I"⟩ : MethodName) prog_21_method_10_code 2 (some .int) ({ frames := 0, cells := 0, slots := 0, locals := 0 } : Room) #[(.ref o0), (.int 1)] h0 (Qau2029_13 Z n0 h0 o0 o1 o2 j0 j1 j2) := by
  refine Con.of pf_5 (fun m => ef_au2029_13 m o0) hn0 ?_
  intro p e s m below meth c C
  refine C.aloadN d13_0 rfl rfl rfl ?_
  refine C.getF d13_1 rfl (tw hw 17 rfl) P2 ?_
  refine C.iloadN d13_4 rfl rfl ?_
  refine C.iaload (.int 1) d13_5 rfl P5 (by decide) rfl ?_
  exact C.retI d13_6 (by decide) (by decide) ⟨rfl, rfl⟩
def Qau2034_6 (Z : State) (n0 : Nat) (h0 : Heap) (o0 : Addr) (o1 : Addr) (o2 : Addr) (j0 : Int64) (j1 : Int64) (j2 : Int64) (v : Option Value) (h' : Heap) : Prop := (v = none) ∧ (Keep h0 h' [o0, o1]) ∧ (Fld Z h' o0 kC0 "count" "I" (.int 3)) ∧ (Fld Z h' o0 kC0 "held" "[I" (.ref o1)) ∧ (Fld Z h' o0 kC0 "listing" "Z" (.int 0)) ∧ (Fld Z h' o0 kC0 "words" "[J" (.ref o2)) ∧ (Av Z h' o1 .int ([.int 0, .int 1, .int 2]))
theorem ef_au2034_6 (m : MethodId) (o0 : Addr) : entryFrame m #[(.ref o0)] 2 = mkF m 0 #[rv o0, .unset] [] := by first | (simp [entryFrame, mkF, argsToLocals, Value.category]; done) | rfl
set_option maxRecDepth 65536 in
set_option maxHeartbeats 40000000 in
theorem au2034_6 (l : Launch) (Z : State) (a0 : Array Value) (hw : ∀ d ∈ tables_1, d.before a0 Z = true) (n0 : Nat) (h0 : Heap) (hn0 : n0 ≤ h0.size) (o0 : Addr) (o1 : Addr) (o2 : Addr) (j0 : Int64) (j1 : Int64) (j2 : Int64) (P0 : Exa Z h0 o0 kC0) (P1 : Fld Z h0 o0 kC0 "count" "I" (.int 0)) (P2 : Fld Z h0 o0 kC0 "held" "[I" (.ref o1)) (P3 : Fld Z h0 o0 kC0 "listing" "Z" (.int 0)) (P4 : Fld Z h0 o0 kC0 "words" "[J" (.ref o2)) (P5 : Av Z h0 o1 .int ([.int 0, .int 0, .int 0])) (P6 : Av Z h0 o2 .long ([.long j0, .long j1, .long j2])) (g_o0 : n0 ≤ o0) (g_o1 : n0 ≤ o1) (g_o2 : n0 ≤ o2) (ne_o0_o1 : o0 ≠ o1) (ne_o0_o2 : o0 ≠ o2) (ne_o1_o2 : o1 ≠ o2) (kq0 : ¬ (j0 = (0 : Int64))) (kq1 : ¬ (j1 = (0 : Int64))) (kq2 : ¬ (j2 = (0 : Int64))) :
    Con l Z n0 [] (⟨"com/example/detra/detra/SetWords", "listHeld", "()V"⟩ : MethodName) prog_21_method_7_code 2 none ({ frames := 0, cells := 0, slots := 0, locals := 0 } : Room) #[(.ref o0)] h0 (Qau2034_6 Z n0 h0 o0 o1 o2 j0 j1 j2) := by
  refine Con.of pf_3 (fun m => ef_au2034_6 m o0) hn0 ?_
  intro p e s m below meth c C
  refine C.aloadN d6_0 rfl rfl rfl ?_
  refine C.getF d6_1 rfl (tw hw 14 rfl) P3 ?_
  refine C.if_eq_t d6_4 (by decide) rfl (by decide) ?_
  refine C.aloadN d6_22 rfl rfl rfl ?_
  refine C.iconst 0 d6_23 rfl rfl ?_
  refine C.putF d6_24 rfl (tw hw 38 rfl) P1 P0 (Or.inl (tw hw 39 rfl)) (tw hw 4 rfl) (ty := .int) (by decide) rfl rfl g_o0 (fun h2167 W2168 F2169 => ?_)
  have F2170 := Exa.wr W2168 P0
  have F2171 := Fld.other W2168 P2 (Or.inr (slot_ne (C := kC0) (t := (.array .int)) (t' := .int) (Or.inr (tw hw 18 rfl)) (Or.inl (tw hw 39 rfl)) (by decide) (by decide) (by decide)))
  have F2172 := Fld.other W2168 P3 (Or.inr (slot_ne (C := kC0) (t := .boolean) (t' := .int) (Or.inr (tw hw 15 rfl)) (Or.inl (tw hw 39 rfl)) (by decide) (by decide) (by decide)))
  have F2173 := Fld.other W2168 P4 (Or.inr (slot_ne (C := kC0) (t := (.array .long)) (t' := .int) (Or.inr (tw hw 13 rfl)) (Or.inl (tw hw 39 rfl)) (by decide) (by decide) (by decide)))
  have F2174 := P5.other W2168 (Ne.symm ne_o0_o1)
  have F2175 := P6.other W2168 (Ne.symm ne_o0_o2)
  refine C.iconst 0 d6_27 rfl rfl ?_
  refine C.istoreN (Ls' := #[rv o0, iv 0]) d6_28 rfl rfl ?_
  refine C.iloadN d6_29 rfl rfl ?_
  refine C.aloadN d6_30 rfl rfl rfl ?_
  refine C.getF d6_31 rfl (tw hw 12 rfl) F2173 ?_
  refine C.alen d6_34 rfl F2175 ?_
  refine Go.cI (y := 3) rfl ?_
  refine C.icmp_ge_f d6_35 rfl (by decide) ?_
  refine C.aloadN d6_38 rfl rfl rfl ?_
  refine C.getF d6_39 rfl (tw hw 12 rfl) F2173 ?_
  refine C.iloadN d6_42 rfl rfl ?_
  refine C.laload (.long j0) d6_43 rfl F2175 (by decide) rfl ?_
  refine C.lconst 0 d6_44 rfl rfl ?_
  refine C.lcmp d6_45 rfl ?_
  refine C.lif_eq_f d6_46 rfl kq0 ?_
  refine C.aloadN d6_49 rfl rfl rfl ?_
  refine C.getF d6_50 rfl (tw hw 17 rfl) F2171 ?_
  refine C.aloadN d6_53 rfl rfl rfl ?_
  refine C.dup d6_54 rfl rfl ?_
  refine C.getF d6_55 rfl (tw hw 38 rfl) F2169 ?_
  refine C.dupX1 d6_58 rfl rfl rfl ?_
  refine C.iconst 1 d6_59 rfl rfl ?_
  refine C.iadd d6_60 rfl ?_
  refine Go.cI (y := 1) rfl ?_
  refine C.putF d6_61 rfl (tw hw 38 rfl) F2169 F2170 (Or.inl (tw hw 39 rfl)) (tw hw 4 rfl) (ty := .int) (by decide) rfl rfl g_o0 (fun h2176 W2177 F2178 => ?_)
  have F2179 := Exa.wr W2177 F2170
  have F2180 := Fld.other W2177 F2171 (Or.inr (slot_ne (C := kC0) (t := (.array .int)) (t' := .int) (Or.inr (tw hw 18 rfl)) (Or.inl (tw hw 39 rfl)) (by decide) (by decide) (by decide)))
  have F2181 := Fld.other W2177 F2172 (Or.inr (slot_ne (C := kC0) (t := .boolean) (t' := .int) (Or.inr (tw hw 15 rfl)) (Or.inl (tw hw 39 rfl)) (by decide) (by decide) (by decide)))
  have F2182 := Fld.other W2177 F2173 (Or.inr (slot_ne (C := kC0) (t := (.array .long)) (t' := .int) (Or.inr (tw hw 13 rfl)) (Or.inl (tw hw 39 rfl)) (by decide) (by decide) (by decide)))
  have F2183 := F2174.other W2177 (Ne.symm ne_o0_o1)
  have F2184 := F2175.other W2177 (Ne.symm ne_o0_o2)
  refine C.iloadN d6_64 rfl rfl ?_
  refine C.iastore d6_65 rfl F2183 g_o1 (by decide) (Nat.le_of_ble_eq_true rfl) (fun h2185 W2186 F2187 => ?_)
  have F2188 := Exa.wr W2186 F2179
  have F2189 := Fld.other W2186 F2180 (Or.inl ne_o0_o1)
  have F2190 := Fld.other W2186 F2181 (Or.inl ne_o0_o1)
  have F2191 := Fld.other W2186 F2182 (Or.inl ne_o0_o1)
  have F2192 := F2184.other W2186 (Ne.symm ne_o1_o2)
  have F2193 := Fld.other W2186 F2178 (Or.inl ne_o0_o1)
  have F2194 : Av Z h2185 o1 .int ([.int 0, .int 0, .int 0]) := F2187
  refine C.iinc (Ls' := #[rv o0, iv 1]) 1 d6_66 rfl rfl rfl rfl ?_
  refine C.goto d6_69 (by decide) rfl ?_
  refine C.iloadN d6_29 rfl rfl ?_
  refine C.aloadN d6_30 rfl rfl rfl ?_
  refine C.getF d6_31 rfl (tw hw 12 rfl) F2191 ?_
  refine C.alen d6_34 rfl F2192 ?_
  refine Go.cI (y := 3) rfl ?_
  refine C.icmp_ge_f d6_35 rfl (by decide) ?_
  refine C.aloadN d6_38 rfl rfl rfl ?_
  refine C.getF d6_39 rfl (tw hw 12 rfl) F2191 ?_
  refine C.iloadN d6_42 rfl rfl ?_
  refine C.laload (.long j1) d6_43 rfl F2192 (by decide) rfl ?_
  refine C.lconst 0 d6_44 rfl rfl ?_
  refine C.lcmp d6_45 rfl ?_
  refine C.lif_eq_f d6_46 rfl kq1 ?_
  refine C.aloadN d6_49 rfl rfl rfl ?_
  refine C.getF d6_50 rfl (tw hw 17 rfl) F2189 ?_
  refine C.aloadN d6_53 rfl rfl rfl ?_
  refine C.dup d6_54 rfl rfl ?_
  refine C.getF d6_55 rfl (tw hw 38 rfl) F2193 ?_
  refine C.dupX1 d6_58 rfl rfl rfl ?_
  refine C.iconst 1 d6_59 rfl rfl ?_
  refine C.iadd d6_60 rfl ?_
  refine Go.cI (y := 2) rfl ?_
  refine C.putF d6_61 rfl (tw hw 38 rfl) F2193 F2188 (Or.inl (tw hw 39 rfl)) (tw hw 4 rfl) (ty := .int) (by decide) rfl rfl g_o0 (fun h2195 W2196 F2197 => ?_)
  have F2198 := Exa.wr W2196 F2188
  have F2199 := Fld.other W2196 F2189 (Or.inr (slot_ne (C := kC0) (t := (.array .int)) (t' := .int) (Or.inr (tw hw 18 rfl)) (Or.inl (tw hw 39 rfl)) (by decide) (by decide) (by decide)))
  have F2200 := Fld.other W2196 F2190 (Or.inr (slot_ne (C := kC0) (t := .boolean) (t' := .int) (Or.inr (tw hw 15 rfl)) (Or.inl (tw hw 39 rfl)) (by decide) (by decide) (by decide)))
  have F2201 := Fld.other W2196 F2191 (Or.inr (slot_ne (C := kC0) (t := (.array .long)) (t' := .int) (Or.inr (tw hw 13 rfl)) (Or.inl (tw hw 39 rfl)) (by decide) (by decide) (by decide)))
  have F2202 := F2192.other W2196 (Ne.symm ne_o0_o2)
  have F2203 := F2194.other W2196 (Ne.symm ne_o0_o1)
  refine C.iloadN d6_64 rfl rfl ?_
  refine C.iastore d6_65 rfl F2203 g_o1 (by decide) (Nat.le_of_ble_eq_true rfl) (fun h2204 W2205 F2206 => ?_)
  have F2207 := Exa.wr W2205 F2198
  have F2208 := Fld.other W2205 F2199 (Or.inl ne_o0_o1)
  have F2209 := Fld.other W2205 F2200 (Or.inl ne_o0_o1)
  have F2210 := Fld.other W2205 F2201 (Or.inl ne_o0_o1)
  have F2211 := F2202.other W2205 (Ne.symm ne_o1_o2)
  have F2212 := Fld.other W2205 F2197 (Or.inl ne_o0_o1)
  have F2213 : Av Z h2204 o1 .int ([.int 0, .int 1, .int 0]) := F2206
  refine C.iinc (Ls' := #[rv o0, iv 2]) 1 d6_66 rfl rfl rfl rfl ?_
  refine C.goto d6_69 (by decide) rfl ?_
  refine C.iloadN d6_29 rfl rfl ?_
  refine C.aloadN d6_30 rfl rfl rfl ?_
  refine C.getF d6_31 rfl (tw hw 12 rfl) F2210 ?_
  refine C.alen d6_34 rfl F2211 ?_
  refine Go.cI (y := 3) rfl ?_
  refine C.icmp_ge_f d6_35 rfl (by decide) ?_
  refine C.aloadN d6_38 rfl rfl rfl ?_
  refine C.getF d6_39 rfl (tw hw 12 rfl) F2210 ?_
  refine C.iloadN d6_42 rfl rfl ?_
  refine C.laload (.long j2) d6_43 rfl F2211 (by decide) rfl ?_
  refine C.lconst 0 d6_44 rfl rfl ?_
  refine C.lcmp d6_45 rfl ?_
  refine C.lif_eq_f d6_46 rfl kq2 ?_
  refine C.aloadN d6_49 rfl rfl rfl ?_
  refine C.getF d6_50 rfl (tw hw 17 rfl) F2208 ?_
  refine C.aloadN d6_53 rfl rfl rfl ?_
  refine C.dup d6_54 rfl rfl ?_
  refine C.getF d6_55 rfl (tw hw 38 rfl) F2212 ?_
  refine C.dupX1 d6_58 rfl rfl rfl ?_
  refine C.iconst 1 d6_59 rfl rfl ?_
  refine C.iadd d6_60 rfl ?_
  refine Go.cI (y := 3) rfl ?_
  refine C.putF d6_61 rfl (tw hw 38 rfl) F2212 F2207 (Or.inl (tw hw 39 rfl)) (tw hw 4 rfl) (ty := .int) (by decide) rfl rfl g_o0 (fun h2214 W2215 F2216 => ?_)
  have F2217 := Exa.wr W2215 F2207
  have F2218 := Fld.other W2215 F2208 (Or.inr (slot_ne (C := kC0) (t := (.array .int)) (t' := .int) (Or.inr (tw hw 18 rfl)) (Or.inl (tw hw 39 rfl)) (by decide) (by decide) (by decide)))
  have F2219 := Fld.other W2215 F2209 (Or.inr (slot_ne (C := kC0) (t := .boolean) (t' := .int) (Or.inr (tw hw 15 rfl)) (Or.inl (tw hw 39 rfl)) (by decide) (by decide) (by decide)))
  have F2220 := Fld.other W2215 F2210 (Or.inr (slot_ne (C := kC0) (t := (.array .long)) (t' := .int) (Or.inr (tw hw 13 rfl)) (Or.inl (tw hw 39 rfl)) (by decide) (by decide) (by decide)))
  have F2221 := F2211.other W2215 (Ne.symm ne_o0_o2)
  have F2222 := F2213.other W2215 (Ne.symm ne_o0_o1)
  refine C.iloadN d6_64 rfl rfl ?_
  refine C.iastore d6_65 rfl F2222 g_o1 (by decide) (Nat.le_of_ble_eq_true rfl) (fun h2223 W2224 F2225 => ?_)
  have F2226 := Exa.wr W2224 F2217
  have F2227 := Fld.other W2224 F2218 (Or.inl ne_o0_o1)
  have F2228 := Fld.other W2224 F2219 (Or.inl ne_o0_o1)
  have F2229 := Fld.other W2224 F2220 (Or.inl ne_o0_o1)
  have F2230 := F2221.other W2224 (Ne.symm ne_o1_o2)
  have F2231 := Fld.other W2224 F2216 (Or.inl ne_o0_o1)
  have F2232 : Av Z h2223 o1 .int ([.int 0, .int 1, .int 2]) := F2225
  refine C.iinc (Ls' := #[rv o0, iv 3]) 1 d6_66 rfl rfl rfl rfl ?_
  refine C.goto d6_69 (by decide) rfl ?_
  refine C.iloadN d6_29 rfl rfl ?_
  refine C.aloadN d6_30 rfl rfl rfl ?_
  refine C.getF d6_31 rfl (tw hw 12 rfl) F2229 ?_
  refine C.alen d6_34 rfl F2230 ?_
  refine Go.cI (y := 3) rfl ?_
  refine C.icmp_ge_t d6_35 (by decide) rfl (by decide) ?_
  refine C.goto d6_72 (by decide) rfl ?_
  exact C.ret0 d6_87 (by decide) (by decide) ⟨rfl, ((((((((Keep.refl h0 [o0, o1]).wr W2168 (Or.inl (List.mem_of_getElem? (i := 0) rfl))).wr W2177 (Or.inl (List.mem_of_getElem? (i := 0) rfl))).wr W2186 (Or.inl (List.mem_of_getElem? (i := 1) rfl))).wr W2196 (Or.inl (List.mem_of_getElem? (i := 0) rfl))).wr W2205 (Or.inl (List.mem_of_getElem? (i := 1) rfl))).wr W2215 (Or.inl (List.mem_of_getElem? (i := 0) rfl))).wr W2224 (Or.inl (List.mem_of_getElem? (i := 1) rfl))), F2231, F2227, F2228, F2229, F2232⟩
def Qau2299_12 (Z : State) (n0 : Nat) (h0 : Heap) (o0 : Addr) (o1 : Addr) (o2 : Addr) (j0 : Int64) (j1 : Int64) (j2 : Int64) (v : Option Value) (h' : Heap) : Prop := (v = some (.int 3)) ∧ (h0 = h')
theorem ef_au2299_12 (m : MethodId) (o0 : Addr) : entryFrame m #[(.ref o0)] 1 = mkF m 0 #[rv o0] [] := by first | (simp [entryFrame, mkF, argsToLocals, Value.category]; done) | rfl
set_option maxRecDepth 65536 in
set_option maxHeartbeats 40000000 in
theorem au2299_12 (l : Launch) (Z : State) (a0 : Array Value) (hw : ∀ d ∈ tables_1, d.before a0 Z = true) (n0 : Nat) (h0 : Heap) (hn0 : n0 ≤ h0.size) (o0 : Addr) (o1 : Addr) (o2 : Addr) (j0 : Int64) (j1 : Int64) (j2 : Int64) (P0 : Exa Z h0 o0 kC0) (P1 : Fld Z h0 o0 kC0 "count" "I" (.int 3)) (P2 : Fld Z h0 o0 kC0 "held" "[I" (.ref o1)) (P3 : Fld Z h0 o0 kC0 "listing" "Z" (.int 0)) (P4 : Fld Z h0 o0 kC0 "words" "[J" (.ref o2)) (P5 : Av Z h0 o1 .int ([.int 0, .int 1, .int 2])) (P6 : Av Z h0 o2 .long ([.long j0, .long j1, .long j2])) (g_o0 : n0 ≤ o0) (g_o1 : n0 ≤ o1) (g_o2 : n0 ≤ o2) (ne_o0_o1 : o0 ≠ o1) (ne_o0_o2 : o0 ≠ o2) (ne_o1_o2 : o1 ≠ o2) :
    Con l Z n0 [] (⟨"com/example/detra/detra/SetWords", "heldCount", "()I"⟩ : MethodName) prog_21_method_9_code 1 (some .int) ({ frames := 0, cells := 0, slots := 0, locals := 0 } : Room) #[(.ref o0)] h0 (Qau2299_12 Z n0 h0 o0 o1 o2 j0 j1 j2) := by
  refine Con.of pf_4 (fun m => ef_au2299_12 m o0) hn0 ?_
  intro p e s m below meth c C
  refine C.aloadN d12_0 rfl rfl rfl ?_
  refine C.getF d12_1 rfl (tw hw 38 rfl) P1 ?_
  exact C.retI d12_4 (by decide) (by decide) ⟨rfl, rfl⟩
def Qau2304_13 (Z : State) (n0 : Nat) (h0 : Heap) (o0 : Addr) (o1 : Addr) (o2 : Addr) (j0 : Int64) (j1 : Int64) (j2 : Int64) (v : Option Value) (h' : Heap) : Prop := (v = some (.int 0)) ∧ (h0 = h')
theorem ef_au2304_13 (m : MethodId) (o0 : Addr) : entryFrame m #[(.ref o0), (.int 0)] 2 = mkF m 0 #[rv o0, iv 0] [] := by first | (simp [entryFrame, mkF, argsToLocals, Value.category]; done) | rfl
set_option maxRecDepth 65536 in
set_option maxHeartbeats 40000000 in
theorem au2304_13 (l : Launch) (Z : State) (a0 : Array Value) (hw : ∀ d ∈ tables_1, d.before a0 Z = true) (n0 : Nat) (h0 : Heap) (hn0 : n0 ≤ h0.size) (o0 : Addr) (o1 : Addr) (o2 : Addr) (j0 : Int64) (j1 : Int64) (j2 : Int64) (P0 : Exa Z h0 o0 kC0) (P1 : Fld Z h0 o0 kC0 "count" "I" (.int 3)) (P2 : Fld Z h0 o0 kC0 "held" "[I" (.ref o1)) (P3 : Fld Z h0 o0 kC0 "listing" "Z" (.int 0)) (P4 : Fld Z h0 o0 kC0 "words" "[J" (.ref o2)) (P5 : Av Z h0 o1 .int ([.int 0, .int 1, .int 2])) (P6 : Av Z h0 o2 .long ([.long j0, .long j1, .long j2])) (g_o0 : n0 ≤ o0) (g_o1 : n0 ≤ o1) (g_o2 : n0 ≤ o2) (ne_o0_o1 : o0 ≠ o1) (ne_o0_o2 : o0 ≠ o2) (ne_o1_o2 : o1 ≠ o2) :
    Con l Z n0 [] (⟨"com/example/detra/detra/SetWords", "heldIndex", "(I)I"⟩ : MethodName) prog_21_method_10_code 2 (some .int) ({ frames := 0, cells := 0, slots := 0, locals := 0 } : Room) #[(.ref o0), (.int 0)] h0 (Qau2304_13 Z n0 h0 o0 o1 o2 j0 j1 j2) := by
  refine Con.of pf_5 (fun m => ef_au2304_13 m o0) hn0 ?_
  intro p e s m below meth c C
  refine C.aloadN d13_0 rfl rfl rfl ?_
  refine C.getF d13_1 rfl (tw hw 17 rfl) P2 ?_
  refine C.iloadN d13_4 rfl rfl ?_
  refine C.iaload (.int 0) d13_5 rfl P5 (by decide) rfl ?_
  exact C.retI d13_6 (by decide) (by decide) ⟨rfl, rfl⟩
def Qau2309_13 (Z : State) (n0 : Nat) (h0 : Heap) (o0 : Addr) (o1 : Addr) (o2 : Addr) (j0 : Int64) (j1 : Int64) (j2 : Int64) (v : Option Value) (h' : Heap) : Prop := (v = some (.int 1)) ∧ (h0 = h')
theorem ef_au2309_13 (m : MethodId) (o0 : Addr) : entryFrame m #[(.ref o0), (.int 1)] 2 = mkF m 0 #[rv o0, iv 1] [] := by first | (simp [entryFrame, mkF, argsToLocals, Value.category]; done) | rfl
set_option maxRecDepth 65536 in
set_option maxHeartbeats 40000000 in
theorem au2309_13 (l : Launch) (Z : State) (a0 : Array Value) (hw : ∀ d ∈ tables_1, d.before a0 Z = true) (n0 : Nat) (h0 : Heap) (hn0 : n0 ≤ h0.size) (o0 : Addr) (o1 : Addr) (o2 : Addr) (j0 : Int64) (j1 : Int64) (j2 : Int64) (P0 : Exa Z h0 o0 kC0) (P1 : Fld Z h0 o0 kC0 "count" "I" (.int 3)) (P2 : Fld Z h0 o0 kC0 "held" "[I" (.ref o1)) (P3 : Fld Z h0 o0 kC0 "listing" "Z" (.int 0)) (P4 : Fld Z h0 o0 kC0 "words" "[J" (.ref o2)) (P5 : Av Z h0 o1 .int ([.int 0, .int 1, .int 2])) (P6 : Av Z h0 o2 .long ([.long j0, .long j1, .long j2])) (g_o0 : n0 ≤ o0) (g_o1 : n0 ≤ o1) (g_o2 : n0 ≤ o2) (ne_o0_o1 : o0 ≠ o1) (ne_o0_o2 : o0 ≠ o2) (ne_o1_o2 : o1 ≠ o2) :
    Con l Z n0 [] (⟨"com/example/detra/detra/SetWords", "heldIndex", "(I)I"⟩ : MethodName) prog_21_method_10_code 2 (some .int) ({ frames := 0, cells := 0, slots := 0, locals := 0 } : Room) #[(.ref o0), (.int 1)] h0 (Qau2309_13 Z n0 h0 o0 o1 o2 j0 j1 j2) := by
  refine Con.of pf_5 (fun m => ef_au2309_13 m o0) hn0 ?_
  intro p e s m below meth c C
  refine C.aloadN d13_0 rfl rfl rfl ?_
  refine C.getF d13_1 rfl (tw hw 17 rfl) P2 ?_
  refine C.iloadN d13_4 rfl rfl ?_
  refine C.iaload (.int 1) d13_5 rfl P5 (by decide) rfl ?_
  exact C.retI d13_6 (by decide) (by decide) ⟨rfl, rfl⟩
def Qau2314_13 (Z : State) (n0 : Nat) (h0 : Heap) (o0 : Addr) (o1 : Addr) (o2 : Addr) (j0 : Int64) (j1 : Int64) (j2 : Int64) (v : Option Value) (h' : Heap) : Prop := (v = some (.int 2)) ∧ (h0 = h')
theorem ef_au2314_13 (m : MethodId) (o0 : Addr) : entryFrame m #[(.ref o0), (.int 2)] 2 = mkF m 0 #[rv o0, iv 2] [] := by first | (simp [entryFrame, mkF, argsToLocals, Value.category]; done) | rfl
set_option maxRecDepth 65536 in
set_option maxHeartbeats 40000000 in
theorem au2314_13 (l : Launch) (Z : State) (a0 : Array Value) (hw : ∀ d ∈ tables_1, d.before a0 Z = true) (n0 : Nat) (h0 : Heap) (hn0 : n0 ≤ h0.size) (o0 : Addr) (o1 : Addr) (o2 : Addr) (j0 : Int64) (j1 : Int64) (j2 : Int64) (P0 : Exa Z h0 o0 kC0) (P1 : Fld Z h0 o0 kC0 "count" "I" (.int 3)) (P2 : Fld Z h0 o0 kC0 "held" "[I" (.ref o1)) (P3 : Fld Z h0 o0 kC0 "listing" "Z" (.int 0)) (P4 : Fld Z h0 o0 kC0 "words" "[J" (.ref o2)) (P5 : Av Z h0 o1 .int ([.int 0, .int 1, .int 2])) (P6 : Av Z h0 o2 .long ([.long j0, .long j1, .long j2])) (g_o0 : n0 ≤ o0) (g_o1 : n0 ≤ o1) (g_o2 : n0 ≤ o2) (ne_o0_o1 : o0 ≠ o1) (ne_o0_o2 : o0 ≠ o2) (ne_o1_o2 : o1 ≠ o2) :
    Con l Z n0 [] (⟨"com/example/detra/detra/SetWords", "heldIndex", "(I)I"⟩ : MethodName) prog_21_method_10_code 2 (some .int) ({ frames := 0, cells := 0, slots := 0, locals := 0 } : Room) #[(.ref o0), (.int 2)] h0 (Qau2314_13 Z n0 h0 o0 o1 o2 j0 j1 j2) := by
  refine Con.of pf_5 (fun m => ef_au2314_13 m o0) hn0 ?_
  intro p e s m below meth c C
  refine C.aloadN d13_0 rfl rfl rfl ?_
  refine C.getF d13_1 rfl (tw hw 17 rfl) P2 ?_
  refine C.iloadN d13_4 rfl rfl ?_
  refine C.iaload (.int 2) d13_5 rfl P5 (by decide) rfl ?_
  exact C.retI d13_6 (by decide) (by decide) ⟨rfl, rfl⟩
theorem d1_0 : decode prog_21_method_1_code 0 = .ok (.aload_n 0, 1) := by decide +kernel
theorem d1_1 : decode prog_21_method_1_code 1 = .ok (.invokespecial 1, 3) := by decide +kernel
theorem d1_4 : decode prog_21_method_1_code 4 = .ok (.iload_n 1, 1) := by decide +kernel
theorem d1_5 : decode prog_21_method_1_code 5 = .ok (.bipush 64, 2) := by decide +kernel
theorem d1_7 : decode prog_21_method_1_code 7 = .ok (.iadd, 1) := by decide +kernel
theorem d1_8 : decode prog_21_method_1_code 8 = .ok (.iconst 1, 1) := by decide +kernel
theorem d1_9 : decode prog_21_method_1_code 9 = .ok (.isub, 1) := by decide +kernel
theorem d1_10 : decode prog_21_method_1_code 10 = .ok (.bipush 64, 2) := by decide +kernel
theorem d1_12 : decode prog_21_method_1_code 12 = .ok (.idiv, 1) := by decide +kernel
theorem d1_13 : decode prog_21_method_1_code 13 = .ok (.istore_n 2, 1) := by decide +kernel
theorem d1_14 : decode prog_21_method_1_code 14 = .ok (.aload_n 0, 1) := by decide +kernel
theorem d1_15 : decode prog_21_method_1_code 15 = .ok (.iload_n 2, 1) := by decide +kernel
theorem d1_16 : decode prog_21_method_1_code 16 = .ok (.newarray .long, 2) := by decide +kernel
theorem d1_18 : decode prog_21_method_1_code 18 = .ok (.putfield 9, 3) := by decide +kernel
theorem d1_21 : decode prog_21_method_1_code 21 = .ok (.aload_n 0, 1) := by decide +kernel
theorem d1_22 : decode prog_21_method_1_code 22 = .ok (.iload_n 2, 1) := by decide +kernel
theorem d1_23 : decode prog_21_method_1_code 23 = .ok (.bipush 16, 2) := by decide +kernel
theorem d1_25 : decode prog_21_method_1_code 25 = .ok (.if_icmp .le 7, 3) := by decide +kernel
theorem d1_28 : decode prog_21_method_1_code 28 = .ok (.iconst 1, 1) := by decide +kernel
theorem d1_29 : decode prog_21_method_1_code 29 = .ok (.goto 4, 3) := by decide +kernel
theorem d1_32 : decode prog_21_method_1_code 32 = .ok (.iconst 0, 1) := by decide +kernel
theorem d1_33 : decode prog_21_method_1_code 33 = .ok (.putfield 15, 3) := by decide +kernel
theorem d1_36 : decode prog_21_method_1_code 36 = .ok (.aload_n 0, 1) := by decide +kernel
theorem d1_37 : decode prog_21_method_1_code 37 = .ok (.iload_n 2, 1) := by decide +kernel
theorem d1_38 : decode prog_21_method_1_code 38 = .ok (.newarray .int, 2) := by decide +kernel
theorem d1_40 : decode prog_21_method_1_code 40 = .ok (.putfield 19, 3) := by decide +kernel
theorem d1_43 : decode prog_21_method_1_code 43 = .ok (.return_, 1) := by decide +kernel
theorem pf_6 : plainFor (⟨"com/example/detra/detra/SetWords", "<init>", "(I)V"⟩ : MethodName) = true := by first | exact plainFor_of_name (by first | (simp [plainName, overriddenIn]; done) | decide +kernel) | decide +kernel
def Qau2319_1 (Z : State) (n0 : Nat) (h0 : Heap) (o0 : Addr) (v : Option Value) (h' : Heap) : Prop := ∃ (f0 : Addr) (f1 : Addr), (v = none) ∧ (Keep h0 h' [o0]) ∧ (n0 ≤ f0) ∧ (h0.size ≤ f0) ∧ (n0 ≤ f1) ∧ (h0.size ≤ f1) ∧ (f0 ≠ f1) ∧ (Fld Z h' o0 kC0 "count" "I" (.int 0)) ∧ (Fld Z h' o0 kC0 "held" "[I" (.ref f0)) ∧ (Fld Z h' o0 kC0 "listing" "Z" (.int 0)) ∧ (Fld Z h' o0 kC0 "words" "[J" (.ref f1)) ∧ (Av Z h' f0 .int ([.int 0, .int 0, .int 0])) ∧ (Av Z h' f1 .long ([.long 0, .long 0, .long 0]))
theorem ef_au2319_1 (m : MethodId) (o0 : Addr) : entryFrame m #[(.ref o0), (.int 192)] 3 = mkF m 0 #[rv o0, iv 192, .unset] [] := by first | (simp [entryFrame, mkF, argsToLocals, Value.category]; done) | rfl
set_option maxRecDepth 65536 in
set_option maxHeartbeats 40000000 in
theorem au2319_1 (l : Launch) (Z : State) (a0 : Array Value) (hw : ∀ d ∈ tables_1, d.before a0 Z = true) (n0 : Nat) (h0 : Heap) (hn0 : n0 ≤ h0.size) (o0 : Addr) (P0 : Exa Z h0 o0 kC0) (P1 : Fld Z h0 o0 kC0 "count" "I" (.int 0)) (P2 : Fld Z h0 o0 kC0 "held" "[I" (.null)) (P3 : Fld Z h0 o0 kC0 "listing" "Z" (.int 0)) (P4 : Fld Z h0 o0 kC0 "words" "[J" (.null)) (g_o0 : n0 ≤ o0) :
    Con l Z n0 [] (⟨"com/example/detra/detra/SetWords", "<init>", "(I)V"⟩ : MethodName) prog_21_method_1_code 3 none ({ frames := 1, cells := 2, slots := 6, locals := 12 } : Room) #[(.ref o0), (.int 192)] h0 (Qau2319_1 Z n0 h0 o0) := by
  refine Con.of pf_6 (fun m => ef_au2319_1 m o0) hn0 ?_
  intro p e s m below meth c C
  refine C.aloadN d1_0 rfl rfl rfl ?_
  refine C.initO 0 d1_1 rfl (tw hw 9 rfl) (tw hw 10 rfl) (tw hw 11 rfl) rfl (by decide) (Nat.le_of_eq rfl) (by decide) ?_
  refine C.iloadN d1_4 rfl rfl ?_
  refine C.bipush 64 d1_5 rfl rfl ?_
  refine C.iadd d1_7 rfl ?_
  refine Go.cI (y := 256) rfl ?_
  refine C.iconst 1 d1_8 rfl rfl ?_
  refine C.isub d1_9 rfl ?_
  refine Go.cI (y := 255) rfl ?_
  refine C.bipush 64 d1_10 rfl rfl ?_
  refine C.idiv d1_12 rfl (by decide) ?_
  refine Go.cI (y := 3) rfl ?_
  refine C.istoreN (Ls' := #[rv o0, iv 192, iv 3]) d1_13 rfl rfl ?_
  refine C.aloadN d1_14 rfl rfl rfl ?_
  refine C.iloadN d1_15 rfl rfl ?_
  refine C.newarr 3 d1_16 rfl rfl (tw hw 1 rfl) (by decide) (by decide) (by decide) (by decide) (by decide) (fun a2430 h2431 z2434 g2435 X2432 F2433 => ?_)
  have gz2436 : h0.size ≤ a2430 := by rw [z2434]; exact (Keep.refl h0 [o0]).1
  have ne2437 : o0 ≠ a2430 := by rw [z2434]; exact Nat.ne_of_lt P0.lt
  have F2438 := Exa.ext X2432 P0
  have F2439 := Fld.ext X2432 P1
  have F2440 := Fld.ext X2432 P2
  have F2441 := Fld.ext X2432 P3
  have F2442 := Fld.ext X2432 P4
  have F2443 : Av Z h2431 a2430 .long ([.long 0, .long 0, .long 0]) := F2433
  refine C.putF d1_18 rfl (tw hw 12 rfl) F2442 F2438 (Or.inr ⟨(tw hw 13 rfl), rfl, rfl⟩) (tw hw 4 rfl) (ty := (.array .long)) (by decide) rfl rfl g_o0 (fun h2444 W2445 F2446 => ?_)
  have F2447 := Exa.wr W2445 F2438
  have F2448 := Fld.other W2445 F2439 (Or.inr (slot_ne (C := kC0) (t := .int) (t' := (.array .long)) (Or.inl (tw hw 39 rfl)) (Or.inr (tw hw 13 rfl)) (by decide) (by decide) (by decide)))
  have F2449 := Fld.other W2445 F2440 (Or.inr (slot_ne (C := kC0) (t := (.array .int)) (t' := (.array .long)) (Or.inr (tw hw 18 rfl)) (Or.inr (tw hw 13 rfl)) (by decide) (by decide) (by decide)))
  have F2450 := Fld.other W2445 F2441 (Or.inr (slot_ne (C := kC0) (t := .boolean) (t' := (.array .long)) (Or.inr (tw hw 15 rfl)) (Or.inr (tw hw 13 rfl)) (by decide) (by decide) (by decide)))
  have F2451 := F2443.other W2445 (Ne.symm ne2437)
  refine C.aloadN d1_21 rfl rfl rfl ?_
  refine C.iloadN d1_22 rfl rfl ?_
  refine C.bipush 16 d1_23 rfl rfl ?_
  refine C.icmp_le_t d1_25 (by decide) rfl (by decide) ?_
  refine C.iconst 0 d1_32 rfl rfl ?_
  refine C.putF d1_33 rfl (tw hw 14 rfl) F2450 F2447 (Or.inr ⟨(tw hw 15 rfl), rfl, rfl⟩) (tw hw 4 rfl) (ty := .boolean) (by decide) rfl rfl g_o0 (fun h2452 W2453 F2454 => ?_)
  have F2455 := Exa.wr W2453 F2447
  have F2456 := Fld.other W2453 F2448 (Or.inr (slot_ne (C := kC0) (t := .int) (t' := .boolean) (Or.inl (tw hw 39 rfl)) (Or.inr (tw hw 15 rfl)) (by decide) (by decide) (by decide)))
  have F2457 := Fld.other W2453 F2449 (Or.inr (slot_ne (C := kC0) (t := (.array .int)) (t' := .boolean) (Or.inr (tw hw 18 rfl)) (Or.inr (tw hw 15 rfl)) (by decide) (by decide) (by decide)))
  have F2458 := F2451.other W2453 (Ne.symm ne2437)
  have F2459 := Fld.other W2453 F2446 (Or.inr (slot_ne (C := kC0) (t := (.array .long)) (t' := .boolean) (Or.inr (tw hw 13 rfl)) (Or.inr (tw hw 15 rfl)) (by decide) (by decide) (by decide)))
  refine C.aloadN d1_36 rfl rfl rfl ?_
  refine C.iloadN d1_37 rfl rfl ?_
  refine C.newarr 3 d1_38 rfl rfl (tw hw 16 rfl) (by decide) (by decide) (by decide) (by decide) (by decide) (fun a2460 h2461 z2464 g2465 X2462 F2463 => ?_)
  have gz2466 : h0.size ≤ a2460 := by rw [z2464]; exact ((((Keep.refl h0 [o0]).ext X2432).wr W2445 (Or.inl (List.mem_of_getElem? (i := 0) rfl))).wr W2453 (Or.inl (List.mem_of_getElem? (i := 0) rfl))).1
  have ne2467 : o0 ≠ a2460 := by rw [z2464]; exact Nat.ne_of_lt F2455.lt
  have ne2468 : a2430 ≠ a2460 := by rw [z2464]; exact Nat.ne_of_lt F2458.lt
  have F2469 := Exa.ext X2462 F2455
  have F2470 := Fld.ext X2462 F2456
  have F2471 := Fld.ext X2462 F2457
  have F2472 := F2458.ext X2462
  have F2473 := Fld.ext X2462 F2459
  have F2474 := Fld.ext X2462 F2454
  have F2475 : Av Z h2461 a2460 .int ([.int 0, .int 0, .int 0]) := F2463
  refine C.putF d1_40 rfl (tw hw 17 rfl) F2471 F2469 (Or.inr ⟨(tw hw 18 rfl), rfl, rfl⟩) (tw hw 4 rfl) (ty := (.array .int)) (by decide) rfl rfl g_o0 (fun h2476 W2477 F2478 => ?_)
  have F2479 := Exa.wr W2477 F2469
  have F2480 := Fld.other W2477 F2470 (Or.inr (slot_ne (C := kC0) (t := .int) (t' := (.array .int)) (Or.inl (tw hw 39 rfl)) (Or.inr (tw hw 18 rfl)) (by decide) (by decide) (by decide)))
  have F2481 := F2472.other W2477 (Ne.symm ne2437)
  have F2482 := Fld.other W2477 F2473 (Or.inr (slot_ne (C := kC0) (t := (.array .long)) (t' := (.array .int)) (Or.inr (tw hw 13 rfl)) (Or.inr (tw hw 18 rfl)) (by decide) (by decide) (by decide)))
  have F2483 := Fld.other W2477 F2474 (Or.inr (slot_ne (C := kC0) (t := .boolean) (t' := (.array .int)) (Or.inr (tw hw 15 rfl)) (Or.inr (tw hw 18 rfl)) (by decide) (by decide) (by decide)))
  have F2484 := F2475.other W2477 (Ne.symm ne2467)
  exact C.ret0 d1_43 (by decide) (by decide) ⟨a2460, a2430, rfl, ((((((Keep.refl h0 [o0]).ext X2432).wr W2445 (Or.inl (List.mem_of_getElem? (i := 0) rfl))).wr W2453 (Or.inl (List.mem_of_getElem? (i := 0) rfl))).ext X2462).wr W2477 (Or.inl (List.mem_of_getElem? (i := 0) rfl))), g2465, gz2466, g2435, gz2436, (Ne.symm ne2468), F2480, F2478, F2483, F2482, F2484, F2481⟩
theorem pd_4 : parseMethodDescriptor "(I)V" = some ⟨[.int], none⟩ := by decide +kernel
theorem pd_5 : parseMethodDescriptor "([JII)V" = some ⟨[(.array .long), .int, .int], none⟩ := by decide +kernel
theorem d4_0 : decode method_3_code 0 = .ok (.iload_n 1, 1) := by decide +kernel
theorem d4_1 : decode method_3_code 1 = .ok (.ifCond .eq 20, 3) := by decide +kernel
theorem d4_4 : decode method_3_code 4 = .ok (.iload_n 2, 1) := by decide +kernel
theorem d4_5 : decode method_3_code 5 = .ok (.bipush 6, 2) := by decide +kernel
theorem d4_7 : decode method_3_code 7 = .ok (.iushr, 1) := by decide +kernel
theorem d4_8 : decode method_3_code 8 = .ok (.iload_n 0, 1) := by decide +kernel
theorem d4_9 : decode method_3_code 9 = .ok (.if_icmp .ne 12, 3) := by decide +kernel
theorem d4_12 : decode method_3_code 12 = .ok (.lconst 1, 1) := by decide +kernel
theorem d4_13 : decode method_3_code 13 = .ok (.iload_n 2, 1) := by decide +kernel
theorem d4_14 : decode method_3_code 14 = .ok (.bipush 63, 2) := by decide +kernel
theorem d4_16 : decode method_3_code 16 = .ok (.iand, 1) := by decide +kernel
theorem d4_17 : decode method_3_code 17 = .ok (.lshl, 1) := by decide +kernel
theorem d4_18 : decode method_3_code 18 = .ok (.goto 4, 3) := by decide +kernel
theorem d4_21 : decode method_3_code 21 = .ok (.lconst 0, 1) := by decide +kernel
theorem d4_22 : decode method_3_code 22 = .ok (.lstore 6, 2) := by decide +kernel
theorem d4_24 : decode method_3_code 24 = .ok (.iload_n 3, 1) := by decide +kernel
theorem d4_25 : decode method_3_code 25 = .ok (.iload_n 0, 1) := by decide +kernel
theorem d4_26 : decode method_3_code 26 = .ok (.if_icmp .le 10, 3) := by decide +kernel
theorem d4_29 : decode method_3_code 29 = .ok (.lload 6, 2) := by decide +kernel
theorem d4_31 : decode method_3_code 31 = .ok (.lload 4, 2) := by decide +kernel
theorem d4_33 : decode method_3_code 33 = .ok (.lor, 1) := by decide +kernel
theorem d4_34 : decode method_3_code 34 = .ok (.lstore 6, 2) := by decide +kernel
theorem d4_36 : decode method_3_code 36 = .ok (.lload 6, 2) := by decide +kernel
theorem d4_38 : decode method_3_code 38 = .ok (.lreturn, 1) := by decide +kernel
theorem pf_7 : plainFor (⟨"com/example/detra/detra/SetWordsAddWordsPinLaw", "expect", "(IZIIJ)J"⟩ : MethodName) = true := by first | exact plainFor_of_name (by first | (simp [plainName, overriddenIn]; done) | decide +kernel) | decide +kernel
def Qau2516_4 (Z : State) (n0 : Nat) (h0 : Heap) (i0 : Int32) (j0 : Int64) (v : Option Value) (h' : Heap) : Prop := (v = some (.long 0)) ∧ (h0 = h')
theorem ef_au2516_4 (m : MethodId) (i0 : Int32) (j0 : Int64) : entryFrame m #[(.int 0), (.int 0), (.int i0), (.int 0), (.long j0)] 8 = mkF m 0 #[iv 0, iv 0, iv i0, iv 0, .val (.long j0), .second, .unset, .unset] [] := by first | (simp [entryFrame, mkF, argsToLocals, Value.category]; done) | rfl
set_option maxRecDepth 65536 in
set_option maxHeartbeats 40000000 in
theorem au2516_4 (l : Launch) (Z : State) (a0 : Array Value) (hw : ∀ d ∈ tables_1, d.before a0 Z = true) (n0 : Nat) (h0 : Heap) (hn0 : n0 ≤ h0.size) (i0 : Int32) (j0 : Int64) :
    Con l Z n0 [] (⟨"com/example/detra/detra/SetWordsAddWordsPinLaw", "expect", "(IZIIJ)J"⟩ : MethodName) method_3_code 8 (some .long) ({ frames := 0, cells := 0, slots := 0, locals := 0 } : Room) #[(.int 0), (.int 0), (.int i0), (.int 0), (.long j0)] h0 (Qau2516_4 Z n0 h0 i0 j0) := by
  refine Con.of pf_7 (fun m => ef_au2516_4 m i0 j0) hn0 ?_
  intro p e s m below meth c C
  refine C.iloadN d4_0 rfl rfl ?_
  refine C.if_eq_t d4_1 (by decide) rfl (by decide) ?_
  refine C.lconst 0 d4_21 rfl rfl ?_
  refine C.lstore (Ls' := #[iv 0, iv 0, iv i0, iv 0, .val (.long j0), .second, .val (.long 0), .second]) d4_22 rfl rfl ?_
  refine C.iloadN d4_24 rfl rfl ?_
  refine C.iloadN d4_25 rfl rfl ?_
  refine C.icmp_le_t d4_26 (by decide) rfl (by decide) ?_
  refine C.lload d4_36 rfl rfl ?_
  exact C.retJ d4_38 (by decide) (by decide) ⟨rfl, rfl⟩
theorem pd_6 : parseMethodDescriptor "(IZIIJ)J" = some ⟨[.int, .boolean, .int, .int, .long], some .long⟩ := by decide +kernel
def Qau2521_4 (Z : State) (n0 : Nat) (h0 : Heap) (i0 : Int32) (j0 : Int64) (v : Option Value) (h' : Heap) : Prop := (v = some (.long 0)) ∧ (h0 = h')
theorem ef_au2521_4 (m : MethodId) (i0 : Int32) (j0 : Int64) : entryFrame m #[(.int 1), (.int 0), (.int i0), (.int 0), (.long j0)] 8 = mkF m 0 #[iv 1, iv 0, iv i0, iv 0, .val (.long j0), .second, .unset, .unset] [] := by first | (simp [entryFrame, mkF, argsToLocals, Value.category]; done) | rfl
set_option maxRecDepth 65536 in
set_option maxHeartbeats 40000000 in
theorem au2521_4 (l : Launch) (Z : State) (a0 : Array Value) (hw : ∀ d ∈ tables_1, d.before a0 Z = true) (n0 : Nat) (h0 : Heap) (hn0 : n0 ≤ h0.size) (i0 : Int32) (j0 : Int64) :
    Con l Z n0 [] (⟨"com/example/detra/detra/SetWordsAddWordsPinLaw", "expect", "(IZIIJ)J"⟩ : MethodName) method_3_code 8 (some .long) ({ frames := 0, cells := 0, slots := 0, locals := 0 } : Room) #[(.int 1), (.int 0), (.int i0), (.int 0), (.long j0)] h0 (Qau2521_4 Z n0 h0 i0 j0) := by
  refine Con.of pf_7 (fun m => ef_au2521_4 m i0 j0) hn0 ?_
  intro p e s m below meth c C
  refine C.iloadN d4_0 rfl rfl ?_
  refine C.if_eq_t d4_1 (by decide) rfl (by decide) ?_
  refine C.lconst 0 d4_21 rfl rfl ?_
  refine C.lstore (Ls' := #[iv 1, iv 0, iv i0, iv 0, .val (.long j0), .second, .val (.long 0), .second]) d4_22 rfl rfl ?_
  refine C.iloadN d4_24 rfl rfl ?_
  refine C.iloadN d4_25 rfl rfl ?_
  refine C.icmp_le_t d4_26 (by decide) rfl (by decide) ?_
  refine C.lload d4_36 rfl rfl ?_
  exact C.retJ d4_38 (by decide) (by decide) ⟨rfl, rfl⟩
def Qau2526_4 (Z : State) (n0 : Nat) (h0 : Heap) (i0 : Int32) (j0 : Int64) (v : Option Value) (h' : Heap) : Prop := (v = some (.long 0)) ∧ (h0 = h')
theorem ef_au2526_4 (m : MethodId) (i0 : Int32) (j0 : Int64) : entryFrame m #[(.int 2), (.int 0), (.int i0), (.int 0), (.long j0)] 8 = mkF m 0 #[iv 2, iv 0, iv i0, iv 0, .val (.long j0), .second, .unset, .unset] [] := by first | (simp [entryFrame, mkF, argsToLocals, Value.category]; done) | rfl
set_option maxRecDepth 65536 in
set_option maxHeartbeats 40000000 in
theorem au2526_4 (l : Launch) (Z : State) (a0 : Array Value) (hw : ∀ d ∈ tables_1, d.before a0 Z = true) (n0 : Nat) (h0 : Heap) (hn0 : n0 ≤ h0.size) (i0 : Int32) (j0 : Int64) :
    Con l Z n0 [] (⟨"com/example/detra/detra/SetWordsAddWordsPinLaw", "expect", "(IZIIJ)J"⟩ : MethodName) method_3_code 8 (some .long) ({ frames := 0, cells := 0, slots := 0, locals := 0 } : Room) #[(.int 2), (.int 0), (.int i0), (.int 0), (.long j0)] h0 (Qau2526_4 Z n0 h0 i0 j0) := by
  refine Con.of pf_7 (fun m => ef_au2526_4 m i0 j0) hn0 ?_
  intro p e s m below meth c C
  refine C.iloadN d4_0 rfl rfl ?_
  refine C.if_eq_t d4_1 (by decide) rfl (by decide) ?_
  refine C.lconst 0 d4_21 rfl rfl ?_
  refine C.lstore (Ls' := #[iv 2, iv 0, iv i0, iv 0, .val (.long j0), .second, .val (.long 0), .second]) d4_22 rfl rfl ?_
  refine C.iloadN d4_24 rfl rfl ?_
  refine C.iloadN d4_25 rfl rfl ?_
  refine C.icmp_le_t d4_26 (by decide) rfl (by decide) ?_
  refine C.lload d4_36 rfl rfl ?_
  exact C.retJ d4_38 (by decide) (by decide) ⟨rfl, rfl⟩
def Qau2545_4 (Z : State) (n0 : Nat) (h0 : Heap) (i0 : Int32) (j0 : Int64) (v : Option Value) (h' : Heap) : Prop := (v = some (.long j0)) ∧ (h0 = h')
theorem ef_au2545_4 (m : MethodId) (i0 : Int32) (j0 : Int64) : entryFrame m #[(.int 0), (.int 0), (.int i0), (.int 1), (.long j0)] 8 = mkF m 0 #[iv 0, iv 0, iv i0, iv 1, .val (.long j0), .second, .unset, .unset] [] := by first | (simp [entryFrame, mkF, argsToLocals, Value.category]; done) | rfl
set_option maxRecDepth 65536 in
set_option maxHeartbeats 40000000 in
theorem au2545_4 (l : Launch) (Z : State) (a0 : Array Value) (hw : ∀ d ∈ tables_1, d.before a0 Z = true) (n0 : Nat) (h0 : Heap) (hn0 : n0 ≤ h0.size) (i0 : Int32) (j0 : Int64) :
    Con l Z n0 [] (⟨"com/example/detra/detra/SetWordsAddWordsPinLaw", "expect", "(IZIIJ)J"⟩ : MethodName) method_3_code 8 (some .long) ({ frames := 0, cells := 0, slots := 0, locals := 0 } : Room) #[(.int 0), (.int 0), (.int i0), (.int 1), (.long j0)] h0 (Qau2545_4 Z n0 h0 i0 j0) := by
  refine Con.of pf_7 (fun m => ef_au2545_4 m i0 j0) hn0 ?_
  intro p e s m below meth c C
  refine C.iloadN d4_0 rfl rfl ?_
  refine C.if_eq_t d4_1 (by decide) rfl (by decide) ?_
  refine C.lconst 0 d4_21 rfl rfl ?_
  refine C.lstore (Ls' := #[iv 0, iv 0, iv i0, iv 1, .val (.long j0), .second, .val (.long 0), .second]) d4_22 rfl rfl ?_
  refine C.iloadN d4_24 rfl rfl ?_
  refine C.iloadN d4_25 rfl rfl ?_
  refine C.icmp_le_f d4_26 rfl (by decide) ?_
  refine C.lload d4_29 rfl rfl ?_
  refine C.lload d4_31 rfl rfl ?_
  refine C.lor d4_33 rfl ?_
  rw [Int64.zero_or]
  refine C.lstore (Ls' := #[iv 0, iv 0, iv i0, iv 1, .val (.long j0), .second, .val (.long j0), .second]) d4_34 rfl rfl ?_
  refine C.lload d4_36 rfl rfl ?_
  exact C.retJ d4_38 (by decide) (by decide) ⟨rfl, rfl⟩
def Qau2550_4 (Z : State) (n0 : Nat) (h0 : Heap) (i0 : Int32) (j0 : Int64) (v : Option Value) (h' : Heap) : Prop := (v = some (.long 0)) ∧ (h0 = h')
theorem ef_au2550_4 (m : MethodId) (i0 : Int32) (j0 : Int64) : entryFrame m #[(.int 1), (.int 0), (.int i0), (.int 1), (.long j0)] 8 = mkF m 0 #[iv 1, iv 0, iv i0, iv 1, .val (.long j0), .second, .unset, .unset] [] := by first | (simp [entryFrame, mkF, argsToLocals, Value.category]; done) | rfl
set_option maxRecDepth 65536 in
set_option maxHeartbeats 40000000 in
theorem au2550_4 (l : Launch) (Z : State) (a0 : Array Value) (hw : ∀ d ∈ tables_1, d.before a0 Z = true) (n0 : Nat) (h0 : Heap) (hn0 : n0 ≤ h0.size) (i0 : Int32) (j0 : Int64) :
    Con l Z n0 [] (⟨"com/example/detra/detra/SetWordsAddWordsPinLaw", "expect", "(IZIIJ)J"⟩ : MethodName) method_3_code 8 (some .long) ({ frames := 0, cells := 0, slots := 0, locals := 0 } : Room) #[(.int 1), (.int 0), (.int i0), (.int 1), (.long j0)] h0 (Qau2550_4 Z n0 h0 i0 j0) := by
  refine Con.of pf_7 (fun m => ef_au2550_4 m i0 j0) hn0 ?_
  intro p e s m below meth c C
  refine C.iloadN d4_0 rfl rfl ?_
  refine C.if_eq_t d4_1 (by decide) rfl (by decide) ?_
  refine C.lconst 0 d4_21 rfl rfl ?_
  refine C.lstore (Ls' := #[iv 1, iv 0, iv i0, iv 1, .val (.long j0), .second, .val (.long 0), .second]) d4_22 rfl rfl ?_
  refine C.iloadN d4_24 rfl rfl ?_
  refine C.iloadN d4_25 rfl rfl ?_
  refine C.icmp_le_t d4_26 (by decide) rfl (by decide) ?_
  refine C.lload d4_36 rfl rfl ?_
  exact C.retJ d4_38 (by decide) (by decide) ⟨rfl, rfl⟩
def Qau2555_4 (Z : State) (n0 : Nat) (h0 : Heap) (i0 : Int32) (j0 : Int64) (v : Option Value) (h' : Heap) : Prop := (v = some (.long 0)) ∧ (h0 = h')
theorem ef_au2555_4 (m : MethodId) (i0 : Int32) (j0 : Int64) : entryFrame m #[(.int 2), (.int 0), (.int i0), (.int 1), (.long j0)] 8 = mkF m 0 #[iv 2, iv 0, iv i0, iv 1, .val (.long j0), .second, .unset, .unset] [] := by first | (simp [entryFrame, mkF, argsToLocals, Value.category]; done) | rfl
set_option maxRecDepth 65536 in
set_option maxHeartbeats 40000000 in
theorem au2555_4 (l : Launch) (Z : State) (a0 : Array Value) (hw : ∀ d ∈ tables_1, d.before a0 Z = true) (n0 : Nat) (h0 : Heap) (hn0 : n0 ≤ h0.size) (i0 : Int32) (j0 : Int64) :
    Con l Z n0 [] (⟨"com/example/detra/detra/SetWordsAddWordsPinLaw", "expect", "(IZIIJ)J"⟩ : MethodName) method_3_code 8 (some .long) ({ frames := 0, cells := 0, slots := 0, locals := 0 } : Room) #[(.int 2), (.int 0), (.int i0), (.int 1), (.long j0)] h0 (Qau2555_4 Z n0 h0 i0 j0) := by
  refine Con.of pf_7 (fun m => ef_au2555_4 m i0 j0) hn0 ?_
  intro p e s m below meth c C
  refine C.iloadN d4_0 rfl rfl ?_
  refine C.if_eq_t d4_1 (by decide) rfl (by decide) ?_
  refine C.lconst 0 d4_21 rfl rfl ?_
  refine C.lstore (Ls' := #[iv 2, iv 0, iv i0, iv 1, .val (.long j0), .second, .val (.long 0), .second]) d4_22 rfl rfl ?_
  refine C.iloadN d4_24 rfl rfl ?_
  refine C.iloadN d4_25 rfl rfl ?_
  refine C.icmp_le_t d4_26 (by decide) rfl (by decide) ?_
  refine C.lload d4_36 rfl rfl ?_
  exact C.retJ d4_38 (by decide) (by decide) ⟨rfl, rfl⟩
def Qau2574_4 (Z : State) (n0 : Nat) (h0 : Heap) (i0 : Int32) (j0 : Int64) (v : Option Value) (h' : Heap) : Prop := (v = some (.long j0)) ∧ (h0 = h')
theorem ef_au2574_4 (m : MethodId) (i0 : Int32) (j0 : Int64) : entryFrame m #[(.int 0), (.int 0), (.int i0), (.int 2), (.long j0)] 8 = mkF m 0 #[iv 0, iv 0, iv i0, iv 2, .val (.long j0), .second, .unset, .unset] [] := by first | (simp [entryFrame, mkF, argsToLocals, Value.category]; done) | rfl
set_option maxRecDepth 65536 in
set_option maxHeartbeats 40000000 in
theorem au2574_4 (l : Launch) (Z : State) (a0 : Array Value) (hw : ∀ d ∈ tables_1, d.before a0 Z = true) (n0 : Nat) (h0 : Heap) (hn0 : n0 ≤ h0.size) (i0 : Int32) (j0 : Int64) :
    Con l Z n0 [] (⟨"com/example/detra/detra/SetWordsAddWordsPinLaw", "expect", "(IZIIJ)J"⟩ : MethodName) method_3_code 8 (some .long) ({ frames := 0, cells := 0, slots := 0, locals := 0 } : Room) #[(.int 0), (.int 0), (.int i0), (.int 2), (.long j0)] h0 (Qau2574_4 Z n0 h0 i0 j0) := by
  refine Con.of pf_7 (fun m => ef_au2574_4 m i0 j0) hn0 ?_
  intro p e s m below meth c C
  refine C.iloadN d4_0 rfl rfl ?_
  refine C.if_eq_t d4_1 (by decide) rfl (by decide) ?_
  refine C.lconst 0 d4_21 rfl rfl ?_
  refine C.lstore (Ls' := #[iv 0, iv 0, iv i0, iv 2, .val (.long j0), .second, .val (.long 0), .second]) d4_22 rfl rfl ?_
  refine C.iloadN d4_24 rfl rfl ?_
  refine C.iloadN d4_25 rfl rfl ?_
  refine C.icmp_le_f d4_26 rfl (by decide) ?_
  refine C.lload d4_29 rfl rfl ?_
  refine C.lload d4_31 rfl rfl ?_
  refine C.lor d4_33 rfl ?_
  rw [Int64.zero_or]
  refine C.lstore (Ls' := #[iv 0, iv 0, iv i0, iv 2, .val (.long j0), .second, .val (.long j0), .second]) d4_34 rfl rfl ?_
  refine C.lload d4_36 rfl rfl ?_
  exact C.retJ d4_38 (by decide) (by decide) ⟨rfl, rfl⟩
def Qau2579_4 (Z : State) (n0 : Nat) (h0 : Heap) (i0 : Int32) (j0 : Int64) (v : Option Value) (h' : Heap) : Prop := (v = some (.long j0)) ∧ (h0 = h')
theorem ef_au2579_4 (m : MethodId) (i0 : Int32) (j0 : Int64) : entryFrame m #[(.int 1), (.int 0), (.int i0), (.int 2), (.long j0)] 8 = mkF m 0 #[iv 1, iv 0, iv i0, iv 2, .val (.long j0), .second, .unset, .unset] [] := by first | (simp [entryFrame, mkF, argsToLocals, Value.category]; done) | rfl
set_option maxRecDepth 65536 in
set_option maxHeartbeats 40000000 in
theorem au2579_4 (l : Launch) (Z : State) (a0 : Array Value) (hw : ∀ d ∈ tables_1, d.before a0 Z = true) (n0 : Nat) (h0 : Heap) (hn0 : n0 ≤ h0.size) (i0 : Int32) (j0 : Int64) :
    Con l Z n0 [] (⟨"com/example/detra/detra/SetWordsAddWordsPinLaw", "expect", "(IZIIJ)J"⟩ : MethodName) method_3_code 8 (some .long) ({ frames := 0, cells := 0, slots := 0, locals := 0 } : Room) #[(.int 1), (.int 0), (.int i0), (.int 2), (.long j0)] h0 (Qau2579_4 Z n0 h0 i0 j0) := by
  refine Con.of pf_7 (fun m => ef_au2579_4 m i0 j0) hn0 ?_
  intro p e s m below meth c C
  refine C.iloadN d4_0 rfl rfl ?_
  refine C.if_eq_t d4_1 (by decide) rfl (by decide) ?_
  refine C.lconst 0 d4_21 rfl rfl ?_
  refine C.lstore (Ls' := #[iv 1, iv 0, iv i0, iv 2, .val (.long j0), .second, .val (.long 0), .second]) d4_22 rfl rfl ?_
  refine C.iloadN d4_24 rfl rfl ?_
  refine C.iloadN d4_25 rfl rfl ?_
  refine C.icmp_le_f d4_26 rfl (by decide) ?_
  refine C.lload d4_29 rfl rfl ?_
  refine C.lload d4_31 rfl rfl ?_
  refine C.lor d4_33 rfl ?_
  rw [Int64.zero_or]
  refine C.lstore (Ls' := #[iv 1, iv 0, iv i0, iv 2, .val (.long j0), .second, .val (.long j0), .second]) d4_34 rfl rfl ?_
  refine C.lload d4_36 rfl rfl ?_
  exact C.retJ d4_38 (by decide) (by decide) ⟨rfl, rfl⟩
def Qau2584_4 (Z : State) (n0 : Nat) (h0 : Heap) (i0 : Int32) (j0 : Int64) (v : Option Value) (h' : Heap) : Prop := (v = some (.long 0)) ∧ (h0 = h')
theorem ef_au2584_4 (m : MethodId) (i0 : Int32) (j0 : Int64) : entryFrame m #[(.int 2), (.int 0), (.int i0), (.int 2), (.long j0)] 8 = mkF m 0 #[iv 2, iv 0, iv i0, iv 2, .val (.long j0), .second, .unset, .unset] [] := by first | (simp [entryFrame, mkF, argsToLocals, Value.category]; done) | rfl
set_option maxRecDepth 65536 in
set_option maxHeartbeats 40000000 in
theorem au2584_4 (l : Launch) (Z : State) (a0 : Array Value) (hw : ∀ d ∈ tables_1, d.before a0 Z = true) (n0 : Nat) (h0 : Heap) (hn0 : n0 ≤ h0.size) (i0 : Int32) (j0 : Int64) :
    Con l Z n0 [] (⟨"com/example/detra/detra/SetWordsAddWordsPinLaw", "expect", "(IZIIJ)J"⟩ : MethodName) method_3_code 8 (some .long) ({ frames := 0, cells := 0, slots := 0, locals := 0 } : Room) #[(.int 2), (.int 0), (.int i0), (.int 2), (.long j0)] h0 (Qau2584_4 Z n0 h0 i0 j0) := by
  refine Con.of pf_7 (fun m => ef_au2584_4 m i0 j0) hn0 ?_
  intro p e s m below meth c C
  refine C.iloadN d4_0 rfl rfl ?_
  refine C.if_eq_t d4_1 (by decide) rfl (by decide) ?_
  refine C.lconst 0 d4_21 rfl rfl ?_
  refine C.lstore (Ls' := #[iv 2, iv 0, iv i0, iv 2, .val (.long j0), .second, .val (.long 0), .second]) d4_22 rfl rfl ?_
  refine C.iloadN d4_24 rfl rfl ?_
  refine C.iloadN d4_25 rfl rfl ?_
  refine C.icmp_le_t d4_26 (by decide) rfl (by decide) ?_
  refine C.lload d4_36 rfl rfl ?_
  exact C.retJ d4_38 (by decide) (by decide) ⟨rfl, rfl⟩
def Qau2603_4 (Z : State) (n0 : Nat) (h0 : Heap) (i0 : Int32) (j0 : Int64) (v : Option Value) (h' : Heap) : Prop := (v = some (.long j0)) ∧ (h0 = h')
theorem ef_au2603_4 (m : MethodId) (i0 : Int32) (j0 : Int64) : entryFrame m #[(.int 0), (.int 0), (.int i0), (.int 3), (.long j0)] 8 = mkF m 0 #[iv 0, iv 0, iv i0, iv 3, .val (.long j0), .second, .unset, .unset] [] := by first | (simp [entryFrame, mkF, argsToLocals, Value.category]; done) | rfl
set_option maxRecDepth 65536 in
set_option maxHeartbeats 40000000 in
theorem au2603_4 (l : Launch) (Z : State) (a0 : Array Value) (hw : ∀ d ∈ tables_1, d.before a0 Z = true) (n0 : Nat) (h0 : Heap) (hn0 : n0 ≤ h0.size) (i0 : Int32) (j0 : Int64) :
    Con l Z n0 [] (⟨"com/example/detra/detra/SetWordsAddWordsPinLaw", "expect", "(IZIIJ)J"⟩ : MethodName) method_3_code 8 (some .long) ({ frames := 0, cells := 0, slots := 0, locals := 0 } : Room) #[(.int 0), (.int 0), (.int i0), (.int 3), (.long j0)] h0 (Qau2603_4 Z n0 h0 i0 j0) := by
  refine Con.of pf_7 (fun m => ef_au2603_4 m i0 j0) hn0 ?_
  intro p e s m below meth c C
  refine C.iloadN d4_0 rfl rfl ?_
  refine C.if_eq_t d4_1 (by decide) rfl (by decide) ?_
  refine C.lconst 0 d4_21 rfl rfl ?_
  refine C.lstore (Ls' := #[iv 0, iv 0, iv i0, iv 3, .val (.long j0), .second, .val (.long 0), .second]) d4_22 rfl rfl ?_
  refine C.iloadN d4_24 rfl rfl ?_
  refine C.iloadN d4_25 rfl rfl ?_
  refine C.icmp_le_f d4_26 rfl (by decide) ?_
  refine C.lload d4_29 rfl rfl ?_
  refine C.lload d4_31 rfl rfl ?_
  refine C.lor d4_33 rfl ?_
  rw [Int64.zero_or]
  refine C.lstore (Ls' := #[iv 0, iv 0, iv i0, iv 3, .val (.long j0), .second, .val (.long j0), .second]) d4_34 rfl rfl ?_
  refine C.lload d4_36 rfl rfl ?_
  exact C.retJ d4_38 (by decide) (by decide) ⟨rfl, rfl⟩
def Qau2608_4 (Z : State) (n0 : Nat) (h0 : Heap) (i0 : Int32) (j0 : Int64) (v : Option Value) (h' : Heap) : Prop := (v = some (.long j0)) ∧ (h0 = h')
theorem ef_au2608_4 (m : MethodId) (i0 : Int32) (j0 : Int64) : entryFrame m #[(.int 1), (.int 0), (.int i0), (.int 3), (.long j0)] 8 = mkF m 0 #[iv 1, iv 0, iv i0, iv 3, .val (.long j0), .second, .unset, .unset] [] := by first | (simp [entryFrame, mkF, argsToLocals, Value.category]; done) | rfl
set_option maxRecDepth 65536 in
set_option maxHeartbeats 40000000 in
theorem au2608_4 (l : Launch) (Z : State) (a0 : Array Value) (hw : ∀ d ∈ tables_1, d.before a0 Z = true) (n0 : Nat) (h0 : Heap) (hn0 : n0 ≤ h0.size) (i0 : Int32) (j0 : Int64) :
    Con l Z n0 [] (⟨"com/example/detra/detra/SetWordsAddWordsPinLaw", "expect", "(IZIIJ)J"⟩ : MethodName) method_3_code 8 (some .long) ({ frames := 0, cells := 0, slots := 0, locals := 0 } : Room) #[(.int 1), (.int 0), (.int i0), (.int 3), (.long j0)] h0 (Qau2608_4 Z n0 h0 i0 j0) := by
  refine Con.of pf_7 (fun m => ef_au2608_4 m i0 j0) hn0 ?_
  intro p e s m below meth c C
  refine C.iloadN d4_0 rfl rfl ?_
  refine C.if_eq_t d4_1 (by decide) rfl (by decide) ?_
  refine C.lconst 0 d4_21 rfl rfl ?_
  refine C.lstore (Ls' := #[iv 1, iv 0, iv i0, iv 3, .val (.long j0), .second, .val (.long 0), .second]) d4_22 rfl rfl ?_
  refine C.iloadN d4_24 rfl rfl ?_
  refine C.iloadN d4_25 rfl rfl ?_
  refine C.icmp_le_f d4_26 rfl (by decide) ?_
  refine C.lload d4_29 rfl rfl ?_
  refine C.lload d4_31 rfl rfl ?_
  refine C.lor d4_33 rfl ?_
  rw [Int64.zero_or]
  refine C.lstore (Ls' := #[iv 1, iv 0, iv i0, iv 3, .val (.long j0), .second, .val (.long j0), .second]) d4_34 rfl rfl ?_
  refine C.lload d4_36 rfl rfl ?_
  exact C.retJ d4_38 (by decide) (by decide) ⟨rfl, rfl⟩
def Qau2613_4 (Z : State) (n0 : Nat) (h0 : Heap) (i0 : Int32) (j0 : Int64) (v : Option Value) (h' : Heap) : Prop := (v = some (.long j0)) ∧ (h0 = h')
theorem ef_au2613_4 (m : MethodId) (i0 : Int32) (j0 : Int64) : entryFrame m #[(.int 2), (.int 0), (.int i0), (.int 3), (.long j0)] 8 = mkF m 0 #[iv 2, iv 0, iv i0, iv 3, .val (.long j0), .second, .unset, .unset] [] := by first | (simp [entryFrame, mkF, argsToLocals, Value.category]; done) | rfl
set_option maxRecDepth 65536 in
set_option maxHeartbeats 40000000 in
theorem au2613_4 (l : Launch) (Z : State) (a0 : Array Value) (hw : ∀ d ∈ tables_1, d.before a0 Z = true) (n0 : Nat) (h0 : Heap) (hn0 : n0 ≤ h0.size) (i0 : Int32) (j0 : Int64) :
    Con l Z n0 [] (⟨"com/example/detra/detra/SetWordsAddWordsPinLaw", "expect", "(IZIIJ)J"⟩ : MethodName) method_3_code 8 (some .long) ({ frames := 0, cells := 0, slots := 0, locals := 0 } : Room) #[(.int 2), (.int 0), (.int i0), (.int 3), (.long j0)] h0 (Qau2613_4 Z n0 h0 i0 j0) := by
  refine Con.of pf_7 (fun m => ef_au2613_4 m i0 j0) hn0 ?_
  intro p e s m below meth c C
  refine C.iloadN d4_0 rfl rfl ?_
  refine C.if_eq_t d4_1 (by decide) rfl (by decide) ?_
  refine C.lconst 0 d4_21 rfl rfl ?_
  refine C.lstore (Ls' := #[iv 2, iv 0, iv i0, iv 3, .val (.long j0), .second, .val (.long 0), .second]) d4_22 rfl rfl ?_
  refine C.iloadN d4_24 rfl rfl ?_
  refine C.iloadN d4_25 rfl rfl ?_
  refine C.icmp_le_f d4_26 rfl (by decide) ?_
  refine C.lload d4_29 rfl rfl ?_
  refine C.lload d4_31 rfl rfl ?_
  refine C.lor d4_33 rfl ?_
  rw [Int64.zero_or]
  refine C.lstore (Ls' := #[iv 2, iv 0, iv i0, iv 3, .val (.long j0), .second, .val (.long j0), .second]) d4_34 rfl rfl ?_
  refine C.lload d4_36 rfl rfl ?_
  exact C.retJ d4_38 (by decide) (by decide) ⟨rfl, rfl⟩
theorem d14_0 : decode prog_21_method_2_code 0 = .ok (.iload_n 1, 1) := by decide +kernel
theorem d14_1 : decode prog_21_method_2_code 1 = .ok (.bipush 64, 2) := by decide +kernel
theorem d14_3 : decode prog_21_method_2_code 3 = .ok (.idiv, 1) := by decide +kernel
theorem d14_4 : decode prog_21_method_2_code 4 = .ok (.istore_n 2, 1) := by decide +kernel
theorem d14_5 : decode prog_21_method_2_code 5 = .ok (.aload_n 0, 1) := by decide +kernel
theorem d14_6 : decode prog_21_method_2_code 6 = .ok (.getfield 15, 3) := by decide +kernel
theorem d14_9 : decode prog_21_method_2_code 9 = .ok (.ifCond .eq 31, 3) := by decide +kernel
theorem d14_12 : decode prog_21_method_2_code 12 = .ok (.aload_n 0, 1) := by decide +kernel
theorem d14_13 : decode prog_21_method_2_code 13 = .ok (.getfield 9, 3) := by decide +kernel
theorem d14_16 : decode prog_21_method_2_code 16 = .ok (.iload_n 2, 1) := by decide +kernel
theorem d14_17 : decode prog_21_method_2_code 17 = .ok (.laload, 1) := by decide +kernel
theorem d14_18 : decode prog_21_method_2_code 18 = .ok (.lconst 0, 1) := by decide +kernel
theorem d14_19 : decode prog_21_method_2_code 19 = .ok (.lcmp, 1) := by decide +kernel
theorem d14_20 : decode prog_21_method_2_code 20 = .ok (.ifCond .ne 20, 3) := by decide +kernel
theorem d14_23 : decode prog_21_method_2_code 23 = .ok (.aload_n 0, 1) := by decide +kernel
theorem d14_24 : decode prog_21_method_2_code 24 = .ok (.getfield 19, 3) := by decide +kernel
theorem d14_27 : decode prog_21_method_2_code 27 = .ok (.aload_n 0, 1) := by decide +kernel
theorem d14_28 : decode prog_21_method_2_code 28 = .ok (.dup, 1) := by decide +kernel
theorem d14_29 : decode prog_21_method_2_code 29 = .ok (.getfield 23, 3) := by decide +kernel
theorem d14_32 : decode prog_21_method_2_code 32 = .ok (.dup_x1, 1) := by decide +kernel
theorem d14_33 : decode prog_21_method_2_code 33 = .ok (.iconst 1, 1) := by decide +kernel
theorem d14_34 : decode prog_21_method_2_code 34 = .ok (.iadd, 1) := by decide +kernel
theorem d14_35 : decode prog_21_method_2_code 35 = .ok (.putfield 23, 3) := by decide +kernel
theorem d14_38 : decode prog_21_method_2_code 38 = .ok (.iload_n 2, 1) := by decide +kernel
theorem d14_39 : decode prog_21_method_2_code 39 = .ok (.iastore, 1) := by decide +kernel
theorem d14_40 : decode prog_21_method_2_code 40 = .ok (.aload_n 0, 1) := by decide +kernel
theorem d14_41 : decode prog_21_method_2_code 41 = .ok (.getfield 9, 3) := by decide +kernel
theorem d14_44 : decode prog_21_method_2_code 44 = .ok (.iload_n 2, 1) := by decide +kernel
theorem d14_45 : decode prog_21_method_2_code 45 = .ok (.dup2, 1) := by decide +kernel
theorem d14_46 : decode prog_21_method_2_code 46 = .ok (.laload, 1) := by decide +kernel
theorem d14_47 : decode prog_21_method_2_code 47 = .ok (.lconst 1, 1) := by decide +kernel
theorem d14_48 : decode prog_21_method_2_code 48 = .ok (.iload_n 1, 1) := by decide +kernel
theorem d14_49 : decode prog_21_method_2_code 49 = .ok (.lshl, 1) := by decide +kernel
theorem d14_50 : decode prog_21_method_2_code 50 = .ok (.lor, 1) := by decide +kernel
theorem d14_51 : decode prog_21_method_2_code 51 = .ok (.lastore, 1) := by decide +kernel
theorem d14_52 : decode prog_21_method_2_code 52 = .ok (.return_, 1) := by decide +kernel
theorem pf_8 : plainFor (⟨"com/example/detra/detra/SetWords", "add", "(I)V"⟩ : MethodName) = true := by first | exact plainFor_of_name (by first | (simp [plainName, overriddenIn]; done) | decide +kernel) | decide +kernel
def Qau2618_14 (Z : State) (n0 : Nat) (h0 : Heap) (o0 : Addr) (i0 : Int32) (o1 : Addr) (o2 : Addr) (v : Option Value) (h' : Heap) : Prop := (v = none) ∧ (Keep h0 h' [o2]) ∧ (Av Z h' o2 .long ([.long (1 <<< (Int32.toInt64 i0 &&& 63)), .long 0, .long 0]))
theorem ef_au2618_14 (m : MethodId) (o0 : Addr) (i0 : Int32) : entryFrame m #[(.ref o0), (.int i0)] 3 = mkF m 0 #[rv o0, iv i0, .unset] [] := by first | (simp [entryFrame, mkF, argsToLocals, Value.category]; done) | rfl
set_option maxRecDepth 65536 in
set_option maxHeartbeats 40000000 in
theorem au2618_14 (l : Launch) (Z : State) (a0 : Array Value) (hw : ∀ d ∈ tables_1, d.before a0 Z = true) (n0 : Nat) (h0 : Heap) (hn0 : n0 ≤ h0.size) (o0 : Addr) (i0 : Int32) (o1 : Addr) (o2 : Addr) (P0 : Exa Z h0 o0 kC0) (P1 : Fld Z h0 o0 kC0 "count" "I" (.int 0)) (P2 : Fld Z h0 o0 kC0 "held" "[I" (.ref o1)) (P3 : Fld Z h0 o0 kC0 "listing" "Z" (.int 0)) (P4 : Fld Z h0 o0 kC0 "words" "[J" (.ref o2)) (P5 : Av Z h0 o1 .int ([.int 0, .int 0, .int 0])) (P6 : Av Z h0 o2 .long ([.long 0, .long 0, .long 0])) (g_o0 : n0 ≤ o0) (g_o1 : n0 ≤ o1) (g_o2 : n0 ≤ o2) (ne_o0_o1 : o0 ≠ o1) (ne_o0_o2 : o0 ≠ o2) (ne_o1_o2 : o1 ≠ o2) (kq0 : ((i0 / 64) = (0 : Int32))) (kq1 : ((XT.ushr i0 6) = (0 : Int32))) :
    Con l Z n0 [] (⟨"com/example/detra/detra/SetWords", "add", "(I)V"⟩ : MethodName) prog_21_method_2_code 3 none ({ frames := 0, cells := 0, slots := 0, locals := 0 } : Room) #[(.ref o0), (.int i0)] h0 (Qau2618_14 Z n0 h0 o0 i0 o1 o2) := by
  refine Con.of pf_8 (fun m => ef_au2618_14 m o0 i0) hn0 ?_
  intro p e s m below meth c C
  refine C.iloadN d14_0 rfl rfl ?_
  refine C.bipush 64 d14_1 rfl rfl ?_
  refine C.idiv d14_3 rfl (by decide) ?_
  rw [kq0]
  refine C.istoreN (Ls' := #[rv o0, iv i0, iv 0]) d14_4 rfl rfl ?_
  refine C.aloadN d14_5 rfl rfl rfl ?_
  refine C.getF d14_6 rfl (tw hw 14 rfl) P3 ?_
  refine C.if_eq_t d14_9 (by decide) rfl (by decide) ?_
  refine C.aloadN d14_40 rfl rfl rfl ?_
  refine C.getF d14_41 rfl (tw hw 12 rfl) P4 ?_
  refine C.iloadN d14_44 rfl rfl ?_
  refine C.dup2 d14_45 rfl rfl rfl ?_
  refine C.laload (.long 0) d14_46 rfl P6 (by decide) rfl ?_
  refine C.lconst 1 d14_47 rfl rfl ?_
  refine C.iloadN d14_48 rfl rfl ?_
  refine C.lshl d14_49 rfl ?_
  refine C.lor d14_50 rfl ?_
  rw [Int64.zero_or]
  refine C.lastore d14_51 rfl P6 g_o2 (by decide) (Nat.le_of_ble_eq_true rfl) (fun h2639 W2640 F2641 => ?_)
  have F2642 := Exa.wr W2640 P0
  have F2643 := Fld.other W2640 P1 (Or.inl ne_o0_o2)
  have F2644 := Fld.other W2640 P2 (Or.inl ne_o0_o2)
  have F2645 := Fld.other W2640 P3 (Or.inl ne_o0_o2)
  have F2646 := Fld.other W2640 P4 (Or.inl ne_o0_o2)
  have F2647 := P5.other W2640 ne_o1_o2
  have F2648 : Av Z h2639 o2 .long ([.long (1 <<< (Int32.toInt64 i0 &&& 63)), .long 0, .long 0]) := F2641
  exact C.ret0 d14_52 (by decide) (by decide) ⟨rfl, ((Keep.refl h0 [o2]).wr W2640 (Or.inl (List.mem_of_getElem? (i := 0) rfl))), F2648⟩
def Qau2667_4 (Z : State) (n0 : Nat) (h0 : Heap) (i0 : Int32) (j0 : Int64) (v : Option Value) (h' : Heap) : Prop := (v = some (.long (1 <<< (Int32.toInt64 (i0 &&& 63) &&& 63)))) ∧ (h0 = h')
theorem ef_au2667_4 (m : MethodId) (i0 : Int32) (j0 : Int64) : entryFrame m #[(.int 0), (.int 1), (.int i0), (.int 0), (.long j0)] 8 = mkF m 0 #[iv 0, iv 1, iv i0, iv 0, .val (.long j0), .second, .unset, .unset] [] := by first | (simp [entryFrame, mkF, argsToLocals, Value.category]; done) | rfl
set_option maxRecDepth 65536 in
set_option maxHeartbeats 40000000 in
theorem au2667_4 (l : Launch) (Z : State) (a0 : Array Value) (hw : ∀ d ∈ tables_1, d.before a0 Z = true) (n0 : Nat) (h0 : Heap) (hn0 : n0 ≤ h0.size) (i0 : Int32) (j0 : Int64) (kq0 : ((i0 / 64) = (0 : Int32))) (kq1 : ((XT.ushr i0 6) = (0 : Int32))) :
    Con l Z n0 [] (⟨"com/example/detra/detra/SetWordsAddWordsPinLaw", "expect", "(IZIIJ)J"⟩ : MethodName) method_3_code 8 (some .long) ({ frames := 0, cells := 0, slots := 0, locals := 0 } : Room) #[(.int 0), (.int 1), (.int i0), (.int 0), (.long j0)] h0 (Qau2667_4 Z n0 h0 i0 j0) := by
  refine Con.of pf_7 (fun m => ef_au2667_4 m i0 j0) hn0 ?_
  intro p e s m below meth c C
  refine C.iloadN d4_0 rfl rfl ?_
  refine C.if_eq_f d4_1 rfl (by decide) ?_
  refine C.iloadN d4_4 rfl rfl ?_
  refine C.bipush 6 d4_5 rfl rfl ?_
  refine C.iushr d4_7 rfl ?_
  rw [kq1]
  refine C.iloadN d4_8 rfl rfl ?_
  refine C.icmp_ne_f d4_9 rfl (by decide) ?_
  refine C.lconst 1 d4_12 rfl rfl ?_
  refine C.iloadN d4_13 rfl rfl ?_
  refine C.bipush 63 d4_14 rfl rfl ?_
  refine C.iand d4_16 rfl ?_
  refine C.lshl d4_17 rfl ?_
  refine C.goto d4_18 (by decide) rfl ?_
  refine C.lstore (Ls' := #[iv 0, iv 1, iv i0, iv 0, .val (.long j0), .second, .val (.long (1 <<< (Int32.toInt64 (i0 &&& 63) &&& 63))), .second]) d4_22 rfl rfl ?_
  refine C.iloadN d4_24 rfl rfl ?_
  refine C.iloadN d4_25 rfl rfl ?_
  refine C.icmp_le_t d4_26 (by decide) rfl (by decide) ?_
  refine C.lload d4_36 rfl rfl ?_
  exact C.retJ d4_38 (by decide) (by decide) ⟨rfl, rfl⟩
def Qau2672_4 (Z : State) (n0 : Nat) (h0 : Heap) (i0 : Int32) (j0 : Int64) (v : Option Value) (h' : Heap) : Prop := (v = some (.long 0)) ∧ (h0 = h')
theorem ef_au2672_4 (m : MethodId) (i0 : Int32) (j0 : Int64) : entryFrame m #[(.int 1), (.int 1), (.int i0), (.int 0), (.long j0)] 8 = mkF m 0 #[iv 1, iv 1, iv i0, iv 0, .val (.long j0), .second, .unset, .unset] [] := by first | (simp [entryFrame, mkF, argsToLocals, Value.category]; done) | rfl
set_option maxRecDepth 65536 in
set_option maxHeartbeats 40000000 in
theorem au2672_4 (l : Launch) (Z : State) (a0 : Array Value) (hw : ∀ d ∈ tables_1, d.before a0 Z = true) (n0 : Nat) (h0 : Heap) (hn0 : n0 ≤ h0.size) (i0 : Int32) (j0 : Int64) (kq0 : ((i0 / 64) = (0 : Int32))) (kq1 : ((XT.ushr i0 6) = (0 : Int32))) :
    Con l Z n0 [] (⟨"com/example/detra/detra/SetWordsAddWordsPinLaw", "expect", "(IZIIJ)J"⟩ : MethodName) method_3_code 8 (some .long) ({ frames := 0, cells := 0, slots := 0, locals := 0 } : Room) #[(.int 1), (.int 1), (.int i0), (.int 0), (.long j0)] h0 (Qau2672_4 Z n0 h0 i0 j0) := by
  refine Con.of pf_7 (fun m => ef_au2672_4 m i0 j0) hn0 ?_
  intro p e s m below meth c C
  refine C.iloadN d4_0 rfl rfl ?_
  refine C.if_eq_f d4_1 rfl (by decide) ?_
  refine C.iloadN d4_4 rfl rfl ?_
  refine C.bipush 6 d4_5 rfl rfl ?_
  refine C.iushr d4_7 rfl ?_
  rw [kq1]
  refine C.iloadN d4_8 rfl rfl ?_
  refine C.icmp_ne_t d4_9 (by decide) rfl (by decide) ?_
  refine C.lconst 0 d4_21 rfl rfl ?_
  refine C.lstore (Ls' := #[iv 1, iv 1, iv i0, iv 0, .val (.long j0), .second, .val (.long 0), .second]) d4_22 rfl rfl ?_
  refine C.iloadN d4_24 rfl rfl ?_
  refine C.iloadN d4_25 rfl rfl ?_
  refine C.icmp_le_t d4_26 (by decide) rfl (by decide) ?_
  refine C.lload d4_36 rfl rfl ?_
  exact C.retJ d4_38 (by decide) (by decide) ⟨rfl, rfl⟩
def Qau2677_4 (Z : State) (n0 : Nat) (h0 : Heap) (i0 : Int32) (j0 : Int64) (v : Option Value) (h' : Heap) : Prop := (v = some (.long 0)) ∧ (h0 = h')
theorem ef_au2677_4 (m : MethodId) (i0 : Int32) (j0 : Int64) : entryFrame m #[(.int 2), (.int 1), (.int i0), (.int 0), (.long j0)] 8 = mkF m 0 #[iv 2, iv 1, iv i0, iv 0, .val (.long j0), .second, .unset, .unset] [] := by first | (simp [entryFrame, mkF, argsToLocals, Value.category]; done) | rfl
set_option maxRecDepth 65536 in
set_option maxHeartbeats 40000000 in
theorem au2677_4 (l : Launch) (Z : State) (a0 : Array Value) (hw : ∀ d ∈ tables_1, d.before a0 Z = true) (n0 : Nat) (h0 : Heap) (hn0 : n0 ≤ h0.size) (i0 : Int32) (j0 : Int64) (kq0 : ((i0 / 64) = (0 : Int32))) (kq1 : ((XT.ushr i0 6) = (0 : Int32))) :
    Con l Z n0 [] (⟨"com/example/detra/detra/SetWordsAddWordsPinLaw", "expect", "(IZIIJ)J"⟩ : MethodName) method_3_code 8 (some .long) ({ frames := 0, cells := 0, slots := 0, locals := 0 } : Room) #[(.int 2), (.int 1), (.int i0), (.int 0), (.long j0)] h0 (Qau2677_4 Z n0 h0 i0 j0) := by
  refine Con.of pf_7 (fun m => ef_au2677_4 m i0 j0) hn0 ?_
  intro p e s m below meth c C
  refine C.iloadN d4_0 rfl rfl ?_
  refine C.if_eq_f d4_1 rfl (by decide) ?_
  refine C.iloadN d4_4 rfl rfl ?_
  refine C.bipush 6 d4_5 rfl rfl ?_
  refine C.iushr d4_7 rfl ?_
  rw [kq1]
  refine C.iloadN d4_8 rfl rfl ?_
  refine C.icmp_ne_t d4_9 (by decide) rfl (by decide) ?_
  refine C.lconst 0 d4_21 rfl rfl ?_
  refine C.lstore (Ls' := #[iv 2, iv 1, iv i0, iv 0, .val (.long j0), .second, .val (.long 0), .second]) d4_22 rfl rfl ?_
  refine C.iloadN d4_24 rfl rfl ?_
  refine C.iloadN d4_25 rfl rfl ?_
  refine C.icmp_le_t d4_26 (by decide) rfl (by decide) ?_
  refine C.lload d4_36 rfl rfl ?_
  exact C.retJ d4_38 (by decide) (by decide) ⟨rfl, rfl⟩
def Qau2695_4 (Z : State) (n0 : Nat) (h0 : Heap) (i0 : Int32) (j0 : Int64) (v : Option Value) (h' : Heap) : Prop := (v = some (.long ((1 <<< (Int32.toInt64 (i0 &&& 63) &&& 63)) ||| j0))) ∧ (h0 = h')
theorem ef_au2695_4 (m : MethodId) (i0 : Int32) (j0 : Int64) : entryFrame m #[(.int 0), (.int 1), (.int i0), (.int 1), (.long j0)] 8 = mkF m 0 #[iv 0, iv 1, iv i0, iv 1, .val (.long j0), .second, .unset, .unset] [] := by first | (simp [entryFrame, mkF, argsToLocals, Value.category]; done) | rfl
set_option maxRecDepth 65536 in
set_option maxHeartbeats 40000000 in
theorem au2695_4 (l : Launch) (Z : State) (a0 : Array Value) (hw : ∀ d ∈ tables_1, d.before a0 Z = true) (n0 : Nat) (h0 : Heap) (hn0 : n0 ≤ h0.size) (i0 : Int32) (j0 : Int64) (kq0 : ((i0 / 64) = (0 : Int32))) (kq1 : ((XT.ushr i0 6) = (0 : Int32))) :
    Con l Z n0 [] (⟨"com/example/detra/detra/SetWordsAddWordsPinLaw", "expect", "(IZIIJ)J"⟩ : MethodName) method_3_code 8 (some .long) ({ frames := 0, cells := 0, slots := 0, locals := 0 } : Room) #[(.int 0), (.int 1), (.int i0), (.int 1), (.long j0)] h0 (Qau2695_4 Z n0 h0 i0 j0) := by
  refine Con.of pf_7 (fun m => ef_au2695_4 m i0 j0) hn0 ?_
  intro p e s m below meth c C
  refine C.iloadN d4_0 rfl rfl ?_
  refine C.if_eq_f d4_1 rfl (by decide) ?_
  refine C.iloadN d4_4 rfl rfl ?_
  refine C.bipush 6 d4_5 rfl rfl ?_
  refine C.iushr d4_7 rfl ?_
  rw [kq1]
  refine C.iloadN d4_8 rfl rfl ?_
  refine C.icmp_ne_f d4_9 rfl (by decide) ?_
  refine C.lconst 1 d4_12 rfl rfl ?_
  refine C.iloadN d4_13 rfl rfl ?_
  refine C.bipush 63 d4_14 rfl rfl ?_
  refine C.iand d4_16 rfl ?_
  refine C.lshl d4_17 rfl ?_
  refine C.goto d4_18 (by decide) rfl ?_
  refine C.lstore (Ls' := #[iv 0, iv 1, iv i0, iv 1, .val (.long j0), .second, .val (.long (1 <<< (Int32.toInt64 (i0 &&& 63) &&& 63))), .second]) d4_22 rfl rfl ?_
  refine C.iloadN d4_24 rfl rfl ?_
  refine C.iloadN d4_25 rfl rfl ?_
  refine C.icmp_le_f d4_26 rfl (by decide) ?_
  refine C.lload d4_29 rfl rfl ?_
  refine C.lload d4_31 rfl rfl ?_
  refine C.lor d4_33 rfl ?_
  refine C.lstore (Ls' := #[iv 0, iv 1, iv i0, iv 1, .val (.long j0), .second, .val (.long ((1 <<< (Int32.toInt64 (i0 &&& 63) &&& 63)) ||| j0)), .second]) d4_34 rfl rfl ?_
  refine C.lload d4_36 rfl rfl ?_
  exact C.retJ d4_38 (by decide) (by decide) ⟨rfl, rfl⟩
def Qau2700_4 (Z : State) (n0 : Nat) (h0 : Heap) (i0 : Int32) (j0 : Int64) (v : Option Value) (h' : Heap) : Prop := (v = some (.long 0)) ∧ (h0 = h')
theorem ef_au2700_4 (m : MethodId) (i0 : Int32) (j0 : Int64) : entryFrame m #[(.int 1), (.int 1), (.int i0), (.int 1), (.long j0)] 8 = mkF m 0 #[iv 1, iv 1, iv i0, iv 1, .val (.long j0), .second, .unset, .unset] [] := by first | (simp [entryFrame, mkF, argsToLocals, Value.category]; done) | rfl
set_option maxRecDepth 65536 in
set_option maxHeartbeats 40000000 in
theorem au2700_4 (l : Launch) (Z : State) (a0 : Array Value) (hw : ∀ d ∈ tables_1, d.before a0 Z = true) (n0 : Nat) (h0 : Heap) (hn0 : n0 ≤ h0.size) (i0 : Int32) (j0 : Int64) (kq0 : ((i0 / 64) = (0 : Int32))) (kq1 : ((XT.ushr i0 6) = (0 : Int32))) :
    Con l Z n0 [] (⟨"com/example/detra/detra/SetWordsAddWordsPinLaw", "expect", "(IZIIJ)J"⟩ : MethodName) method_3_code 8 (some .long) ({ frames := 0, cells := 0, slots := 0, locals := 0 } : Room) #[(.int 1), (.int 1), (.int i0), (.int 1), (.long j0)] h0 (Qau2700_4 Z n0 h0 i0 j0) := by
  refine Con.of pf_7 (fun m => ef_au2700_4 m i0 j0) hn0 ?_
  intro p e s m below meth c C
  refine C.iloadN d4_0 rfl rfl ?_
  refine C.if_eq_f d4_1 rfl (by decide) ?_
  refine C.iloadN d4_4 rfl rfl ?_
  refine C.bipush 6 d4_5 rfl rfl ?_
  refine C.iushr d4_7 rfl ?_
  rw [kq1]
  refine C.iloadN d4_8 rfl rfl ?_
  refine C.icmp_ne_t d4_9 (by decide) rfl (by decide) ?_
  refine C.lconst 0 d4_21 rfl rfl ?_
  refine C.lstore (Ls' := #[iv 1, iv 1, iv i0, iv 1, .val (.long j0), .second, .val (.long 0), .second]) d4_22 rfl rfl ?_
  refine C.iloadN d4_24 rfl rfl ?_
  refine C.iloadN d4_25 rfl rfl ?_
  refine C.icmp_le_t d4_26 (by decide) rfl (by decide) ?_
  refine C.lload d4_36 rfl rfl ?_
  exact C.retJ d4_38 (by decide) (by decide) ⟨rfl, rfl⟩
def Qau2705_4 (Z : State) (n0 : Nat) (h0 : Heap) (i0 : Int32) (j0 : Int64) (v : Option Value) (h' : Heap) : Prop := (v = some (.long 0)) ∧ (h0 = h')
theorem ef_au2705_4 (m : MethodId) (i0 : Int32) (j0 : Int64) : entryFrame m #[(.int 2), (.int 1), (.int i0), (.int 1), (.long j0)] 8 = mkF m 0 #[iv 2, iv 1, iv i0, iv 1, .val (.long j0), .second, .unset, .unset] [] := by first | (simp [entryFrame, mkF, argsToLocals, Value.category]; done) | rfl
set_option maxRecDepth 65536 in
set_option maxHeartbeats 40000000 in
theorem au2705_4 (l : Launch) (Z : State) (a0 : Array Value) (hw : ∀ d ∈ tables_1, d.before a0 Z = true) (n0 : Nat) (h0 : Heap) (hn0 : n0 ≤ h0.size) (i0 : Int32) (j0 : Int64) (kq0 : ((i0 / 64) = (0 : Int32))) (kq1 : ((XT.ushr i0 6) = (0 : Int32))) :
    Con l Z n0 [] (⟨"com/example/detra/detra/SetWordsAddWordsPinLaw", "expect", "(IZIIJ)J"⟩ : MethodName) method_3_code 8 (some .long) ({ frames := 0, cells := 0, slots := 0, locals := 0 } : Room) #[(.int 2), (.int 1), (.int i0), (.int 1), (.long j0)] h0 (Qau2705_4 Z n0 h0 i0 j0) := by
  refine Con.of pf_7 (fun m => ef_au2705_4 m i0 j0) hn0 ?_
  intro p e s m below meth c C
  refine C.iloadN d4_0 rfl rfl ?_
  refine C.if_eq_f d4_1 rfl (by decide) ?_
  refine C.iloadN d4_4 rfl rfl ?_
  refine C.bipush 6 d4_5 rfl rfl ?_
  refine C.iushr d4_7 rfl ?_
  rw [kq1]
  refine C.iloadN d4_8 rfl rfl ?_
  refine C.icmp_ne_t d4_9 (by decide) rfl (by decide) ?_
  refine C.lconst 0 d4_21 rfl rfl ?_
  refine C.lstore (Ls' := #[iv 2, iv 1, iv i0, iv 1, .val (.long j0), .second, .val (.long 0), .second]) d4_22 rfl rfl ?_
  refine C.iloadN d4_24 rfl rfl ?_
  refine C.iloadN d4_25 rfl rfl ?_
  refine C.icmp_le_t d4_26 (by decide) rfl (by decide) ?_
  refine C.lload d4_36 rfl rfl ?_
  exact C.retJ d4_38 (by decide) (by decide) ⟨rfl, rfl⟩
def Qau2724_4 (Z : State) (n0 : Nat) (h0 : Heap) (i0 : Int32) (j0 : Int64) (v : Option Value) (h' : Heap) : Prop := (v = some (.long ((1 <<< (Int32.toInt64 (i0 &&& 63) &&& 63)) ||| j0))) ∧ (h0 = h')
theorem ef_au2724_4 (m : MethodId) (i0 : Int32) (j0 : Int64) : entryFrame m #[(.int 0), (.int 1), (.int i0), (.int 2), (.long j0)] 8 = mkF m 0 #[iv 0, iv 1, iv i0, iv 2, .val (.long j0), .second, .unset, .unset] [] := by first | (simp [entryFrame, mkF, argsToLocals, Value.category]; done) | rfl
set_option maxRecDepth 65536 in
set_option maxHeartbeats 40000000 in
theorem au2724_4 (l : Launch) (Z : State) (a0 : Array Value) (hw : ∀ d ∈ tables_1, d.before a0 Z = true) (n0 : Nat) (h0 : Heap) (hn0 : n0 ≤ h0.size) (i0 : Int32) (j0 : Int64) (kq0 : ((i0 / 64) = (0 : Int32))) (kq1 : ((XT.ushr i0 6) = (0 : Int32))) :
    Con l Z n0 [] (⟨"com/example/detra/detra/SetWordsAddWordsPinLaw", "expect", "(IZIIJ)J"⟩ : MethodName) method_3_code 8 (some .long) ({ frames := 0, cells := 0, slots := 0, locals := 0 } : Room) #[(.int 0), (.int 1), (.int i0), (.int 2), (.long j0)] h0 (Qau2724_4 Z n0 h0 i0 j0) := by
  refine Con.of pf_7 (fun m => ef_au2724_4 m i0 j0) hn0 ?_
  intro p e s m below meth c C
  refine C.iloadN d4_0 rfl rfl ?_
  refine C.if_eq_f d4_1 rfl (by decide) ?_
  refine C.iloadN d4_4 rfl rfl ?_
  refine C.bipush 6 d4_5 rfl rfl ?_
  refine C.iushr d4_7 rfl ?_
  rw [kq1]
  refine C.iloadN d4_8 rfl rfl ?_
  refine C.icmp_ne_f d4_9 rfl (by decide) ?_
  refine C.lconst 1 d4_12 rfl rfl ?_
  refine C.iloadN d4_13 rfl rfl ?_
  refine C.bipush 63 d4_14 rfl rfl ?_
  refine C.iand d4_16 rfl ?_
  refine C.lshl d4_17 rfl ?_
  refine C.goto d4_18 (by decide) rfl ?_
  refine C.lstore (Ls' := #[iv 0, iv 1, iv i0, iv 2, .val (.long j0), .second, .val (.long (1 <<< (Int32.toInt64 (i0 &&& 63) &&& 63))), .second]) d4_22 rfl rfl ?_
  refine C.iloadN d4_24 rfl rfl ?_
  refine C.iloadN d4_25 rfl rfl ?_
  refine C.icmp_le_f d4_26 rfl (by decide) ?_
  refine C.lload d4_29 rfl rfl ?_
  refine C.lload d4_31 rfl rfl ?_
  refine C.lor d4_33 rfl ?_
  refine C.lstore (Ls' := #[iv 0, iv 1, iv i0, iv 2, .val (.long j0), .second, .val (.long ((1 <<< (Int32.toInt64 (i0 &&& 63) &&& 63)) ||| j0)), .second]) d4_34 rfl rfl ?_
  refine C.lload d4_36 rfl rfl ?_
  exact C.retJ d4_38 (by decide) (by decide) ⟨rfl, rfl⟩
def Qau2729_4 (Z : State) (n0 : Nat) (h0 : Heap) (i0 : Int32) (j0 : Int64) (v : Option Value) (h' : Heap) : Prop := (v = some (.long j0)) ∧ (h0 = h')
theorem ef_au2729_4 (m : MethodId) (i0 : Int32) (j0 : Int64) : entryFrame m #[(.int 1), (.int 1), (.int i0), (.int 2), (.long j0)] 8 = mkF m 0 #[iv 1, iv 1, iv i0, iv 2, .val (.long j0), .second, .unset, .unset] [] := by first | (simp [entryFrame, mkF, argsToLocals, Value.category]; done) | rfl
set_option maxRecDepth 65536 in
set_option maxHeartbeats 40000000 in
theorem au2729_4 (l : Launch) (Z : State) (a0 : Array Value) (hw : ∀ d ∈ tables_1, d.before a0 Z = true) (n0 : Nat) (h0 : Heap) (hn0 : n0 ≤ h0.size) (i0 : Int32) (j0 : Int64) (kq0 : ((i0 / 64) = (0 : Int32))) (kq1 : ((XT.ushr i0 6) = (0 : Int32))) :
    Con l Z n0 [] (⟨"com/example/detra/detra/SetWordsAddWordsPinLaw", "expect", "(IZIIJ)J"⟩ : MethodName) method_3_code 8 (some .long) ({ frames := 0, cells := 0, slots := 0, locals := 0 } : Room) #[(.int 1), (.int 1), (.int i0), (.int 2), (.long j0)] h0 (Qau2729_4 Z n0 h0 i0 j0) := by
  refine Con.of pf_7 (fun m => ef_au2729_4 m i0 j0) hn0 ?_
  intro p e s m below meth c C
  refine C.iloadN d4_0 rfl rfl ?_
  refine C.if_eq_f d4_1 rfl (by decide) ?_
  refine C.iloadN d4_4 rfl rfl ?_
  refine C.bipush 6 d4_5 rfl rfl ?_
  refine C.iushr d4_7 rfl ?_
  rw [kq1]
  refine C.iloadN d4_8 rfl rfl ?_
  refine C.icmp_ne_t d4_9 (by decide) rfl (by decide) ?_
  refine C.lconst 0 d4_21 rfl rfl ?_
  refine C.lstore (Ls' := #[iv 1, iv 1, iv i0, iv 2, .val (.long j0), .second, .val (.long 0), .second]) d4_22 rfl rfl ?_
  refine C.iloadN d4_24 rfl rfl ?_
  refine C.iloadN d4_25 rfl rfl ?_
  refine C.icmp_le_f d4_26 rfl (by decide) ?_
  refine C.lload d4_29 rfl rfl ?_
  refine C.lload d4_31 rfl rfl ?_
  refine C.lor d4_33 rfl ?_
  rw [Int64.zero_or]
  refine C.lstore (Ls' := #[iv 1, iv 1, iv i0, iv 2, .val (.long j0), .second, .val (.long j0), .second]) d4_34 rfl rfl ?_
  refine C.lload d4_36 rfl rfl ?_
  exact C.retJ d4_38 (by decide) (by decide) ⟨rfl, rfl⟩
def Qau2734_4 (Z : State) (n0 : Nat) (h0 : Heap) (i0 : Int32) (j0 : Int64) (v : Option Value) (h' : Heap) : Prop := (v = some (.long 0)) ∧ (h0 = h')
theorem ef_au2734_4 (m : MethodId) (i0 : Int32) (j0 : Int64) : entryFrame m #[(.int 2), (.int 1), (.int i0), (.int 2), (.long j0)] 8 = mkF m 0 #[iv 2, iv 1, iv i0, iv 2, .val (.long j0), .second, .unset, .unset] [] := by first | (simp [entryFrame, mkF, argsToLocals, Value.category]; done) | rfl
set_option maxRecDepth 65536 in
set_option maxHeartbeats 40000000 in
theorem au2734_4 (l : Launch) (Z : State) (a0 : Array Value) (hw : ∀ d ∈ tables_1, d.before a0 Z = true) (n0 : Nat) (h0 : Heap) (hn0 : n0 ≤ h0.size) (i0 : Int32) (j0 : Int64) (kq0 : ((i0 / 64) = (0 : Int32))) (kq1 : ((XT.ushr i0 6) = (0 : Int32))) :
    Con l Z n0 [] (⟨"com/example/detra/detra/SetWordsAddWordsPinLaw", "expect", "(IZIIJ)J"⟩ : MethodName) method_3_code 8 (some .long) ({ frames := 0, cells := 0, slots := 0, locals := 0 } : Room) #[(.int 2), (.int 1), (.int i0), (.int 2), (.long j0)] h0 (Qau2734_4 Z n0 h0 i0 j0) := by
  refine Con.of pf_7 (fun m => ef_au2734_4 m i0 j0) hn0 ?_
  intro p e s m below meth c C
  refine C.iloadN d4_0 rfl rfl ?_
  refine C.if_eq_f d4_1 rfl (by decide) ?_
  refine C.iloadN d4_4 rfl rfl ?_
  refine C.bipush 6 d4_5 rfl rfl ?_
  refine C.iushr d4_7 rfl ?_
  rw [kq1]
  refine C.iloadN d4_8 rfl rfl ?_
  refine C.icmp_ne_t d4_9 (by decide) rfl (by decide) ?_
  refine C.lconst 0 d4_21 rfl rfl ?_
  refine C.lstore (Ls' := #[iv 2, iv 1, iv i0, iv 2, .val (.long j0), .second, .val (.long 0), .second]) d4_22 rfl rfl ?_
  refine C.iloadN d4_24 rfl rfl ?_
  refine C.iloadN d4_25 rfl rfl ?_
  refine C.icmp_le_t d4_26 (by decide) rfl (by decide) ?_
  refine C.lload d4_36 rfl rfl ?_
  exact C.retJ d4_38 (by decide) (by decide) ⟨rfl, rfl⟩
def Qau2753_4 (Z : State) (n0 : Nat) (h0 : Heap) (i0 : Int32) (j0 : Int64) (v : Option Value) (h' : Heap) : Prop := (v = some (.long ((1 <<< (Int32.toInt64 (i0 &&& 63) &&& 63)) ||| j0))) ∧ (h0 = h')
theorem ef_au2753_4 (m : MethodId) (i0 : Int32) (j0 : Int64) : entryFrame m #[(.int 0), (.int 1), (.int i0), (.int 3), (.long j0)] 8 = mkF m 0 #[iv 0, iv 1, iv i0, iv 3, .val (.long j0), .second, .unset, .unset] [] := by first | (simp [entryFrame, mkF, argsToLocals, Value.category]; done) | rfl
set_option maxRecDepth 65536 in
set_option maxHeartbeats 40000000 in
theorem au2753_4 (l : Launch) (Z : State) (a0 : Array Value) (hw : ∀ d ∈ tables_1, d.before a0 Z = true) (n0 : Nat) (h0 : Heap) (hn0 : n0 ≤ h0.size) (i0 : Int32) (j0 : Int64) (kq0 : ((i0 / 64) = (0 : Int32))) (kq1 : ((XT.ushr i0 6) = (0 : Int32))) :
    Con l Z n0 [] (⟨"com/example/detra/detra/SetWordsAddWordsPinLaw", "expect", "(IZIIJ)J"⟩ : MethodName) method_3_code 8 (some .long) ({ frames := 0, cells := 0, slots := 0, locals := 0 } : Room) #[(.int 0), (.int 1), (.int i0), (.int 3), (.long j0)] h0 (Qau2753_4 Z n0 h0 i0 j0) := by
  refine Con.of pf_7 (fun m => ef_au2753_4 m i0 j0) hn0 ?_
  intro p e s m below meth c C
  refine C.iloadN d4_0 rfl rfl ?_
  refine C.if_eq_f d4_1 rfl (by decide) ?_
  refine C.iloadN d4_4 rfl rfl ?_
  refine C.bipush 6 d4_5 rfl rfl ?_
  refine C.iushr d4_7 rfl ?_
  rw [kq1]
  refine C.iloadN d4_8 rfl rfl ?_
  refine C.icmp_ne_f d4_9 rfl (by decide) ?_
  refine C.lconst 1 d4_12 rfl rfl ?_
  refine C.iloadN d4_13 rfl rfl ?_
  refine C.bipush 63 d4_14 rfl rfl ?_
  refine C.iand d4_16 rfl ?_
  refine C.lshl d4_17 rfl ?_
  refine C.goto d4_18 (by decide) rfl ?_
  refine C.lstore (Ls' := #[iv 0, iv 1, iv i0, iv 3, .val (.long j0), .second, .val (.long (1 <<< (Int32.toInt64 (i0 &&& 63) &&& 63))), .second]) d4_22 rfl rfl ?_
  refine C.iloadN d4_24 rfl rfl ?_
  refine C.iloadN d4_25 rfl rfl ?_
  refine C.icmp_le_f d4_26 rfl (by decide) ?_
  refine C.lload d4_29 rfl rfl ?_
  refine C.lload d4_31 rfl rfl ?_
  refine C.lor d4_33 rfl ?_
  refine C.lstore (Ls' := #[iv 0, iv 1, iv i0, iv 3, .val (.long j0), .second, .val (.long ((1 <<< (Int32.toInt64 (i0 &&& 63) &&& 63)) ||| j0)), .second]) d4_34 rfl rfl ?_
  refine C.lload d4_36 rfl rfl ?_
  exact C.retJ d4_38 (by decide) (by decide) ⟨rfl, rfl⟩
def Qau2758_4 (Z : State) (n0 : Nat) (h0 : Heap) (i0 : Int32) (j0 : Int64) (v : Option Value) (h' : Heap) : Prop := (v = some (.long j0)) ∧ (h0 = h')
theorem ef_au2758_4 (m : MethodId) (i0 : Int32) (j0 : Int64) : entryFrame m #[(.int 1), (.int 1), (.int i0), (.int 3), (.long j0)] 8 = mkF m 0 #[iv 1, iv 1, iv i0, iv 3, .val (.long j0), .second, .unset, .unset] [] := by first | (simp [entryFrame, mkF, argsToLocals, Value.category]; done) | rfl
set_option maxRecDepth 65536 in
set_option maxHeartbeats 40000000 in
theorem au2758_4 (l : Launch) (Z : State) (a0 : Array Value) (hw : ∀ d ∈ tables_1, d.before a0 Z = true) (n0 : Nat) (h0 : Heap) (hn0 : n0 ≤ h0.size) (i0 : Int32) (j0 : Int64) (kq0 : ((i0 / 64) = (0 : Int32))) (kq1 : ((XT.ushr i0 6) = (0 : Int32))) :
    Con l Z n0 [] (⟨"com/example/detra/detra/SetWordsAddWordsPinLaw", "expect", "(IZIIJ)J"⟩ : MethodName) method_3_code 8 (some .long) ({ frames := 0, cells := 0, slots := 0, locals := 0 } : Room) #[(.int 1), (.int 1), (.int i0), (.int 3), (.long j0)] h0 (Qau2758_4 Z n0 h0 i0 j0) := by
  refine Con.of pf_7 (fun m => ef_au2758_4 m i0 j0) hn0 ?_
  intro p e s m below meth c C
  refine C.iloadN d4_0 rfl rfl ?_
  refine C.if_eq_f d4_1 rfl (by decide) ?_
  refine C.iloadN d4_4 rfl rfl ?_
  refine C.bipush 6 d4_5 rfl rfl ?_
  refine C.iushr d4_7 rfl ?_
  rw [kq1]
  refine C.iloadN d4_8 rfl rfl ?_
  refine C.icmp_ne_t d4_9 (by decide) rfl (by decide) ?_
  refine C.lconst 0 d4_21 rfl rfl ?_
  refine C.lstore (Ls' := #[iv 1, iv 1, iv i0, iv 3, .val (.long j0), .second, .val (.long 0), .second]) d4_22 rfl rfl ?_
  refine C.iloadN d4_24 rfl rfl ?_
  refine C.iloadN d4_25 rfl rfl ?_
  refine C.icmp_le_f d4_26 rfl (by decide) ?_
  refine C.lload d4_29 rfl rfl ?_
  refine C.lload d4_31 rfl rfl ?_
  refine C.lor d4_33 rfl ?_
  rw [Int64.zero_or]
  refine C.lstore (Ls' := #[iv 1, iv 1, iv i0, iv 3, .val (.long j0), .second, .val (.long j0), .second]) d4_34 rfl rfl ?_
  refine C.lload d4_36 rfl rfl ?_
  exact C.retJ d4_38 (by decide) (by decide) ⟨rfl, rfl⟩
def Qau2763_4 (Z : State) (n0 : Nat) (h0 : Heap) (i0 : Int32) (j0 : Int64) (v : Option Value) (h' : Heap) : Prop := (v = some (.long j0)) ∧ (h0 = h')
theorem ef_au2763_4 (m : MethodId) (i0 : Int32) (j0 : Int64) : entryFrame m #[(.int 2), (.int 1), (.int i0), (.int 3), (.long j0)] 8 = mkF m 0 #[iv 2, iv 1, iv i0, iv 3, .val (.long j0), .second, .unset, .unset] [] := by first | (simp [entryFrame, mkF, argsToLocals, Value.category]; done) | rfl
set_option maxRecDepth 65536 in
set_option maxHeartbeats 40000000 in
theorem au2763_4 (l : Launch) (Z : State) (a0 : Array Value) (hw : ∀ d ∈ tables_1, d.before a0 Z = true) (n0 : Nat) (h0 : Heap) (hn0 : n0 ≤ h0.size) (i0 : Int32) (j0 : Int64) (kq0 : ((i0 / 64) = (0 : Int32))) (kq1 : ((XT.ushr i0 6) = (0 : Int32))) :
    Con l Z n0 [] (⟨"com/example/detra/detra/SetWordsAddWordsPinLaw", "expect", "(IZIIJ)J"⟩ : MethodName) method_3_code 8 (some .long) ({ frames := 0, cells := 0, slots := 0, locals := 0 } : Room) #[(.int 2), (.int 1), (.int i0), (.int 3), (.long j0)] h0 (Qau2763_4 Z n0 h0 i0 j0) := by
  refine Con.of pf_7 (fun m => ef_au2763_4 m i0 j0) hn0 ?_
  intro p e s m below meth c C
  refine C.iloadN d4_0 rfl rfl ?_
  refine C.if_eq_f d4_1 rfl (by decide) ?_
  refine C.iloadN d4_4 rfl rfl ?_
  refine C.bipush 6 d4_5 rfl rfl ?_
  refine C.iushr d4_7 rfl ?_
  rw [kq1]
  refine C.iloadN d4_8 rfl rfl ?_
  refine C.icmp_ne_t d4_9 (by decide) rfl (by decide) ?_
  refine C.lconst 0 d4_21 rfl rfl ?_
  refine C.lstore (Ls' := #[iv 2, iv 1, iv i0, iv 3, .val (.long j0), .second, .val (.long 0), .second]) d4_22 rfl rfl ?_
  refine C.iloadN d4_24 rfl rfl ?_
  refine C.iloadN d4_25 rfl rfl ?_
  refine C.icmp_le_f d4_26 rfl (by decide) ?_
  refine C.lload d4_29 rfl rfl ?_
  refine C.lload d4_31 rfl rfl ?_
  refine C.lor d4_33 rfl ?_
  rw [Int64.zero_or]
  refine C.lstore (Ls' := #[iv 2, iv 1, iv i0, iv 3, .val (.long j0), .second, .val (.long j0), .second]) d4_34 rfl rfl ?_
  refine C.lload d4_36 rfl rfl ?_
  exact C.retJ d4_38 (by decide) (by decide) ⟨rfl, rfl⟩
def Qau2768_14 (Z : State) (n0 : Nat) (h0 : Heap) (o0 : Addr) (i0 : Int32) (o1 : Addr) (o2 : Addr) (v : Option Value) (h' : Heap) : Prop := (v = none) ∧ (Keep h0 h' [o2]) ∧ (Av Z h' o2 .long ([.long 0, .long (1 <<< (Int32.toInt64 i0 &&& 63)), .long 0]))
theorem ef_au2768_14 (m : MethodId) (o0 : Addr) (i0 : Int32) : entryFrame m #[(.ref o0), (.int i0)] 3 = mkF m 0 #[rv o0, iv i0, .unset] [] := by first | (simp [entryFrame, mkF, argsToLocals, Value.category]; done) | rfl
set_option maxRecDepth 65536 in
set_option maxHeartbeats 40000000 in
theorem au2768_14 (l : Launch) (Z : State) (a0 : Array Value) (hw : ∀ d ∈ tables_1, d.before a0 Z = true) (n0 : Nat) (h0 : Heap) (hn0 : n0 ≤ h0.size) (o0 : Addr) (i0 : Int32) (o1 : Addr) (o2 : Addr) (P0 : Exa Z h0 o0 kC0) (P1 : Fld Z h0 o0 kC0 "count" "I" (.int 0)) (P2 : Fld Z h0 o0 kC0 "held" "[I" (.ref o1)) (P3 : Fld Z h0 o0 kC0 "listing" "Z" (.int 0)) (P4 : Fld Z h0 o0 kC0 "words" "[J" (.ref o2)) (P5 : Av Z h0 o1 .int ([.int 0, .int 0, .int 0])) (P6 : Av Z h0 o2 .long ([.long 0, .long 0, .long 0])) (g_o0 : n0 ≤ o0) (g_o1 : n0 ≤ o1) (g_o2 : n0 ≤ o2) (ne_o0_o1 : o0 ≠ o1) (ne_o0_o2 : o0 ≠ o2) (ne_o1_o2 : o1 ≠ o2) (kq0 : ((i0 / 64) = (1 : Int32))) (kq1 : ((XT.ushr i0 6) = (1 : Int32))) :
    Con l Z n0 [] (⟨"com/example/detra/detra/SetWords", "add", "(I)V"⟩ : MethodName) prog_21_method_2_code 3 none ({ frames := 0, cells := 0, slots := 0, locals := 0 } : Room) #[(.ref o0), (.int i0)] h0 (Qau2768_14 Z n0 h0 o0 i0 o1 o2) := by
  refine Con.of pf_8 (fun m => ef_au2768_14 m o0 i0) hn0 ?_
  intro p e s m below meth c C
  refine C.iloadN d14_0 rfl rfl ?_
  refine C.bipush 64 d14_1 rfl rfl ?_
  refine C.idiv d14_3 rfl (by decide) ?_
  rw [kq0]
  refine C.istoreN (Ls' := #[rv o0, iv i0, iv 1]) d14_4 rfl rfl ?_
  refine C.aloadN d14_5 rfl rfl rfl ?_
  refine C.getF d14_6 rfl (tw hw 14 rfl) P3 ?_
  refine C.if_eq_t d14_9 (by decide) rfl (by decide) ?_
  refine C.aloadN d14_40 rfl rfl rfl ?_
  refine C.getF d14_41 rfl (tw hw 12 rfl) P4 ?_
  refine C.iloadN d14_44 rfl rfl ?_
  refine C.dup2 d14_45 rfl rfl rfl ?_
  refine C.laload (.long 0) d14_46 rfl P6 (by decide) rfl ?_
  refine C.lconst 1 d14_47 rfl rfl ?_
  refine C.iloadN d14_48 rfl rfl ?_
  refine C.lshl d14_49 rfl ?_
  refine C.lor d14_50 rfl ?_
  rw [Int64.zero_or]
  refine C.lastore d14_51 rfl P6 g_o2 (by decide) (Nat.le_of_ble_eq_true rfl) (fun h2789 W2790 F2791 => ?_)
  have F2792 := Exa.wr W2790 P0
  have F2793 := Fld.other W2790 P1 (Or.inl ne_o0_o2)
  have F2794 := Fld.other W2790 P2 (Or.inl ne_o0_o2)
  have F2795 := Fld.other W2790 P3 (Or.inl ne_o0_o2)
  have F2796 := Fld.other W2790 P4 (Or.inl ne_o0_o2)
  have F2797 := P5.other W2790 ne_o1_o2
  have F2798 : Av Z h2789 o2 .long ([.long 0, .long (1 <<< (Int32.toInt64 i0 &&& 63)), .long 0]) := F2791
  exact C.ret0 d14_52 (by decide) (by decide) ⟨rfl, ((Keep.refl h0 [o2]).wr W2790 (Or.inl (List.mem_of_getElem? (i := 0) rfl))), F2798⟩
def Qau2817_4 (Z : State) (n0 : Nat) (h0 : Heap) (i0 : Int32) (j0 : Int64) (v : Option Value) (h' : Heap) : Prop := (v = some (.long 0)) ∧ (h0 = h')
theorem ef_au2817_4 (m : MethodId) (i0 : Int32) (j0 : Int64) : entryFrame m #[(.int 0), (.int 1), (.int i0), (.int 0), (.long j0)] 8 = mkF m 0 #[iv 0, iv 1, iv i0, iv 0, .val (.long j0), .second, .unset, .unset] [] := by first | (simp [entryFrame, mkF, argsToLocals, Value.category]; done) | rfl
set_option maxRecDepth 65536 in
set_option maxHeartbeats 40000000 in
theorem au2817_4 (l : Launch) (Z : State) (a0 : Array Value) (hw : ∀ d ∈ tables_1, d.before a0 Z = true) (n0 : Nat) (h0 : Heap) (hn0 : n0 ≤ h0.size) (i0 : Int32) (j0 : Int64) (kq0 : ((i0 / 64) = (1 : Int32))) (kq1 : ((XT.ushr i0 6) = (1 : Int32))) :
    Con l Z n0 [] (⟨"com/example/detra/detra/SetWordsAddWordsPinLaw", "expect", "(IZIIJ)J"⟩ : MethodName) method_3_code 8 (some .long) ({ frames := 0, cells := 0, slots := 0, locals := 0 } : Room) #[(.int 0), (.int 1), (.int i0), (.int 0), (.long j0)] h0 (Qau2817_4 Z n0 h0 i0 j0) := by
  refine Con.of pf_7 (fun m => ef_au2817_4 m i0 j0) hn0 ?_
  intro p e s m below meth c C
  refine C.iloadN d4_0 rfl rfl ?_
  refine C.if_eq_f d4_1 rfl (by decide) ?_
  refine C.iloadN d4_4 rfl rfl ?_
  refine C.bipush 6 d4_5 rfl rfl ?_
  refine C.iushr d4_7 rfl ?_
  rw [kq1]
  refine C.iloadN d4_8 rfl rfl ?_
  refine C.icmp_ne_t d4_9 (by decide) rfl (by decide) ?_
  refine C.lconst 0 d4_21 rfl rfl ?_
  refine C.lstore (Ls' := #[iv 0, iv 1, iv i0, iv 0, .val (.long j0), .second, .val (.long 0), .second]) d4_22 rfl rfl ?_
  refine C.iloadN d4_24 rfl rfl ?_
  refine C.iloadN d4_25 rfl rfl ?_
  refine C.icmp_le_t d4_26 (by decide) rfl (by decide) ?_
  refine C.lload d4_36 rfl rfl ?_
  exact C.retJ d4_38 (by decide) (by decide) ⟨rfl, rfl⟩
def Qau2822_4 (Z : State) (n0 : Nat) (h0 : Heap) (i0 : Int32) (j0 : Int64) (v : Option Value) (h' : Heap) : Prop := (v = some (.long (1 <<< (Int32.toInt64 (i0 &&& 63) &&& 63)))) ∧ (h0 = h')
theorem ef_au2822_4 (m : MethodId) (i0 : Int32) (j0 : Int64) : entryFrame m #[(.int 1), (.int 1), (.int i0), (.int 0), (.long j0)] 8 = mkF m 0 #[iv 1, iv 1, iv i0, iv 0, .val (.long j0), .second, .unset, .unset] [] := by first | (simp [entryFrame, mkF, argsToLocals, Value.category]; done) | rfl
set_option maxRecDepth 65536 in
set_option maxHeartbeats 40000000 in
theorem au2822_4 (l : Launch) (Z : State) (a0 : Array Value) (hw : ∀ d ∈ tables_1, d.before a0 Z = true) (n0 : Nat) (h0 : Heap) (hn0 : n0 ≤ h0.size) (i0 : Int32) (j0 : Int64) (kq0 : ((i0 / 64) = (1 : Int32))) (kq1 : ((XT.ushr i0 6) = (1 : Int32))) :
    Con l Z n0 [] (⟨"com/example/detra/detra/SetWordsAddWordsPinLaw", "expect", "(IZIIJ)J"⟩ : MethodName) method_3_code 8 (some .long) ({ frames := 0, cells := 0, slots := 0, locals := 0 } : Room) #[(.int 1), (.int 1), (.int i0), (.int 0), (.long j0)] h0 (Qau2822_4 Z n0 h0 i0 j0) := by
  refine Con.of pf_7 (fun m => ef_au2822_4 m i0 j0) hn0 ?_
  intro p e s m below meth c C
  refine C.iloadN d4_0 rfl rfl ?_
  refine C.if_eq_f d4_1 rfl (by decide) ?_
  refine C.iloadN d4_4 rfl rfl ?_
  refine C.bipush 6 d4_5 rfl rfl ?_
  refine C.iushr d4_7 rfl ?_
  rw [kq1]
  refine C.iloadN d4_8 rfl rfl ?_
  refine C.icmp_ne_f d4_9 rfl (by decide) ?_
  refine C.lconst 1 d4_12 rfl rfl ?_
  refine C.iloadN d4_13 rfl rfl ?_
  refine C.bipush 63 d4_14 rfl rfl ?_
  refine C.iand d4_16 rfl ?_
  refine C.lshl d4_17 rfl ?_
  refine C.goto d4_18 (by decide) rfl ?_
  refine C.lstore (Ls' := #[iv 1, iv 1, iv i0, iv 0, .val (.long j0), .second, .val (.long (1 <<< (Int32.toInt64 (i0 &&& 63) &&& 63))), .second]) d4_22 rfl rfl ?_
  refine C.iloadN d4_24 rfl rfl ?_
  refine C.iloadN d4_25 rfl rfl ?_
  refine C.icmp_le_t d4_26 (by decide) rfl (by decide) ?_
  refine C.lload d4_36 rfl rfl ?_
  exact C.retJ d4_38 (by decide) (by decide) ⟨rfl, rfl⟩
def Qau2827_4 (Z : State) (n0 : Nat) (h0 : Heap) (i0 : Int32) (j0 : Int64) (v : Option Value) (h' : Heap) : Prop := (v = some (.long 0)) ∧ (h0 = h')
theorem ef_au2827_4 (m : MethodId) (i0 : Int32) (j0 : Int64) : entryFrame m #[(.int 2), (.int 1), (.int i0), (.int 0), (.long j0)] 8 = mkF m 0 #[iv 2, iv 1, iv i0, iv 0, .val (.long j0), .second, .unset, .unset] [] := by first | (simp [entryFrame, mkF, argsToLocals, Value.category]; done) | rfl
set_option maxRecDepth 65536 in
set_option maxHeartbeats 40000000 in
theorem au2827_4 (l : Launch) (Z : State) (a0 : Array Value) (hw : ∀ d ∈ tables_1, d.before a0 Z = true) (n0 : Nat) (h0 : Heap) (hn0 : n0 ≤ h0.size) (i0 : Int32) (j0 : Int64) (kq0 : ((i0 / 64) = (1 : Int32))) (kq1 : ((XT.ushr i0 6) = (1 : Int32))) :
    Con l Z n0 [] (⟨"com/example/detra/detra/SetWordsAddWordsPinLaw", "expect", "(IZIIJ)J"⟩ : MethodName) method_3_code 8 (some .long) ({ frames := 0, cells := 0, slots := 0, locals := 0 } : Room) #[(.int 2), (.int 1), (.int i0), (.int 0), (.long j0)] h0 (Qau2827_4 Z n0 h0 i0 j0) := by
  refine Con.of pf_7 (fun m => ef_au2827_4 m i0 j0) hn0 ?_
  intro p e s m below meth c C
  refine C.iloadN d4_0 rfl rfl ?_
  refine C.if_eq_f d4_1 rfl (by decide) ?_
  refine C.iloadN d4_4 rfl rfl ?_
  refine C.bipush 6 d4_5 rfl rfl ?_
  refine C.iushr d4_7 rfl ?_
  rw [kq1]
  refine C.iloadN d4_8 rfl rfl ?_
  refine C.icmp_ne_t d4_9 (by decide) rfl (by decide) ?_
  refine C.lconst 0 d4_21 rfl rfl ?_
  refine C.lstore (Ls' := #[iv 2, iv 1, iv i0, iv 0, .val (.long j0), .second, .val (.long 0), .second]) d4_22 rfl rfl ?_
  refine C.iloadN d4_24 rfl rfl ?_
  refine C.iloadN d4_25 rfl rfl ?_
  refine C.icmp_le_t d4_26 (by decide) rfl (by decide) ?_
  refine C.lload d4_36 rfl rfl ?_
  exact C.retJ d4_38 (by decide) (by decide) ⟨rfl, rfl⟩
def Qau2846_4 (Z : State) (n0 : Nat) (h0 : Heap) (i0 : Int32) (j0 : Int64) (v : Option Value) (h' : Heap) : Prop := (v = some (.long j0)) ∧ (h0 = h')
theorem ef_au2846_4 (m : MethodId) (i0 : Int32) (j0 : Int64) : entryFrame m #[(.int 0), (.int 1), (.int i0), (.int 1), (.long j0)] 8 = mkF m 0 #[iv 0, iv 1, iv i0, iv 1, .val (.long j0), .second, .unset, .unset] [] := by first | (simp [entryFrame, mkF, argsToLocals, Value.category]; done) | rfl
set_option maxRecDepth 65536 in
set_option maxHeartbeats 40000000 in
theorem au2846_4 (l : Launch) (Z : State) (a0 : Array Value) (hw : ∀ d ∈ tables_1, d.before a0 Z = true) (n0 : Nat) (h0 : Heap) (hn0 : n0 ≤ h0.size) (i0 : Int32) (j0 : Int64) (kq0 : ((i0 / 64) = (1 : Int32))) (kq1 : ((XT.ushr i0 6) = (1 : Int32))) :
    Con l Z n0 [] (⟨"com/example/detra/detra/SetWordsAddWordsPinLaw", "expect", "(IZIIJ)J"⟩ : MethodName) method_3_code 8 (some .long) ({ frames := 0, cells := 0, slots := 0, locals := 0 } : Room) #[(.int 0), (.int 1), (.int i0), (.int 1), (.long j0)] h0 (Qau2846_4 Z n0 h0 i0 j0) := by
  refine Con.of pf_7 (fun m => ef_au2846_4 m i0 j0) hn0 ?_
  intro p e s m below meth c C
  refine C.iloadN d4_0 rfl rfl ?_
  refine C.if_eq_f d4_1 rfl (by decide) ?_
  refine C.iloadN d4_4 rfl rfl ?_
  refine C.bipush 6 d4_5 rfl rfl ?_
  refine C.iushr d4_7 rfl ?_
  rw [kq1]
  refine C.iloadN d4_8 rfl rfl ?_
  refine C.icmp_ne_t d4_9 (by decide) rfl (by decide) ?_
  refine C.lconst 0 d4_21 rfl rfl ?_
  refine C.lstore (Ls' := #[iv 0, iv 1, iv i0, iv 1, .val (.long j0), .second, .val (.long 0), .second]) d4_22 rfl rfl ?_
  refine C.iloadN d4_24 rfl rfl ?_
  refine C.iloadN d4_25 rfl rfl ?_
  refine C.icmp_le_f d4_26 rfl (by decide) ?_
  refine C.lload d4_29 rfl rfl ?_
  refine C.lload d4_31 rfl rfl ?_
  refine C.lor d4_33 rfl ?_
  rw [Int64.zero_or]
  refine C.lstore (Ls' := #[iv 0, iv 1, iv i0, iv 1, .val (.long j0), .second, .val (.long j0), .second]) d4_34 rfl rfl ?_
  refine C.lload d4_36 rfl rfl ?_
  exact C.retJ d4_38 (by decide) (by decide) ⟨rfl, rfl⟩
def Qau2851_4 (Z : State) (n0 : Nat) (h0 : Heap) (i0 : Int32) (j0 : Int64) (v : Option Value) (h' : Heap) : Prop := (v = some (.long (1 <<< (Int32.toInt64 (i0 &&& 63) &&& 63)))) ∧ (h0 = h')
theorem ef_au2851_4 (m : MethodId) (i0 : Int32) (j0 : Int64) : entryFrame m #[(.int 1), (.int 1), (.int i0), (.int 1), (.long j0)] 8 = mkF m 0 #[iv 1, iv 1, iv i0, iv 1, .val (.long j0), .second, .unset, .unset] [] := by first | (simp [entryFrame, mkF, argsToLocals, Value.category]; done) | rfl
set_option maxRecDepth 65536 in
set_option maxHeartbeats 40000000 in
theorem au2851_4 (l : Launch) (Z : State) (a0 : Array Value) (hw : ∀ d ∈ tables_1, d.before a0 Z = true) (n0 : Nat) (h0 : Heap) (hn0 : n0 ≤ h0.size) (i0 : Int32) (j0 : Int64) (kq0 : ((i0 / 64) = (1 : Int32))) (kq1 : ((XT.ushr i0 6) = (1 : Int32))) :
    Con l Z n0 [] (⟨"com/example/detra/detra/SetWordsAddWordsPinLaw", "expect", "(IZIIJ)J"⟩ : MethodName) method_3_code 8 (some .long) ({ frames := 0, cells := 0, slots := 0, locals := 0 } : Room) #[(.int 1), (.int 1), (.int i0), (.int 1), (.long j0)] h0 (Qau2851_4 Z n0 h0 i0 j0) := by
  refine Con.of pf_7 (fun m => ef_au2851_4 m i0 j0) hn0 ?_
  intro p e s m below meth c C
  refine C.iloadN d4_0 rfl rfl ?_
  refine C.if_eq_f d4_1 rfl (by decide) ?_
  refine C.iloadN d4_4 rfl rfl ?_
  refine C.bipush 6 d4_5 rfl rfl ?_
  refine C.iushr d4_7 rfl ?_
  rw [kq1]
  refine C.iloadN d4_8 rfl rfl ?_
  refine C.icmp_ne_f d4_9 rfl (by decide) ?_
  refine C.lconst 1 d4_12 rfl rfl ?_
  refine C.iloadN d4_13 rfl rfl ?_
  refine C.bipush 63 d4_14 rfl rfl ?_
  refine C.iand d4_16 rfl ?_
  refine C.lshl d4_17 rfl ?_
  refine C.goto d4_18 (by decide) rfl ?_
  refine C.lstore (Ls' := #[iv 1, iv 1, iv i0, iv 1, .val (.long j0), .second, .val (.long (1 <<< (Int32.toInt64 (i0 &&& 63) &&& 63))), .second]) d4_22 rfl rfl ?_
  refine C.iloadN d4_24 rfl rfl ?_
  refine C.iloadN d4_25 rfl rfl ?_
  refine C.icmp_le_t d4_26 (by decide) rfl (by decide) ?_
  refine C.lload d4_36 rfl rfl ?_
  exact C.retJ d4_38 (by decide) (by decide) ⟨rfl, rfl⟩
def Qau2856_4 (Z : State) (n0 : Nat) (h0 : Heap) (i0 : Int32) (j0 : Int64) (v : Option Value) (h' : Heap) : Prop := (v = some (.long 0)) ∧ (h0 = h')
theorem ef_au2856_4 (m : MethodId) (i0 : Int32) (j0 : Int64) : entryFrame m #[(.int 2), (.int 1), (.int i0), (.int 1), (.long j0)] 8 = mkF m 0 #[iv 2, iv 1, iv i0, iv 1, .val (.long j0), .second, .unset, .unset] [] := by first | (simp [entryFrame, mkF, argsToLocals, Value.category]; done) | rfl
set_option maxRecDepth 65536 in
set_option maxHeartbeats 40000000 in
theorem au2856_4 (l : Launch) (Z : State) (a0 : Array Value) (hw : ∀ d ∈ tables_1, d.before a0 Z = true) (n0 : Nat) (h0 : Heap) (hn0 : n0 ≤ h0.size) (i0 : Int32) (j0 : Int64) (kq0 : ((i0 / 64) = (1 : Int32))) (kq1 : ((XT.ushr i0 6) = (1 : Int32))) :
    Con l Z n0 [] (⟨"com/example/detra/detra/SetWordsAddWordsPinLaw", "expect", "(IZIIJ)J"⟩ : MethodName) method_3_code 8 (some .long) ({ frames := 0, cells := 0, slots := 0, locals := 0 } : Room) #[(.int 2), (.int 1), (.int i0), (.int 1), (.long j0)] h0 (Qau2856_4 Z n0 h0 i0 j0) := by
  refine Con.of pf_7 (fun m => ef_au2856_4 m i0 j0) hn0 ?_
  intro p e s m below meth c C
  refine C.iloadN d4_0 rfl rfl ?_
  refine C.if_eq_f d4_1 rfl (by decide) ?_
  refine C.iloadN d4_4 rfl rfl ?_
  refine C.bipush 6 d4_5 rfl rfl ?_
  refine C.iushr d4_7 rfl ?_
  rw [kq1]
  refine C.iloadN d4_8 rfl rfl ?_
  refine C.icmp_ne_t d4_9 (by decide) rfl (by decide) ?_
  refine C.lconst 0 d4_21 rfl rfl ?_
  refine C.lstore (Ls' := #[iv 2, iv 1, iv i0, iv 1, .val (.long j0), .second, .val (.long 0), .second]) d4_22 rfl rfl ?_
  refine C.iloadN d4_24 rfl rfl ?_
  refine C.iloadN d4_25 rfl rfl ?_
  refine C.icmp_le_t d4_26 (by decide) rfl (by decide) ?_
  refine C.lload d4_36 rfl rfl ?_
  exact C.retJ d4_38 (by decide) (by decide) ⟨rfl, rfl⟩
def Qau2875_4 (Z : State) (n0 : Nat) (h0 : Heap) (i0 : Int32) (j0 : Int64) (v : Option Value) (h' : Heap) : Prop := (v = some (.long j0)) ∧ (h0 = h')
theorem ef_au2875_4 (m : MethodId) (i0 : Int32) (j0 : Int64) : entryFrame m #[(.int 0), (.int 1), (.int i0), (.int 2), (.long j0)] 8 = mkF m 0 #[iv 0, iv 1, iv i0, iv 2, .val (.long j0), .second, .unset, .unset] [] := by first | (simp [entryFrame, mkF, argsToLocals, Value.category]; done) | rfl
set_option maxRecDepth 65536 in
set_option maxHeartbeats 40000000 in
theorem au2875_4 (l : Launch) (Z : State) (a0 : Array Value) (hw : ∀ d ∈ tables_1, d.before a0 Z = true) (n0 : Nat) (h0 : Heap) (hn0 : n0 ≤ h0.size) (i0 : Int32) (j0 : Int64) (kq0 : ((i0 / 64) = (1 : Int32))) (kq1 : ((XT.ushr i0 6) = (1 : Int32))) :
    Con l Z n0 [] (⟨"com/example/detra/detra/SetWordsAddWordsPinLaw", "expect", "(IZIIJ)J"⟩ : MethodName) method_3_code 8 (some .long) ({ frames := 0, cells := 0, slots := 0, locals := 0 } : Room) #[(.int 0), (.int 1), (.int i0), (.int 2), (.long j0)] h0 (Qau2875_4 Z n0 h0 i0 j0) := by
  refine Con.of pf_7 (fun m => ef_au2875_4 m i0 j0) hn0 ?_
  intro p e s m below meth c C
  refine C.iloadN d4_0 rfl rfl ?_
  refine C.if_eq_f d4_1 rfl (by decide) ?_
  refine C.iloadN d4_4 rfl rfl ?_
  refine C.bipush 6 d4_5 rfl rfl ?_
  refine C.iushr d4_7 rfl ?_
  rw [kq1]
  refine C.iloadN d4_8 rfl rfl ?_
  refine C.icmp_ne_t d4_9 (by decide) rfl (by decide) ?_
  refine C.lconst 0 d4_21 rfl rfl ?_
  refine C.lstore (Ls' := #[iv 0, iv 1, iv i0, iv 2, .val (.long j0), .second, .val (.long 0), .second]) d4_22 rfl rfl ?_
  refine C.iloadN d4_24 rfl rfl ?_
  refine C.iloadN d4_25 rfl rfl ?_
  refine C.icmp_le_f d4_26 rfl (by decide) ?_
  refine C.lload d4_29 rfl rfl ?_
  refine C.lload d4_31 rfl rfl ?_
  refine C.lor d4_33 rfl ?_
  rw [Int64.zero_or]
  refine C.lstore (Ls' := #[iv 0, iv 1, iv i0, iv 2, .val (.long j0), .second, .val (.long j0), .second]) d4_34 rfl rfl ?_
  refine C.lload d4_36 rfl rfl ?_
  exact C.retJ d4_38 (by decide) (by decide) ⟨rfl, rfl⟩
def Qau2880_4 (Z : State) (n0 : Nat) (h0 : Heap) (i0 : Int32) (j0 : Int64) (v : Option Value) (h' : Heap) : Prop := (v = some (.long ((1 <<< (Int32.toInt64 (i0 &&& 63) &&& 63)) ||| j0))) ∧ (h0 = h')
theorem ef_au2880_4 (m : MethodId) (i0 : Int32) (j0 : Int64) : entryFrame m #[(.int 1), (.int 1), (.int i0), (.int 2), (.long j0)] 8 = mkF m 0 #[iv 1, iv 1, iv i0, iv 2, .val (.long j0), .second, .unset, .unset] [] := by first | (simp [entryFrame, mkF, argsToLocals, Value.category]; done) | rfl
set_option maxRecDepth 65536 in
set_option maxHeartbeats 40000000 in
theorem au2880_4 (l : Launch) (Z : State) (a0 : Array Value) (hw : ∀ d ∈ tables_1, d.before a0 Z = true) (n0 : Nat) (h0 : Heap) (hn0 : n0 ≤ h0.size) (i0 : Int32) (j0 : Int64) (kq0 : ((i0 / 64) = (1 : Int32))) (kq1 : ((XT.ushr i0 6) = (1 : Int32))) :
    Con l Z n0 [] (⟨"com/example/detra/detra/SetWordsAddWordsPinLaw", "expect", "(IZIIJ)J"⟩ : MethodName) method_3_code 8 (some .long) ({ frames := 0, cells := 0, slots := 0, locals := 0 } : Room) #[(.int 1), (.int 1), (.int i0), (.int 2), (.long j0)] h0 (Qau2880_4 Z n0 h0 i0 j0) := by
  refine Con.of pf_7 (fun m => ef_au2880_4 m i0 j0) hn0 ?_
  intro p e s m below meth c C
  refine C.iloadN d4_0 rfl rfl ?_
  refine C.if_eq_f d4_1 rfl (by decide) ?_
  refine C.iloadN d4_4 rfl rfl ?_
  refine C.bipush 6 d4_5 rfl rfl ?_
  refine C.iushr d4_7 rfl ?_
  rw [kq1]
  refine C.iloadN d4_8 rfl rfl ?_
  refine C.icmp_ne_f d4_9 rfl (by decide) ?_
  refine C.lconst 1 d4_12 rfl rfl ?_
  refine C.iloadN d4_13 rfl rfl ?_
  refine C.bipush 63 d4_14 rfl rfl ?_
  refine C.iand d4_16 rfl ?_
  refine C.lshl d4_17 rfl ?_
  refine C.goto d4_18 (by decide) rfl ?_
  refine C.lstore (Ls' := #[iv 1, iv 1, iv i0, iv 2, .val (.long j0), .second, .val (.long (1 <<< (Int32.toInt64 (i0 &&& 63) &&& 63))), .second]) d4_22 rfl rfl ?_
  refine C.iloadN d4_24 rfl rfl ?_
  refine C.iloadN d4_25 rfl rfl ?_
  refine C.icmp_le_f d4_26 rfl (by decide) ?_
  refine C.lload d4_29 rfl rfl ?_
  refine C.lload d4_31 rfl rfl ?_
  refine C.lor d4_33 rfl ?_
  refine C.lstore (Ls' := #[iv 1, iv 1, iv i0, iv 2, .val (.long j0), .second, .val (.long ((1 <<< (Int32.toInt64 (i0 &&& 63) &&& 63)) ||| j0)), .second]) d4_34 rfl rfl ?_
  refine C.lload d4_36 rfl rfl ?_
  exact C.retJ d4_38 (by decide) (by decide) ⟨rfl, rfl⟩
def Qau2885_4 (Z : State) (n0 : Nat) (h0 : Heap) (i0 : Int32) (j0 : Int64) (v : Option Value) (h' : Heap) : Prop := (v = some (.long 0)) ∧ (h0 = h')
theorem ef_au2885_4 (m : MethodId) (i0 : Int32) (j0 : Int64) : entryFrame m #[(.int 2), (.int 1), (.int i0), (.int 2), (.long j0)] 8 = mkF m 0 #[iv 2, iv 1, iv i0, iv 2, .val (.long j0), .second, .unset, .unset] [] := by first | (simp [entryFrame, mkF, argsToLocals, Value.category]; done) | rfl
set_option maxRecDepth 65536 in
set_option maxHeartbeats 40000000 in
theorem au2885_4 (l : Launch) (Z : State) (a0 : Array Value) (hw : ∀ d ∈ tables_1, d.before a0 Z = true) (n0 : Nat) (h0 : Heap) (hn0 : n0 ≤ h0.size) (i0 : Int32) (j0 : Int64) (kq0 : ((i0 / 64) = (1 : Int32))) (kq1 : ((XT.ushr i0 6) = (1 : Int32))) :
    Con l Z n0 [] (⟨"com/example/detra/detra/SetWordsAddWordsPinLaw", "expect", "(IZIIJ)J"⟩ : MethodName) method_3_code 8 (some .long) ({ frames := 0, cells := 0, slots := 0, locals := 0 } : Room) #[(.int 2), (.int 1), (.int i0), (.int 2), (.long j0)] h0 (Qau2885_4 Z n0 h0 i0 j0) := by
  refine Con.of pf_7 (fun m => ef_au2885_4 m i0 j0) hn0 ?_
  intro p e s m below meth c C
  refine C.iloadN d4_0 rfl rfl ?_
  refine C.if_eq_f d4_1 rfl (by decide) ?_
  refine C.iloadN d4_4 rfl rfl ?_
  refine C.bipush 6 d4_5 rfl rfl ?_
  refine C.iushr d4_7 rfl ?_
  rw [kq1]
  refine C.iloadN d4_8 rfl rfl ?_
  refine C.icmp_ne_t d4_9 (by decide) rfl (by decide) ?_
  refine C.lconst 0 d4_21 rfl rfl ?_
  refine C.lstore (Ls' := #[iv 2, iv 1, iv i0, iv 2, .val (.long j0), .second, .val (.long 0), .second]) d4_22 rfl rfl ?_
  refine C.iloadN d4_24 rfl rfl ?_
  refine C.iloadN d4_25 rfl rfl ?_
  refine C.icmp_le_t d4_26 (by decide) rfl (by decide) ?_
  refine C.lload d4_36 rfl rfl ?_
  exact C.retJ d4_38 (by decide) (by decide) ⟨rfl, rfl⟩
def Qau2904_4 (Z : State) (n0 : Nat) (h0 : Heap) (i0 : Int32) (j0 : Int64) (v : Option Value) (h' : Heap) : Prop := (v = some (.long j0)) ∧ (h0 = h')
theorem ef_au2904_4 (m : MethodId) (i0 : Int32) (j0 : Int64) : entryFrame m #[(.int 0), (.int 1), (.int i0), (.int 3), (.long j0)] 8 = mkF m 0 #[iv 0, iv 1, iv i0, iv 3, .val (.long j0), .second, .unset, .unset] [] := by first | (simp [entryFrame, mkF, argsToLocals, Value.category]; done) | rfl
set_option maxRecDepth 65536 in
set_option maxHeartbeats 40000000 in
theorem au2904_4 (l : Launch) (Z : State) (a0 : Array Value) (hw : ∀ d ∈ tables_1, d.before a0 Z = true) (n0 : Nat) (h0 : Heap) (hn0 : n0 ≤ h0.size) (i0 : Int32) (j0 : Int64) (kq0 : ((i0 / 64) = (1 : Int32))) (kq1 : ((XT.ushr i0 6) = (1 : Int32))) :
    Con l Z n0 [] (⟨"com/example/detra/detra/SetWordsAddWordsPinLaw", "expect", "(IZIIJ)J"⟩ : MethodName) method_3_code 8 (some .long) ({ frames := 0, cells := 0, slots := 0, locals := 0 } : Room) #[(.int 0), (.int 1), (.int i0), (.int 3), (.long j0)] h0 (Qau2904_4 Z n0 h0 i0 j0) := by
  refine Con.of pf_7 (fun m => ef_au2904_4 m i0 j0) hn0 ?_
  intro p e s m below meth c C
  refine C.iloadN d4_0 rfl rfl ?_
  refine C.if_eq_f d4_1 rfl (by decide) ?_
  refine C.iloadN d4_4 rfl rfl ?_
  refine C.bipush 6 d4_5 rfl rfl ?_
  refine C.iushr d4_7 rfl ?_
  rw [kq1]
  refine C.iloadN d4_8 rfl rfl ?_
  refine C.icmp_ne_t d4_9 (by decide) rfl (by decide) ?_
  refine C.lconst 0 d4_21 rfl rfl ?_
  refine C.lstore (Ls' := #[iv 0, iv 1, iv i0, iv 3, .val (.long j0), .second, .val (.long 0), .second]) d4_22 rfl rfl ?_
  refine C.iloadN d4_24 rfl rfl ?_
  refine C.iloadN d4_25 rfl rfl ?_
  refine C.icmp_le_f d4_26 rfl (by decide) ?_
  refine C.lload d4_29 rfl rfl ?_
  refine C.lload d4_31 rfl rfl ?_
  refine C.lor d4_33 rfl ?_
  rw [Int64.zero_or]
  refine C.lstore (Ls' := #[iv 0, iv 1, iv i0, iv 3, .val (.long j0), .second, .val (.long j0), .second]) d4_34 rfl rfl ?_
  refine C.lload d4_36 rfl rfl ?_
  exact C.retJ d4_38 (by decide) (by decide) ⟨rfl, rfl⟩
def Qau2909_4 (Z : State) (n0 : Nat) (h0 : Heap) (i0 : Int32) (j0 : Int64) (v : Option Value) (h' : Heap) : Prop := (v = some (.long ((1 <<< (Int32.toInt64 (i0 &&& 63) &&& 63)) ||| j0))) ∧ (h0 = h')
theorem ef_au2909_4 (m : MethodId) (i0 : Int32) (j0 : Int64) : entryFrame m #[(.int 1), (.int 1), (.int i0), (.int 3), (.long j0)] 8 = mkF m 0 #[iv 1, iv 1, iv i0, iv 3, .val (.long j0), .second, .unset, .unset] [] := by first | (simp [entryFrame, mkF, argsToLocals, Value.category]; done) | rfl
set_option maxRecDepth 65536 in
set_option maxHeartbeats 40000000 in
theorem au2909_4 (l : Launch) (Z : State) (a0 : Array Value) (hw : ∀ d ∈ tables_1, d.before a0 Z = true) (n0 : Nat) (h0 : Heap) (hn0 : n0 ≤ h0.size) (i0 : Int32) (j0 : Int64) (kq0 : ((i0 / 64) = (1 : Int32))) (kq1 : ((XT.ushr i0 6) = (1 : Int32))) :
    Con l Z n0 [] (⟨"com/example/detra/detra/SetWordsAddWordsPinLaw", "expect", "(IZIIJ)J"⟩ : MethodName) method_3_code 8 (some .long) ({ frames := 0, cells := 0, slots := 0, locals := 0 } : Room) #[(.int 1), (.int 1), (.int i0), (.int 3), (.long j0)] h0 (Qau2909_4 Z n0 h0 i0 j0) := by
  refine Con.of pf_7 (fun m => ef_au2909_4 m i0 j0) hn0 ?_
  intro p e s m below meth c C
  refine C.iloadN d4_0 rfl rfl ?_
  refine C.if_eq_f d4_1 rfl (by decide) ?_
  refine C.iloadN d4_4 rfl rfl ?_
  refine C.bipush 6 d4_5 rfl rfl ?_
  refine C.iushr d4_7 rfl ?_
  rw [kq1]
  refine C.iloadN d4_8 rfl rfl ?_
  refine C.icmp_ne_f d4_9 rfl (by decide) ?_
  refine C.lconst 1 d4_12 rfl rfl ?_
  refine C.iloadN d4_13 rfl rfl ?_
  refine C.bipush 63 d4_14 rfl rfl ?_
  refine C.iand d4_16 rfl ?_
  refine C.lshl d4_17 rfl ?_
  refine C.goto d4_18 (by decide) rfl ?_
  refine C.lstore (Ls' := #[iv 1, iv 1, iv i0, iv 3, .val (.long j0), .second, .val (.long (1 <<< (Int32.toInt64 (i0 &&& 63) &&& 63))), .second]) d4_22 rfl rfl ?_
  refine C.iloadN d4_24 rfl rfl ?_
  refine C.iloadN d4_25 rfl rfl ?_
  refine C.icmp_le_f d4_26 rfl (by decide) ?_
  refine C.lload d4_29 rfl rfl ?_
  refine C.lload d4_31 rfl rfl ?_
  refine C.lor d4_33 rfl ?_
  refine C.lstore (Ls' := #[iv 1, iv 1, iv i0, iv 3, .val (.long j0), .second, .val (.long ((1 <<< (Int32.toInt64 (i0 &&& 63) &&& 63)) ||| j0)), .second]) d4_34 rfl rfl ?_
  refine C.lload d4_36 rfl rfl ?_
  exact C.retJ d4_38 (by decide) (by decide) ⟨rfl, rfl⟩
def Qau2914_4 (Z : State) (n0 : Nat) (h0 : Heap) (i0 : Int32) (j0 : Int64) (v : Option Value) (h' : Heap) : Prop := (v = some (.long j0)) ∧ (h0 = h')
theorem ef_au2914_4 (m : MethodId) (i0 : Int32) (j0 : Int64) : entryFrame m #[(.int 2), (.int 1), (.int i0), (.int 3), (.long j0)] 8 = mkF m 0 #[iv 2, iv 1, iv i0, iv 3, .val (.long j0), .second, .unset, .unset] [] := by first | (simp [entryFrame, mkF, argsToLocals, Value.category]; done) | rfl
set_option maxRecDepth 65536 in
set_option maxHeartbeats 40000000 in
theorem au2914_4 (l : Launch) (Z : State) (a0 : Array Value) (hw : ∀ d ∈ tables_1, d.before a0 Z = true) (n0 : Nat) (h0 : Heap) (hn0 : n0 ≤ h0.size) (i0 : Int32) (j0 : Int64) (kq0 : ((i0 / 64) = (1 : Int32))) (kq1 : ((XT.ushr i0 6) = (1 : Int32))) :
    Con l Z n0 [] (⟨"com/example/detra/detra/SetWordsAddWordsPinLaw", "expect", "(IZIIJ)J"⟩ : MethodName) method_3_code 8 (some .long) ({ frames := 0, cells := 0, slots := 0, locals := 0 } : Room) #[(.int 2), (.int 1), (.int i0), (.int 3), (.long j0)] h0 (Qau2914_4 Z n0 h0 i0 j0) := by
  refine Con.of pf_7 (fun m => ef_au2914_4 m i0 j0) hn0 ?_
  intro p e s m below meth c C
  refine C.iloadN d4_0 rfl rfl ?_
  refine C.if_eq_f d4_1 rfl (by decide) ?_
  refine C.iloadN d4_4 rfl rfl ?_
  refine C.bipush 6 d4_5 rfl rfl ?_
  refine C.iushr d4_7 rfl ?_
  rw [kq1]
  refine C.iloadN d4_8 rfl rfl ?_
  refine C.icmp_ne_t d4_9 (by decide) rfl (by decide) ?_
  refine C.lconst 0 d4_21 rfl rfl ?_
  refine C.lstore (Ls' := #[iv 2, iv 1, iv i0, iv 3, .val (.long j0), .second, .val (.long 0), .second]) d4_22 rfl rfl ?_
  refine C.iloadN d4_24 rfl rfl ?_
  refine C.iloadN d4_25 rfl rfl ?_
  refine C.icmp_le_f d4_26 rfl (by decide) ?_
  refine C.lload d4_29 rfl rfl ?_
  refine C.lload d4_31 rfl rfl ?_
  refine C.lor d4_33 rfl ?_
  rw [Int64.zero_or]
  refine C.lstore (Ls' := #[iv 2, iv 1, iv i0, iv 3, .val (.long j0), .second, .val (.long j0), .second]) d4_34 rfl rfl ?_
  refine C.lload d4_36 rfl rfl ?_
  exact C.retJ d4_38 (by decide) (by decide) ⟨rfl, rfl⟩
def Qau2919_14 (Z : State) (n0 : Nat) (h0 : Heap) (o0 : Addr) (i0 : Int32) (o1 : Addr) (o2 : Addr) (v : Option Value) (h' : Heap) : Prop := (v = none) ∧ (Keep h0 h' [o2]) ∧ (Av Z h' o2 .long ([.long 0, .long 0, .long (1 <<< (Int32.toInt64 i0 &&& 63))]))
theorem ef_au2919_14 (m : MethodId) (o0 : Addr) (i0 : Int32) : entryFrame m #[(.ref o0), (.int i0)] 3 = mkF m 0 #[rv o0, iv i0, .unset] [] := by first | (simp [entryFrame, mkF, argsToLocals, Value.category]; done) | rfl
set_option maxRecDepth 65536 in
set_option maxHeartbeats 40000000 in
theorem au2919_14 (l : Launch) (Z : State) (a0 : Array Value) (hw : ∀ d ∈ tables_1, d.before a0 Z = true) (n0 : Nat) (h0 : Heap) (hn0 : n0 ≤ h0.size) (o0 : Addr) (i0 : Int32) (o1 : Addr) (o2 : Addr) (P0 : Exa Z h0 o0 kC0) (P1 : Fld Z h0 o0 kC0 "count" "I" (.int 0)) (P2 : Fld Z h0 o0 kC0 "held" "[I" (.ref o1)) (P3 : Fld Z h0 o0 kC0 "listing" "Z" (.int 0)) (P4 : Fld Z h0 o0 kC0 "words" "[J" (.ref o2)) (P5 : Av Z h0 o1 .int ([.int 0, .int 0, .int 0])) (P6 : Av Z h0 o2 .long ([.long 0, .long 0, .long 0])) (g_o0 : n0 ≤ o0) (g_o1 : n0 ≤ o1) (g_o2 : n0 ≤ o2) (ne_o0_o1 : o0 ≠ o1) (ne_o0_o2 : o0 ≠ o2) (ne_o1_o2 : o1 ≠ o2) (kq0 : ((i0 / 64) = (2 : Int32))) (kq1 : ((XT.ushr i0 6) = (2 : Int32))) :
    Con l Z n0 [] (⟨"com/example/detra/detra/SetWords", "add", "(I)V"⟩ : MethodName) prog_21_method_2_code 3 none ({ frames := 0, cells := 0, slots := 0, locals := 0 } : Room) #[(.ref o0), (.int i0)] h0 (Qau2919_14 Z n0 h0 o0 i0 o1 o2) := by
  refine Con.of pf_8 (fun m => ef_au2919_14 m o0 i0) hn0 ?_
  intro p e s m below meth c C
  refine C.iloadN d14_0 rfl rfl ?_
  refine C.bipush 64 d14_1 rfl rfl ?_
  refine C.idiv d14_3 rfl (by decide) ?_
  rw [kq0]
  refine C.istoreN (Ls' := #[rv o0, iv i0, iv 2]) d14_4 rfl rfl ?_
  refine C.aloadN d14_5 rfl rfl rfl ?_
  refine C.getF d14_6 rfl (tw hw 14 rfl) P3 ?_
  refine C.if_eq_t d14_9 (by decide) rfl (by decide) ?_
  refine C.aloadN d14_40 rfl rfl rfl ?_
  refine C.getF d14_41 rfl (tw hw 12 rfl) P4 ?_
  refine C.iloadN d14_44 rfl rfl ?_
  refine C.dup2 d14_45 rfl rfl rfl ?_
  refine C.laload (.long 0) d14_46 rfl P6 (by decide) rfl ?_
  refine C.lconst 1 d14_47 rfl rfl ?_
  refine C.iloadN d14_48 rfl rfl ?_
  refine C.lshl d14_49 rfl ?_
  refine C.lor d14_50 rfl ?_
  rw [Int64.zero_or]
  refine C.lastore d14_51 rfl P6 g_o2 (by decide) (Nat.le_of_ble_eq_true rfl) (fun h2940 W2941 F2942 => ?_)
  have F2943 := Exa.wr W2941 P0
  have F2944 := Fld.other W2941 P1 (Or.inl ne_o0_o2)
  have F2945 := Fld.other W2941 P2 (Or.inl ne_o0_o2)
  have F2946 := Fld.other W2941 P3 (Or.inl ne_o0_o2)
  have F2947 := Fld.other W2941 P4 (Or.inl ne_o0_o2)
  have F2948 := P5.other W2941 ne_o1_o2
  have F2949 : Av Z h2940 o2 .long ([.long 0, .long 0, .long (1 <<< (Int32.toInt64 i0 &&& 63))]) := F2942
  exact C.ret0 d14_52 (by decide) (by decide) ⟨rfl, ((Keep.refl h0 [o2]).wr W2941 (Or.inl (List.mem_of_getElem? (i := 0) rfl))), F2949⟩
def Qau2968_4 (Z : State) (n0 : Nat) (h0 : Heap) (i0 : Int32) (j0 : Int64) (v : Option Value) (h' : Heap) : Prop := (v = some (.long 0)) ∧ (h0 = h')
theorem ef_au2968_4 (m : MethodId) (i0 : Int32) (j0 : Int64) : entryFrame m #[(.int 0), (.int 1), (.int i0), (.int 0), (.long j0)] 8 = mkF m 0 #[iv 0, iv 1, iv i0, iv 0, .val (.long j0), .second, .unset, .unset] [] := by first | (simp [entryFrame, mkF, argsToLocals, Value.category]; done) | rfl
set_option maxRecDepth 65536 in
set_option maxHeartbeats 40000000 in
theorem au2968_4 (l : Launch) (Z : State) (a0 : Array Value) (hw : ∀ d ∈ tables_1, d.before a0 Z = true) (n0 : Nat) (h0 : Heap) (hn0 : n0 ≤ h0.size) (i0 : Int32) (j0 : Int64) (kq0 : ((i0 / 64) = (2 : Int32))) (kq1 : ((XT.ushr i0 6) = (2 : Int32))) :
    Con l Z n0 [] (⟨"com/example/detra/detra/SetWordsAddWordsPinLaw", "expect", "(IZIIJ)J"⟩ : MethodName) method_3_code 8 (some .long) ({ frames := 0, cells := 0, slots := 0, locals := 0 } : Room) #[(.int 0), (.int 1), (.int i0), (.int 0), (.long j0)] h0 (Qau2968_4 Z n0 h0 i0 j0) := by
  refine Con.of pf_7 (fun m => ef_au2968_4 m i0 j0) hn0 ?_
  intro p e s m below meth c C
  refine C.iloadN d4_0 rfl rfl ?_
  refine C.if_eq_f d4_1 rfl (by decide) ?_
  refine C.iloadN d4_4 rfl rfl ?_
  refine C.bipush 6 d4_5 rfl rfl ?_
  refine C.iushr d4_7 rfl ?_
  rw [kq1]
  refine C.iloadN d4_8 rfl rfl ?_
  refine C.icmp_ne_t d4_9 (by decide) rfl (by decide) ?_
  refine C.lconst 0 d4_21 rfl rfl ?_
  refine C.lstore (Ls' := #[iv 0, iv 1, iv i0, iv 0, .val (.long j0), .second, .val (.long 0), .second]) d4_22 rfl rfl ?_
  refine C.iloadN d4_24 rfl rfl ?_
  refine C.iloadN d4_25 rfl rfl ?_
  refine C.icmp_le_t d4_26 (by decide) rfl (by decide) ?_
  refine C.lload d4_36 rfl rfl ?_
  exact C.retJ d4_38 (by decide) (by decide) ⟨rfl, rfl⟩
def Qau2973_4 (Z : State) (n0 : Nat) (h0 : Heap) (i0 : Int32) (j0 : Int64) (v : Option Value) (h' : Heap) : Prop := (v = some (.long 0)) ∧ (h0 = h')
theorem ef_au2973_4 (m : MethodId) (i0 : Int32) (j0 : Int64) : entryFrame m #[(.int 1), (.int 1), (.int i0), (.int 0), (.long j0)] 8 = mkF m 0 #[iv 1, iv 1, iv i0, iv 0, .val (.long j0), .second, .unset, .unset] [] := by first | (simp [entryFrame, mkF, argsToLocals, Value.category]; done) | rfl
set_option maxRecDepth 65536 in
set_option maxHeartbeats 40000000 in
theorem au2973_4 (l : Launch) (Z : State) (a0 : Array Value) (hw : ∀ d ∈ tables_1, d.before a0 Z = true) (n0 : Nat) (h0 : Heap) (hn0 : n0 ≤ h0.size) (i0 : Int32) (j0 : Int64) (kq0 : ((i0 / 64) = (2 : Int32))) (kq1 : ((XT.ushr i0 6) = (2 : Int32))) :
    Con l Z n0 [] (⟨"com/example/detra/detra/SetWordsAddWordsPinLaw", "expect", "(IZIIJ)J"⟩ : MethodName) method_3_code 8 (some .long) ({ frames := 0, cells := 0, slots := 0, locals := 0 } : Room) #[(.int 1), (.int 1), (.int i0), (.int 0), (.long j0)] h0 (Qau2973_4 Z n0 h0 i0 j0) := by
  refine Con.of pf_7 (fun m => ef_au2973_4 m i0 j0) hn0 ?_
  intro p e s m below meth c C
  refine C.iloadN d4_0 rfl rfl ?_
  refine C.if_eq_f d4_1 rfl (by decide) ?_
  refine C.iloadN d4_4 rfl rfl ?_
  refine C.bipush 6 d4_5 rfl rfl ?_
  refine C.iushr d4_7 rfl ?_
  rw [kq1]
  refine C.iloadN d4_8 rfl rfl ?_
  refine C.icmp_ne_t d4_9 (by decide) rfl (by decide) ?_
  refine C.lconst 0 d4_21 rfl rfl ?_
  refine C.lstore (Ls' := #[iv 1, iv 1, iv i0, iv 0, .val (.long j0), .second, .val (.long 0), .second]) d4_22 rfl rfl ?_
  refine C.iloadN d4_24 rfl rfl ?_
  refine C.iloadN d4_25 rfl rfl ?_
  refine C.icmp_le_t d4_26 (by decide) rfl (by decide) ?_
  refine C.lload d4_36 rfl rfl ?_
  exact C.retJ d4_38 (by decide) (by decide) ⟨rfl, rfl⟩
def Qau2978_4 (Z : State) (n0 : Nat) (h0 : Heap) (i0 : Int32) (j0 : Int64) (v : Option Value) (h' : Heap) : Prop := (v = some (.long (1 <<< (Int32.toInt64 (i0 &&& 63) &&& 63)))) ∧ (h0 = h')
theorem ef_au2978_4 (m : MethodId) (i0 : Int32) (j0 : Int64) : entryFrame m #[(.int 2), (.int 1), (.int i0), (.int 0), (.long j0)] 8 = mkF m 0 #[iv 2, iv 1, iv i0, iv 0, .val (.long j0), .second, .unset, .unset] [] := by first | (simp [entryFrame, mkF, argsToLocals, Value.category]; done) | rfl
set_option maxRecDepth 65536 in
set_option maxHeartbeats 40000000 in
theorem au2978_4 (l : Launch) (Z : State) (a0 : Array Value) (hw : ∀ d ∈ tables_1, d.before a0 Z = true) (n0 : Nat) (h0 : Heap) (hn0 : n0 ≤ h0.size) (i0 : Int32) (j0 : Int64) (kq0 : ((i0 / 64) = (2 : Int32))) (kq1 : ((XT.ushr i0 6) = (2 : Int32))) :
    Con l Z n0 [] (⟨"com/example/detra/detra/SetWordsAddWordsPinLaw", "expect", "(IZIIJ)J"⟩ : MethodName) method_3_code 8 (some .long) ({ frames := 0, cells := 0, slots := 0, locals := 0 } : Room) #[(.int 2), (.int 1), (.int i0), (.int 0), (.long j0)] h0 (Qau2978_4 Z n0 h0 i0 j0) := by
  refine Con.of pf_7 (fun m => ef_au2978_4 m i0 j0) hn0 ?_
  intro p e s m below meth c C
  refine C.iloadN d4_0 rfl rfl ?_
  refine C.if_eq_f d4_1 rfl (by decide) ?_
  refine C.iloadN d4_4 rfl rfl ?_
  refine C.bipush 6 d4_5 rfl rfl ?_
  refine C.iushr d4_7 rfl ?_
  rw [kq1]
  refine C.iloadN d4_8 rfl rfl ?_
  refine C.icmp_ne_f d4_9 rfl (by decide) ?_
  refine C.lconst 1 d4_12 rfl rfl ?_
  refine C.iloadN d4_13 rfl rfl ?_
  refine C.bipush 63 d4_14 rfl rfl ?_
  refine C.iand d4_16 rfl ?_
  refine C.lshl d4_17 rfl ?_
  refine C.goto d4_18 (by decide) rfl ?_
  refine C.lstore (Ls' := #[iv 2, iv 1, iv i0, iv 0, .val (.long j0), .second, .val (.long (1 <<< (Int32.toInt64 (i0 &&& 63) &&& 63))), .second]) d4_22 rfl rfl ?_
  refine C.iloadN d4_24 rfl rfl ?_
  refine C.iloadN d4_25 rfl rfl ?_
  refine C.icmp_le_t d4_26 (by decide) rfl (by decide) ?_
  refine C.lload d4_36 rfl rfl ?_
  exact C.retJ d4_38 (by decide) (by decide) ⟨rfl, rfl⟩
def Qau2997_4 (Z : State) (n0 : Nat) (h0 : Heap) (i0 : Int32) (j0 : Int64) (v : Option Value) (h' : Heap) : Prop := (v = some (.long j0)) ∧ (h0 = h')
theorem ef_au2997_4 (m : MethodId) (i0 : Int32) (j0 : Int64) : entryFrame m #[(.int 0), (.int 1), (.int i0), (.int 1), (.long j0)] 8 = mkF m 0 #[iv 0, iv 1, iv i0, iv 1, .val (.long j0), .second, .unset, .unset] [] := by first | (simp [entryFrame, mkF, argsToLocals, Value.category]; done) | rfl
set_option maxRecDepth 65536 in
set_option maxHeartbeats 40000000 in
theorem au2997_4 (l : Launch) (Z : State) (a0 : Array Value) (hw : ∀ d ∈ tables_1, d.before a0 Z = true) (n0 : Nat) (h0 : Heap) (hn0 : n0 ≤ h0.size) (i0 : Int32) (j0 : Int64) (kq0 : ((i0 / 64) = (2 : Int32))) (kq1 : ((XT.ushr i0 6) = (2 : Int32))) :
    Con l Z n0 [] (⟨"com/example/detra/detra/SetWordsAddWordsPinLaw", "expect", "(IZIIJ)J"⟩ : MethodName) method_3_code 8 (some .long) ({ frames := 0, cells := 0, slots := 0, locals := 0 } : Room) #[(.int 0), (.int 1), (.int i0), (.int 1), (.long j0)] h0 (Qau2997_4 Z n0 h0 i0 j0) := by
  refine Con.of pf_7 (fun m => ef_au2997_4 m i0 j0) hn0 ?_
  intro p e s m below meth c C
  refine C.iloadN d4_0 rfl rfl ?_
  refine C.if_eq_f d4_1 rfl (by decide) ?_
  refine C.iloadN d4_4 rfl rfl ?_
  refine C.bipush 6 d4_5 rfl rfl ?_
  refine C.iushr d4_7 rfl ?_
  rw [kq1]
  refine C.iloadN d4_8 rfl rfl ?_
  refine C.icmp_ne_t d4_9 (by decide) rfl (by decide) ?_
  refine C.lconst 0 d4_21 rfl rfl ?_
  refine C.lstore (Ls' := #[iv 0, iv 1, iv i0, iv 1, .val (.long j0), .second, .val (.long 0), .second]) d4_22 rfl rfl ?_
  refine C.iloadN d4_24 rfl rfl ?_
  refine C.iloadN d4_25 rfl rfl ?_
  refine C.icmp_le_f d4_26 rfl (by decide) ?_
  refine C.lload d4_29 rfl rfl ?_
  refine C.lload d4_31 rfl rfl ?_
  refine C.lor d4_33 rfl ?_
  rw [Int64.zero_or]
  refine C.lstore (Ls' := #[iv 0, iv 1, iv i0, iv 1, .val (.long j0), .second, .val (.long j0), .second]) d4_34 rfl rfl ?_
  refine C.lload d4_36 rfl rfl ?_
  exact C.retJ d4_38 (by decide) (by decide) ⟨rfl, rfl⟩
def Qau3002_4 (Z : State) (n0 : Nat) (h0 : Heap) (i0 : Int32) (j0 : Int64) (v : Option Value) (h' : Heap) : Prop := (v = some (.long 0)) ∧ (h0 = h')
theorem ef_au3002_4 (m : MethodId) (i0 : Int32) (j0 : Int64) : entryFrame m #[(.int 1), (.int 1), (.int i0), (.int 1), (.long j0)] 8 = mkF m 0 #[iv 1, iv 1, iv i0, iv 1, .val (.long j0), .second, .unset, .unset] [] := by first | (simp [entryFrame, mkF, argsToLocals, Value.category]; done) | rfl
set_option maxRecDepth 65536 in
set_option maxHeartbeats 40000000 in
theorem au3002_4 (l : Launch) (Z : State) (a0 : Array Value) (hw : ∀ d ∈ tables_1, d.before a0 Z = true) (n0 : Nat) (h0 : Heap) (hn0 : n0 ≤ h0.size) (i0 : Int32) (j0 : Int64) (kq0 : ((i0 / 64) = (2 : Int32))) (kq1 : ((XT.ushr i0 6) = (2 : Int32))) :
    Con l Z n0 [] (⟨"com/example/detra/detra/SetWordsAddWordsPinLaw", "expect", "(IZIIJ)J"⟩ : MethodName) method_3_code 8 (some .long) ({ frames := 0, cells := 0, slots := 0, locals := 0 } : Room) #[(.int 1), (.int 1), (.int i0), (.int 1), (.long j0)] h0 (Qau3002_4 Z n0 h0 i0 j0) := by
  refine Con.of pf_7 (fun m => ef_au3002_4 m i0 j0) hn0 ?_
  intro p e s m below meth c C
  refine C.iloadN d4_0 rfl rfl ?_
  refine C.if_eq_f d4_1 rfl (by decide) ?_
  refine C.iloadN d4_4 rfl rfl ?_
  refine C.bipush 6 d4_5 rfl rfl ?_
  refine C.iushr d4_7 rfl ?_
  rw [kq1]
  refine C.iloadN d4_8 rfl rfl ?_
  refine C.icmp_ne_t d4_9 (by decide) rfl (by decide) ?_
  refine C.lconst 0 d4_21 rfl rfl ?_
  refine C.lstore (Ls' := #[iv 1, iv 1, iv i0, iv 1, .val (.long j0), .second, .val (.long 0), .second]) d4_22 rfl rfl ?_
  refine C.iloadN d4_24 rfl rfl ?_
  refine C.iloadN d4_25 rfl rfl ?_
  refine C.icmp_le_t d4_26 (by decide) rfl (by decide) ?_
  refine C.lload d4_36 rfl rfl ?_
  exact C.retJ d4_38 (by decide) (by decide) ⟨rfl, rfl⟩
def Qau3007_4 (Z : State) (n0 : Nat) (h0 : Heap) (i0 : Int32) (j0 : Int64) (v : Option Value) (h' : Heap) : Prop := (v = some (.long (1 <<< (Int32.toInt64 (i0 &&& 63) &&& 63)))) ∧ (h0 = h')
theorem ef_au3007_4 (m : MethodId) (i0 : Int32) (j0 : Int64) : entryFrame m #[(.int 2), (.int 1), (.int i0), (.int 1), (.long j0)] 8 = mkF m 0 #[iv 2, iv 1, iv i0, iv 1, .val (.long j0), .second, .unset, .unset] [] := by first | (simp [entryFrame, mkF, argsToLocals, Value.category]; done) | rfl
set_option maxRecDepth 65536 in
set_option maxHeartbeats 40000000 in
theorem au3007_4 (l : Launch) (Z : State) (a0 : Array Value) (hw : ∀ d ∈ tables_1, d.before a0 Z = true) (n0 : Nat) (h0 : Heap) (hn0 : n0 ≤ h0.size) (i0 : Int32) (j0 : Int64) (kq0 : ((i0 / 64) = (2 : Int32))) (kq1 : ((XT.ushr i0 6) = (2 : Int32))) :
    Con l Z n0 [] (⟨"com/example/detra/detra/SetWordsAddWordsPinLaw", "expect", "(IZIIJ)J"⟩ : MethodName) method_3_code 8 (some .long) ({ frames := 0, cells := 0, slots := 0, locals := 0 } : Room) #[(.int 2), (.int 1), (.int i0), (.int 1), (.long j0)] h0 (Qau3007_4 Z n0 h0 i0 j0) := by
  refine Con.of pf_7 (fun m => ef_au3007_4 m i0 j0) hn0 ?_
  intro p e s m below meth c C
  refine C.iloadN d4_0 rfl rfl ?_
  refine C.if_eq_f d4_1 rfl (by decide) ?_
  refine C.iloadN d4_4 rfl rfl ?_
  refine C.bipush 6 d4_5 rfl rfl ?_
  refine C.iushr d4_7 rfl ?_
  rw [kq1]
  refine C.iloadN d4_8 rfl rfl ?_
  refine C.icmp_ne_f d4_9 rfl (by decide) ?_
  refine C.lconst 1 d4_12 rfl rfl ?_
  refine C.iloadN d4_13 rfl rfl ?_
  refine C.bipush 63 d4_14 rfl rfl ?_
  refine C.iand d4_16 rfl ?_
  refine C.lshl d4_17 rfl ?_
  refine C.goto d4_18 (by decide) rfl ?_
  refine C.lstore (Ls' := #[iv 2, iv 1, iv i0, iv 1, .val (.long j0), .second, .val (.long (1 <<< (Int32.toInt64 (i0 &&& 63) &&& 63))), .second]) d4_22 rfl rfl ?_
  refine C.iloadN d4_24 rfl rfl ?_
  refine C.iloadN d4_25 rfl rfl ?_
  refine C.icmp_le_t d4_26 (by decide) rfl (by decide) ?_
  refine C.lload d4_36 rfl rfl ?_
  exact C.retJ d4_38 (by decide) (by decide) ⟨rfl, rfl⟩
def Qau3026_4 (Z : State) (n0 : Nat) (h0 : Heap) (i0 : Int32) (j0 : Int64) (v : Option Value) (h' : Heap) : Prop := (v = some (.long j0)) ∧ (h0 = h')
theorem ef_au3026_4 (m : MethodId) (i0 : Int32) (j0 : Int64) : entryFrame m #[(.int 0), (.int 1), (.int i0), (.int 2), (.long j0)] 8 = mkF m 0 #[iv 0, iv 1, iv i0, iv 2, .val (.long j0), .second, .unset, .unset] [] := by first | (simp [entryFrame, mkF, argsToLocals, Value.category]; done) | rfl
set_option maxRecDepth 65536 in
set_option maxHeartbeats 40000000 in
theorem au3026_4 (l : Launch) (Z : State) (a0 : Array Value) (hw : ∀ d ∈ tables_1, d.before a0 Z = true) (n0 : Nat) (h0 : Heap) (hn0 : n0 ≤ h0.size) (i0 : Int32) (j0 : Int64) (kq0 : ((i0 / 64) = (2 : Int32))) (kq1 : ((XT.ushr i0 6) = (2 : Int32))) :
    Con l Z n0 [] (⟨"com/example/detra/detra/SetWordsAddWordsPinLaw", "expect", "(IZIIJ)J"⟩ : MethodName) method_3_code 8 (some .long) ({ frames := 0, cells := 0, slots := 0, locals := 0 } : Room) #[(.int 0), (.int 1), (.int i0), (.int 2), (.long j0)] h0 (Qau3026_4 Z n0 h0 i0 j0) := by
  refine Con.of pf_7 (fun m => ef_au3026_4 m i0 j0) hn0 ?_
  intro p e s m below meth c C
  refine C.iloadN d4_0 rfl rfl ?_
  refine C.if_eq_f d4_1 rfl (by decide) ?_
  refine C.iloadN d4_4 rfl rfl ?_
  refine C.bipush 6 d4_5 rfl rfl ?_
  refine C.iushr d4_7 rfl ?_
  rw [kq1]
  refine C.iloadN d4_8 rfl rfl ?_
  refine C.icmp_ne_t d4_9 (by decide) rfl (by decide) ?_
  refine C.lconst 0 d4_21 rfl rfl ?_
  refine C.lstore (Ls' := #[iv 0, iv 1, iv i0, iv 2, .val (.long j0), .second, .val (.long 0), .second]) d4_22 rfl rfl ?_
  refine C.iloadN d4_24 rfl rfl ?_
  refine C.iloadN d4_25 rfl rfl ?_
  refine C.icmp_le_f d4_26 rfl (by decide) ?_
  refine C.lload d4_29 rfl rfl ?_
  refine C.lload d4_31 rfl rfl ?_
  refine C.lor d4_33 rfl ?_
  rw [Int64.zero_or]
  refine C.lstore (Ls' := #[iv 0, iv 1, iv i0, iv 2, .val (.long j0), .second, .val (.long j0), .second]) d4_34 rfl rfl ?_
  refine C.lload d4_36 rfl rfl ?_
  exact C.retJ d4_38 (by decide) (by decide) ⟨rfl, rfl⟩
def Qau3031_4 (Z : State) (n0 : Nat) (h0 : Heap) (i0 : Int32) (j0 : Int64) (v : Option Value) (h' : Heap) : Prop := (v = some (.long j0)) ∧ (h0 = h')
theorem ef_au3031_4 (m : MethodId) (i0 : Int32) (j0 : Int64) : entryFrame m #[(.int 1), (.int 1), (.int i0), (.int 2), (.long j0)] 8 = mkF m 0 #[iv 1, iv 1, iv i0, iv 2, .val (.long j0), .second, .unset, .unset] [] := by first | (simp [entryFrame, mkF, argsToLocals, Value.category]; done) | rfl
set_option maxRecDepth 65536 in
set_option maxHeartbeats 40000000 in
theorem au3031_4 (l : Launch) (Z : State) (a0 : Array Value) (hw : ∀ d ∈ tables_1, d.before a0 Z = true) (n0 : Nat) (h0 : Heap) (hn0 : n0 ≤ h0.size) (i0 : Int32) (j0 : Int64) (kq0 : ((i0 / 64) = (2 : Int32))) (kq1 : ((XT.ushr i0 6) = (2 : Int32))) :
    Con l Z n0 [] (⟨"com/example/detra/detra/SetWordsAddWordsPinLaw", "expect", "(IZIIJ)J"⟩ : MethodName) method_3_code 8 (some .long) ({ frames := 0, cells := 0, slots := 0, locals := 0 } : Room) #[(.int 1), (.int 1), (.int i0), (.int 2), (.long j0)] h0 (Qau3031_4 Z n0 h0 i0 j0) := by
  refine Con.of pf_7 (fun m => ef_au3031_4 m i0 j0) hn0 ?_
  intro p e s m below meth c C
  refine C.iloadN d4_0 rfl rfl ?_
  refine C.if_eq_f d4_1 rfl (by decide) ?_
  refine C.iloadN d4_4 rfl rfl ?_
  refine C.bipush 6 d4_5 rfl rfl ?_
  refine C.iushr d4_7 rfl ?_
  rw [kq1]
  refine C.iloadN d4_8 rfl rfl ?_
  refine C.icmp_ne_t d4_9 (by decide) rfl (by decide) ?_
  refine C.lconst 0 d4_21 rfl rfl ?_
  refine C.lstore (Ls' := #[iv 1, iv 1, iv i0, iv 2, .val (.long j0), .second, .val (.long 0), .second]) d4_22 rfl rfl ?_
  refine C.iloadN d4_24 rfl rfl ?_
  refine C.iloadN d4_25 rfl rfl ?_
  refine C.icmp_le_f d4_26 rfl (by decide) ?_
  refine C.lload d4_29 rfl rfl ?_
  refine C.lload d4_31 rfl rfl ?_
  refine C.lor d4_33 rfl ?_
  rw [Int64.zero_or]
  refine C.lstore (Ls' := #[iv 1, iv 1, iv i0, iv 2, .val (.long j0), .second, .val (.long j0), .second]) d4_34 rfl rfl ?_
  refine C.lload d4_36 rfl rfl ?_
  exact C.retJ d4_38 (by decide) (by decide) ⟨rfl, rfl⟩
def Qau3036_4 (Z : State) (n0 : Nat) (h0 : Heap) (i0 : Int32) (j0 : Int64) (v : Option Value) (h' : Heap) : Prop := (v = some (.long (1 <<< (Int32.toInt64 (i0 &&& 63) &&& 63)))) ∧ (h0 = h')
theorem ef_au3036_4 (m : MethodId) (i0 : Int32) (j0 : Int64) : entryFrame m #[(.int 2), (.int 1), (.int i0), (.int 2), (.long j0)] 8 = mkF m 0 #[iv 2, iv 1, iv i0, iv 2, .val (.long j0), .second, .unset, .unset] [] := by first | (simp [entryFrame, mkF, argsToLocals, Value.category]; done) | rfl
set_option maxRecDepth 65536 in
set_option maxHeartbeats 40000000 in
theorem au3036_4 (l : Launch) (Z : State) (a0 : Array Value) (hw : ∀ d ∈ tables_1, d.before a0 Z = true) (n0 : Nat) (h0 : Heap) (hn0 : n0 ≤ h0.size) (i0 : Int32) (j0 : Int64) (kq0 : ((i0 / 64) = (2 : Int32))) (kq1 : ((XT.ushr i0 6) = (2 : Int32))) :
    Con l Z n0 [] (⟨"com/example/detra/detra/SetWordsAddWordsPinLaw", "expect", "(IZIIJ)J"⟩ : MethodName) method_3_code 8 (some .long) ({ frames := 0, cells := 0, slots := 0, locals := 0 } : Room) #[(.int 2), (.int 1), (.int i0), (.int 2), (.long j0)] h0 (Qau3036_4 Z n0 h0 i0 j0) := by
  refine Con.of pf_7 (fun m => ef_au3036_4 m i0 j0) hn0 ?_
  intro p e s m below meth c C
  refine C.iloadN d4_0 rfl rfl ?_
  refine C.if_eq_f d4_1 rfl (by decide) ?_
  refine C.iloadN d4_4 rfl rfl ?_
  refine C.bipush 6 d4_5 rfl rfl ?_
  refine C.iushr d4_7 rfl ?_
  rw [kq1]
  refine C.iloadN d4_8 rfl rfl ?_
  refine C.icmp_ne_f d4_9 rfl (by decide) ?_
  refine C.lconst 1 d4_12 rfl rfl ?_
  refine C.iloadN d4_13 rfl rfl ?_
  refine C.bipush 63 d4_14 rfl rfl ?_
  refine C.iand d4_16 rfl ?_
  refine C.lshl d4_17 rfl ?_
  refine C.goto d4_18 (by decide) rfl ?_
  refine C.lstore (Ls' := #[iv 2, iv 1, iv i0, iv 2, .val (.long j0), .second, .val (.long (1 <<< (Int32.toInt64 (i0 &&& 63) &&& 63))), .second]) d4_22 rfl rfl ?_
  refine C.iloadN d4_24 rfl rfl ?_
  refine C.iloadN d4_25 rfl rfl ?_
  refine C.icmp_le_t d4_26 (by decide) rfl (by decide) ?_
  refine C.lload d4_36 rfl rfl ?_
  exact C.retJ d4_38 (by decide) (by decide) ⟨rfl, rfl⟩
def Qau3055_4 (Z : State) (n0 : Nat) (h0 : Heap) (i0 : Int32) (j0 : Int64) (v : Option Value) (h' : Heap) : Prop := (v = some (.long j0)) ∧ (h0 = h')
theorem ef_au3055_4 (m : MethodId) (i0 : Int32) (j0 : Int64) : entryFrame m #[(.int 0), (.int 1), (.int i0), (.int 3), (.long j0)] 8 = mkF m 0 #[iv 0, iv 1, iv i0, iv 3, .val (.long j0), .second, .unset, .unset] [] := by first | (simp [entryFrame, mkF, argsToLocals, Value.category]; done) | rfl
set_option maxRecDepth 65536 in
set_option maxHeartbeats 40000000 in
theorem au3055_4 (l : Launch) (Z : State) (a0 : Array Value) (hw : ∀ d ∈ tables_1, d.before a0 Z = true) (n0 : Nat) (h0 : Heap) (hn0 : n0 ≤ h0.size) (i0 : Int32) (j0 : Int64) (kq0 : ((i0 / 64) = (2 : Int32))) (kq1 : ((XT.ushr i0 6) = (2 : Int32))) :
    Con l Z n0 [] (⟨"com/example/detra/detra/SetWordsAddWordsPinLaw", "expect", "(IZIIJ)J"⟩ : MethodName) method_3_code 8 (some .long) ({ frames := 0, cells := 0, slots := 0, locals := 0 } : Room) #[(.int 0), (.int 1), (.int i0), (.int 3), (.long j0)] h0 (Qau3055_4 Z n0 h0 i0 j0) := by
  refine Con.of pf_7 (fun m => ef_au3055_4 m i0 j0) hn0 ?_
  intro p e s m below meth c C
  refine C.iloadN d4_0 rfl rfl ?_
  refine C.if_eq_f d4_1 rfl (by decide) ?_
  refine C.iloadN d4_4 rfl rfl ?_
  refine C.bipush 6 d4_5 rfl rfl ?_
  refine C.iushr d4_7 rfl ?_
  rw [kq1]
  refine C.iloadN d4_8 rfl rfl ?_
  refine C.icmp_ne_t d4_9 (by decide) rfl (by decide) ?_
  refine C.lconst 0 d4_21 rfl rfl ?_
  refine C.lstore (Ls' := #[iv 0, iv 1, iv i0, iv 3, .val (.long j0), .second, .val (.long 0), .second]) d4_22 rfl rfl ?_
  refine C.iloadN d4_24 rfl rfl ?_
  refine C.iloadN d4_25 rfl rfl ?_
  refine C.icmp_le_f d4_26 rfl (by decide) ?_
  refine C.lload d4_29 rfl rfl ?_
  refine C.lload d4_31 rfl rfl ?_
  refine C.lor d4_33 rfl ?_
  rw [Int64.zero_or]
  refine C.lstore (Ls' := #[iv 0, iv 1, iv i0, iv 3, .val (.long j0), .second, .val (.long j0), .second]) d4_34 rfl rfl ?_
  refine C.lload d4_36 rfl rfl ?_
  exact C.retJ d4_38 (by decide) (by decide) ⟨rfl, rfl⟩
def Qau3060_4 (Z : State) (n0 : Nat) (h0 : Heap) (i0 : Int32) (j0 : Int64) (v : Option Value) (h' : Heap) : Prop := (v = some (.long j0)) ∧ (h0 = h')
theorem ef_au3060_4 (m : MethodId) (i0 : Int32) (j0 : Int64) : entryFrame m #[(.int 1), (.int 1), (.int i0), (.int 3), (.long j0)] 8 = mkF m 0 #[iv 1, iv 1, iv i0, iv 3, .val (.long j0), .second, .unset, .unset] [] := by first | (simp [entryFrame, mkF, argsToLocals, Value.category]; done) | rfl
set_option maxRecDepth 65536 in
set_option maxHeartbeats 40000000 in
theorem au3060_4 (l : Launch) (Z : State) (a0 : Array Value) (hw : ∀ d ∈ tables_1, d.before a0 Z = true) (n0 : Nat) (h0 : Heap) (hn0 : n0 ≤ h0.size) (i0 : Int32) (j0 : Int64) (kq0 : ((i0 / 64) = (2 : Int32))) (kq1 : ((XT.ushr i0 6) = (2 : Int32))) :
    Con l Z n0 [] (⟨"com/example/detra/detra/SetWordsAddWordsPinLaw", "expect", "(IZIIJ)J"⟩ : MethodName) method_3_code 8 (some .long) ({ frames := 0, cells := 0, slots := 0, locals := 0 } : Room) #[(.int 1), (.int 1), (.int i0), (.int 3), (.long j0)] h0 (Qau3060_4 Z n0 h0 i0 j0) := by
  refine Con.of pf_7 (fun m => ef_au3060_4 m i0 j0) hn0 ?_
  intro p e s m below meth c C
  refine C.iloadN d4_0 rfl rfl ?_
  refine C.if_eq_f d4_1 rfl (by decide) ?_
  refine C.iloadN d4_4 rfl rfl ?_
  refine C.bipush 6 d4_5 rfl rfl ?_
  refine C.iushr d4_7 rfl ?_
  rw [kq1]
  refine C.iloadN d4_8 rfl rfl ?_
  refine C.icmp_ne_t d4_9 (by decide) rfl (by decide) ?_
  refine C.lconst 0 d4_21 rfl rfl ?_
  refine C.lstore (Ls' := #[iv 1, iv 1, iv i0, iv 3, .val (.long j0), .second, .val (.long 0), .second]) d4_22 rfl rfl ?_
  refine C.iloadN d4_24 rfl rfl ?_
  refine C.iloadN d4_25 rfl rfl ?_
  refine C.icmp_le_f d4_26 rfl (by decide) ?_
  refine C.lload d4_29 rfl rfl ?_
  refine C.lload d4_31 rfl rfl ?_
  refine C.lor d4_33 rfl ?_
  rw [Int64.zero_or]
  refine C.lstore (Ls' := #[iv 1, iv 1, iv i0, iv 3, .val (.long j0), .second, .val (.long j0), .second]) d4_34 rfl rfl ?_
  refine C.lload d4_36 rfl rfl ?_
  exact C.retJ d4_38 (by decide) (by decide) ⟨rfl, rfl⟩
def Qau3065_4 (Z : State) (n0 : Nat) (h0 : Heap) (i0 : Int32) (j0 : Int64) (v : Option Value) (h' : Heap) : Prop := (v = some (.long ((1 <<< (Int32.toInt64 (i0 &&& 63) &&& 63)) ||| j0))) ∧ (h0 = h')
theorem ef_au3065_4 (m : MethodId) (i0 : Int32) (j0 : Int64) : entryFrame m #[(.int 2), (.int 1), (.int i0), (.int 3), (.long j0)] 8 = mkF m 0 #[iv 2, iv 1, iv i0, iv 3, .val (.long j0), .second, .unset, .unset] [] := by first | (simp [entryFrame, mkF, argsToLocals, Value.category]; done) | rfl
set_option maxRecDepth 65536 in
set_option maxHeartbeats 40000000 in
theorem au3065_4 (l : Launch) (Z : State) (a0 : Array Value) (hw : ∀ d ∈ tables_1, d.before a0 Z = true) (n0 : Nat) (h0 : Heap) (hn0 : n0 ≤ h0.size) (i0 : Int32) (j0 : Int64) (kq0 : ((i0 / 64) = (2 : Int32))) (kq1 : ((XT.ushr i0 6) = (2 : Int32))) :
    Con l Z n0 [] (⟨"com/example/detra/detra/SetWordsAddWordsPinLaw", "expect", "(IZIIJ)J"⟩ : MethodName) method_3_code 8 (some .long) ({ frames := 0, cells := 0, slots := 0, locals := 0 } : Room) #[(.int 2), (.int 1), (.int i0), (.int 3), (.long j0)] h0 (Qau3065_4 Z n0 h0 i0 j0) := by
  refine Con.of pf_7 (fun m => ef_au3065_4 m i0 j0) hn0 ?_
  intro p e s m below meth c C
  refine C.iloadN d4_0 rfl rfl ?_
  refine C.if_eq_f d4_1 rfl (by decide) ?_
  refine C.iloadN d4_4 rfl rfl ?_
  refine C.bipush 6 d4_5 rfl rfl ?_
  refine C.iushr d4_7 rfl ?_
  rw [kq1]
  refine C.iloadN d4_8 rfl rfl ?_
  refine C.icmp_ne_f d4_9 rfl (by decide) ?_
  refine C.lconst 1 d4_12 rfl rfl ?_
  refine C.iloadN d4_13 rfl rfl ?_
  refine C.bipush 63 d4_14 rfl rfl ?_
  refine C.iand d4_16 rfl ?_
  refine C.lshl d4_17 rfl ?_
  refine C.goto d4_18 (by decide) rfl ?_
  refine C.lstore (Ls' := #[iv 2, iv 1, iv i0, iv 3, .val (.long j0), .second, .val (.long (1 <<< (Int32.toInt64 (i0 &&& 63) &&& 63))), .second]) d4_22 rfl rfl ?_
  refine C.iloadN d4_24 rfl rfl ?_
  refine C.iloadN d4_25 rfl rfl ?_
  refine C.icmp_le_f d4_26 rfl (by decide) ?_
  refine C.lload d4_29 rfl rfl ?_
  refine C.lload d4_31 rfl rfl ?_
  refine C.lor d4_33 rfl ?_
  refine C.lstore (Ls' := #[iv 2, iv 1, iv i0, iv 3, .val (.long j0), .second, .val (.long ((1 <<< (Int32.toInt64 (i0 &&& 63) &&& 63)) ||| j0)), .second]) d4_34 rfl rfl ?_
  refine C.lload d4_36 rfl rfl ?_
  exact C.retJ d4_38 (by decide) (by decide) ⟨rfl, rfl⟩
def Qau3086_5 (Z : State) (n0 : Nat) (h0 : Heap) (o0 : Addr) (i0 : Int32) (o1 : Addr) (o2 : Addr) (vso1 : List Value) (j0 : Int64) (j1 : Int64) (j2 : Int64) (v : Option Value) (h' : Heap) : Prop := (v = some (.long j0)) ∧ (h0 = h')
theorem ef_au3086_5 (m : MethodId) (o0 : Addr) : entryFrame m #[(.ref o0), (.int 0)] 2 = mkF m 0 #[rv o0, iv 0] [] := by first | (simp [entryFrame, mkF, argsToLocals, Value.category]; done) | rfl
set_option maxRecDepth 65536 in
set_option maxHeartbeats 40000000 in
theorem au3086_5 (l : Launch) (Z : State) (a0 : Array Value) (hw : ∀ d ∈ tables_1, d.before a0 Z = true) (n0 : Nat) (h0 : Heap) (hn0 : n0 ≤ h0.size) (o0 : Addr) (i0 : Int32) (o1 : Addr) (o2 : Addr) (vso1 : List Value) (j0 : Int64) (j1 : Int64) (j2 : Int64) (P0 : Exa Z h0 o0 kC0) (P1 : Fld Z h0 o0 kC0 "count" "I" (.int i0)) (P2 : Fld Z h0 o0 kC0 "held" "[I" (.ref o1)) (P3 : Fld Z h0 o0 kC0 "listing" "Z" (.int 1)) (P4 : Fld Z h0 o0 kC0 "words" "[J" (.ref o2)) (P5 : Av Z h0 o1 .int vso1) (P6 : Av Z h0 o2 .long (.long j0 :: .long j1 :: .long j2 :: zJ45)) (g_o0 : n0 ≤ o0) (g_o1 : n0 ≤ o1) (g_o2 : n0 ≤ o2) (ne_o0_o1 : o0 ≠ o1) (ne_o0_o2 : o0 ≠ o2) (ne_o1_o2 : o1 ≠ o2) :
    Con l Z n0 [] (⟨"com/example/detra/detra/SetWords", "word", "(I)J"⟩ : MethodName) prog_21_method_11_code 2 (some .long) ({ frames := 0, cells := 0, slots := 0, locals := 0 } : Room) #[(.ref o0), (.int 0)] h0 (Qau3086_5 Z n0 h0 o0 i0 o1 o2 vso1 j0 j1 j2) := by
  refine Con.of pf_2 (fun m => ef_au3086_5 m o0) hn0 ?_
  intro p e s m below meth c C
  refine C.aloadN d5_0 rfl rfl rfl ?_
  refine C.getF d5_1 rfl (tw hw 12 rfl) P4 ?_
  refine C.iloadN d5_4 rfl rfl ?_
  refine C.laload (.long j0) d5_5 rfl P6 (by decide) rfl ?_
  exact C.retJ d5_6 (by decide) (by decide) ⟨rfl, rfl⟩
def Qau3091_5 (Z : State) (n0 : Nat) (h0 : Heap) (o0 : Addr) (i0 : Int32) (o1 : Addr) (o2 : Addr) (vso1 : List Value) (j0 : Int64) (j1 : Int64) (j2 : Int64) (v : Option Value) (h' : Heap) : Prop := (v = some (.long j1)) ∧ (h0 = h')
theorem ef_au3091_5 (m : MethodId) (o0 : Addr) : entryFrame m #[(.ref o0), (.int 1)] 2 = mkF m 0 #[rv o0, iv 1] [] := by first | (simp [entryFrame, mkF, argsToLocals, Value.category]; done) | rfl
set_option maxRecDepth 65536 in
set_option maxHeartbeats 40000000 in
theorem au3091_5 (l : Launch) (Z : State) (a0 : Array Value) (hw : ∀ d ∈ tables_1, d.before a0 Z = true) (n0 : Nat) (h0 : Heap) (hn0 : n0 ≤ h0.size) (o0 : Addr) (i0 : Int32) (o1 : Addr) (o2 : Addr) (vso1 : List Value) (j0 : Int64) (j1 : Int64) (j2 : Int64) (P0 : Exa Z h0 o0 kC0) (P1 : Fld Z h0 o0 kC0 "count" "I" (.int i0)) (P2 : Fld Z h0 o0 kC0 "held" "[I" (.ref o1)) (P3 : Fld Z h0 o0 kC0 "listing" "Z" (.int 1)) (P4 : Fld Z h0 o0 kC0 "words" "[J" (.ref o2)) (P5 : Av Z h0 o1 .int vso1) (P6 : Av Z h0 o2 .long (.long j0 :: .long j1 :: .long j2 :: zJ45)) (g_o0 : n0 ≤ o0) (g_o1 : n0 ≤ o1) (g_o2 : n0 ≤ o2) (ne_o0_o1 : o0 ≠ o1) (ne_o0_o2 : o0 ≠ o2) (ne_o1_o2 : o1 ≠ o2) :
    Con l Z n0 [] (⟨"com/example/detra/detra/SetWords", "word", "(I)J"⟩ : MethodName) prog_21_method_11_code 2 (some .long) ({ frames := 0, cells := 0, slots := 0, locals := 0 } : Room) #[(.ref o0), (.int 1)] h0 (Qau3091_5 Z n0 h0 o0 i0 o1 o2 vso1 j0 j1 j2) := by
  refine Con.of pf_2 (fun m => ef_au3091_5 m o0) hn0 ?_
  intro p e s m below meth c C
  refine C.aloadN d5_0 rfl rfl rfl ?_
  refine C.getF d5_1 rfl (tw hw 12 rfl) P4 ?_
  refine C.iloadN d5_4 rfl rfl ?_
  refine C.laload (.long j1) d5_5 rfl P6 (by decide) rfl ?_
  exact C.retJ d5_6 (by decide) (by decide) ⟨rfl, rfl⟩
def Qau3096_5 (Z : State) (n0 : Nat) (h0 : Heap) (o0 : Addr) (i0 : Int32) (o1 : Addr) (o2 : Addr) (vso1 : List Value) (j0 : Int64) (j1 : Int64) (j2 : Int64) (v : Option Value) (h' : Heap) : Prop := (v = some (.long j2)) ∧ (h0 = h')
theorem ef_au3096_5 (m : MethodId) (o0 : Addr) : entryFrame m #[(.ref o0), (.int 2)] 2 = mkF m 0 #[rv o0, iv 2] [] := by first | (simp [entryFrame, mkF, argsToLocals, Value.category]; done) | rfl
set_option maxRecDepth 65536 in
set_option maxHeartbeats 40000000 in
theorem au3096_5 (l : Launch) (Z : State) (a0 : Array Value) (hw : ∀ d ∈ tables_1, d.before a0 Z = true) (n0 : Nat) (h0 : Heap) (hn0 : n0 ≤ h0.size) (o0 : Addr) (i0 : Int32) (o1 : Addr) (o2 : Addr) (vso1 : List Value) (j0 : Int64) (j1 : Int64) (j2 : Int64) (P0 : Exa Z h0 o0 kC0) (P1 : Fld Z h0 o0 kC0 "count" "I" (.int i0)) (P2 : Fld Z h0 o0 kC0 "held" "[I" (.ref o1)) (P3 : Fld Z h0 o0 kC0 "listing" "Z" (.int 1)) (P4 : Fld Z h0 o0 kC0 "words" "[J" (.ref o2)) (P5 : Av Z h0 o1 .int vso1) (P6 : Av Z h0 o2 .long (.long j0 :: .long j1 :: .long j2 :: zJ45)) (g_o0 : n0 ≤ o0) (g_o1 : n0 ≤ o1) (g_o2 : n0 ≤ o2) (ne_o0_o1 : o0 ≠ o1) (ne_o0_o2 : o0 ≠ o2) (ne_o1_o2 : o1 ≠ o2) :
    Con l Z n0 [] (⟨"com/example/detra/detra/SetWords", "word", "(I)J"⟩ : MethodName) prog_21_method_11_code 2 (some .long) ({ frames := 0, cells := 0, slots := 0, locals := 0 } : Room) #[(.ref o0), (.int 2)] h0 (Qau3096_5 Z n0 h0 o0 i0 o1 o2 vso1 j0 j1 j2) := by
  refine Con.of pf_2 (fun m => ef_au3096_5 m o0) hn0 ?_
  intro p e s m below meth c C
  refine C.aloadN d5_0 rfl rfl rfl ?_
  refine C.getF d5_1 rfl (tw hw 12 rfl) P4 ?_
  refine C.iloadN d5_4 rfl rfl ?_
  refine C.laload (.long j2) d5_5 rfl P6 (by decide) rfl ?_
  exact C.retJ d5_6 (by decide) (by decide) ⟨rfl, rfl⟩
def Qau3128_12 (Z : State) (n0 : Nat) (h0 : Heap) (o0 : Addr) (o1 : Addr) (o2 : Addr) (j0 : Int64) (j1 : Int64) (j2 : Int64) (v : Option Value) (h' : Heap) : Prop := (v = some (.int 0)) ∧ (h0 = h')
theorem ef_au3128_12 (m : MethodId) (o0 : Addr) : entryFrame m #[(.ref o0)] 1 = mkF m 0 #[rv o0] [] := by first | (simp [entryFrame, mkF, argsToLocals, Value.category]; done) | rfl
set_option maxRecDepth 65536 in
set_option maxHeartbeats 40000000 in
theorem au3128_12 (l : Launch) (Z : State) (a0 : Array Value) (hw : ∀ d ∈ tables_1, d.before a0 Z = true) (n0 : Nat) (h0 : Heap) (hn0 : n0 ≤ h0.size) (o0 : Addr) (o1 : Addr) (o2 : Addr) (j0 : Int64) (j1 : Int64) (j2 : Int64) (P0 : Exa Z h0 o0 kC0) (P1 : Fld Z h0 o0 kC0 "count" "I" (.int 0)) (P2 : Fld Z h0 o0 kC0 "held" "[I" (.ref o1)) (P3 : Fld Z h0 o0 kC0 "listing" "Z" (.int 1)) (P4 : Fld Z h0 o0 kC0 "words" "[J" (.ref o2)) (P5 : Av Z h0 o1 .int zI48) (P6 : Av Z h0 o2 .long (.long j0 :: .long j1 :: .long j2 :: zJ45)) (g_o0 : n0 ≤ o0) (g_o1 : n0 ≤ o1) (g_o2 : n0 ≤ o2) (ne_o0_o1 : o0 ≠ o1) (ne_o0_o2 : o0 ≠ o2) (ne_o1_o2 : o1 ≠ o2) :
    Con l Z n0 [] (⟨"com/example/detra/detra/SetWords", "heldCount", "()I"⟩ : MethodName) prog_21_method_9_code 1 (some .int) ({ frames := 0, cells := 0, slots := 0, locals := 0 } : Room) #[(.ref o0)] h0 (Qau3128_12 Z n0 h0 o0 o1 o2 j0 j1 j2) := by
  refine Con.of pf_4 (fun m => ef_au3128_12 m o0) hn0 ?_
  intro p e s m below meth c C
  refine C.aloadN d12_0 rfl rfl rfl ?_
  refine C.getF d12_1 rfl (tw hw 38 rfl) P1 ?_
  exact C.retI d12_4 (by decide) (by decide) ⟨rfl, rfl⟩
def Qau3171_12 (Z : State) (n0 : Nat) (h0 : Heap) (o0 : Addr) (o1 : Addr) (o2 : Addr) (j0 : Int64) (j1 : Int64) (j2 : Int64) (v : Option Value) (h' : Heap) : Prop := (v = some (.int 1)) ∧ (h0 = h')
theorem ef_au3171_12 (m : MethodId) (o0 : Addr) : entryFrame m #[(.ref o0)] 1 = mkF m 0 #[rv o0] [] := by first | (simp [entryFrame, mkF, argsToLocals, Value.category]; done) | rfl
set_option maxRecDepth 65536 in
set_option maxHeartbeats 40000000 in
theorem au3171_12 (l : Launch) (Z : State) (a0 : Array Value) (hw : ∀ d ∈ tables_1, d.before a0 Z = true) (n0 : Nat) (h0 : Heap) (hn0 : n0 ≤ h0.size) (o0 : Addr) (o1 : Addr) (o2 : Addr) (j0 : Int64) (j1 : Int64) (j2 : Int64) (P0 : Exa Z h0 o0 kC0) (P1 : Fld Z h0 o0 kC0 "count" "I" (.int 1)) (P2 : Fld Z h0 o0 kC0 "held" "[I" (.ref o1)) (P3 : Fld Z h0 o0 kC0 "listing" "Z" (.int 1)) (P4 : Fld Z h0 o0 kC0 "words" "[J" (.ref o2)) (P5 : Av Z h0 o1 .int zI48) (P6 : Av Z h0 o2 .long (.long j0 :: .long j1 :: .long j2 :: zJ45)) (g_o0 : n0 ≤ o0) (g_o1 : n0 ≤ o1) (g_o2 : n0 ≤ o2) (ne_o0_o1 : o0 ≠ o1) (ne_o0_o2 : o0 ≠ o2) (ne_o1_o2 : o1 ≠ o2) :
    Con l Z n0 [] (⟨"com/example/detra/detra/SetWords", "heldCount", "()I"⟩ : MethodName) prog_21_method_9_code 1 (some .int) ({ frames := 0, cells := 0, slots := 0, locals := 0 } : Room) #[(.ref o0)] h0 (Qau3171_12 Z n0 h0 o0 o1 o2 j0 j1 j2) := by
  refine Con.of pf_4 (fun m => ef_au3171_12 m o0) hn0 ?_
  intro p e s m below meth c C
  refine C.aloadN d12_0 rfl rfl rfl ?_
  refine C.getF d12_1 rfl (tw hw 38 rfl) P1 ?_
  exact C.retI d12_4 (by decide) (by decide) ⟨rfl, rfl⟩
def Qau3176_13 (Z : State) (n0 : Nat) (h0 : Heap) (o0 : Addr) (o1 : Addr) (o2 : Addr) (j0 : Int64) (j1 : Int64) (j2 : Int64) (v : Option Value) (h' : Heap) : Prop := (v = some (.int 0)) ∧ (h0 = h')
theorem ef_au3176_13 (m : MethodId) (o0 : Addr) : entryFrame m #[(.ref o0), (.int 0)] 2 = mkF m 0 #[rv o0, iv 0] [] := by first | (simp [entryFrame, mkF, argsToLocals, Value.category]; done) | rfl
set_option maxRecDepth 65536 in
set_option maxHeartbeats 40000000 in
theorem au3176_13 (l : Launch) (Z : State) (a0 : Array Value) (hw : ∀ d ∈ tables_1, d.before a0 Z = true) (n0 : Nat) (h0 : Heap) (hn0 : n0 ≤ h0.size) (o0 : Addr) (o1 : Addr) (o2 : Addr) (j0 : Int64) (j1 : Int64) (j2 : Int64) (P0 : Exa Z h0 o0 kC0) (P1 : Fld Z h0 o0 kC0 "count" "I" (.int 1)) (P2 : Fld Z h0 o0 kC0 "held" "[I" (.ref o1)) (P3 : Fld Z h0 o0 kC0 "listing" "Z" (.int 1)) (P4 : Fld Z h0 o0 kC0 "words" "[J" (.ref o2)) (P5 : Av Z h0 o1 .int zI48) (P6 : Av Z h0 o2 .long (.long j0 :: .long j1 :: .long j2 :: zJ45)) (g_o0 : n0 ≤ o0) (g_o1 : n0 ≤ o1) (g_o2 : n0 ≤ o2) (ne_o0_o1 : o0 ≠ o1) (ne_o0_o2 : o0 ≠ o2) (ne_o1_o2 : o1 ≠ o2) :
    Con l Z n0 [] (⟨"com/example/detra/detra/SetWords", "heldIndex", "(I)I"⟩ : MethodName) prog_21_method_10_code 2 (some .int) ({ frames := 0, cells := 0, slots := 0, locals := 0 } : Room) #[(.ref o0), (.int 0)] h0 (Qau3176_13 Z n0 h0 o0 o1 o2 j0 j1 j2) := by
  refine Con.of pf_5 (fun m => ef_au3176_13 m o0) hn0 ?_
  intro p e s m below meth c C
  refine C.aloadN d13_0 rfl rfl rfl ?_
  refine C.getF d13_1 rfl (tw hw 17 rfl) P2 ?_
  refine C.iloadN d13_4 rfl rfl ?_
  refine C.iaload (.int 0) d13_5 rfl P5 (by decide) rfl ?_
  exact C.retI d13_6 (by decide) (by decide) ⟨rfl, rfl⟩
def Qau3219_12 (Z : State) (n0 : Nat) (h0 : Heap) (o0 : Addr) (o1 : Addr) (o2 : Addr) (j0 : Int64) (j1 : Int64) (j2 : Int64) (v : Option Value) (h' : Heap) : Prop := (v = some (.int 1)) ∧ (h0 = h')
theorem ef_au3219_12 (m : MethodId) (o0 : Addr) : entryFrame m #[(.ref o0)] 1 = mkF m 0 #[rv o0] [] := by first | (simp [entryFrame, mkF, argsToLocals, Value.category]; done) | rfl
set_option maxRecDepth 65536 in
set_option maxHeartbeats 40000000 in
theorem au3219_12 (l : Launch) (Z : State) (a0 : Array Value) (hw : ∀ d ∈ tables_1, d.before a0 Z = true) (n0 : Nat) (h0 : Heap) (hn0 : n0 ≤ h0.size) (o0 : Addr) (o1 : Addr) (o2 : Addr) (j0 : Int64) (j1 : Int64) (j2 : Int64) (P0 : Exa Z h0 o0 kC0) (P1 : Fld Z h0 o0 kC0 "count" "I" (.int 1)) (P2 : Fld Z h0 o0 kC0 "held" "[I" (.ref o1)) (P3 : Fld Z h0 o0 kC0 "listing" "Z" (.int 1)) (P4 : Fld Z h0 o0 kC0 "words" "[J" (.ref o2)) (P5 : Av Z h0 o1 .int (.int 1 :: zI47)) (P6 : Av Z h0 o2 .long (.long j0 :: .long j1 :: .long j2 :: zJ45)) (g_o0 : n0 ≤ o0) (g_o1 : n0 ≤ o1) (g_o2 : n0 ≤ o2) (ne_o0_o1 : o0 ≠ o1) (ne_o0_o2 : o0 ≠ o2) (ne_o1_o2 : o1 ≠ o2) :
    Con l Z n0 [] (⟨"com/example/detra/detra/SetWords", "heldCount", "()I"⟩ : MethodName) prog_21_method_9_code 1 (some .int) ({ frames := 0, cells := 0, slots := 0, locals := 0 } : Room) #[(.ref o0)] h0 (Qau3219_12 Z n0 h0 o0 o1 o2 j0 j1 j2) := by
  refine Con.of pf_4 (fun m => ef_au3219_12 m o0) hn0 ?_
  intro p e s m below meth c C
  refine C.aloadN d12_0 rfl rfl rfl ?_
  refine C.getF d12_1 rfl (tw hw 38 rfl) P1 ?_
  exact C.retI d12_4 (by decide) (by decide) ⟨rfl, rfl⟩
def Qau3224_13 (Z : State) (n0 : Nat) (h0 : Heap) (o0 : Addr) (o1 : Addr) (o2 : Addr) (j0 : Int64) (j1 : Int64) (j2 : Int64) (v : Option Value) (h' : Heap) : Prop := (v = some (.int 1)) ∧ (h0 = h')
theorem ef_au3224_13 (m : MethodId) (o0 : Addr) : entryFrame m #[(.ref o0), (.int 0)] 2 = mkF m 0 #[rv o0, iv 0] [] := by first | (simp [entryFrame, mkF, argsToLocals, Value.category]; done) | rfl
set_option maxRecDepth 65536 in
set_option maxHeartbeats 40000000 in
theorem au3224_13 (l : Launch) (Z : State) (a0 : Array Value) (hw : ∀ d ∈ tables_1, d.before a0 Z = true) (n0 : Nat) (h0 : Heap) (hn0 : n0 ≤ h0.size) (o0 : Addr) (o1 : Addr) (o2 : Addr) (j0 : Int64) (j1 : Int64) (j2 : Int64) (P0 : Exa Z h0 o0 kC0) (P1 : Fld Z h0 o0 kC0 "count" "I" (.int 1)) (P2 : Fld Z h0 o0 kC0 "held" "[I" (.ref o1)) (P3 : Fld Z h0 o0 kC0 "listing" "Z" (.int 1)) (P4 : Fld Z h0 o0 kC0 "words" "[J" (.ref o2)) (P5 : Av Z h0 o1 .int (.int 1 :: zI47)) (P6 : Av Z h0 o2 .long (.long j0 :: .long j1 :: .long j2 :: zJ45)) (g_o0 : n0 ≤ o0) (g_o1 : n0 ≤ o1) (g_o2 : n0 ≤ o2) (ne_o0_o1 : o0 ≠ o1) (ne_o0_o2 : o0 ≠ o2) (ne_o1_o2 : o1 ≠ o2) :
    Con l Z n0 [] (⟨"com/example/detra/detra/SetWords", "heldIndex", "(I)I"⟩ : MethodName) prog_21_method_10_code 2 (some .int) ({ frames := 0, cells := 0, slots := 0, locals := 0 } : Room) #[(.ref o0), (.int 0)] h0 (Qau3224_13 Z n0 h0 o0 o1 o2 j0 j1 j2) := by
  refine Con.of pf_5 (fun m => ef_au3224_13 m o0) hn0 ?_
  intro p e s m below meth c C
  refine C.aloadN d13_0 rfl rfl rfl ?_
  refine C.getF d13_1 rfl (tw hw 17 rfl) P2 ?_
  refine C.iloadN d13_4 rfl rfl ?_
  refine C.iaload (.int 1) d13_5 rfl P5 (by decide) rfl ?_
  exact C.retI d13_6 (by decide) (by decide) ⟨rfl, rfl⟩
def Qau3267_12 (Z : State) (n0 : Nat) (h0 : Heap) (o0 : Addr) (o1 : Addr) (o2 : Addr) (j0 : Int64) (j1 : Int64) (j2 : Int64) (v : Option Value) (h' : Heap) : Prop := (v = some (.int 1)) ∧ (h0 = h')
theorem ef_au3267_12 (m : MethodId) (o0 : Addr) : entryFrame m #[(.ref o0)] 1 = mkF m 0 #[rv o0] [] := by first | (simp [entryFrame, mkF, argsToLocals, Value.category]; done) | rfl
set_option maxRecDepth 65536 in
set_option maxHeartbeats 40000000 in
theorem au3267_12 (l : Launch) (Z : State) (a0 : Array Value) (hw : ∀ d ∈ tables_1, d.before a0 Z = true) (n0 : Nat) (h0 : Heap) (hn0 : n0 ≤ h0.size) (o0 : Addr) (o1 : Addr) (o2 : Addr) (j0 : Int64) (j1 : Int64) (j2 : Int64) (P0 : Exa Z h0 o0 kC0) (P1 : Fld Z h0 o0 kC0 "count" "I" (.int 1)) (P2 : Fld Z h0 o0 kC0 "held" "[I" (.ref o1)) (P3 : Fld Z h0 o0 kC0 "listing" "Z" (.int 1)) (P4 : Fld Z h0 o0 kC0 "words" "[J" (.ref o2)) (P5 : Av Z h0 o1 .int (.int 2 :: zI47)) (P6 : Av Z h0 o2 .long (.long j0 :: .long j1 :: .long j2 :: zJ45)) (g_o0 : n0 ≤ o0) (g_o1 : n0 ≤ o1) (g_o2 : n0 ≤ o2) (ne_o0_o1 : o0 ≠ o1) (ne_o0_o2 : o0 ≠ o2) (ne_o1_o2 : o1 ≠ o2) :
    Con l Z n0 [] (⟨"com/example/detra/detra/SetWords", "heldCount", "()I"⟩ : MethodName) prog_21_method_9_code 1 (some .int) ({ frames := 0, cells := 0, slots := 0, locals := 0 } : Room) #[(.ref o0)] h0 (Qau3267_12 Z n0 h0 o0 o1 o2 j0 j1 j2) := by
  refine Con.of pf_4 (fun m => ef_au3267_12 m o0) hn0 ?_
  intro p e s m below meth c C
  refine C.aloadN d12_0 rfl rfl rfl ?_
  refine C.getF d12_1 rfl (tw hw 38 rfl) P1 ?_
  exact C.retI d12_4 (by decide) (by decide) ⟨rfl, rfl⟩
def Qau3272_13 (Z : State) (n0 : Nat) (h0 : Heap) (o0 : Addr) (o1 : Addr) (o2 : Addr) (j0 : Int64) (j1 : Int64) (j2 : Int64) (v : Option Value) (h' : Heap) : Prop := (v = some (.int 2)) ∧ (h0 = h')
theorem ef_au3272_13 (m : MethodId) (o0 : Addr) : entryFrame m #[(.ref o0), (.int 0)] 2 = mkF m 0 #[rv o0, iv 0] [] := by first | (simp [entryFrame, mkF, argsToLocals, Value.category]; done) | rfl
set_option maxRecDepth 65536 in
set_option maxHeartbeats 40000000 in
theorem au3272_13 (l : Launch) (Z : State) (a0 : Array Value) (hw : ∀ d ∈ tables_1, d.before a0 Z = true) (n0 : Nat) (h0 : Heap) (hn0 : n0 ≤ h0.size) (o0 : Addr) (o1 : Addr) (o2 : Addr) (j0 : Int64) (j1 : Int64) (j2 : Int64) (P0 : Exa Z h0 o0 kC0) (P1 : Fld Z h0 o0 kC0 "count" "I" (.int 1)) (P2 : Fld Z h0 o0 kC0 "held" "[I" (.ref o1)) (P3 : Fld Z h0 o0 kC0 "listing" "Z" (.int 1)) (P4 : Fld Z h0 o0 kC0 "words" "[J" (.ref o2)) (P5 : Av Z h0 o1 .int (.int 2 :: zI47)) (P6 : Av Z h0 o2 .long (.long j0 :: .long j1 :: .long j2 :: zJ45)) (g_o0 : n0 ≤ o0) (g_o1 : n0 ≤ o1) (g_o2 : n0 ≤ o2) (ne_o0_o1 : o0 ≠ o1) (ne_o0_o2 : o0 ≠ o2) (ne_o1_o2 : o1 ≠ o2) :
    Con l Z n0 [] (⟨"com/example/detra/detra/SetWords", "heldIndex", "(I)I"⟩ : MethodName) prog_21_method_10_code 2 (some .int) ({ frames := 0, cells := 0, slots := 0, locals := 0 } : Room) #[(.ref o0), (.int 0)] h0 (Qau3272_13 Z n0 h0 o0 o1 o2 j0 j1 j2) := by
  refine Con.of pf_5 (fun m => ef_au3272_13 m o0) hn0 ?_
  intro p e s m below meth c C
  refine C.aloadN d13_0 rfl rfl rfl ?_
  refine C.getF d13_1 rfl (tw hw 17 rfl) P2 ?_
  refine C.iloadN d13_4 rfl rfl ?_
  refine C.iaload (.int 2) d13_5 rfl P5 (by decide) rfl ?_
  exact C.retI d13_6 (by decide) (by decide) ⟨rfl, rfl⟩
def Qau3326_12 (Z : State) (n0 : Nat) (h0 : Heap) (o0 : Addr) (o1 : Addr) (o2 : Addr) (j0 : Int64) (j1 : Int64) (j2 : Int64) (v : Option Value) (h' : Heap) : Prop := (v = some (.int 2)) ∧ (h0 = h')
theorem ef_au3326_12 (m : MethodId) (o0 : Addr) : entryFrame m #[(.ref o0)] 1 = mkF m 0 #[rv o0] [] := by first | (simp [entryFrame, mkF, argsToLocals, Value.category]; done) | rfl
set_option maxRecDepth 65536 in
set_option maxHeartbeats 40000000 in
theorem au3326_12 (l : Launch) (Z : State) (a0 : Array Value) (hw : ∀ d ∈ tables_1, d.before a0 Z = true) (n0 : Nat) (h0 : Heap) (hn0 : n0 ≤ h0.size) (o0 : Addr) (o1 : Addr) (o2 : Addr) (j0 : Int64) (j1 : Int64) (j2 : Int64) (P0 : Exa Z h0 o0 kC0) (P1 : Fld Z h0 o0 kC0 "count" "I" (.int 2)) (P2 : Fld Z h0 o0 kC0 "held" "[I" (.ref o1)) (P3 : Fld Z h0 o0 kC0 "listing" "Z" (.int 1)) (P4 : Fld Z h0 o0 kC0 "words" "[J" (.ref o2)) (P5 : Av Z h0 o1 .int (.int 0 :: .int 1 :: zI46)) (P6 : Av Z h0 o2 .long (.long j0 :: .long j1 :: .long j2 :: zJ45)) (g_o0 : n0 ≤ o0) (g_o1 : n0 ≤ o1) (g_o2 : n0 ≤ o2) (ne_o0_o1 : o0 ≠ o1) (ne_o0_o2 : o0 ≠ o2) (ne_o1_o2 : o1 ≠ o2) :
    Con l Z n0 [] (⟨"com/example/detra/detra/SetWords", "heldCount", "()I"⟩ : MethodName) prog_21_method_9_code 1 (some .int) ({ frames := 0, cells := 0, slots := 0, locals := 0 } : Room) #[(.ref o0)] h0 (Qau3326_12 Z n0 h0 o0 o1 o2 j0 j1 j2) := by
  refine Con.of pf_4 (fun m => ef_au3326_12 m o0) hn0 ?_
  intro p e s m below meth c C
  refine C.aloadN d12_0 rfl rfl rfl ?_
  refine C.getF d12_1 rfl (tw hw 38 rfl) P1 ?_
  exact C.retI d12_4 (by decide) (by decide) ⟨rfl, rfl⟩
def Qau3331_13 (Z : State) (n0 : Nat) (h0 : Heap) (o0 : Addr) (o1 : Addr) (o2 : Addr) (j0 : Int64) (j1 : Int64) (j2 : Int64) (v : Option Value) (h' : Heap) : Prop := (v = some (.int 0)) ∧ (h0 = h')
theorem ef_au3331_13 (m : MethodId) (o0 : Addr) : entryFrame m #[(.ref o0), (.int 0)] 2 = mkF m 0 #[rv o0, iv 0] [] := by first | (simp [entryFrame, mkF, argsToLocals, Value.category]; done) | rfl
set_option maxRecDepth 65536 in
set_option maxHeartbeats 40000000 in
theorem au3331_13 (l : Launch) (Z : State) (a0 : Array Value) (hw : ∀ d ∈ tables_1, d.before a0 Z = true) (n0 : Nat) (h0 : Heap) (hn0 : n0 ≤ h0.size) (o0 : Addr) (o1 : Addr) (o2 : Addr) (j0 : Int64) (j1 : Int64) (j2 : Int64) (P0 : Exa Z h0 o0 kC0) (P1 : Fld Z h0 o0 kC0 "count" "I" (.int 2)) (P2 : Fld Z h0 o0 kC0 "held" "[I" (.ref o1)) (P3 : Fld Z h0 o0 kC0 "listing" "Z" (.int 1)) (P4 : Fld Z h0 o0 kC0 "words" "[J" (.ref o2)) (P5 : Av Z h0 o1 .int (.int 0 :: .int 1 :: zI46)) (P6 : Av Z h0 o2 .long (.long j0 :: .long j1 :: .long j2 :: zJ45)) (g_o0 : n0 ≤ o0) (g_o1 : n0 ≤ o1) (g_o2 : n0 ≤ o2) (ne_o0_o1 : o0 ≠ o1) (ne_o0_o2 : o0 ≠ o2) (ne_o1_o2 : o1 ≠ o2) :
    Con l Z n0 [] (⟨"com/example/detra/detra/SetWords", "heldIndex", "(I)I"⟩ : MethodName) prog_21_method_10_code 2 (some .int) ({ frames := 0, cells := 0, slots := 0, locals := 0 } : Room) #[(.ref o0), (.int 0)] h0 (Qau3331_13 Z n0 h0 o0 o1 o2 j0 j1 j2) := by
  refine Con.of pf_5 (fun m => ef_au3331_13 m o0) hn0 ?_
  intro p e s m below meth c C
  refine C.aloadN d13_0 rfl rfl rfl ?_
  refine C.getF d13_1 rfl (tw hw 17 rfl) P2 ?_
  refine C.iloadN d13_4 rfl rfl ?_
  refine C.iaload (.int 0) d13_5 rfl P5 (by decide) rfl ?_
  exact C.retI d13_6 (by decide) (by decide) ⟨rfl, rfl⟩
def Qau3336_13 (Z : State) (n0 : Nat) (h0 : Heap) (o0 : Addr) (o1 : Addr) (o2 : Addr) (j0 : Int64) (j1 : Int64) (j2 : Int64) (v : Option Value) (h' : Heap) : Prop := (v = some (.int 1)) ∧ (h0 = h')
theorem ef_au3336_13 (m : MethodId) (o0 : Addr) : entryFrame m #[(.ref o0), (.int 1)] 2 = mkF m 0 #[rv o0, iv 1] [] := by first | (simp [entryFrame, mkF, argsToLocals, Value.category]; done) | rfl
set_option maxRecDepth 65536 in
set_option maxHeartbeats 40000000 in
theorem au3336_13 (l : Launch) (Z : State) (a0 : Array Value) (hw : ∀ d ∈ tables_1, d.before a0 Z = true) (n0 : Nat) (h0 : Heap) (hn0 : n0 ≤ h0.size) (o0 : Addr) (o1 : Addr) (o2 : Addr) (j0 : Int64) (j1 : Int64) (j2 : Int64) (P0 : Exa Z h0 o0 kC0) (P1 : Fld Z h0 o0 kC0 "count" "I" (.int 2)) (P2 : Fld Z h0 o0 kC0 "held" "[I" (.ref o1)) (P3 : Fld Z h0 o0 kC0 "listing" "Z" (.int 1)) (P4 : Fld Z h0 o0 kC0 "words" "[J" (.ref o2)) (P5 : Av Z h0 o1 .int (.int 0 :: .int 1 :: zI46)) (P6 : Av Z h0 o2 .long (.long j0 :: .long j1 :: .long j2 :: zJ45)) (g_o0 : n0 ≤ o0) (g_o1 : n0 ≤ o1) (g_o2 : n0 ≤ o2) (ne_o0_o1 : o0 ≠ o1) (ne_o0_o2 : o0 ≠ o2) (ne_o1_o2 : o1 ≠ o2) :
    Con l Z n0 [] (⟨"com/example/detra/detra/SetWords", "heldIndex", "(I)I"⟩ : MethodName) prog_21_method_10_code 2 (some .int) ({ frames := 0, cells := 0, slots := 0, locals := 0 } : Room) #[(.ref o0), (.int 1)] h0 (Qau3336_13 Z n0 h0 o0 o1 o2 j0 j1 j2) := by
  refine Con.of pf_5 (fun m => ef_au3336_13 m o0) hn0 ?_
  intro p e s m below meth c C
  refine C.aloadN d13_0 rfl rfl rfl ?_
  refine C.getF d13_1 rfl (tw hw 17 rfl) P2 ?_
  refine C.iloadN d13_4 rfl rfl ?_
  refine C.iaload (.int 1) d13_5 rfl P5 (by decide) rfl ?_
  exact C.retI d13_6 (by decide) (by decide) ⟨rfl, rfl⟩
def Qau3390_12 (Z : State) (n0 : Nat) (h0 : Heap) (o0 : Addr) (o1 : Addr) (o2 : Addr) (j0 : Int64) (j1 : Int64) (j2 : Int64) (v : Option Value) (h' : Heap) : Prop := (v = some (.int 2)) ∧ (h0 = h')
theorem ef_au3390_12 (m : MethodId) (o0 : Addr) : entryFrame m #[(.ref o0)] 1 = mkF m 0 #[rv o0] [] := by first | (simp [entryFrame, mkF, argsToLocals, Value.category]; done) | rfl
set_option maxRecDepth 65536 in
set_option maxHeartbeats 40000000 in
theorem au3390_12 (l : Launch) (Z : State) (a0 : Array Value) (hw : ∀ d ∈ tables_1, d.before a0 Z = true) (n0 : Nat) (h0 : Heap) (hn0 : n0 ≤ h0.size) (o0 : Addr) (o1 : Addr) (o2 : Addr) (j0 : Int64) (j1 : Int64) (j2 : Int64) (P0 : Exa Z h0 o0 kC0) (P1 : Fld Z h0 o0 kC0 "count" "I" (.int 2)) (P2 : Fld Z h0 o0 kC0 "held" "[I" (.ref o1)) (P3 : Fld Z h0 o0 kC0 "listing" "Z" (.int 1)) (P4 : Fld Z h0 o0 kC0 "words" "[J" (.ref o2)) (P5 : Av Z h0 o1 .int (.int 0 :: .int 2 :: zI46)) (P6 : Av Z h0 o2 .long (.long j0 :: .long j1 :: .long j2 :: zJ45)) (g_o0 : n0 ≤ o0) (g_o1 : n0 ≤ o1) (g_o2 : n0 ≤ o2) (ne_o0_o1 : o0 ≠ o1) (ne_o0_o2 : o0 ≠ o2) (ne_o1_o2 : o1 ≠ o2) :
    Con l Z n0 [] (⟨"com/example/detra/detra/SetWords", "heldCount", "()I"⟩ : MethodName) prog_21_method_9_code 1 (some .int) ({ frames := 0, cells := 0, slots := 0, locals := 0 } : Room) #[(.ref o0)] h0 (Qau3390_12 Z n0 h0 o0 o1 o2 j0 j1 j2) := by
  refine Con.of pf_4 (fun m => ef_au3390_12 m o0) hn0 ?_
  intro p e s m below meth c C
  refine C.aloadN d12_0 rfl rfl rfl ?_
  refine C.getF d12_1 rfl (tw hw 38 rfl) P1 ?_
  exact C.retI d12_4 (by decide) (by decide) ⟨rfl, rfl⟩
def Qau3395_13 (Z : State) (n0 : Nat) (h0 : Heap) (o0 : Addr) (o1 : Addr) (o2 : Addr) (j0 : Int64) (j1 : Int64) (j2 : Int64) (v : Option Value) (h' : Heap) : Prop := (v = some (.int 0)) ∧ (h0 = h')
theorem ef_au3395_13 (m : MethodId) (o0 : Addr) : entryFrame m #[(.ref o0), (.int 0)] 2 = mkF m 0 #[rv o0, iv 0] [] := by first | (simp [entryFrame, mkF, argsToLocals, Value.category]; done) | rfl
set_option maxRecDepth 65536 in
set_option maxHeartbeats 40000000 in
theorem au3395_13 (l : Launch) (Z : State) (a0 : Array Value) (hw : ∀ d ∈ tables_1, d.before a0 Z = true) (n0 : Nat) (h0 : Heap) (hn0 : n0 ≤ h0.size) (o0 : Addr) (o1 : Addr) (o2 : Addr) (j0 : Int64) (j1 : Int64) (j2 : Int64) (P0 : Exa Z h0 o0 kC0) (P1 : Fld Z h0 o0 kC0 "count" "I" (.int 2)) (P2 : Fld Z h0 o0 kC0 "held" "[I" (.ref o1)) (P3 : Fld Z h0 o0 kC0 "listing" "Z" (.int 1)) (P4 : Fld Z h0 o0 kC0 "words" "[J" (.ref o2)) (P5 : Av Z h0 o1 .int (.int 0 :: .int 2 :: zI46)) (P6 : Av Z h0 o2 .long (.long j0 :: .long j1 :: .long j2 :: zJ45)) (g_o0 : n0 ≤ o0) (g_o1 : n0 ≤ o1) (g_o2 : n0 ≤ o2) (ne_o0_o1 : o0 ≠ o1) (ne_o0_o2 : o0 ≠ o2) (ne_o1_o2 : o1 ≠ o2) :
    Con l Z n0 [] (⟨"com/example/detra/detra/SetWords", "heldIndex", "(I)I"⟩ : MethodName) prog_21_method_10_code 2 (some .int) ({ frames := 0, cells := 0, slots := 0, locals := 0 } : Room) #[(.ref o0), (.int 0)] h0 (Qau3395_13 Z n0 h0 o0 o1 o2 j0 j1 j2) := by
  refine Con.of pf_5 (fun m => ef_au3395_13 m o0) hn0 ?_
  intro p e s m below meth c C
  refine C.aloadN d13_0 rfl rfl rfl ?_
  refine C.getF d13_1 rfl (tw hw 17 rfl) P2 ?_
  refine C.iloadN d13_4 rfl rfl ?_
  refine C.iaload (.int 0) d13_5 rfl P5 (by decide) rfl ?_
  exact C.retI d13_6 (by decide) (by decide) ⟨rfl, rfl⟩
def Qau3400_13 (Z : State) (n0 : Nat) (h0 : Heap) (o0 : Addr) (o1 : Addr) (o2 : Addr) (j0 : Int64) (j1 : Int64) (j2 : Int64) (v : Option Value) (h' : Heap) : Prop := (v = some (.int 2)) ∧ (h0 = h')
theorem ef_au3400_13 (m : MethodId) (o0 : Addr) : entryFrame m #[(.ref o0), (.int 1)] 2 = mkF m 0 #[rv o0, iv 1] [] := by first | (simp [entryFrame, mkF, argsToLocals, Value.category]; done) | rfl
set_option maxRecDepth 65536 in
set_option maxHeartbeats 40000000 in
theorem au3400_13 (l : Launch) (Z : State) (a0 : Array Value) (hw : ∀ d ∈ tables_1, d.before a0 Z = true) (n0 : Nat) (h0 : Heap) (hn0 : n0 ≤ h0.size) (o0 : Addr) (o1 : Addr) (o2 : Addr) (j0 : Int64) (j1 : Int64) (j2 : Int64) (P0 : Exa Z h0 o0 kC0) (P1 : Fld Z h0 o0 kC0 "count" "I" (.int 2)) (P2 : Fld Z h0 o0 kC0 "held" "[I" (.ref o1)) (P3 : Fld Z h0 o0 kC0 "listing" "Z" (.int 1)) (P4 : Fld Z h0 o0 kC0 "words" "[J" (.ref o2)) (P5 : Av Z h0 o1 .int (.int 0 :: .int 2 :: zI46)) (P6 : Av Z h0 o2 .long (.long j0 :: .long j1 :: .long j2 :: zJ45)) (g_o0 : n0 ≤ o0) (g_o1 : n0 ≤ o1) (g_o2 : n0 ≤ o2) (ne_o0_o1 : o0 ≠ o1) (ne_o0_o2 : o0 ≠ o2) (ne_o1_o2 : o1 ≠ o2) :
    Con l Z n0 [] (⟨"com/example/detra/detra/SetWords", "heldIndex", "(I)I"⟩ : MethodName) prog_21_method_10_code 2 (some .int) ({ frames := 0, cells := 0, slots := 0, locals := 0 } : Room) #[(.ref o0), (.int 1)] h0 (Qau3400_13 Z n0 h0 o0 o1 o2 j0 j1 j2) := by
  refine Con.of pf_5 (fun m => ef_au3400_13 m o0) hn0 ?_
  intro p e s m below meth c C
  refine C.aloadN d13_0 rfl rfl rfl ?_
  refine C.getF d13_1 rfl (tw hw 17 rfl) P2 ?_
  refine C.iloadN d13_4 rfl rfl ?_
  refine C.iaload (.int 2) d13_5 rfl P5 (by decide) rfl ?_
  exact C.retI d13_6 (by decide) (by decide) ⟨rfl, rfl⟩
def Qau3454_12 (Z : State) (n0 : Nat) (h0 : Heap) (o0 : Addr) (o1 : Addr) (o2 : Addr) (j0 : Int64) (j1 : Int64) (j2 : Int64) (v : Option Value) (h' : Heap) : Prop := (v = some (.int 2)) ∧ (h0 = h')
theorem ef_au3454_12 (m : MethodId) (o0 : Addr) : entryFrame m #[(.ref o0)] 1 = mkF m 0 #[rv o0] [] := by first | (simp [entryFrame, mkF, argsToLocals, Value.category]; done) | rfl
set_option maxRecDepth 65536 in
set_option maxHeartbeats 40000000 in
theorem au3454_12 (l : Launch) (Z : State) (a0 : Array Value) (hw : ∀ d ∈ tables_1, d.before a0 Z = true) (n0 : Nat) (h0 : Heap) (hn0 : n0 ≤ h0.size) (o0 : Addr) (o1 : Addr) (o2 : Addr) (j0 : Int64) (j1 : Int64) (j2 : Int64) (P0 : Exa Z h0 o0 kC0) (P1 : Fld Z h0 o0 kC0 "count" "I" (.int 2)) (P2 : Fld Z h0 o0 kC0 "held" "[I" (.ref o1)) (P3 : Fld Z h0 o0 kC0 "listing" "Z" (.int 1)) (P4 : Fld Z h0 o0 kC0 "words" "[J" (.ref o2)) (P5 : Av Z h0 o1 .int (.int 1 :: .int 2 :: zI46)) (P6 : Av Z h0 o2 .long (.long j0 :: .long j1 :: .long j2 :: zJ45)) (g_o0 : n0 ≤ o0) (g_o1 : n0 ≤ o1) (g_o2 : n0 ≤ o2) (ne_o0_o1 : o0 ≠ o1) (ne_o0_o2 : o0 ≠ o2) (ne_o1_o2 : o1 ≠ o2) :
    Con l Z n0 [] (⟨"com/example/detra/detra/SetWords", "heldCount", "()I"⟩ : MethodName) prog_21_method_9_code 1 (some .int) ({ frames := 0, cells := 0, slots := 0, locals := 0 } : Room) #[(.ref o0)] h0 (Qau3454_12 Z n0 h0 o0 o1 o2 j0 j1 j2) := by
  refine Con.of pf_4 (fun m => ef_au3454_12 m o0) hn0 ?_
  intro p e s m below meth c C
  refine C.aloadN d12_0 rfl rfl rfl ?_
  refine C.getF d12_1 rfl (tw hw 38 rfl) P1 ?_
  exact C.retI d12_4 (by decide) (by decide) ⟨rfl, rfl⟩
def Qau3459_13 (Z : State) (n0 : Nat) (h0 : Heap) (o0 : Addr) (o1 : Addr) (o2 : Addr) (j0 : Int64) (j1 : Int64) (j2 : Int64) (v : Option Value) (h' : Heap) : Prop := (v = some (.int 1)) ∧ (h0 = h')
theorem ef_au3459_13 (m : MethodId) (o0 : Addr) : entryFrame m #[(.ref o0), (.int 0)] 2 = mkF m 0 #[rv o0, iv 0] [] := by first | (simp [entryFrame, mkF, argsToLocals, Value.category]; done) | rfl
set_option maxRecDepth 65536 in
set_option maxHeartbeats 40000000 in
theorem au3459_13 (l : Launch) (Z : State) (a0 : Array Value) (hw : ∀ d ∈ tables_1, d.before a0 Z = true) (n0 : Nat) (h0 : Heap) (hn0 : n0 ≤ h0.size) (o0 : Addr) (o1 : Addr) (o2 : Addr) (j0 : Int64) (j1 : Int64) (j2 : Int64) (P0 : Exa Z h0 o0 kC0) (P1 : Fld Z h0 o0 kC0 "count" "I" (.int 2)) (P2 : Fld Z h0 o0 kC0 "held" "[I" (.ref o1)) (P3 : Fld Z h0 o0 kC0 "listing" "Z" (.int 1)) (P4 : Fld Z h0 o0 kC0 "words" "[J" (.ref o2)) (P5 : Av Z h0 o1 .int (.int 1 :: .int 2 :: zI46)) (P6 : Av Z h0 o2 .long (.long j0 :: .long j1 :: .long j2 :: zJ45)) (g_o0 : n0 ≤ o0) (g_o1 : n0 ≤ o1) (g_o2 : n0 ≤ o2) (ne_o0_o1 : o0 ≠ o1) (ne_o0_o2 : o0 ≠ o2) (ne_o1_o2 : o1 ≠ o2) :
    Con l Z n0 [] (⟨"com/example/detra/detra/SetWords", "heldIndex", "(I)I"⟩ : MethodName) prog_21_method_10_code 2 (some .int) ({ frames := 0, cells := 0, slots := 0, locals := 0 } : Room) #[(.ref o0), (.int 0)] h0 (Qau3459_13 Z n0 h0 o0 o1 o2 j0 j1 j2) := by
  refine Con.of pf_5 (fun m => ef_au3459_13 m o0) hn0 ?_
  intro p e s m below meth c C
  refine C.aloadN d13_0 rfl rfl rfl ?_
  refine C.getF d13_1 rfl (tw hw 17 rfl) P2 ?_
  refine C.iloadN d13_4 rfl rfl ?_
  refine C.iaload (.int 1) d13_5 rfl P5 (by decide) rfl ?_
  exact C.retI d13_6 (by decide) (by decide) ⟨rfl, rfl⟩
def Qau3464_13 (Z : State) (n0 : Nat) (h0 : Heap) (o0 : Addr) (o1 : Addr) (o2 : Addr) (j0 : Int64) (j1 : Int64) (j2 : Int64) (v : Option Value) (h' : Heap) : Prop := (v = some (.int 2)) ∧ (h0 = h')
theorem ef_au3464_13 (m : MethodId) (o0 : Addr) : entryFrame m #[(.ref o0), (.int 1)] 2 = mkF m 0 #[rv o0, iv 1] [] := by first | (simp [entryFrame, mkF, argsToLocals, Value.category]; done) | rfl
set_option maxRecDepth 65536 in
set_option maxHeartbeats 40000000 in
theorem au3464_13 (l : Launch) (Z : State) (a0 : Array Value) (hw : ∀ d ∈ tables_1, d.before a0 Z = true) (n0 : Nat) (h0 : Heap) (hn0 : n0 ≤ h0.size) (o0 : Addr) (o1 : Addr) (o2 : Addr) (j0 : Int64) (j1 : Int64) (j2 : Int64) (P0 : Exa Z h0 o0 kC0) (P1 : Fld Z h0 o0 kC0 "count" "I" (.int 2)) (P2 : Fld Z h0 o0 kC0 "held" "[I" (.ref o1)) (P3 : Fld Z h0 o0 kC0 "listing" "Z" (.int 1)) (P4 : Fld Z h0 o0 kC0 "words" "[J" (.ref o2)) (P5 : Av Z h0 o1 .int (.int 1 :: .int 2 :: zI46)) (P6 : Av Z h0 o2 .long (.long j0 :: .long j1 :: .long j2 :: zJ45)) (g_o0 : n0 ≤ o0) (g_o1 : n0 ≤ o1) (g_o2 : n0 ≤ o2) (ne_o0_o1 : o0 ≠ o1) (ne_o0_o2 : o0 ≠ o2) (ne_o1_o2 : o1 ≠ o2) :
    Con l Z n0 [] (⟨"com/example/detra/detra/SetWords", "heldIndex", "(I)I"⟩ : MethodName) prog_21_method_10_code 2 (some .int) ({ frames := 0, cells := 0, slots := 0, locals := 0 } : Room) #[(.ref o0), (.int 1)] h0 (Qau3464_13 Z n0 h0 o0 o1 o2 j0 j1 j2) := by
  refine Con.of pf_5 (fun m => ef_au3464_13 m o0) hn0 ?_
  intro p e s m below meth c C
  refine C.aloadN d13_0 rfl rfl rfl ?_
  refine C.getF d13_1 rfl (tw hw 17 rfl) P2 ?_
  refine C.iloadN d13_4 rfl rfl ?_
  refine C.iaload (.int 2) d13_5 rfl P5 (by decide) rfl ?_
  exact C.retI d13_6 (by decide) (by decide) ⟨rfl, rfl⟩
def Qau3529_12 (Z : State) (n0 : Nat) (h0 : Heap) (o0 : Addr) (o1 : Addr) (o2 : Addr) (j0 : Int64) (j1 : Int64) (j2 : Int64) (v : Option Value) (h' : Heap) : Prop := (v = some (.int 3)) ∧ (h0 = h')
theorem ef_au3529_12 (m : MethodId) (o0 : Addr) : entryFrame m #[(.ref o0)] 1 = mkF m 0 #[rv o0] [] := by first | (simp [entryFrame, mkF, argsToLocals, Value.category]; done) | rfl
set_option maxRecDepth 65536 in
set_option maxHeartbeats 40000000 in
theorem au3529_12 (l : Launch) (Z : State) (a0 : Array Value) (hw : ∀ d ∈ tables_1, d.before a0 Z = true) (n0 : Nat) (h0 : Heap) (hn0 : n0 ≤ h0.size) (o0 : Addr) (o1 : Addr) (o2 : Addr) (j0 : Int64) (j1 : Int64) (j2 : Int64) (P0 : Exa Z h0 o0 kC0) (P1 : Fld Z h0 o0 kC0 "count" "I" (.int 3)) (P2 : Fld Z h0 o0 kC0 "held" "[I" (.ref o1)) (P3 : Fld Z h0 o0 kC0 "listing" "Z" (.int 1)) (P4 : Fld Z h0 o0 kC0 "words" "[J" (.ref o2)) (P5 : Av Z h0 o1 .int (.int 0 :: .int 1 :: .int 2 :: zI45)) (P6 : Av Z h0 o2 .long (.long j0 :: .long j1 :: .long j2 :: zJ45)) (g_o0 : n0 ≤ o0) (g_o1 : n0 ≤ o1) (g_o2 : n0 ≤ o2) (ne_o0_o1 : o0 ≠ o1) (ne_o0_o2 : o0 ≠ o2) (ne_o1_o2 : o1 ≠ o2) :
    Con l Z n0 [] (⟨"com/example/detra/detra/SetWords", "heldCount", "()I"⟩ : MethodName) prog_21_method_9_code 1 (some .int) ({ frames := 0, cells := 0, slots := 0, locals := 0 } : Room) #[(.ref o0)] h0 (Qau3529_12 Z n0 h0 o0 o1 o2 j0 j1 j2) := by
  refine Con.of pf_4 (fun m => ef_au3529_12 m o0) hn0 ?_
  intro p e s m below meth c C
  refine C.aloadN d12_0 rfl rfl rfl ?_
  refine C.getF d12_1 rfl (tw hw 38 rfl) P1 ?_
  exact C.retI d12_4 (by decide) (by decide) ⟨rfl, rfl⟩
def Qau3534_13 (Z : State) (n0 : Nat) (h0 : Heap) (o0 : Addr) (o1 : Addr) (o2 : Addr) (j0 : Int64) (j1 : Int64) (j2 : Int64) (v : Option Value) (h' : Heap) : Prop := (v = some (.int 0)) ∧ (h0 = h')
theorem ef_au3534_13 (m : MethodId) (o0 : Addr) : entryFrame m #[(.ref o0), (.int 0)] 2 = mkF m 0 #[rv o0, iv 0] [] := by first | (simp [entryFrame, mkF, argsToLocals, Value.category]; done) | rfl
set_option maxRecDepth 65536 in
set_option maxHeartbeats 40000000 in
theorem au3534_13 (l : Launch) (Z : State) (a0 : Array Value) (hw : ∀ d ∈ tables_1, d.before a0 Z = true) (n0 : Nat) (h0 : Heap) (hn0 : n0 ≤ h0.size) (o0 : Addr) (o1 : Addr) (o2 : Addr) (j0 : Int64) (j1 : Int64) (j2 : Int64) (P0 : Exa Z h0 o0 kC0) (P1 : Fld Z h0 o0 kC0 "count" "I" (.int 3)) (P2 : Fld Z h0 o0 kC0 "held" "[I" (.ref o1)) (P3 : Fld Z h0 o0 kC0 "listing" "Z" (.int 1)) (P4 : Fld Z h0 o0 kC0 "words" "[J" (.ref o2)) (P5 : Av Z h0 o1 .int (.int 0 :: .int 1 :: .int 2 :: zI45)) (P6 : Av Z h0 o2 .long (.long j0 :: .long j1 :: .long j2 :: zJ45)) (g_o0 : n0 ≤ o0) (g_o1 : n0 ≤ o1) (g_o2 : n0 ≤ o2) (ne_o0_o1 : o0 ≠ o1) (ne_o0_o2 : o0 ≠ o2) (ne_o1_o2 : o1 ≠ o2) :
    Con l Z n0 [] (⟨"com/example/detra/detra/SetWords", "heldIndex", "(I)I"⟩ : MethodName) prog_21_method_10_code 2 (some .int) ({ frames := 0, cells := 0, slots := 0, locals := 0 } : Room) #[(.ref o0), (.int 0)] h0 (Qau3534_13 Z n0 h0 o0 o1 o2 j0 j1 j2) := by
  refine Con.of pf_5 (fun m => ef_au3534_13 m o0) hn0 ?_
  intro p e s m below meth c C
  refine C.aloadN d13_0 rfl rfl rfl ?_
  refine C.getF d13_1 rfl (tw hw 17 rfl) P2 ?_
  refine C.iloadN d13_4 rfl rfl ?_
  refine C.iaload (.int 0) d13_5 rfl P5 (by decide) rfl ?_
  exact C.retI d13_6 (by decide) (by decide) ⟨rfl, rfl⟩
def Qau3539_13 (Z : State) (n0 : Nat) (h0 : Heap) (o0 : Addr) (o1 : Addr) (o2 : Addr) (j0 : Int64) (j1 : Int64) (j2 : Int64) (v : Option Value) (h' : Heap) : Prop := (v = some (.int 1)) ∧ (h0 = h')
theorem ef_au3539_13 (m : MethodId) (o0 : Addr) : entryFrame m #[(.ref o0), (.int 1)] 2 = mkF m 0 #[rv o0, iv 1] [] := by first | (simp [entryFrame, mkF, argsToLocals, Value.category]; done) | rfl
set_option maxRecDepth 65536 in
set_option maxHeartbeats 40000000 in
theorem au3539_13 (l : Launch) (Z : State) (a0 : Array Value) (hw : ∀ d ∈ tables_1, d.before a0 Z = true) (n0 : Nat) (h0 : Heap) (hn0 : n0 ≤ h0.size) (o0 : Addr) (o1 : Addr) (o2 : Addr) (j0 : Int64) (j1 : Int64) (j2 : Int64) (P0 : Exa Z h0 o0 kC0) (P1 : Fld Z h0 o0 kC0 "count" "I" (.int 3)) (P2 : Fld Z h0 o0 kC0 "held" "[I" (.ref o1)) (P3 : Fld Z h0 o0 kC0 "listing" "Z" (.int 1)) (P4 : Fld Z h0 o0 kC0 "words" "[J" (.ref o2)) (P5 : Av Z h0 o1 .int (.int 0 :: .int 1 :: .int 2 :: zI45)) (P6 : Av Z h0 o2 .long (.long j0 :: .long j1 :: .long j2 :: zJ45)) (g_o0 : n0 ≤ o0) (g_o1 : n0 ≤ o1) (g_o2 : n0 ≤ o2) (ne_o0_o1 : o0 ≠ o1) (ne_o0_o2 : o0 ≠ o2) (ne_o1_o2 : o1 ≠ o2) :
    Con l Z n0 [] (⟨"com/example/detra/detra/SetWords", "heldIndex", "(I)I"⟩ : MethodName) prog_21_method_10_code 2 (some .int) ({ frames := 0, cells := 0, slots := 0, locals := 0 } : Room) #[(.ref o0), (.int 1)] h0 (Qau3539_13 Z n0 h0 o0 o1 o2 j0 j1 j2) := by
  refine Con.of pf_5 (fun m => ef_au3539_13 m o0) hn0 ?_
  intro p e s m below meth c C
  refine C.aloadN d13_0 rfl rfl rfl ?_
  refine C.getF d13_1 rfl (tw hw 17 rfl) P2 ?_
  refine C.iloadN d13_4 rfl rfl ?_
  refine C.iaload (.int 1) d13_5 rfl P5 (by decide) rfl ?_
  exact C.retI d13_6 (by decide) (by decide) ⟨rfl, rfl⟩
def Qau3544_13 (Z : State) (n0 : Nat) (h0 : Heap) (o0 : Addr) (o1 : Addr) (o2 : Addr) (j0 : Int64) (j1 : Int64) (j2 : Int64) (v : Option Value) (h' : Heap) : Prop := (v = some (.int 2)) ∧ (h0 = h')
theorem ef_au3544_13 (m : MethodId) (o0 : Addr) : entryFrame m #[(.ref o0), (.int 2)] 2 = mkF m 0 #[rv o0, iv 2] [] := by first | (simp [entryFrame, mkF, argsToLocals, Value.category]; done) | rfl
set_option maxRecDepth 65536 in
set_option maxHeartbeats 40000000 in
theorem au3544_13 (l : Launch) (Z : State) (a0 : Array Value) (hw : ∀ d ∈ tables_1, d.before a0 Z = true) (n0 : Nat) (h0 : Heap) (hn0 : n0 ≤ h0.size) (o0 : Addr) (o1 : Addr) (o2 : Addr) (j0 : Int64) (j1 : Int64) (j2 : Int64) (P0 : Exa Z h0 o0 kC0) (P1 : Fld Z h0 o0 kC0 "count" "I" (.int 3)) (P2 : Fld Z h0 o0 kC0 "held" "[I" (.ref o1)) (P3 : Fld Z h0 o0 kC0 "listing" "Z" (.int 1)) (P4 : Fld Z h0 o0 kC0 "words" "[J" (.ref o2)) (P5 : Av Z h0 o1 .int (.int 0 :: .int 1 :: .int 2 :: zI45)) (P6 : Av Z h0 o2 .long (.long j0 :: .long j1 :: .long j2 :: zJ45)) (g_o0 : n0 ≤ o0) (g_o1 : n0 ≤ o1) (g_o2 : n0 ≤ o2) (ne_o0_o1 : o0 ≠ o1) (ne_o0_o2 : o0 ≠ o2) (ne_o1_o2 : o1 ≠ o2) :
    Con l Z n0 [] (⟨"com/example/detra/detra/SetWords", "heldIndex", "(I)I"⟩ : MethodName) prog_21_method_10_code 2 (some .int) ({ frames := 0, cells := 0, slots := 0, locals := 0 } : Room) #[(.ref o0), (.int 2)] h0 (Qau3544_13 Z n0 h0 o0 o1 o2 j0 j1 j2) := by
  refine Con.of pf_5 (fun m => ef_au3544_13 m o0) hn0 ?_
  intro p e s m below meth c C
  refine C.aloadN d13_0 rfl rfl rfl ?_
  refine C.getF d13_1 rfl (tw hw 17 rfl) P2 ?_
  refine C.iloadN d13_4 rfl rfl ?_
  refine C.iaload (.int 2) d13_5 rfl P5 (by decide) rfl ?_
  exact C.retI d13_6 (by decide) (by decide) ⟨rfl, rfl⟩
theorem d7_0 : decode jdk_65_method_3_code 0 = .ok (.aload_n 0, 1) := by decide +kernel
theorem d7_1 : decode jdk_65_method_3_code 1 = .ok (.arraylength, 1) := by decide +kernel
theorem d7_2 : decode jdk_65_method_3_code 2 = .ok (.iload_n 1, 1) := by decide +kernel
theorem d7_3 : decode jdk_65_method_3_code 3 = .ok (.iload_n 2, 1) := by decide +kernel
theorem d7_4 : decode jdk_65_method_3_code 4 = .ok (.invokestatic 13, 3) := by decide +kernel
theorem d7_7 : decode jdk_65_method_3_code 7 = .ok (.aload_n 0, 1) := by decide +kernel
theorem d7_8 : decode jdk_65_method_3_code 8 = .ok (.iconst 0, 1) := by decide +kernel
theorem d7_9 : decode jdk_65_method_3_code 9 = .ok (.iload_n 1, 1) := by decide +kernel
theorem d7_10 : decode jdk_65_method_3_code 10 = .ok (.iload_n 2, 1) := by decide +kernel
theorem d7_11 : decode jdk_65_method_3_code 11 = .ok (.invokestatic 7, 3) := by decide +kernel
theorem d7_14 : decode jdk_65_method_3_code 14 = .ok (.return_, 1) := by decide +kernel
theorem pf_9 : plainFor (⟨"java/util/Arrays", "sort", "([III)V"⟩ : MethodName) = true := by first | exact plainFor_of_name (by first | (simp [plainName, overriddenIn]; done) | decide +kernel) | decide +kernel
theorem d8_0 : decode jdk_65_method_30_code 0 = .ok (.iload_n 1, 1) := by decide +kernel
theorem d8_1 : decode jdk_65_method_30_code 1 = .ok (.iload_n 2, 1) := by decide +kernel
theorem d8_2 : decode jdk_65_method_30_code 2 = .ok (.if_icmp .le 44, 3) := by decide +kernel
theorem d8_46 : decode jdk_65_method_30_code 46 = .ok (.iload_n 1, 1) := by decide +kernel
theorem d8_47 : decode jdk_65_method_30_code 47 = .ok (.ifCond .ge 12, 3) := by decide +kernel
theorem d8_59 : decode jdk_65_method_30_code 59 = .ok (.iload_n 2, 1) := by decide +kernel
theorem d8_60 : decode jdk_65_method_30_code 60 = .ok (.iload_n 0, 1) := by decide +kernel
theorem d8_61 : decode jdk_65_method_30_code 61 = .ok (.if_icmp .le 12, 3) := by decide +kernel
theorem d8_73 : decode jdk_65_method_30_code 73 = .ok (.return_, 1) := by decide +kernel
theorem pf_10 : plainFor (⟨"java/util/Arrays", "rangeCheck", "(III)V"⟩ : MethodName) = true := by first | exact plainFor_of_name (by first | (simp [plainName, overriddenIn]; done) | decide +kernel) | decide +kernel
def Qau3551_8 (Z : State) (n0 : Nat) (h0 : Heap)  (v : Option Value) (h' : Heap) : Prop := (v = none) ∧ (h0 = h')
theorem ef_au3551_8 (m : MethodId)  : entryFrame m #[(.int 48), (.int 0), (.int 0)] 3 = mkF m 0 #[iv 48, iv 0, iv 0] [] := by first | (simp [entryFrame, mkF, argsToLocals, Value.category]; done) | rfl
set_option maxRecDepth 65536 in
set_option maxHeartbeats 40000000 in
theorem au3551_8 (l : Launch) (Z : State) (a0 : Array Value) (hw : ∀ d ∈ tables_1, d.before a0 Z = true) (n0 : Nat) (h0 : Heap) (hn0 : n0 ≤ h0.size)  :
    Con l Z n0 [] (⟨"java/util/Arrays", "rangeCheck", "(III)V"⟩ : MethodName) jdk_65_method_30_code 3 none ({ frames := 0, cells := 0, slots := 0, locals := 0 } : Room) #[(.int 48), (.int 0), (.int 0)] h0 (Qau3551_8 Z n0 h0) := by
  refine Con.of pf_10 (fun m => ef_au3551_8 m ) hn0 ?_
  intro p e s m below meth c C
  refine C.iloadN d8_0 rfl rfl ?_
  refine C.iloadN d8_1 rfl rfl ?_
  refine C.icmp_le_t d8_2 (by decide) rfl (by decide) ?_
  refine C.iloadN d8_46 rfl rfl ?_
  refine C.if_ge_t d8_47 (by decide) rfl (by decide) ?_
  refine C.iloadN d8_59 rfl rfl ?_
  refine C.iloadN d8_60 rfl rfl ?_
  refine C.icmp_le_t d8_61 (by decide) rfl (by decide) ?_
  exact C.ret0 d8_73 (by decide) (by decide) ⟨rfl, rfl⟩
theorem pd_7 : parseMethodDescriptor "(III)V" = some ⟨[.int, .int, .int], none⟩ := by decide +kernel
theorem d9_0 : decode jdk_2529_method_3_code 0 = .ok (.iload_n 3, 1) := by decide +kernel
theorem d9_1 : decode jdk_2529_method_3_code 1 = .ok (.iload_n 2, 1) := by decide +kernel
theorem d9_2 : decode jdk_2529_method_3_code 2 = .ok (.isub, 1) := by decide +kernel
theorem d9_3 : decode jdk_2529_method_3_code 3 = .ok (.istore 4, 2) := by decide +kernel
theorem d9_5 : decode jdk_2529_method_3_code 5 = .ok (.iload_n 1, 1) := by decide +kernel
theorem d9_6 : decode jdk_2529_method_3_code 6 = .ok (.iconst 1, 1) := by decide +kernel
theorem d9_7 : decode jdk_2529_method_3_code 7 = .ok (.if_icmp .le 61, 3) := by decide +kernel
theorem d9_68 : decode jdk_2529_method_3_code 68 = .ok (.aconst_null, 1) := by decide +kernel
theorem d9_69 : decode jdk_2529_method_3_code 69 = .ok (.aload_n 0, 1) := by decide +kernel
theorem d9_70 : decode jdk_2529_method_3_code 70 = .ok (.iconst 0, 1) := by decide +kernel
theorem d9_71 : decode jdk_2529_method_3_code 71 = .ok (.iload_n 2, 1) := by decide +kernel
theorem d9_72 : decode jdk_2529_method_3_code 72 = .ok (.iload_n 3, 1) := by decide +kernel
theorem d9_73 : decode jdk_2529_method_3_code 73 = .ok (.invokestatic 26, 3) := by decide +kernel
theorem d9_76 : decode jdk_2529_method_3_code 76 = .ok (.return_, 1) := by decide +kernel
theorem pf_11 : plainFor (⟨"java/util/DualPivotQuicksort", "sort", "([IIII)V"⟩ : MethodName) = true := by first | exact plainFor_of_name (by first | (simp [plainName, overriddenIn]; done) | decide +kernel) | decide +kernel
theorem d10_0 : decode jdk_2529_method_4_code 0 = .ok (.iload 4, 2) := by decide +kernel
theorem d10_2 : decode jdk_2529_method_4_code 2 = .ok (.iconst 1, 1) := by decide +kernel
theorem d10_3 : decode jdk_2529_method_4_code 3 = .ok (.isub, 1) := by decide +kernel
theorem d10_4 : decode jdk_2529_method_4_code 4 = .ok (.istore 5, 2) := by decide +kernel
theorem d10_6 : decode jdk_2529_method_4_code 6 = .ok (.iload 4, 2) := by decide +kernel
theorem d10_8 : decode jdk_2529_method_4_code 8 = .ok (.iload_n 3, 1) := by decide +kernel
theorem d10_9 : decode jdk_2529_method_4_code 9 = .ok (.isub, 1) := by decide +kernel
theorem d10_10 : decode jdk_2529_method_4_code 10 = .ok (.istore 6, 2) := by decide +kernel
theorem d10_12 : decode jdk_2529_method_4_code 12 = .ok (.iload 6, 2) := by decide +kernel
theorem d10_14 : decode jdk_2529_method_4_code 14 = .ok (.bipush 65, 2) := by decide +kernel
theorem d10_16 : decode jdk_2529_method_4_code 16 = .ok (.iload_n 2, 1) := by decide +kernel
theorem d10_17 : decode jdk_2529_method_4_code 17 = .ok (.iadd, 1) := by decide +kernel
theorem d10_18 : decode jdk_2529_method_4_code 18 = .ok (.if_icmp .ge 28, 3) := by decide +kernel
theorem d10_21 : decode jdk_2529_method_4_code 21 = .ok (.iload_n 2, 1) := by decide +kernel
theorem d10_22 : decode jdk_2529_method_4_code 22 = .ok (.iconst 1, 1) := by decide +kernel
theorem d10_23 : decode jdk_2529_method_4_code 23 = .ok (.iand, 1) := by decide +kernel
theorem d10_24 : decode jdk_2529_method_4_code 24 = .ok (.ifCond .le 22, 3) := by decide +kernel
theorem d10_46 : decode jdk_2529_method_4_code 46 = .ok (.iload 6, 2) := by decide +kernel
theorem d10_48 : decode jdk_2529_method_4_code 48 = .ok (.bipush 44, 2) := by decide +kernel
theorem d10_50 : decode jdk_2529_method_4_code 50 = .ok (.if_icmp .ge 11, 3) := by decide +kernel
theorem d10_53 : decode jdk_2529_method_4_code 53 = .ok (.aload_n 1, 1) := by decide +kernel
theorem d10_54 : decode jdk_2529_method_4_code 54 = .ok (.iload_n 3, 1) := by decide +kernel
theorem d10_55 : decode jdk_2529_method_4_code 55 = .ok (.iload 4, 2) := by decide +kernel
theorem d10_57 : decode jdk_2529_method_4_code 57 = .ok (.invokestatic 34, 3) := by decide +kernel
theorem d10_60 : decode jdk_2529_method_4_code 60 = .ok (.return_, 1) := by decide +kernel
theorem pf_12 : plainFor (⟨"java/util/DualPivotQuicksort", "sort", "(Ljava/util/DualPivotQuicksort$Sorter;[IIII)V"⟩ : MethodName) = true := by first | exact plainFor_of_name (by first | (simp [plainName, overriddenIn]; done) | decide +kernel) | decide +kernel
theorem d11_0 : decode jdk_2529_method_6_code 0 = .ok (.iload_n 1, 1) := by decide +kernel
theorem d11_1 : decode jdk_2529_method_6_code 1 = .ok (.istore 4, 2) := by decide +kernel
theorem d11_3 : decode jdk_2529_method_6_code 3 = .ok (.iinc 4 1, 3) := by decide +kernel
theorem d11_6 : decode jdk_2529_method_6_code 6 = .ok (.iload 4, 2) := by decide +kernel
theorem d11_8 : decode jdk_2529_method_6_code 8 = .ok (.iload_n 2, 1) := by decide +kernel
theorem d11_9 : decode jdk_2529_method_6_code 9 = .ok (.if_icmp .ge 58, 3) := by decide +kernel
theorem d11_12 : decode jdk_2529_method_6_code 12 = .ok (.aload_n 0, 1) := by decide +kernel
theorem d11_13 : decode jdk_2529_method_6_code 13 = .ok (.iload 4, 2) := by decide +kernel
theorem d11_15 : decode jdk_2529_method_6_code 15 = .ok (.dup, 1) := by decide +kernel
theorem d11_16 : decode jdk_2529_method_6_code 16 = .ok (.istore_n 3, 1) := by decide +kernel
theorem d11_17 : decode jdk_2529_method_6_code 17 = .ok (.iaload, 1) := by decide +kernel
theorem d11_18 : decode jdk_2529_method_6_code 18 = .ok (.istore 5, 2) := by decide +kernel
theorem d11_20 : decode jdk_2529_method_6_code 20 = .ok (.iload 5, 2) := by decide +kernel
theorem d11_22 : decode jdk_2529_method_6_code 22 = .ok (.aload_n 0, 1) := by decide +kernel
theorem d11_23 : decode jdk_2529_method_6_code 23 = .ok (.iload_n 3, 1) := by decide +kernel
theorem d11_24 : decode jdk_2529_method_6_code 24 = .ok (.iconst 1, 1) := by decide +kernel
theorem d11_25 : decode jdk_2529_method_6_code 25 = .ok (.isub, 1) := by decide +kernel
theorem d11_26 : decode jdk_2529_method_6_code 26 = .ok (.iaload, 1) := by decide +kernel
theorem d11_27 : decode jdk_2529_method_6_code 27 = .ok (.if_icmp .ge 37, 3) := by decide +kernel
theorem d11_30 : decode jdk_2529_method_6_code 30 = .ok (.iinc 3 (-1), 3) := by decide +kernel
theorem d11_33 : decode jdk_2529_method_6_code 33 = .ok (.iload_n 3, 1) := by decide +kernel
theorem d11_34 : decode jdk_2529_method_6_code 34 = .ok (.iload_n 1, 1) := by decide +kernel
theorem d11_35 : decode jdk_2529_method_6_code 35 = .ok (.if_icmp .lt 22, 3) := by decide +kernel
theorem d11_38 : decode jdk_2529_method_6_code 38 = .ok (.iload 5, 2) := by decide +kernel
theorem d11_40 : decode jdk_2529_method_6_code 40 = .ok (.aload_n 0, 1) := by decide +kernel
theorem d11_41 : decode jdk_2529_method_6_code 41 = .ok (.iload_n 3, 1) := by decide +kernel
theorem d11_42 : decode jdk_2529_method_6_code 42 = .ok (.iaload, 1) := by decide +kernel
theorem d11_43 : decode jdk_2529_method_6_code 43 = .ok (.if_icmp .ge 14, 3) := by decide +kernel
theorem d11_46 : decode jdk_2529_method_6_code 46 = .ok (.aload_n 0, 1) := by decide +kernel
theorem d11_47 : decode jdk_2529_method_6_code 47 = .ok (.iload_n 3, 1) := by decide +kernel
theorem d11_48 : decode jdk_2529_method_6_code 48 = .ok (.iconst 1, 1) := by decide +kernel
theorem d11_49 : decode jdk_2529_method_6_code 49 = .ok (.iadd, 1) := by decide +kernel
theorem d11_50 : decode jdk_2529_method_6_code 50 = .ok (.aload_n 0, 1) := by decide +kernel
theorem d11_51 : decode jdk_2529_method_6_code 51 = .ok (.iload_n 3, 1) := by decide +kernel
theorem d11_52 : decode jdk_2529_method_6_code 52 = .ok (.iaload, 1) := by decide +kernel
theorem d11_53 : decode jdk_2529_method_6_code 53 = .ok (.iastore, 1) := by decide +kernel
theorem d11_54 : decode jdk_2529_method_6_code 54 = .ok (.goto (-24), 3) := by decide +kernel
theorem d11_57 : decode jdk_2529_method_6_code 57 = .ok (.aload_n 0, 1) := by decide +kernel
theorem d11_58 : decode jdk_2529_method_6_code 58 = .ok (.iload_n 3, 1) := by decide +kernel
theorem d11_59 : decode jdk_2529_method_6_code 59 = .ok (.iconst 1, 1) := by decide +kernel
theorem d11_60 : decode jdk_2529_method_6_code 60 = .ok (.iadd, 1) := by decide +kernel
theorem d11_61 : decode jdk_2529_method_6_code 61 = .ok (.iload 5, 2) := by decide +kernel
theorem d11_63 : decode jdk_2529_method_6_code 63 = .ok (.iastore, 1) := by decide +kernel
theorem d11_64 : decode jdk_2529_method_6_code 64 = .ok (.goto (-61), 3) := by decide +kernel
theorem d11_67 : decode jdk_2529_method_6_code 67 = .ok (.return_, 1) := by decide +kernel
theorem pf_13 : plainFor (⟨"java/util/DualPivotQuicksort", "insertionSort", "([III)V"⟩ : MethodName) = true := by first | exact plainFor_of_name (by first | (simp [plainName, overriddenIn]; done) | decide +kernel) | decide +kernel
def Qau3558_11 (Z : State) (n0 : Nat) (h0 : Heap) (o0 : Addr) (v : Option Value) (h' : Heap) : Prop := (v = none) ∧ (h0 = h')
theorem ef_au3558_11 (m : MethodId) (o0 : Addr) : entryFrame m #[(.ref o0), (.int 0), (.int 0)] 6 = mkF m 0 #[rv o0, iv 0, iv 0, .unset, .unset, .unset] [] := by first | (simp [entryFrame, mkF, argsToLocals, Value.category]; done) | rfl
set_option maxRecDepth 65536 in
set_option maxHeartbeats 40000000 in
theorem au3558_11 (l : Launch) (Z : State) (a0 : Array Value) (hw : ∀ d ∈ tables_1, d.before a0 Z = true) (n0 : Nat) (h0 : Heap) (hn0 : n0 ≤ h0.size) (o0 : Addr) (P0 : Av Z h0 o0 .int zI48) (g_o0 : n0 ≤ o0) :
    Con l Z n0 [] (⟨"java/util/DualPivotQuicksort", "insertionSort", "([III)V"⟩ : MethodName) jdk_2529_method_6_code 6 none ({ frames := 0, cells := 0, slots := 0, locals := 0 } : Room) #[(.ref o0), (.int 0), (.int 0)] h0 (Qau3558_11 Z n0 h0 o0) := by
  refine Con.of pf_13 (fun m => ef_au3558_11 m o0) hn0 ?_
  intro p e s m below meth c C
  refine C.iloadN d11_0 rfl rfl ?_
  refine C.istore (Ls' := #[rv o0, iv 0, iv 0, .unset, iv 0, .unset]) d11_1 rfl rfl ?_
  refine C.iinc (Ls' := #[rv o0, iv 0, iv 0, .unset, iv 1, .unset]) 1 d11_3 rfl rfl rfl rfl ?_
  refine C.iload d11_6 rfl rfl ?_
  refine C.iloadN d11_8 rfl rfl ?_
  refine C.icmp_ge_t d11_9 (by decide) rfl (by decide) ?_
  exact C.ret0 d11_67 (by decide) (by decide) ⟨rfl, rfl⟩
theorem pd_8 : parseMethodDescriptor "([III)V" = some ⟨[(.array .int), .int, .int], none⟩ := by decide +kernel
def Qau3557_10 (Z : State) (n0 : Nat) (h0 : Heap) (o0 : Addr) (v : Option Value) (h' : Heap) : Prop := (v = none) ∧ (h0 = h')
theorem ef_au3557_10 (m : MethodId) (o0 : Addr) : entryFrame m #[.null, (.ref o0), (.int 0), (.int 0), (.int 0)] 21 = mkF m 0 #[.val (.null), rv o0, iv 0, iv 0, iv 0, .unset, .unset, .unset, .unset, .unset, .unset, .unset, .unset, .unset, .unset, .unset, .unset, .unset, .unset, .unset, .unset] [] := by first | (simp [entryFrame, mkF, argsToLocals, Value.category]; done) | rfl
set_option maxRecDepth 65536 in
set_option maxHeartbeats 40000000 in
theorem au3557_10 (l : Launch) (Z : State) (a0 : Array Value) (hw : ∀ d ∈ tables_1, d.before a0 Z = true) (n0 : Nat) (h0 : Heap) (hn0 : n0 ≤ h0.size) (o0 : Addr) (P0 : Av Z h0 o0 .int zI48) (g_o0 : n0 ≤ o0) :
    Con l Z n0 [] (⟨"java/util/DualPivotQuicksort", "sort", "(Ljava/util/DualPivotQuicksort$Sorter;[IIII)V"⟩ : MethodName) jdk_2529_method_4_code 21 none ({ frames := 1, cells := 0, slots := 0, locals := 17 } : Room) #[.null, (.ref o0), (.int 0), (.int 0), (.int 0)] h0 (Qau3557_10 Z n0 h0 o0) := by
  refine Con.of pf_12 (fun m => ef_au3557_10 m o0) hn0 ?_
  intro p e s m below meth c C
  refine C.iload d10_0 rfl rfl ?_
  refine C.iconst 1 d10_2 rfl rfl ?_
  refine C.isub d10_3 rfl ?_
  refine Go.cI (y := (-1)) rfl ?_
  refine C.istore (Ls' := #[.val (.null), rv o0, iv 0, iv 0, iv 0, iv (-1), .unset, .unset, .unset, .unset, .unset, .unset, .unset, .unset, .unset, .unset, .unset, .unset, .unset, .unset, .unset]) d10_4 rfl rfl ?_
  refine C.iload d10_6 rfl rfl ?_
  refine C.iloadN d10_8 rfl rfl ?_
  refine C.isub d10_9 rfl ?_
  refine Go.cI (y := 0) rfl ?_
  refine C.istore (Ls' := #[.val (.null), rv o0, iv 0, iv 0, iv 0, iv (-1), iv 0, .unset, .unset, .unset, .unset, .unset, .unset, .unset, .unset, .unset, .unset, .unset, .unset, .unset, .unset]) d10_10 rfl rfl ?_
  refine C.iload d10_12 rfl rfl ?_
  refine C.bipush 65 d10_14 rfl rfl ?_
  refine C.iloadN d10_16 rfl rfl ?_
  refine C.iadd d10_17 rfl ?_
  refine Go.cI (y := 65) rfl ?_
  refine C.icmp_ge_f d10_18 rfl (by decide) ?_
  refine C.iloadN d10_21 rfl rfl ?_
  refine C.iconst 1 d10_22 rfl rfl ?_
  refine C.iand d10_23 rfl ?_
  refine Go.cI (y := 0) rfl ?_
  refine C.if_le_t d10_24 (by decide) rfl (by decide) ?_
  refine C.iload d10_46 rfl rfl ?_
  refine C.bipush 44 d10_48 rfl rfl ?_
  refine C.icmp_ge_f d10_50 rfl (by decide) ?_
  refine C.aloadN d10_53 rfl rfl rfl ?_
  refine C.iloadN d10_54 rfl rfl ?_
  refine C.iload d10_55 rfl rfl ?_
  refine C.callS (argsL := [(.ref o0), (.int 0), (.int 0)]) (rest := []) 0 (fun zz => au3558_11 l Z a0 hw n0 h0 zz o0 P0 g_o0) d10_57 rfl (tw hw 54 rfl) (tw hw 55 rfl) (tw hw 49 rfl) (tw hw 56 rfl) (by decide) pd_8 rfl rfl rfl (Nat.le_of_eq rfl) (by decide) (by decide) (by decide) (by decide) (fun v3567 h3568 r3569 => ?_)
  obtain ⟨rfl, rfl⟩ := r3569
  exact C.ret0 d10_60 (by decide) (by decide) ⟨rfl, rfl⟩
theorem pd_9 : parseMethodDescriptor "(Ljava/util/DualPivotQuicksort$Sorter;[IIII)V" = some ⟨[(.object "java/util/DualPivotQuicksort$Sorter"), (.array .int), .int, .int, .int], none⟩ := by decide +kernel
def Qau3556_9 (Z : State) (n0 : Nat) (h0 : Heap) (o0 : Addr) (v : Option Value) (h' : Heap) : Prop := (v = none) ∧ (h0 = h')
theorem ef_au3556_9 (m : MethodId) (o0 : Addr) : entryFrame m #[(.ref o0), (.int 0), (.int 0), (.int 0)] 7 = mkF m 0 #[rv o0, iv 0, iv 0, iv 0, .unset, .unset, .unset] [] := by first | (simp [entryFrame, mkF, argsToLocals, Value.category]; done) | rfl
set_option maxRecDepth 65536 in
set_option maxHeartbeats 40000000 in
theorem au3556_9 (l : Launch) (Z : State) (a0 : Array Value) (hw : ∀ d ∈ tables_1, d.before a0 Z = true) (n0 : Nat) (h0 : Heap) (hn0 : n0 ≤ h0.size) (o0 : Addr) (P0 : Av Z h0 o0 .int zI48) (g_o0 : n0 ≤ o0) :
    Con l Z n0 [] (⟨"java/util/DualPivotQuicksort", "sort", "([IIII)V"⟩ : MethodName) jdk_2529_method_3_code 7 none ({ frames := 2, cells := 0, slots := 0, locals := 49 } : Room) #[(.ref o0), (.int 0), (.int 0), (.int 0)] h0 (Qau3556_9 Z n0 h0 o0) := by
  refine Con.of pf_11 (fun m => ef_au3556_9 m o0) hn0 ?_
  intro p e s m below meth c C
  refine C.iloadN d9_0 rfl rfl ?_
  refine C.iloadN d9_1 rfl rfl ?_
  refine C.isub d9_2 rfl ?_
  refine Go.cI (y := 0) rfl ?_
  refine C.istore (Ls' := #[rv o0, iv 0, iv 0, iv 0, iv 0, .unset, .unset]) d9_3 rfl rfl ?_
  refine C.iloadN d9_5 rfl rfl ?_
  refine C.iconst 1 d9_6 rfl rfl ?_
  refine C.icmp_le_t d9_7 (by decide) rfl (by decide) ?_
  refine C.aconst_null d9_68 rfl ?_
  refine C.aloadN d9_69 rfl rfl rfl ?_
  refine C.iconst 0 d9_70 rfl rfl ?_
  refine C.iloadN d9_71 rfl rfl ?_
  refine C.iloadN d9_72 rfl rfl ?_
  refine C.callS (argsL := [.null, (.ref o0), (.int 0), (.int 0), (.int 0)]) (rest := []) 0 (fun zz => au3557_10 l Z a0 hw n0 h0 zz o0 P0 g_o0) d9_73 rfl (tw hw 51 rfl) (tw hw 52 rfl) (tw hw 49 rfl) (tw hw 53 rfl) (by decide) pd_9 rfl rfl rfl (Nat.le_of_eq rfl) (by decide) (by decide) (by decide) (by decide) (fun v3579 h3580 r3581 => ?_)
  obtain ⟨rfl, rfl⟩ := r3581
  exact C.ret0 d9_76 (by decide) (by decide) ⟨rfl, rfl⟩
theorem pd_10 : parseMethodDescriptor "([IIII)V" = some ⟨[(.array .int), .int, .int, .int], none⟩ := by decide +kernel
def Qau3550_7 (Z : State) (n0 : Nat) (h0 : Heap) (o0 : Addr) (v : Option Value) (h' : Heap) : Prop := (v = none) ∧ (h0 = h')
theorem ef_au3550_7 (m : MethodId) (o0 : Addr) : entryFrame m #[(.ref o0), (.int 0), (.int 0)] 3 = mkF m 0 #[rv o0, iv 0, iv 0] [] := by first | (simp [entryFrame, mkF, argsToLocals, Value.category]; done) | rfl
set_option maxRecDepth 65536 in
set_option maxHeartbeats 40000000 in
theorem au3550_7 (l : Launch) (Z : State) (a0 : Array Value) (hw : ∀ d ∈ tables_1, d.before a0 Z = true) (n0 : Nat) (h0 : Heap) (hn0 : n0 ≤ h0.size) (o0 : Addr) (P0 : Av Z h0 o0 .int zI48) (g_o0 : n0 ≤ o0) :
    Con l Z n0 [] (⟨"java/util/Arrays", "sort", "([III)V"⟩ : MethodName) jdk_65_method_3_code 3 none ({ frames := 3, cells := 0, slots := 0, locals := 67 } : Room) #[(.ref o0), (.int 0), (.int 0)] h0 (Qau3550_7 Z n0 h0 o0) := by
  refine Con.of pf_9 (fun m => ef_au3550_7 m o0) hn0 ?_
  intro p e s m below meth c C
  refine C.aloadN d7_0 rfl rfl rfl ?_
  refine C.alen d7_1 rfl P0 ?_
  refine Go.cI (y := 48) rfl ?_
  refine C.iloadN d7_2 rfl rfl ?_
  refine C.iloadN d7_3 rfl rfl ?_
  refine C.callS (argsL := [(.int 48), (.int 0), (.int 0)]) (rest := []) 0 (fun zz => au3551_8 l Z a0 hw n0 h0 zz  ) d7_4 rfl (tw hw 44 rfl) (tw hw 45 rfl) (tw hw 42 rfl) (tw hw 46 rfl) (by decide) pd_7 rfl rfl rfl (Nat.le_of_eq rfl) (by decide) (by decide) (by decide) (by decide) (fun v3595 h3596 r3597 => ?_)
  obtain ⟨rfl, rfl⟩ := r3597
  refine C.aloadN d7_7 rfl rfl rfl ?_
  refine C.iconst 0 d7_8 rfl rfl ?_
  refine C.iloadN d7_9 rfl rfl ?_
  refine C.iloadN d7_10 rfl rfl ?_
  refine C.callS (argsL := [(.ref o0), (.int 0), (.int 0), (.int 0)]) (rest := []) 0 (fun zz => au3556_9 l Z a0 hw n0 h0 zz o0 P0 g_o0) d7_11 rfl (tw hw 47 rfl) (tw hw 48 rfl) (tw hw 49 rfl) (tw hw 50 rfl) (by decide) pd_10 rfl rfl rfl (Nat.le_of_eq rfl) (by decide) (by decide) (by decide) (by decide) (fun v3599 h3600 r3601 => ?_)
  obtain ⟨rfl, rfl⟩ := r3601
  exact C.ret0 d7_14 (by decide) (by decide) ⟨rfl, rfl⟩
def Qau3549_6 (Z : State) (n0 : Nat) (h0 : Heap) (o0 : Addr) (o1 : Addr) (o2 : Addr) (j0 : Int64) (j1 : Int64) (j2 : Int64) (v : Option Value) (h' : Heap) : Prop := (v = none) ∧ (h0 = h')
theorem ef_au3549_6 (m : MethodId) (o0 : Addr) : entryFrame m #[(.ref o0)] 2 = mkF m 0 #[rv o0, .unset] [] := by first | (simp [entryFrame, mkF, argsToLocals, Value.category]; done) | rfl
set_option maxRecDepth 65536 in
set_option maxHeartbeats 40000000 in
theorem au3549_6 (l : Launch) (Z : State) (a0 : Array Value) (hw : ∀ d ∈ tables_1, d.before a0 Z = true) (n0 : Nat) (h0 : Heap) (hn0 : n0 ≤ h0.size) (o0 : Addr) (o1 : Addr) (o2 : Addr) (j0 : Int64) (j1 : Int64) (j2 : Int64) (P0 : Exa Z h0 o0 kC0) (P1 : Fld Z h0 o0 kC0 "count" "I" (.int 0)) (P2 : Fld Z h0 o0 kC0 "held" "[I" (.ref o1)) (P3 : Fld Z h0 o0 kC0 "listing" "Z" (.int 1)) (P4 : Fld Z h0 o0 kC0 "words" "[J" (.ref o2)) (P5 : Av Z h0 o1 .int zI48) (P6 : Av Z h0 o2 .long (.long j0 :: .long j1 :: .long j2 :: zJ45)) (g_o0 : n0 ≤ o0) (g_o1 : n0 ≤ o1) (g_o2 : n0 ≤ o2) (ne_o0_o1 : o0 ≠ o1) (ne_o0_o2 : o0 ≠ o2) (ne_o1_o2 : o1 ≠ o2) :
    Con l Z n0 [] (⟨"com/example/detra/detra/SetWords", "listHeld", "()V"⟩ : MethodName) prog_21_method_7_code 2 none ({ frames := 4, cells := 0, slots := 0, locals := 81 } : Room) #[(.ref o0)] h0 (Qau3549_6 Z n0 h0 o0 o1 o2 j0 j1 j2) := by
  refine Con.of pf_3 (fun m => ef_au3549_6 m o0) hn0 ?_
  intro p e s m below meth c C
  refine C.aloadN d6_0 rfl rfl rfl ?_
  refine C.getF d6_1 rfl (tw hw 14 rfl) P3 ?_
  refine C.if_eq_f d6_4 rfl (by decide) ?_
  refine C.aloadN d6_7 rfl rfl rfl ?_
  refine C.getF d6_8 rfl (tw hw 38 rfl) P1 ?_
  refine C.aloadN d6_11 rfl rfl rfl ?_
  refine C.getF d6_12 rfl (tw hw 12 rfl) P4 ?_
  refine C.alen d6_15 rfl P6 ?_
  refine Go.cI (y := 48) rfl ?_
  refine C.bipush 16 d6_16 rfl rfl ?_
  refine C.idiv d6_18 rfl (by decide) ?_
  refine Go.cI (y := 3) rfl ?_
  refine C.icmp_le_t d6_19 (by decide) rfl (by decide) ?_
  refine C.aloadN d6_75 rfl rfl rfl ?_
  refine C.getF d6_76 rfl (tw hw 17 rfl) P2 ?_
  refine C.iconst 0 d6_79 rfl rfl ?_
  refine C.aloadN d6_80 rfl rfl rfl ?_
  refine C.getF d6_81 rfl (tw hw 38 rfl) P1 ?_
  refine C.callS (argsL := [(.ref o1), (.int 0), (.int 0)]) (rest := []) 0 (fun zz => au3550_7 l Z a0 hw n0 h0 zz o1 P5 g_o1) d6_84 rfl (tw hw 40 rfl) (tw hw 41 rfl) (tw hw 42 rfl) (tw hw 43 rfl) (by decide) pd_8 rfl rfl rfl (Nat.le_of_eq rfl) (by decide) (by decide) (by decide) (by decide) (fun v3611 h3612 r3613 => ?_)
  obtain ⟨rfl, rfl⟩ := r3613
  exact C.ret0 d6_87 (by decide) (by decide) ⟨rfl, rfl⟩
def Qau3621_8 (Z : State) (n0 : Nat) (h0 : Heap)  (v : Option Value) (h' : Heap) : Prop := (v = none) ∧ (h0 = h')
theorem ef_au3621_8 (m : MethodId)  : entryFrame m #[(.int 48), (.int 0), (.int 1)] 3 = mkF m 0 #[iv 48, iv 0, iv 1] [] := by first | (simp [entryFrame, mkF, argsToLocals, Value.category]; done) | rfl
set_option maxRecDepth 65536 in
set_option maxHeartbeats 40000000 in
theorem au3621_8 (l : Launch) (Z : State) (a0 : Array Value) (hw : ∀ d ∈ tables_1, d.before a0 Z = true) (n0 : Nat) (h0 : Heap) (hn0 : n0 ≤ h0.size)  :
    Con l Z n0 [] (⟨"java/util/Arrays", "rangeCheck", "(III)V"⟩ : MethodName) jdk_65_method_30_code 3 none ({ frames := 0, cells := 0, slots := 0, locals := 0 } : Room) #[(.int 48), (.int 0), (.int 1)] h0 (Qau3621_8 Z n0 h0) := by
  refine Con.of pf_10 (fun m => ef_au3621_8 m ) hn0 ?_
  intro p e s m below meth c C
  refine C.iloadN d8_0 rfl rfl ?_
  refine C.iloadN d8_1 rfl rfl ?_
  refine C.icmp_le_t d8_2 (by decide) rfl (by decide) ?_
  refine C.iloadN d8_46 rfl rfl ?_
  refine C.if_ge_t d8_47 (by decide) rfl (by decide) ?_
  refine C.iloadN d8_59 rfl rfl ?_
  refine C.iloadN d8_60 rfl rfl ?_
  refine C.icmp_le_t d8_61 (by decide) rfl (by decide) ?_
  exact C.ret0 d8_73 (by decide) (by decide) ⟨rfl, rfl⟩
def Qau3628_11 (Z : State) (n0 : Nat) (h0 : Heap) (o0 : Addr) (v : Option Value) (h' : Heap) : Prop := (v = none) ∧ (h0 = h')
theorem ef_au3628_11 (m : MethodId) (o0 : Addr) : entryFrame m #[(.ref o0), (.int 0), (.int 1)] 6 = mkF m 0 #[rv o0, iv 0, iv 1, .unset, .unset, .unset] [] := by first | (simp [entryFrame, mkF, argsToLocals, Value.category]; done) | rfl
set_option maxRecDepth 65536 in
set_option maxHeartbeats 40000000 in
theorem au3628_11 (l : Launch) (Z : State) (a0 : Array Value) (hw : ∀ d ∈ tables_1, d.before a0 Z = true) (n0 : Nat) (h0 : Heap) (hn0 : n0 ≤ h0.size) (o0 : Addr) (P0 : Av Z h0 o0 .int zI48) (g_o0 : n0 ≤ o0) :
    Con l Z n0 [] (⟨"java/util/DualPivotQuicksort", "insertionSort", "([III)V"⟩ : MethodName) jdk_2529_method_6_code 6 none ({ frames := 0, cells := 0, slots := 0, locals := 0 } : Room) #[(.ref o0), (.int 0), (.int 1)] h0 (Qau3628_11 Z n0 h0 o0) := by
  refine Con.of pf_13 (fun m => ef_au3628_11 m o0) hn0 ?_
  intro p e s m below meth c C
  refine C.iloadN d11_0 rfl rfl ?_
  refine C.istore (Ls' := #[rv o0, iv 0, iv 1, .unset, iv 0, .unset]) d11_1 rfl rfl ?_
  refine C.iinc (Ls' := #[rv o0, iv 0, iv 1, .unset, iv 1, .unset]) 1 d11_3 rfl rfl rfl rfl ?_
  refine C.iload d11_6 rfl rfl ?_
  refine C.iloadN d11_8 rfl rfl ?_
  refine C.icmp_ge_t d11_9 (by decide) rfl (by decide) ?_
  exact C.ret0 d11_67 (by decide) (by decide) ⟨rfl, rfl⟩
def Qau3627_10 (Z : State) (n0 : Nat) (h0 : Heap) (o0 : Addr) (v : Option Value) (h' : Heap) : Prop := (v = none) ∧ (h0 = h')
theorem ef_au3627_10 (m : MethodId) (o0 : Addr) : entryFrame m #[.null, (.ref o0), (.int 0), (.int 0), (.int 1)] 21 = mkF m 0 #[.val (.null), rv o0, iv 0, iv 0, iv 1, .unset, .unset, .unset, .unset, .unset, .unset, .unset, .unset, .unset, .unset, .unset, .unset, .unset, .unset, .unset, .unset] [] := by first | (simp [entryFrame, mkF, argsToLocals, Value.category]; done) | rfl
set_option maxRecDepth 65536 in
set_option maxHeartbeats 40000000 in
theorem au3627_10 (l : Launch) (Z : State) (a0 : Array Value) (hw : ∀ d ∈ tables_1, d.before a0 Z = true) (n0 : Nat) (h0 : Heap) (hn0 : n0 ≤ h0.size) (o0 : Addr) (P0 : Av Z h0 o0 .int zI48) (g_o0 : n0 ≤ o0) :
    Con l Z n0 [] (⟨"java/util/DualPivotQuicksort", "sort", "(Ljava/util/DualPivotQuicksort$Sorter;[IIII)V"⟩ : MethodName) jdk_2529_method_4_code 21 none ({ frames := 1, cells := 0, slots := 0, locals := 17 } : Room) #[.null, (.ref o0), (.int 0), (.int 0), (.int 1)] h0 (Qau3627_10 Z n0 h0 o0) := by
  refine Con.of pf_12 (fun m => ef_au3627_10 m o0) hn0 ?_
  intro p e s m below meth c C
  refine C.iload d10_0 rfl rfl ?_
  refine C.iconst 1 d10_2 rfl rfl ?_
  refine C.isub d10_3 rfl ?_
  refine Go.cI (y := 0) rfl ?_
  refine C.istore (Ls' := #[.val (.null), rv o0, iv 0, iv 0, iv 1, iv 0, .unset, .unset, .unset, .unset, .unset, .unset, .unset, .unset, .unset, .unset, .unset, .unset, .unset, .unset, .unset]) d10_4 rfl rfl ?_
  refine C.iload d10_6 rfl rfl ?_
  refine C.iloadN d10_8 rfl rfl ?_
  refine C.isub d10_9 rfl ?_
  refine Go.cI (y := 1) rfl ?_
  refine C.istore (Ls' := #[.val (.null), rv o0, iv 0, iv 0, iv 1, iv 0, iv 1, .unset, .unset, .unset, .unset, .unset, .unset, .unset, .unset, .unset, .unset, .unset, .unset, .unset, .unset]) d10_10 rfl rfl ?_
  refine C.iload d10_12 rfl rfl ?_
  refine C.bipush 65 d10_14 rfl rfl ?_
  refine C.iloadN d10_16 rfl rfl ?_
  refine C.iadd d10_17 rfl ?_
  refine Go.cI (y := 65) rfl ?_
  refine C.icmp_ge_f d10_18 rfl (by decide) ?_
  refine C.iloadN d10_21 rfl rfl ?_
  refine C.iconst 1 d10_22 rfl rfl ?_
  refine C.iand d10_23 rfl ?_
  refine Go.cI (y := 0) rfl ?_
  refine C.if_le_t d10_24 (by decide) rfl (by decide) ?_
  refine C.iload d10_46 rfl rfl ?_
  refine C.bipush 44 d10_48 rfl rfl ?_
  refine C.icmp_ge_f d10_50 rfl (by decide) ?_
  refine C.aloadN d10_53 rfl rfl rfl ?_
  refine C.iloadN d10_54 rfl rfl ?_
  refine C.iload d10_55 rfl rfl ?_
  refine C.callS (argsL := [(.ref o0), (.int 0), (.int 1)]) (rest := []) 0 (fun zz => au3628_11 l Z a0 hw n0 h0 zz o0 P0 g_o0) d10_57 rfl (tw hw 54 rfl) (tw hw 55 rfl) (tw hw 49 rfl) (tw hw 56 rfl) (by decide) pd_8 rfl rfl rfl (Nat.le_of_eq rfl) (by decide) (by decide) (by decide) (by decide) (fun v3637 h3638 r3639 => ?_)
  obtain ⟨rfl, rfl⟩ := r3639
  exact C.ret0 d10_60 (by decide) (by decide) ⟨rfl, rfl⟩
def Qau3626_9 (Z : State) (n0 : Nat) (h0 : Heap) (o0 : Addr) (v : Option Value) (h' : Heap) : Prop := (v = none) ∧ (h0 = h')
theorem ef_au3626_9 (m : MethodId) (o0 : Addr) : entryFrame m #[(.ref o0), (.int 0), (.int 0), (.int 1)] 7 = mkF m 0 #[rv o0, iv 0, iv 0, iv 1, .unset, .unset, .unset] [] := by first | (simp [entryFrame, mkF, argsToLocals, Value.category]; done) | rfl
set_option maxRecDepth 65536 in
set_option maxHeartbeats 40000000 in
theorem au3626_9 (l : Launch) (Z : State) (a0 : Array Value) (hw : ∀ d ∈ tables_1, d.before a0 Z = true) (n0 : Nat) (h0 : Heap) (hn0 : n0 ≤ h0.size) (o0 : Addr) (P0 : Av Z h0 o0 .int zI48) (g_o0 : n0 ≤ o0) :
    Con l Z n0 [] (⟨"java/util/DualPivotQuicksort", "sort", "([IIII)V"⟩ : MethodName) jdk_2529_method_3_code 7 none ({ frames := 2, cells := 0, slots := 0, locals := 49 } : Room) #[(.ref o0), (.int 0), (.int 0), (.int 1)] h0 (Qau3626_9 Z n0 h0 o0) := by
  refine Con.of pf_11 (fun m => ef_au3626_9 m o0) hn0 ?_
  intro p e s m below meth c C
  refine C.iloadN d9_0 rfl rfl ?_
  refine C.iloadN d9_1 rfl rfl ?_
  refine C.isub d9_2 rfl ?_
  refine Go.cI (y := 1) rfl ?_
  refine C.istore (Ls' := #[rv o0, iv 0, iv 0, iv 1, iv 1, .unset, .unset]) d9_3 rfl rfl ?_
  refine C.iloadN d9_5 rfl rfl ?_
  refine C.iconst 1 d9_6 rfl rfl ?_
  refine C.icmp_le_t d9_7 (by decide) rfl (by decide) ?_
  refine C.aconst_null d9_68 rfl ?_
  refine C.aloadN d9_69 rfl rfl rfl ?_
  refine C.iconst 0 d9_70 rfl rfl ?_
  refine C.iloadN d9_71 rfl rfl ?_
  refine C.iloadN d9_72 rfl rfl ?_
  refine C.callS (argsL := [.null, (.ref o0), (.int 0), (.int 0), (.int 1)]) (rest := []) 0 (fun zz => au3627_10 l Z a0 hw n0 h0 zz o0 P0 g_o0) d9_73 rfl (tw hw 51 rfl) (tw hw 52 rfl) (tw hw 49 rfl) (tw hw 53 rfl) (by decide) pd_9 rfl rfl rfl (Nat.le_of_eq rfl) (by decide) (by decide) (by decide) (by decide) (fun v3649 h3650 r3651 => ?_)
  obtain ⟨rfl, rfl⟩ := r3651
  exact C.ret0 d9_76 (by decide) (by decide) ⟨rfl, rfl⟩
def Qau3620_7 (Z : State) (n0 : Nat) (h0 : Heap) (o0 : Addr) (v : Option Value) (h' : Heap) : Prop := (v = none) ∧ (h0 = h')
theorem ef_au3620_7 (m : MethodId) (o0 : Addr) : entryFrame m #[(.ref o0), (.int 0), (.int 1)] 3 = mkF m 0 #[rv o0, iv 0, iv 1] [] := by first | (simp [entryFrame, mkF, argsToLocals, Value.category]; done) | rfl
set_option maxRecDepth 65536 in
set_option maxHeartbeats 40000000 in
theorem au3620_7 (l : Launch) (Z : State) (a0 : Array Value) (hw : ∀ d ∈ tables_1, d.before a0 Z = true) (n0 : Nat) (h0 : Heap) (hn0 : n0 ≤ h0.size) (o0 : Addr) (P0 : Av Z h0 o0 .int zI48) (g_o0 : n0 ≤ o0) :
    Con l Z n0 [] (⟨"java/util/Arrays", "sort", "([III)V"⟩ : MethodName) jdk_65_method_3_code 3 none ({ frames := 3, cells := 0, slots := 0, locals := 67 } : Room) #[(.ref o0), (.int 0), (.int 1)] h0 (Qau3620_7 Z n0 h0 o0) := by
  refine Con.of pf_9 (fun m => ef_au3620_7 m o0) hn0 ?_
  intro p e s m below meth c C
  refine C.aloadN d7_0 rfl rfl rfl ?_
  refine C.alen d7_1 rfl P0 ?_
  refine Go.cI (y := 48) rfl ?_
  refine C.iloadN d7_2 rfl rfl ?_
  refine C.iloadN d7_3 rfl rfl ?_
  refine C.callS (argsL := [(.int 48), (.int 0), (.int 1)]) (rest := []) 0 (fun zz => au3621_8 l Z a0 hw n0 h0 zz  ) d7_4 rfl (tw hw 44 rfl) (tw hw 45 rfl) (tw hw 42 rfl) (tw hw 46 rfl) (by decide) pd_7 rfl rfl rfl (Nat.le_of_eq rfl) (by decide) (by decide) (by decide) (by decide) (fun v3665 h3666 r3667 => ?_)
  obtain ⟨rfl, rfl⟩ := r3667
  refine C.aloadN d7_7 rfl rfl rfl ?_
  refine C.iconst 0 d7_8 rfl rfl ?_
  refine C.iloadN d7_9 rfl rfl ?_
  refine C.iloadN d7_10 rfl rfl ?_
  refine C.callS (argsL := [(.ref o0), (.int 0), (.int 0), (.int 1)]) (rest := []) 0 (fun zz => au3626_9 l Z a0 hw n0 h0 zz o0 P0 g_o0) d7_11 rfl (tw hw 47 rfl) (tw hw 48 rfl) (tw hw 49 rfl) (tw hw 50 rfl) (by decide) pd_10 rfl rfl rfl (Nat.le_of_eq rfl) (by decide) (by decide) (by decide) (by decide) (fun v3669 h3670 r3671 => ?_)
  obtain ⟨rfl, rfl⟩ := r3671
  exact C.ret0 d7_14 (by decide) (by decide) ⟨rfl, rfl⟩
def Qau3619_6 (Z : State) (n0 : Nat) (h0 : Heap) (o0 : Addr) (o1 : Addr) (o2 : Addr) (j0 : Int64) (j1 : Int64) (j2 : Int64) (v : Option Value) (h' : Heap) : Prop := (v = none) ∧ (h0 = h')
theorem ef_au3619_6 (m : MethodId) (o0 : Addr) : entryFrame m #[(.ref o0)] 2 = mkF m 0 #[rv o0, .unset] [] := by first | (simp [entryFrame, mkF, argsToLocals, Value.category]; done) | rfl
set_option maxRecDepth 65536 in
set_option maxHeartbeats 40000000 in
theorem au3619_6 (l : Launch) (Z : State) (a0 : Array Value) (hw : ∀ d ∈ tables_1, d.before a0 Z = true) (n0 : Nat) (h0 : Heap) (hn0 : n0 ≤ h0.size) (o0 : Addr) (o1 : Addr) (o2 : Addr) (j0 : Int64) (j1 : Int64) (j2 : Int64) (P0 : Exa Z h0 o0 kC0) (P1 : Fld Z h0 o0 kC0 "count" "I" (.int 1)) (P2 : Fld Z h0 o0 kC0 "held" "[I" (.ref o1)) (P3 : Fld Z h0 o0 kC0 "listing" "Z" (.int 1)) (P4 : Fld Z h0 o0 kC0 "words" "[J" (.ref o2)) (P5 : Av Z h0 o1 .int zI48) (P6 : Av Z h0 o2 .long (.long j0 :: .long j1 :: .long j2 :: zJ45)) (g_o0 : n0 ≤ o0) (g_o1 : n0 ≤ o1) (g_o2 : n0 ≤ o2) (ne_o0_o1 : o0 ≠ o1) (ne_o0_o2 : o0 ≠ o2) (ne_o1_o2 : o1 ≠ o2) :
    Con l Z n0 [] (⟨"com/example/detra/detra/SetWords", "listHeld", "()V"⟩ : MethodName) prog_21_method_7_code 2 none ({ frames := 4, cells := 0, slots := 0, locals := 81 } : Room) #[(.ref o0)] h0 (Qau3619_6 Z n0 h0 o0 o1 o2 j0 j1 j2) := by
  refine Con.of pf_3 (fun m => ef_au3619_6 m o0) hn0 ?_
  intro p e s m below meth c C
  refine C.aloadN d6_0 rfl rfl rfl ?_
  refine C.getF d6_1 rfl (tw hw 14 rfl) P3 ?_
  refine C.if_eq_f d6_4 rfl (by decide) ?_
  refine C.aloadN d6_7 rfl rfl rfl ?_
  refine C.getF d6_8 rfl (tw hw 38 rfl) P1 ?_
  refine C.aloadN d6_11 rfl rfl rfl ?_
  refine C.getF d6_12 rfl (tw hw 12 rfl) P4 ?_
  refine C.alen d6_15 rfl P6 ?_
  refine Go.cI (y := 48) rfl ?_
  refine C.bipush 16 d6_16 rfl rfl ?_
  refine C.idiv d6_18 rfl (by decide) ?_
  refine Go.cI (y := 3) rfl ?_
  refine C.icmp_le_t d6_19 (by decide) rfl (by decide) ?_
  refine C.aloadN d6_75 rfl rfl rfl ?_
  refine C.getF d6_76 rfl (tw hw 17 rfl) P2 ?_
  refine C.iconst 0 d6_79 rfl rfl ?_
  refine C.aloadN d6_80 rfl rfl rfl ?_
  refine C.getF d6_81 rfl (tw hw 38 rfl) P1 ?_
  refine C.callS (argsL := [(.ref o1), (.int 0), (.int 1)]) (rest := []) 0 (fun zz => au3620_7 l Z a0 hw n0 h0 zz o1 P5 g_o1) d6_84 rfl (tw hw 40 rfl) (tw hw 41 rfl) (tw hw 42 rfl) (tw hw 43 rfl) (by decide) pd_8 rfl rfl rfl (Nat.le_of_eq rfl) (by decide) (by decide) (by decide) (by decide) (fun v3681 h3682 r3683 => ?_)
  obtain ⟨rfl, rfl⟩ := r3683
  exact C.ret0 d6_87 (by decide) (by decide) ⟨rfl, rfl⟩
def Qau3697_11 (Z : State) (n0 : Nat) (h0 : Heap) (o0 : Addr) (v : Option Value) (h' : Heap) : Prop := (v = none) ∧ (h0 = h')
theorem ef_au3697_11 (m : MethodId) (o0 : Addr) : entryFrame m #[(.ref o0), (.int 0), (.int 1)] 6 = mkF m 0 #[rv o0, iv 0, iv 1, .unset, .unset, .unset] [] := by first | (simp [entryFrame, mkF, argsToLocals, Value.category]; done) | rfl
set_option maxRecDepth 65536 in
set_option maxHeartbeats 40000000 in
theorem au3697_11 (l : Launch) (Z : State) (a0 : Array Value) (hw : ∀ d ∈ tables_1, d.before a0 Z = true) (n0 : Nat) (h0 : Heap) (hn0 : n0 ≤ h0.size) (o0 : Addr) (P0 : Av Z h0 o0 .int (.int 1 :: zI47)) (g_o0 : n0 ≤ o0) :
    Con l Z n0 [] (⟨"java/util/DualPivotQuicksort", "insertionSort", "([III)V"⟩ : MethodName) jdk_2529_method_6_code 6 none ({ frames := 0, cells := 0, slots := 0, locals := 0 } : Room) #[(.ref o0), (.int 0), (.int 1)] h0 (Qau3697_11 Z n0 h0 o0) := by
  refine Con.of pf_13 (fun m => ef_au3697_11 m o0) hn0 ?_
  intro p e s m below meth c C
  refine C.iloadN d11_0 rfl rfl ?_
  refine C.istore (Ls' := #[rv o0, iv 0, iv 1, .unset, iv 0, .unset]) d11_1 rfl rfl ?_
  refine C.iinc (Ls' := #[rv o0, iv 0, iv 1, .unset, iv 1, .unset]) 1 d11_3 rfl rfl rfl rfl ?_
  refine C.iload d11_6 rfl rfl ?_
  refine C.iloadN d11_8 rfl rfl ?_
  refine C.icmp_ge_t d11_9 (by decide) rfl (by decide) ?_
  exact C.ret0 d11_67 (by decide) (by decide) ⟨rfl, rfl⟩
def Qau3696_10 (Z : State) (n0 : Nat) (h0 : Heap) (o0 : Addr) (v : Option Value) (h' : Heap) : Prop := (v = none) ∧ (h0 = h')
theorem ef_au3696_10 (m : MethodId) (o0 : Addr) : entryFrame m #[.null, (.ref o0), (.int 0), (.int 0), (.int 1)] 21 = mkF m 0 #[.val (.null), rv o0, iv 0, iv 0, iv 1, .unset, .unset, .unset, .unset, .unset, .unset, .unset, .unset, .unset, .unset, .unset, .unset, .unset, .unset, .unset, .unset] [] := by first | (simp [entryFrame, mkF, argsToLocals, Value.category]; done) | rfl
set_option maxRecDepth 65536 in
set_option maxHeartbeats 40000000 in
theorem au3696_10 (l : Launch) (Z : State) (a0 : Array Value) (hw : ∀ d ∈ tables_1, d.before a0 Z = true) (n0 : Nat) (h0 : Heap) (hn0 : n0 ≤ h0.size) (o0 : Addr) (P0 : Av Z h0 o0 .int (.int 1 :: zI47)) (g_o0 : n0 ≤ o0) :
    Con l Z n0 [] (⟨"java/util/DualPivotQuicksort", "sort", "(Ljava/util/DualPivotQuicksort$Sorter;[IIII)V"⟩ : MethodName) jdk_2529_method_4_code 21 none ({ frames := 1, cells := 0, slots := 0, locals := 17 } : Room) #[.null, (.ref o0), (.int 0), (.int 0), (.int 1)] h0 (Qau3696_10 Z n0 h0 o0) := by
  refine Con.of pf_12 (fun m => ef_au3696_10 m o0) hn0 ?_
  intro p e s m below meth c C
  refine C.iload d10_0 rfl rfl ?_
  refine C.iconst 1 d10_2 rfl rfl ?_
  refine C.isub d10_3 rfl ?_
  refine Go.cI (y := 0) rfl ?_
  refine C.istore (Ls' := #[.val (.null), rv o0, iv 0, iv 0, iv 1, iv 0, .unset, .unset, .unset, .unset, .unset, .unset, .unset, .unset, .unset, .unset, .unset, .unset, .unset, .unset, .unset]) d10_4 rfl rfl ?_
  refine C.iload d10_6 rfl rfl ?_
  refine C.iloadN d10_8 rfl rfl ?_
  refine C.isub d10_9 rfl ?_
  refine Go.cI (y := 1) rfl ?_
  refine C.istore (Ls' := #[.val (.null), rv o0, iv 0, iv 0, iv 1, iv 0, iv 1, .unset, .unset, .unset, .unset, .unset, .unset, .unset, .unset, .unset, .unset, .unset, .unset, .unset, .unset]) d10_10 rfl rfl ?_
  refine C.iload d10_12 rfl rfl ?_
  refine C.bipush 65 d10_14 rfl rfl ?_
  refine C.iloadN d10_16 rfl rfl ?_
  refine C.iadd d10_17 rfl ?_
  refine Go.cI (y := 65) rfl ?_
  refine C.icmp_ge_f d10_18 rfl (by decide) ?_
  refine C.iloadN d10_21 rfl rfl ?_
  refine C.iconst 1 d10_22 rfl rfl ?_
  refine C.iand d10_23 rfl ?_
  refine Go.cI (y := 0) rfl ?_
  refine C.if_le_t d10_24 (by decide) rfl (by decide) ?_
  refine C.iload d10_46 rfl rfl ?_
  refine C.bipush 44 d10_48 rfl rfl ?_
  refine C.icmp_ge_f d10_50 rfl (by decide) ?_
  refine C.aloadN d10_53 rfl rfl rfl ?_
  refine C.iloadN d10_54 rfl rfl ?_
  refine C.iload d10_55 rfl rfl ?_
  refine C.callS (argsL := [(.ref o0), (.int 0), (.int 1)]) (rest := []) 0 (fun zz => au3697_11 l Z a0 hw n0 h0 zz o0 P0 g_o0) d10_57 rfl (tw hw 54 rfl) (tw hw 55 rfl) (tw hw 49 rfl) (tw hw 56 rfl) (by decide) pd_8 rfl rfl rfl (Nat.le_of_eq rfl) (by decide) (by decide) (by decide) (by decide) (fun v3706 h3707 r3708 => ?_)
  obtain ⟨rfl, rfl⟩ := r3708
  exact C.ret0 d10_60 (by decide) (by decide) ⟨rfl, rfl⟩
def Qau3695_9 (Z : State) (n0 : Nat) (h0 : Heap) (o0 : Addr) (v : Option Value) (h' : Heap) : Prop := (v = none) ∧ (h0 = h')
theorem ef_au3695_9 (m : MethodId) (o0 : Addr) : entryFrame m #[(.ref o0), (.int 0), (.int 0), (.int 1)] 7 = mkF m 0 #[rv o0, iv 0, iv 0, iv 1, .unset, .unset, .unset] [] := by first | (simp [entryFrame, mkF, argsToLocals, Value.category]; done) | rfl
set_option maxRecDepth 65536 in
set_option maxHeartbeats 40000000 in
theorem au3695_9 (l : Launch) (Z : State) (a0 : Array Value) (hw : ∀ d ∈ tables_1, d.before a0 Z = true) (n0 : Nat) (h0 : Heap) (hn0 : n0 ≤ h0.size) (o0 : Addr) (P0 : Av Z h0 o0 .int (.int 1 :: zI47)) (g_o0 : n0 ≤ o0) :
    Con l Z n0 [] (⟨"java/util/DualPivotQuicksort", "sort", "([IIII)V"⟩ : MethodName) jdk_2529_method_3_code 7 none ({ frames := 2, cells := 0, slots := 0, locals := 49 } : Room) #[(.ref o0), (.int 0), (.int 0), (.int 1)] h0 (Qau3695_9 Z n0 h0 o0) := by
  refine Con.of pf_11 (fun m => ef_au3695_9 m o0) hn0 ?_
  intro p e s m below meth c C
  refine C.iloadN d9_0 rfl rfl ?_
  refine C.iloadN d9_1 rfl rfl ?_
  refine C.isub d9_2 rfl ?_
  refine Go.cI (y := 1) rfl ?_
  refine C.istore (Ls' := #[rv o0, iv 0, iv 0, iv 1, iv 1, .unset, .unset]) d9_3 rfl rfl ?_
  refine C.iloadN d9_5 rfl rfl ?_
  refine C.iconst 1 d9_6 rfl rfl ?_
  refine C.icmp_le_t d9_7 (by decide) rfl (by decide) ?_
  refine C.aconst_null d9_68 rfl ?_
  refine C.aloadN d9_69 rfl rfl rfl ?_
  refine C.iconst 0 d9_70 rfl rfl ?_
  refine C.iloadN d9_71 rfl rfl ?_
  refine C.iloadN d9_72 rfl rfl ?_
  refine C.callS (argsL := [.null, (.ref o0), (.int 0), (.int 0), (.int 1)]) (rest := []) 0 (fun zz => au3696_10 l Z a0 hw n0 h0 zz o0 P0 g_o0) d9_73 rfl (tw hw 51 rfl) (tw hw 52 rfl) (tw hw 49 rfl) (tw hw 53 rfl) (by decide) pd_9 rfl rfl rfl (Nat.le_of_eq rfl) (by decide) (by decide) (by decide) (by decide) (fun v3718 h3719 r3720 => ?_)
  obtain ⟨rfl, rfl⟩ := r3720
  exact C.ret0 d9_76 (by decide) (by decide) ⟨rfl, rfl⟩
def Qau3690_7 (Z : State) (n0 : Nat) (h0 : Heap) (o0 : Addr) (v : Option Value) (h' : Heap) : Prop := (v = none) ∧ (h0 = h')
theorem ef_au3690_7 (m : MethodId) (o0 : Addr) : entryFrame m #[(.ref o0), (.int 0), (.int 1)] 3 = mkF m 0 #[rv o0, iv 0, iv 1] [] := by first | (simp [entryFrame, mkF, argsToLocals, Value.category]; done) | rfl
set_option maxRecDepth 65536 in
set_option maxHeartbeats 40000000 in
theorem au3690_7 (l : Launch) (Z : State) (a0 : Array Value) (hw : ∀ d ∈ tables_1, d.before a0 Z = true) (n0 : Nat) (h0 : Heap) (hn0 : n0 ≤ h0.size) (o0 : Addr) (P0 : Av Z h0 o0 .int (.int 1 :: zI47)) (g_o0 : n0 ≤ o0) :
    Con l Z n0 [] (⟨"java/util/Arrays", "sort", "([III)V"⟩ : MethodName) jdk_65_method_3_code 3 none ({ frames := 3, cells := 0, slots := 0, locals := 67 } : Room) #[(.ref o0), (.int 0), (.int 1)] h0 (Qau3690_7 Z n0 h0 o0) := by
  refine Con.of pf_9 (fun m => ef_au3690_7 m o0) hn0 ?_
  intro p e s m below meth c C
  refine C.aloadN d7_0 rfl rfl rfl ?_
  refine C.alen d7_1 rfl P0 ?_
  refine Go.cI (y := 48) rfl ?_
  refine C.iloadN d7_2 rfl rfl ?_
  refine C.iloadN d7_3 rfl rfl ?_
  refine C.callS (argsL := [(.int 48), (.int 0), (.int 1)]) (rest := []) 0 (fun zz => au3621_8 l Z a0 hw n0 h0 zz  ) d7_4 rfl (tw hw 44 rfl) (tw hw 45 rfl) (tw hw 42 rfl) (tw hw 46 rfl) (by decide) pd_7 rfl rfl rfl (Nat.le_of_eq rfl) (by decide) (by decide) (by decide) (by decide) (fun v3734 h3735 r3736 => ?_)
  obtain ⟨rfl, rfl⟩ := r3736
  refine C.aloadN d7_7 rfl rfl rfl ?_
  refine C.iconst 0 d7_8 rfl rfl ?_
  refine C.iloadN d7_9 rfl rfl ?_
  refine C.iloadN d7_10 rfl rfl ?_
  refine C.callS (argsL := [(.ref o0), (.int 0), (.int 0), (.int 1)]) (rest := []) 0 (fun zz => au3695_9 l Z a0 hw n0 h0 zz o0 P0 g_o0) d7_11 rfl (tw hw 47 rfl) (tw hw 48 rfl) (tw hw 49 rfl) (tw hw 50 rfl) (by decide) pd_10 rfl rfl rfl (Nat.le_of_eq rfl) (by decide) (by decide) (by decide) (by decide) (fun v3738 h3739 r3740 => ?_)
  obtain ⟨rfl, rfl⟩ := r3740
  exact C.ret0 d7_14 (by decide) (by decide) ⟨rfl, rfl⟩
def Qau3689_6 (Z : State) (n0 : Nat) (h0 : Heap) (o0 : Addr) (o1 : Addr) (o2 : Addr) (j0 : Int64) (j1 : Int64) (j2 : Int64) (v : Option Value) (h' : Heap) : Prop := (v = none) ∧ (h0 = h')
theorem ef_au3689_6 (m : MethodId) (o0 : Addr) : entryFrame m #[(.ref o0)] 2 = mkF m 0 #[rv o0, .unset] [] := by first | (simp [entryFrame, mkF, argsToLocals, Value.category]; done) | rfl
set_option maxRecDepth 65536 in
set_option maxHeartbeats 40000000 in
theorem au3689_6 (l : Launch) (Z : State) (a0 : Array Value) (hw : ∀ d ∈ tables_1, d.before a0 Z = true) (n0 : Nat) (h0 : Heap) (hn0 : n0 ≤ h0.size) (o0 : Addr) (o1 : Addr) (o2 : Addr) (j0 : Int64) (j1 : Int64) (j2 : Int64) (P0 : Exa Z h0 o0 kC0) (P1 : Fld Z h0 o0 kC0 "count" "I" (.int 1)) (P2 : Fld Z h0 o0 kC0 "held" "[I" (.ref o1)) (P3 : Fld Z h0 o0 kC0 "listing" "Z" (.int 1)) (P4 : Fld Z h0 o0 kC0 "words" "[J" (.ref o2)) (P5 : Av Z h0 o1 .int (.int 1 :: zI47)) (P6 : Av Z h0 o2 .long (.long j0 :: .long j1 :: .long j2 :: zJ45)) (g_o0 : n0 ≤ o0) (g_o1 : n0 ≤ o1) (g_o2 : n0 ≤ o2) (ne_o0_o1 : o0 ≠ o1) (ne_o0_o2 : o0 ≠ o2) (ne_o1_o2 : o1 ≠ o2) :
    Con l Z n0 [] (⟨"com/example/detra/detra/SetWords", "listHeld", "()V"⟩ : MethodName) prog_21_method_7_code 2 none ({ frames := 4, cells := 0, slots := 0, locals := 81 } : Room) #[(.ref o0)] h0 (Qau3689_6 Z n0 h0 o0 o1 o2 j0 j1 j2) := by
  refine Con.of pf_3 (fun m => ef_au3689_6 m o0) hn0 ?_
  intro p e s m below meth c C
  refine C.aloadN d6_0 rfl rfl rfl ?_
  refine C.getF d6_1 rfl (tw hw 14 rfl) P3 ?_
  refine C.if_eq_f d6_4 rfl (by decide) ?_
  refine C.aloadN d6_7 rfl rfl rfl ?_
  refine C.getF d6_8 rfl (tw hw 38 rfl) P1 ?_
  refine C.aloadN d6_11 rfl rfl rfl ?_
  refine C.getF d6_12 rfl (tw hw 12 rfl) P4 ?_
  refine C.alen d6_15 rfl P6 ?_
  refine Go.cI (y := 48) rfl ?_
  refine C.bipush 16 d6_16 rfl rfl ?_
  refine C.idiv d6_18 rfl (by decide) ?_
  refine Go.cI (y := 3) rfl ?_
  refine C.icmp_le_t d6_19 (by decide) rfl (by decide) ?_
  refine C.aloadN d6_75 rfl rfl rfl ?_
  refine C.getF d6_76 rfl (tw hw 17 rfl) P2 ?_
  refine C.iconst 0 d6_79 rfl rfl ?_
  refine C.aloadN d6_80 rfl rfl rfl ?_
  refine C.getF d6_81 rfl (tw hw 38 rfl) P1 ?_
  refine C.callS (argsL := [(.ref o1), (.int 0), (.int 1)]) (rest := []) 0 (fun zz => au3690_7 l Z a0 hw n0 h0 zz o1 P5 g_o1) d6_84 rfl (tw hw 40 rfl) (tw hw 41 rfl) (tw hw 42 rfl) (tw hw 43 rfl) (by decide) pd_8 rfl rfl rfl (Nat.le_of_eq rfl) (by decide) (by decide) (by decide) (by decide) (fun v3750 h3751 r3752 => ?_)
  obtain ⟨rfl, rfl⟩ := r3752
  exact C.ret0 d6_87 (by decide) (by decide) ⟨rfl, rfl⟩
def Qau3766_11 (Z : State) (n0 : Nat) (h0 : Heap) (o0 : Addr) (v : Option Value) (h' : Heap) : Prop := (v = none) ∧ (h0 = h')
theorem ef_au3766_11 (m : MethodId) (o0 : Addr) : entryFrame m #[(.ref o0), (.int 0), (.int 1)] 6 = mkF m 0 #[rv o0, iv 0, iv 1, .unset, .unset, .unset] [] := by first | (simp [entryFrame, mkF, argsToLocals, Value.category]; done) | rfl
set_option maxRecDepth 65536 in
set_option maxHeartbeats 40000000 in
theorem au3766_11 (l : Launch) (Z : State) (a0 : Array Value) (hw : ∀ d ∈ tables_1, d.before a0 Z = true) (n0 : Nat) (h0 : Heap) (hn0 : n0 ≤ h0.size) (o0 : Addr) (P0 : Av Z h0 o0 .int (.int 2 :: zI47)) (g_o0 : n0 ≤ o0) :
    Con l Z n0 [] (⟨"java/util/DualPivotQuicksort", "insertionSort", "([III)V"⟩ : MethodName) jdk_2529_method_6_code 6 none ({ frames := 0, cells := 0, slots := 0, locals := 0 } : Room) #[(.ref o0), (.int 0), (.int 1)] h0 (Qau3766_11 Z n0 h0 o0) := by
  refine Con.of pf_13 (fun m => ef_au3766_11 m o0) hn0 ?_
  intro p e s m below meth c C
  refine C.iloadN d11_0 rfl rfl ?_
  refine C.istore (Ls' := #[rv o0, iv 0, iv 1, .unset, iv 0, .unset]) d11_1 rfl rfl ?_
  refine C.iinc (Ls' := #[rv o0, iv 0, iv 1, .unset, iv 1, .unset]) 1 d11_3 rfl rfl rfl rfl ?_
  refine C.iload d11_6 rfl rfl ?_
  refine C.iloadN d11_8 rfl rfl ?_
  refine C.icmp_ge_t d11_9 (by decide) rfl (by decide) ?_
  exact C.ret0 d11_67 (by decide) (by decide) ⟨rfl, rfl⟩
def Qau3765_10 (Z : State) (n0 : Nat) (h0 : Heap) (o0 : Addr) (v : Option Value) (h' : Heap) : Prop := (v = none) ∧ (h0 = h')
theorem ef_au3765_10 (m : MethodId) (o0 : Addr) : entryFrame m #[.null, (.ref o0), (.int 0), (.int 0), (.int 1)] 21 = mkF m 0 #[.val (.null), rv o0, iv 0, iv 0, iv 1, .unset, .unset, .unset, .unset, .unset, .unset, .unset, .unset, .unset, .unset, .unset, .unset, .unset, .unset, .unset, .unset] [] := by first | (simp [entryFrame, mkF, argsToLocals, Value.category]; done) | rfl
set_option maxRecDepth 65536 in
set_option maxHeartbeats 40000000 in
theorem au3765_10 (l : Launch) (Z : State) (a0 : Array Value) (hw : ∀ d ∈ tables_1, d.before a0 Z = true) (n0 : Nat) (h0 : Heap) (hn0 : n0 ≤ h0.size) (o0 : Addr) (P0 : Av Z h0 o0 .int (.int 2 :: zI47)) (g_o0 : n0 ≤ o0) :
    Con l Z n0 [] (⟨"java/util/DualPivotQuicksort", "sort", "(Ljava/util/DualPivotQuicksort$Sorter;[IIII)V"⟩ : MethodName) jdk_2529_method_4_code 21 none ({ frames := 1, cells := 0, slots := 0, locals := 17 } : Room) #[.null, (.ref o0), (.int 0), (.int 0), (.int 1)] h0 (Qau3765_10 Z n0 h0 o0) := by
  refine Con.of pf_12 (fun m => ef_au3765_10 m o0) hn0 ?_
  intro p e s m below meth c C
  refine C.iload d10_0 rfl rfl ?_
  refine C.iconst 1 d10_2 rfl rfl ?_
  refine C.isub d10_3 rfl ?_
  refine Go.cI (y := 0) rfl ?_
  refine C.istore (Ls' := #[.val (.null), rv o0, iv 0, iv 0, iv 1, iv 0, .unset, .unset, .unset, .unset, .unset, .unset, .unset, .unset, .unset, .unset, .unset, .unset, .unset, .unset, .unset]) d10_4 rfl rfl ?_
  refine C.iload d10_6 rfl rfl ?_
  refine C.iloadN d10_8 rfl rfl ?_
  refine C.isub d10_9 rfl ?_
  refine Go.cI (y := 1) rfl ?_
  refine C.istore (Ls' := #[.val (.null), rv o0, iv 0, iv 0, iv 1, iv 0, iv 1, .unset, .unset, .unset, .unset, .unset, .unset, .unset, .unset, .unset, .unset, .unset, .unset, .unset, .unset]) d10_10 rfl rfl ?_
  refine C.iload d10_12 rfl rfl ?_
  refine C.bipush 65 d10_14 rfl rfl ?_
  refine C.iloadN d10_16 rfl rfl ?_
  refine C.iadd d10_17 rfl ?_
  refine Go.cI (y := 65) rfl ?_
  refine C.icmp_ge_f d10_18 rfl (by decide) ?_
  refine C.iloadN d10_21 rfl rfl ?_
  refine C.iconst 1 d10_22 rfl rfl ?_
  refine C.iand d10_23 rfl ?_
  refine Go.cI (y := 0) rfl ?_
  refine C.if_le_t d10_24 (by decide) rfl (by decide) ?_
  refine C.iload d10_46 rfl rfl ?_
  refine C.bipush 44 d10_48 rfl rfl ?_
  refine C.icmp_ge_f d10_50 rfl (by decide) ?_
  refine C.aloadN d10_53 rfl rfl rfl ?_
  refine C.iloadN d10_54 rfl rfl ?_
  refine C.iload d10_55 rfl rfl ?_
  refine C.callS (argsL := [(.ref o0), (.int 0), (.int 1)]) (rest := []) 0 (fun zz => au3766_11 l Z a0 hw n0 h0 zz o0 P0 g_o0) d10_57 rfl (tw hw 54 rfl) (tw hw 55 rfl) (tw hw 49 rfl) (tw hw 56 rfl) (by decide) pd_8 rfl rfl rfl (Nat.le_of_eq rfl) (by decide) (by decide) (by decide) (by decide) (fun v3775 h3776 r3777 => ?_)
  obtain ⟨rfl, rfl⟩ := r3777
  exact C.ret0 d10_60 (by decide) (by decide) ⟨rfl, rfl⟩
def Qau3764_9 (Z : State) (n0 : Nat) (h0 : Heap) (o0 : Addr) (v : Option Value) (h' : Heap) : Prop := (v = none) ∧ (h0 = h')
theorem ef_au3764_9 (m : MethodId) (o0 : Addr) : entryFrame m #[(.ref o0), (.int 0), (.int 0), (.int 1)] 7 = mkF m 0 #[rv o0, iv 0, iv 0, iv 1, .unset, .unset, .unset] [] := by first | (simp [entryFrame, mkF, argsToLocals, Value.category]; done) | rfl
set_option maxRecDepth 65536 in
set_option maxHeartbeats 40000000 in
theorem au3764_9 (l : Launch) (Z : State) (a0 : Array Value) (hw : ∀ d ∈ tables_1, d.before a0 Z = true) (n0 : Nat) (h0 : Heap) (hn0 : n0 ≤ h0.size) (o0 : Addr) (P0 : Av Z h0 o0 .int (.int 2 :: zI47)) (g_o0 : n0 ≤ o0) :
    Con l Z n0 [] (⟨"java/util/DualPivotQuicksort", "sort", "([IIII)V"⟩ : MethodName) jdk_2529_method_3_code 7 none ({ frames := 2, cells := 0, slots := 0, locals := 49 } : Room) #[(.ref o0), (.int 0), (.int 0), (.int 1)] h0 (Qau3764_9 Z n0 h0 o0) := by
  refine Con.of pf_11 (fun m => ef_au3764_9 m o0) hn0 ?_
  intro p e s m below meth c C
  refine C.iloadN d9_0 rfl rfl ?_
  refine C.iloadN d9_1 rfl rfl ?_
  refine C.isub d9_2 rfl ?_
  refine Go.cI (y := 1) rfl ?_
  refine C.istore (Ls' := #[rv o0, iv 0, iv 0, iv 1, iv 1, .unset, .unset]) d9_3 rfl rfl ?_
  refine C.iloadN d9_5 rfl rfl ?_
  refine C.iconst 1 d9_6 rfl rfl ?_
  refine C.icmp_le_t d9_7 (by decide) rfl (by decide) ?_
  refine C.aconst_null d9_68 rfl ?_
  refine C.aloadN d9_69 rfl rfl rfl ?_
  refine C.iconst 0 d9_70 rfl rfl ?_
  refine C.iloadN d9_71 rfl rfl ?_
  refine C.iloadN d9_72 rfl rfl ?_
  refine C.callS (argsL := [.null, (.ref o0), (.int 0), (.int 0), (.int 1)]) (rest := []) 0 (fun zz => au3765_10 l Z a0 hw n0 h0 zz o0 P0 g_o0) d9_73 rfl (tw hw 51 rfl) (tw hw 52 rfl) (tw hw 49 rfl) (tw hw 53 rfl) (by decide) pd_9 rfl rfl rfl (Nat.le_of_eq rfl) (by decide) (by decide) (by decide) (by decide) (fun v3787 h3788 r3789 => ?_)
  obtain ⟨rfl, rfl⟩ := r3789
  exact C.ret0 d9_76 (by decide) (by decide) ⟨rfl, rfl⟩
def Qau3759_7 (Z : State) (n0 : Nat) (h0 : Heap) (o0 : Addr) (v : Option Value) (h' : Heap) : Prop := (v = none) ∧ (h0 = h')
theorem ef_au3759_7 (m : MethodId) (o0 : Addr) : entryFrame m #[(.ref o0), (.int 0), (.int 1)] 3 = mkF m 0 #[rv o0, iv 0, iv 1] [] := by first | (simp [entryFrame, mkF, argsToLocals, Value.category]; done) | rfl
set_option maxRecDepth 65536 in
set_option maxHeartbeats 40000000 in
theorem au3759_7 (l : Launch) (Z : State) (a0 : Array Value) (hw : ∀ d ∈ tables_1, d.before a0 Z = true) (n0 : Nat) (h0 : Heap) (hn0 : n0 ≤ h0.size) (o0 : Addr) (P0 : Av Z h0 o0 .int (.int 2 :: zI47)) (g_o0 : n0 ≤ o0) :
    Con l Z n0 [] (⟨"java/util/Arrays", "sort", "([III)V"⟩ : MethodName) jdk_65_method_3_code 3 none ({ frames := 3, cells := 0, slots := 0, locals := 67 } : Room) #[(.ref o0), (.int 0), (.int 1)] h0 (Qau3759_7 Z n0 h0 o0) := by
  refine Con.of pf_9 (fun m => ef_au3759_7 m o0) hn0 ?_
  intro p e s m below meth c C
  refine C.aloadN d7_0 rfl rfl rfl ?_
  refine C.alen d7_1 rfl P0 ?_
  refine Go.cI (y := 48) rfl ?_
  refine C.iloadN d7_2 rfl rfl ?_
  refine C.iloadN d7_3 rfl rfl ?_
  refine C.callS (argsL := [(.int 48), (.int 0), (.int 1)]) (rest := []) 0 (fun zz => au3621_8 l Z a0 hw n0 h0 zz  ) d7_4 rfl (tw hw 44 rfl) (tw hw 45 rfl) (tw hw 42 rfl) (tw hw 46 rfl) (by decide) pd_7 rfl rfl rfl (Nat.le_of_eq rfl) (by decide) (by decide) (by decide) (by decide) (fun v3803 h3804 r3805 => ?_)
  obtain ⟨rfl, rfl⟩ := r3805
  refine C.aloadN d7_7 rfl rfl rfl ?_
  refine C.iconst 0 d7_8 rfl rfl ?_
  refine C.iloadN d7_9 rfl rfl ?_
  refine C.iloadN d7_10 rfl rfl ?_
  refine C.callS (argsL := [(.ref o0), (.int 0), (.int 0), (.int 1)]) (rest := []) 0 (fun zz => au3764_9 l Z a0 hw n0 h0 zz o0 P0 g_o0) d7_11 rfl (tw hw 47 rfl) (tw hw 48 rfl) (tw hw 49 rfl) (tw hw 50 rfl) (by decide) pd_10 rfl rfl rfl (Nat.le_of_eq rfl) (by decide) (by decide) (by decide) (by decide) (fun v3807 h3808 r3809 => ?_)
  obtain ⟨rfl, rfl⟩ := r3809
  exact C.ret0 d7_14 (by decide) (by decide) ⟨rfl, rfl⟩
def Qau3758_6 (Z : State) (n0 : Nat) (h0 : Heap) (o0 : Addr) (o1 : Addr) (o2 : Addr) (j0 : Int64) (j1 : Int64) (j2 : Int64) (v : Option Value) (h' : Heap) : Prop := (v = none) ∧ (h0 = h')
theorem ef_au3758_6 (m : MethodId) (o0 : Addr) : entryFrame m #[(.ref o0)] 2 = mkF m 0 #[rv o0, .unset] [] := by first | (simp [entryFrame, mkF, argsToLocals, Value.category]; done) | rfl
set_option maxRecDepth 65536 in
set_option maxHeartbeats 40000000 in
theorem au3758_6 (l : Launch) (Z : State) (a0 : Array Value) (hw : ∀ d ∈ tables_1, d.before a0 Z = true) (n0 : Nat) (h0 : Heap) (hn0 : n0 ≤ h0.size) (o0 : Addr) (o1 : Addr) (o2 : Addr) (j0 : Int64) (j1 : Int64) (j2 : Int64) (P0 : Exa Z h0 o0 kC0) (P1 : Fld Z h0 o0 kC0 "count" "I" (.int 1)) (P2 : Fld Z h0 o0 kC0 "held" "[I" (.ref o1)) (P3 : Fld Z h0 o0 kC0 "listing" "Z" (.int 1)) (P4 : Fld Z h0 o0 kC0 "words" "[J" (.ref o2)) (P5 : Av Z h0 o1 .int (.int 2 :: zI47)) (P6 : Av Z h0 o2 .long (.long j0 :: .long j1 :: .long j2 :: zJ45)) (g_o0 : n0 ≤ o0) (g_o1 : n0 ≤ o1) (g_o2 : n0 ≤ o2) (ne_o0_o1 : o0 ≠ o1) (ne_o0_o2 : o0 ≠ o2) (ne_o1_o2 : o1 ≠ o2) :
    Con l Z n0 [] (⟨"com/example/detra/detra/SetWords", "listHeld", "()V"⟩ : MethodName) prog_21_method_7_code 2 none ({ frames := 4, cells := 0, slots := 0, locals := 81 } : Room) #[(.ref o0)] h0 (Qau3758_6 Z n0 h0 o0 o1 o2 j0 j1 j2) := by
  refine Con.of pf_3 (fun m => ef_au3758_6 m o0) hn0 ?_
  intro p e s m below meth c C
  refine C.aloadN d6_0 rfl rfl rfl ?_
  refine C.getF d6_1 rfl (tw hw 14 rfl) P3 ?_
  refine C.if_eq_f d6_4 rfl (by decide) ?_
  refine C.aloadN d6_7 rfl rfl rfl ?_
  refine C.getF d6_8 rfl (tw hw 38 rfl) P1 ?_
  refine C.aloadN d6_11 rfl rfl rfl ?_
  refine C.getF d6_12 rfl (tw hw 12 rfl) P4 ?_
  refine C.alen d6_15 rfl P6 ?_
  refine Go.cI (y := 48) rfl ?_
  refine C.bipush 16 d6_16 rfl rfl ?_
  refine C.idiv d6_18 rfl (by decide) ?_
  refine Go.cI (y := 3) rfl ?_
  refine C.icmp_le_t d6_19 (by decide) rfl (by decide) ?_
  refine C.aloadN d6_75 rfl rfl rfl ?_
  refine C.getF d6_76 rfl (tw hw 17 rfl) P2 ?_
  refine C.iconst 0 d6_79 rfl rfl ?_
  refine C.aloadN d6_80 rfl rfl rfl ?_
  refine C.getF d6_81 rfl (tw hw 38 rfl) P1 ?_
  refine C.callS (argsL := [(.ref o1), (.int 0), (.int 1)]) (rest := []) 0 (fun zz => au3759_7 l Z a0 hw n0 h0 zz o1 P5 g_o1) d6_84 rfl (tw hw 40 rfl) (tw hw 41 rfl) (tw hw 42 rfl) (tw hw 43 rfl) (by decide) pd_8 rfl rfl rfl (Nat.le_of_eq rfl) (by decide) (by decide) (by decide) (by decide) (fun v3819 h3820 r3821 => ?_)
  obtain ⟨rfl, rfl⟩ := r3821
  exact C.ret0 d6_87 (by decide) (by decide) ⟨rfl, rfl⟩
def Qau3829_8 (Z : State) (n0 : Nat) (h0 : Heap)  (v : Option Value) (h' : Heap) : Prop := (v = none) ∧ (h0 = h')
theorem ef_au3829_8 (m : MethodId)  : entryFrame m #[(.int 48), (.int 0), (.int 2)] 3 = mkF m 0 #[iv 48, iv 0, iv 2] [] := by first | (simp [entryFrame, mkF, argsToLocals, Value.category]; done) | rfl
set_option maxRecDepth 65536 in
set_option maxHeartbeats 40000000 in
theorem au3829_8 (l : Launch) (Z : State) (a0 : Array Value) (hw : ∀ d ∈ tables_1, d.before a0 Z = true) (n0 : Nat) (h0 : Heap) (hn0 : n0 ≤ h0.size)  :
    Con l Z n0 [] (⟨"java/util/Arrays", "rangeCheck", "(III)V"⟩ : MethodName) jdk_65_method_30_code 3 none ({ frames := 0, cells := 0, slots := 0, locals := 0 } : Room) #[(.int 48), (.int 0), (.int 2)] h0 (Qau3829_8 Z n0 h0) := by
  refine Con.of pf_10 (fun m => ef_au3829_8 m ) hn0 ?_
  intro p e s m below meth c C
  refine C.iloadN d8_0 rfl rfl ?_
  refine C.iloadN d8_1 rfl rfl ?_
  refine C.icmp_le_t d8_2 (by decide) rfl (by decide) ?_
  refine C.iloadN d8_46 rfl rfl ?_
  refine C.if_ge_t d8_47 (by decide) rfl (by decide) ?_
  refine C.iloadN d8_59 rfl rfl ?_
  refine C.iloadN d8_60 rfl rfl ?_
  refine C.icmp_le_t d8_61 (by decide) rfl (by decide) ?_
  exact C.ret0 d8_73 (by decide) (by decide) ⟨rfl, rfl⟩
def Qau3836_11 (Z : State) (n0 : Nat) (h0 : Heap) (o0 : Addr) (v : Option Value) (h' : Heap) : Prop := (v = none) ∧ (h0 = h')
theorem ef_au3836_11 (m : MethodId) (o0 : Addr) : entryFrame m #[(.ref o0), (.int 0), (.int 2)] 6 = mkF m 0 #[rv o0, iv 0, iv 2, .unset, .unset, .unset] [] := by first | (simp [entryFrame, mkF, argsToLocals, Value.category]; done) | rfl
set_option maxRecDepth 65536 in
set_option maxHeartbeats 40000000 in
theorem au3836_11 (l : Launch) (Z : State) (a0 : Array Value) (hw : ∀ d ∈ tables_1, d.before a0 Z = true) (n0 : Nat) (h0 : Heap) (hn0 : n0 ≤ h0.size) (o0 : Addr) (P0 : Av Z h0 o0 .int (.int 0 :: .int 1 :: zI46)) (g_o0 : n0 ≤ o0) :
    Con l Z n0 [] (⟨"java/util/DualPivotQuicksort", "insertionSort", "([III)V"⟩ : MethodName) jdk_2529_method_6_code 6 none ({ frames := 0, cells := 0, slots := 0, locals := 0 } : Room) #[(.ref o0), (.int 0), (.int 2)] h0 (Qau3836_11 Z n0 h0 o0) := by
  refine Con.of pf_13 (fun m => ef_au3836_11 m o0) hn0 ?_
  intro p e s m below meth c C
  refine C.iloadN d11_0 rfl rfl ?_
  refine C.istore (Ls' := #[rv o0, iv 0, iv 2, .unset, iv 0, .unset]) d11_1 rfl rfl ?_
  refine C.iinc (Ls' := #[rv o0, iv 0, iv 2, .unset, iv 1, .unset]) 1 d11_3 rfl rfl rfl rfl ?_
  refine C.iload d11_6 rfl rfl ?_
  refine C.iloadN d11_8 rfl rfl ?_
  refine C.icmp_ge_f d11_9 rfl (by decide) ?_
  refine C.aloadN d11_12 rfl rfl rfl ?_
  refine C.iload d11_13 rfl rfl ?_
  refine C.dup d11_15 rfl rfl ?_
  refine C.istoreN (Ls' := #[rv o0, iv 0, iv 2, iv 1, iv 1, .unset]) d11_16 rfl rfl ?_
  refine C.iaload (.int 1) d11_17 rfl P0 (by decide) rfl ?_
  refine C.istore (Ls' := #[rv o0, iv 0, iv 2, iv 1, iv 1, iv 1]) d11_18 rfl rfl ?_
  refine C.iload d11_20 rfl rfl ?_
  refine C.aloadN d11_22 rfl rfl rfl ?_
  refine C.iloadN d11_23 rfl rfl ?_
  refine C.iconst 1 d11_24 rfl rfl ?_
  refine C.isub d11_25 rfl ?_
  refine Go.cI (y := 0) rfl ?_
  refine C.iaload (.int 0) d11_26 rfl P0 (by decide) rfl ?_
  refine C.icmp_ge_t d11_27 (by decide) rfl (by decide) ?_
  refine C.goto d11_64 (by decide) rfl ?_
  refine C.iinc (Ls' := #[rv o0, iv 0, iv 2, iv 1, iv 2, iv 1]) 1 d11_3 rfl rfl rfl rfl ?_
  refine C.iload d11_6 rfl rfl ?_
  refine C.iloadN d11_8 rfl rfl ?_
  refine C.icmp_ge_t d11_9 (by decide) rfl (by decide) ?_
  exact C.ret0 d11_67 (by decide) (by decide) ⟨rfl, rfl⟩
def Qau3835_10 (Z : State) (n0 : Nat) (h0 : Heap) (o0 : Addr) (v : Option Value) (h' : Heap) : Prop := (v = none) ∧ (h0 = h')
theorem ef_au3835_10 (m : MethodId) (o0 : Addr) : entryFrame m #[.null, (.ref o0), (.int 0), (.int 0), (.int 2)] 21 = mkF m 0 #[.val (.null), rv o0, iv 0, iv 0, iv 2, .unset, .unset, .unset, .unset, .unset, .unset, .unset, .unset, .unset, .unset, .unset, .unset, .unset, .unset, .unset, .unset] [] := by first | (simp [entryFrame, mkF, argsToLocals, Value.category]; done) | rfl
set_option maxRecDepth 65536 in
set_option maxHeartbeats 40000000 in
theorem au3835_10 (l : Launch) (Z : State) (a0 : Array Value) (hw : ∀ d ∈ tables_1, d.before a0 Z = true) (n0 : Nat) (h0 : Heap) (hn0 : n0 ≤ h0.size) (o0 : Addr) (P0 : Av Z h0 o0 .int (.int 0 :: .int 1 :: zI46)) (g_o0 : n0 ≤ o0) :
    Con l Z n0 [] (⟨"java/util/DualPivotQuicksort", "sort", "(Ljava/util/DualPivotQuicksort$Sorter;[IIII)V"⟩ : MethodName) jdk_2529_method_4_code 21 none ({ frames := 1, cells := 0, slots := 0, locals := 17 } : Room) #[.null, (.ref o0), (.int 0), (.int 0), (.int 2)] h0 (Qau3835_10 Z n0 h0 o0) := by
  refine Con.of pf_12 (fun m => ef_au3835_10 m o0) hn0 ?_
  intro p e s m below meth c C
  refine C.iload d10_0 rfl rfl ?_
  refine C.iconst 1 d10_2 rfl rfl ?_
  refine C.isub d10_3 rfl ?_
  refine Go.cI (y := 1) rfl ?_
  refine C.istore (Ls' := #[.val (.null), rv o0, iv 0, iv 0, iv 2, iv 1, .unset, .unset, .unset, .unset, .unset, .unset, .unset, .unset, .unset, .unset, .unset, .unset, .unset, .unset, .unset]) d10_4 rfl rfl ?_
  refine C.iload d10_6 rfl rfl ?_
  refine C.iloadN d10_8 rfl rfl ?_
  refine C.isub d10_9 rfl ?_
  refine Go.cI (y := 2) rfl ?_
  refine C.istore (Ls' := #[.val (.null), rv o0, iv 0, iv 0, iv 2, iv 1, iv 2, .unset, .unset, .unset, .unset, .unset, .unset, .unset, .unset, .unset, .unset, .unset, .unset, .unset, .unset]) d10_10 rfl rfl ?_
  refine C.iload d10_12 rfl rfl ?_
  refine C.bipush 65 d10_14 rfl rfl ?_
  refine C.iloadN d10_16 rfl rfl ?_
  refine C.iadd d10_17 rfl ?_
  refine Go.cI (y := 65) rfl ?_
  refine C.icmp_ge_f d10_18 rfl (by decide) ?_
  refine C.iloadN d10_21 rfl rfl ?_
  refine C.iconst 1 d10_22 rfl rfl ?_
  refine C.iand d10_23 rfl ?_
  refine Go.cI (y := 0) rfl ?_
  refine C.if_le_t d10_24 (by decide) rfl (by decide) ?_
  refine C.iload d10_46 rfl rfl ?_
  refine C.bipush 44 d10_48 rfl rfl ?_
  refine C.icmp_ge_f d10_50 rfl (by decide) ?_
  refine C.aloadN d10_53 rfl rfl rfl ?_
  refine C.iloadN d10_54 rfl rfl ?_
  refine C.iload d10_55 rfl rfl ?_
  refine C.callS (argsL := [(.ref o0), (.int 0), (.int 2)]) (rest := []) 0 (fun zz => au3836_11 l Z a0 hw n0 h0 zz o0 P0 g_o0) d10_57 rfl (tw hw 54 rfl) (tw hw 55 rfl) (tw hw 49 rfl) (tw hw 56 rfl) (by decide) pd_8 rfl rfl rfl (Nat.le_of_eq rfl) (by decide) (by decide) (by decide) (by decide) (fun v3845 h3846 r3847 => ?_)
  obtain ⟨rfl, rfl⟩ := r3847
  exact C.ret0 d10_60 (by decide) (by decide) ⟨rfl, rfl⟩
def Qau3834_9 (Z : State) (n0 : Nat) (h0 : Heap) (o0 : Addr) (v : Option Value) (h' : Heap) : Prop := (v = none) ∧ (h0 = h')
theorem ef_au3834_9 (m : MethodId) (o0 : Addr) : entryFrame m #[(.ref o0), (.int 0), (.int 0), (.int 2)] 7 = mkF m 0 #[rv o0, iv 0, iv 0, iv 2, .unset, .unset, .unset] [] := by first | (simp [entryFrame, mkF, argsToLocals, Value.category]; done) | rfl
set_option maxRecDepth 65536 in
set_option maxHeartbeats 40000000 in
theorem au3834_9 (l : Launch) (Z : State) (a0 : Array Value) (hw : ∀ d ∈ tables_1, d.before a0 Z = true) (n0 : Nat) (h0 : Heap) (hn0 : n0 ≤ h0.size) (o0 : Addr) (P0 : Av Z h0 o0 .int (.int 0 :: .int 1 :: zI46)) (g_o0 : n0 ≤ o0) :
    Con l Z n0 [] (⟨"java/util/DualPivotQuicksort", "sort", "([IIII)V"⟩ : MethodName) jdk_2529_method_3_code 7 none ({ frames := 2, cells := 0, slots := 0, locals := 49 } : Room) #[(.ref o0), (.int 0), (.int 0), (.int 2)] h0 (Qau3834_9 Z n0 h0 o0) := by
  refine Con.of pf_11 (fun m => ef_au3834_9 m o0) hn0 ?_
  intro p e s m below meth c C
  refine C.iloadN d9_0 rfl rfl ?_
  refine C.iloadN d9_1 rfl rfl ?_
  refine C.isub d9_2 rfl ?_
  refine Go.cI (y := 2) rfl ?_
  refine C.istore (Ls' := #[rv o0, iv 0, iv 0, iv 2, iv 2, .unset, .unset]) d9_3 rfl rfl ?_
  refine C.iloadN d9_5 rfl rfl ?_
  refine C.iconst 1 d9_6 rfl rfl ?_
  refine C.icmp_le_t d9_7 (by decide) rfl (by decide) ?_
  refine C.aconst_null d9_68 rfl ?_
  refine C.aloadN d9_69 rfl rfl rfl ?_
  refine C.iconst 0 d9_70 rfl rfl ?_
  refine C.iloadN d9_71 rfl rfl ?_
  refine C.iloadN d9_72 rfl rfl ?_
  refine C.callS (argsL := [.null, (.ref o0), (.int 0), (.int 0), (.int 2)]) (rest := []) 0 (fun zz => au3835_10 l Z a0 hw n0 h0 zz o0 P0 g_o0) d9_73 rfl (tw hw 51 rfl) (tw hw 52 rfl) (tw hw 49 rfl) (tw hw 53 rfl) (by decide) pd_9 rfl rfl rfl (Nat.le_of_eq rfl) (by decide) (by decide) (by decide) (by decide) (fun v3857 h3858 r3859 => ?_)
  obtain ⟨rfl, rfl⟩ := r3859
  exact C.ret0 d9_76 (by decide) (by decide) ⟨rfl, rfl⟩
def Qau3828_7 (Z : State) (n0 : Nat) (h0 : Heap) (o0 : Addr) (v : Option Value) (h' : Heap) : Prop := (v = none) ∧ (h0 = h')
theorem ef_au3828_7 (m : MethodId) (o0 : Addr) : entryFrame m #[(.ref o0), (.int 0), (.int 2)] 3 = mkF m 0 #[rv o0, iv 0, iv 2] [] := by first | (simp [entryFrame, mkF, argsToLocals, Value.category]; done) | rfl
set_option maxRecDepth 65536 in
set_option maxHeartbeats 40000000 in
theorem au3828_7 (l : Launch) (Z : State) (a0 : Array Value) (hw : ∀ d ∈ tables_1, d.before a0 Z = true) (n0 : Nat) (h0 : Heap) (hn0 : n0 ≤ h0.size) (o0 : Addr) (P0 : Av Z h0 o0 .int (.int 0 :: .int 1 :: zI46)) (g_o0 : n0 ≤ o0) :
    Con l Z n0 [] (⟨"java/util/Arrays", "sort", "([III)V"⟩ : MethodName) jdk_65_method_3_code 3 none ({ frames := 3, cells := 0, slots := 0, locals := 67 } : Room) #[(.ref o0), (.int 0), (.int 2)] h0 (Qau3828_7 Z n0 h0 o0) := by
  refine Con.of pf_9 (fun m => ef_au3828_7 m o0) hn0 ?_
  intro p e s m below meth c C
  refine C.aloadN d7_0 rfl rfl rfl ?_
  refine C.alen d7_1 rfl P0 ?_
  refine Go.cI (y := 48) rfl ?_
  refine C.iloadN d7_2 rfl rfl ?_
  refine C.iloadN d7_3 rfl rfl ?_
  refine C.callS (argsL := [(.int 48), (.int 0), (.int 2)]) (rest := []) 0 (fun zz => au3829_8 l Z a0 hw n0 h0 zz  ) d7_4 rfl (tw hw 44 rfl) (tw hw 45 rfl) (tw hw 42 rfl) (tw hw 46 rfl) (by decide) pd_7 rfl rfl rfl (Nat.le_of_eq rfl) (by decide) (by decide) (by decide) (by decide) (fun v3873 h3874 r3875 => ?_)
  obtain ⟨rfl, rfl⟩ := r3875
  refine C.aloadN d7_7 rfl rfl rfl ?_
  refine C.iconst 0 d7_8 rfl rfl ?_
  refine C.iloadN d7_9 rfl rfl ?_
  refine C.iloadN d7_10 rfl rfl ?_
  refine C.callS (argsL := [(.ref o0), (.int 0), (.int 0), (.int 2)]) (rest := []) 0 (fun zz => au3834_9 l Z a0 hw n0 h0 zz o0 P0 g_o0) d7_11 rfl (tw hw 47 rfl) (tw hw 48 rfl) (tw hw 49 rfl) (tw hw 50 rfl) (by decide) pd_10 rfl rfl rfl (Nat.le_of_eq rfl) (by decide) (by decide) (by decide) (by decide) (fun v3877 h3878 r3879 => ?_)
  obtain ⟨rfl, rfl⟩ := r3879
  exact C.ret0 d7_14 (by decide) (by decide) ⟨rfl, rfl⟩
def Qau3827_6 (Z : State) (n0 : Nat) (h0 : Heap) (o0 : Addr) (o1 : Addr) (o2 : Addr) (j0 : Int64) (j1 : Int64) (j2 : Int64) (v : Option Value) (h' : Heap) : Prop := (v = none) ∧ (h0 = h')
theorem ef_au3827_6 (m : MethodId) (o0 : Addr) : entryFrame m #[(.ref o0)] 2 = mkF m 0 #[rv o0, .unset] [] := by first | (simp [entryFrame, mkF, argsToLocals, Value.category]; done) | rfl
set_option maxRecDepth 65536 in
set_option maxHeartbeats 40000000 in
theorem au3827_6 (l : Launch) (Z : State) (a0 : Array Value) (hw : ∀ d ∈ tables_1, d.before a0 Z = true) (n0 : Nat) (h0 : Heap) (hn0 : n0 ≤ h0.size) (o0 : Addr) (o1 : Addr) (o2 : Addr) (j0 : Int64) (j1 : Int64) (j2 : Int64) (P0 : Exa Z h0 o0 kC0) (P1 : Fld Z h0 o0 kC0 "count" "I" (.int 2)) (P2 : Fld Z h0 o0 kC0 "held" "[I" (.ref o1)) (P3 : Fld Z h0 o0 kC0 "listing" "Z" (.int 1)) (P4 : Fld Z h0 o0 kC0 "words" "[J" (.ref o2)) (P5 : Av Z h0 o1 .int (.int 0 :: .int 1 :: zI46)) (P6 : Av Z h0 o2 .long (.long j0 :: .long j1 :: .long j2 :: zJ45)) (g_o0 : n0 ≤ o0) (g_o1 : n0 ≤ o1) (g_o2 : n0 ≤ o2) (ne_o0_o1 : o0 ≠ o1) (ne_o0_o2 : o0 ≠ o2) (ne_o1_o2 : o1 ≠ o2) :
    Con l Z n0 [] (⟨"com/example/detra/detra/SetWords", "listHeld", "()V"⟩ : MethodName) prog_21_method_7_code 2 none ({ frames := 4, cells := 0, slots := 0, locals := 81 } : Room) #[(.ref o0)] h0 (Qau3827_6 Z n0 h0 o0 o1 o2 j0 j1 j2) := by
  refine Con.of pf_3 (fun m => ef_au3827_6 m o0) hn0 ?_
  intro p e s m below meth c C
  refine C.aloadN d6_0 rfl rfl rfl ?_
  refine C.getF d6_1 rfl (tw hw 14 rfl) P3 ?_
  refine C.if_eq_f d6_4 rfl (by decide) ?_
  refine C.aloadN d6_7 rfl rfl rfl ?_
  refine C.getF d6_8 rfl (tw hw 38 rfl) P1 ?_
  refine C.aloadN d6_11 rfl rfl rfl ?_
  refine C.getF d6_12 rfl (tw hw 12 rfl) P4 ?_
  refine C.alen d6_15 rfl P6 ?_
  refine Go.cI (y := 48) rfl ?_
  refine C.bipush 16 d6_16 rfl rfl ?_
  refine C.idiv d6_18 rfl (by decide) ?_
  refine Go.cI (y := 3) rfl ?_
  refine C.icmp_le_t d6_19 (by decide) rfl (by decide) ?_
  refine C.aloadN d6_75 rfl rfl rfl ?_
  refine C.getF d6_76 rfl (tw hw 17 rfl) P2 ?_
  refine C.iconst 0 d6_79 rfl rfl ?_
  refine C.aloadN d6_80 rfl rfl rfl ?_
  refine C.getF d6_81 rfl (tw hw 38 rfl) P1 ?_
  refine C.callS (argsL := [(.ref o1), (.int 0), (.int 2)]) (rest := []) 0 (fun zz => au3828_7 l Z a0 hw n0 h0 zz o1 P5 g_o1) d6_84 rfl (tw hw 40 rfl) (tw hw 41 rfl) (tw hw 42 rfl) (tw hw 43 rfl) (by decide) pd_8 rfl rfl rfl (Nat.le_of_eq rfl) (by decide) (by decide) (by decide) (by decide) (fun v3889 h3890 r3891 => ?_)
  obtain ⟨rfl, rfl⟩ := r3891
  exact C.ret0 d6_87 (by decide) (by decide) ⟨rfl, rfl⟩
def Qau3905_11 (Z : State) (n0 : Nat) (h0 : Heap) (o0 : Addr) (v : Option Value) (h' : Heap) : Prop := (v = none) ∧ (h0 = h')
theorem ef_au3905_11 (m : MethodId) (o0 : Addr) : entryFrame m #[(.ref o0), (.int 0), (.int 2)] 6 = mkF m 0 #[rv o0, iv 0, iv 2, .unset, .unset, .unset] [] := by first | (simp [entryFrame, mkF, argsToLocals, Value.category]; done) | rfl
set_option maxRecDepth 65536 in
set_option maxHeartbeats 40000000 in
theorem au3905_11 (l : Launch) (Z : State) (a0 : Array Value) (hw : ∀ d ∈ tables_1, d.before a0 Z = true) (n0 : Nat) (h0 : Heap) (hn0 : n0 ≤ h0.size) (o0 : Addr) (P0 : Av Z h0 o0 .int (.int 0 :: .int 2 :: zI46)) (g_o0 : n0 ≤ o0) :
    Con l Z n0 [] (⟨"java/util/DualPivotQuicksort", "insertionSort", "([III)V"⟩ : MethodName) jdk_2529_method_6_code 6 none ({ frames := 0, cells := 0, slots := 0, locals := 0 } : Room) #[(.ref o0), (.int 0), (.int 2)] h0 (Qau3905_11 Z n0 h0 o0) := by
  refine Con.of pf_13 (fun m => ef_au3905_11 m o0) hn0 ?_
  intro p e s m below meth c C
  refine C.iloadN d11_0 rfl rfl ?_
  refine C.istore (Ls' := #[rv o0, iv 0, iv 2, .unset, iv 0, .unset]) d11_1 rfl rfl ?_
  refine C.iinc (Ls' := #[rv o0, iv 0, iv 2, .unset, iv 1, .unset]) 1 d11_3 rfl rfl rfl rfl ?_
  refine C.iload d11_6 rfl rfl ?_
  refine C.iloadN d11_8 rfl rfl ?_
  refine C.icmp_ge_f d11_9 rfl (by decide) ?_
  refine C.aloadN d11_12 rfl rfl rfl ?_
  refine C.iload d11_13 rfl rfl ?_
  refine C.dup d11_15 rfl rfl ?_
  refine C.istoreN (Ls' := #[rv o0, iv 0, iv 2, iv 1, iv 1, .unset]) d11_16 rfl rfl ?_
  refine C.iaload (.int 2) d11_17 rfl P0 (by decide) rfl ?_
  refine C.istore (Ls' := #[rv o0, iv 0, iv 2, iv 1, iv 1, iv 2]) d11_18 rfl rfl ?_
  refine C.iload d11_20 rfl rfl ?_
  refine C.aloadN d11_22 rfl rfl rfl ?_
  refine C.iloadN d11_23 rfl rfl ?_
  refine C.iconst 1 d11_24 rfl rfl ?_
  refine C.isub d11_25 rfl ?_
  refine Go.cI (y := 0) rfl ?_
  refine C.iaload (.int 0) d11_26 rfl P0 (by decide) rfl ?_
  refine C.icmp_ge_t d11_27 (by decide) rfl (by decide) ?_
  refine C.goto d11_64 (by decide) rfl ?_
  refine C.iinc (Ls' := #[rv o0, iv 0, iv 2, iv 1, iv 2, iv 2]) 1 d11_3 rfl rfl rfl rfl ?_
  refine C.iload d11_6 rfl rfl ?_
  refine C.iloadN d11_8 rfl rfl ?_
  refine C.icmp_ge_t d11_9 (by decide) rfl (by decide) ?_
  exact C.ret0 d11_67 (by decide) (by decide) ⟨rfl, rfl⟩
def Qau3904_10 (Z : State) (n0 : Nat) (h0 : Heap) (o0 : Addr) (v : Option Value) (h' : Heap) : Prop := (v = none) ∧ (h0 = h')
theorem ef_au3904_10 (m : MethodId) (o0 : Addr) : entryFrame m #[.null, (.ref o0), (.int 0), (.int 0), (.int 2)] 21 = mkF m 0 #[.val (.null), rv o0, iv 0, iv 0, iv 2, .unset, .unset, .unset, .unset, .unset, .unset, .unset, .unset, .unset, .unset, .unset, .unset, .unset, .unset, .unset, .unset] [] := by first | (simp [entryFrame, mkF, argsToLocals, Value.category]; done) | rfl
set_option maxRecDepth 65536 in
set_option maxHeartbeats 40000000 in
theorem au3904_10 (l : Launch) (Z : State) (a0 : Array Value) (hw : ∀ d ∈ tables_1, d.before a0 Z = true) (n0 : Nat) (h0 : Heap) (hn0 : n0 ≤ h0.size) (o0 : Addr) (P0 : Av Z h0 o0 .int (.int 0 :: .int 2 :: zI46)) (g_o0 : n0 ≤ o0) :
    Con l Z n0 [] (⟨"java/util/DualPivotQuicksort", "sort", "(Ljava/util/DualPivotQuicksort$Sorter;[IIII)V"⟩ : MethodName) jdk_2529_method_4_code 21 none ({ frames := 1, cells := 0, slots := 0, locals := 17 } : Room) #[.null, (.ref o0), (.int 0), (.int 0), (.int 2)] h0 (Qau3904_10 Z n0 h0 o0) := by
  refine Con.of pf_12 (fun m => ef_au3904_10 m o0) hn0 ?_
  intro p e s m below meth c C
  refine C.iload d10_0 rfl rfl ?_
  refine C.iconst 1 d10_2 rfl rfl ?_
  refine C.isub d10_3 rfl ?_
  refine Go.cI (y := 1) rfl ?_
  refine C.istore (Ls' := #[.val (.null), rv o0, iv 0, iv 0, iv 2, iv 1, .unset, .unset, .unset, .unset, .unset, .unset, .unset, .unset, .unset, .unset, .unset, .unset, .unset, .unset, .unset]) d10_4 rfl rfl ?_
  refine C.iload d10_6 rfl rfl ?_
  refine C.iloadN d10_8 rfl rfl ?_
  refine C.isub d10_9 rfl ?_
  refine Go.cI (y := 2) rfl ?_
  refine C.istore (Ls' := #[.val (.null), rv o0, iv 0, iv 0, iv 2, iv 1, iv 2, .unset, .unset, .unset, .unset, .unset, .unset, .unset, .unset, .unset, .unset, .unset, .unset, .unset, .unset]) d10_10 rfl rfl ?_
  refine C.iload d10_12 rfl rfl ?_
  refine C.bipush 65 d10_14 rfl rfl ?_
  refine C.iloadN d10_16 rfl rfl ?_
  refine C.iadd d10_17 rfl ?_
  refine Go.cI (y := 65) rfl ?_
  refine C.icmp_ge_f d10_18 rfl (by decide) ?_
  refine C.iloadN d10_21 rfl rfl ?_
  refine C.iconst 1 d10_22 rfl rfl ?_
  refine C.iand d10_23 rfl ?_
  refine Go.cI (y := 0) rfl ?_
  refine C.if_le_t d10_24 (by decide) rfl (by decide) ?_
  refine C.iload d10_46 rfl rfl ?_
  refine C.bipush 44 d10_48 rfl rfl ?_
  refine C.icmp_ge_f d10_50 rfl (by decide) ?_
  refine C.aloadN d10_53 rfl rfl rfl ?_
  refine C.iloadN d10_54 rfl rfl ?_
  refine C.iload d10_55 rfl rfl ?_
  refine C.callS (argsL := [(.ref o0), (.int 0), (.int 2)]) (rest := []) 0 (fun zz => au3905_11 l Z a0 hw n0 h0 zz o0 P0 g_o0) d10_57 rfl (tw hw 54 rfl) (tw hw 55 rfl) (tw hw 49 rfl) (tw hw 56 rfl) (by decide) pd_8 rfl rfl rfl (Nat.le_of_eq rfl) (by decide) (by decide) (by decide) (by decide) (fun v3914 h3915 r3916 => ?_)
  obtain ⟨rfl, rfl⟩ := r3916
  exact C.ret0 d10_60 (by decide) (by decide) ⟨rfl, rfl⟩
def Qau3903_9 (Z : State) (n0 : Nat) (h0 : Heap) (o0 : Addr) (v : Option Value) (h' : Heap) : Prop := (v = none) ∧ (h0 = h')
theorem ef_au3903_9 (m : MethodId) (o0 : Addr) : entryFrame m #[(.ref o0), (.int 0), (.int 0), (.int 2)] 7 = mkF m 0 #[rv o0, iv 0, iv 0, iv 2, .unset, .unset, .unset] [] := by first | (simp [entryFrame, mkF, argsToLocals, Value.category]; done) | rfl
set_option maxRecDepth 65536 in
set_option maxHeartbeats 40000000 in
theorem au3903_9 (l : Launch) (Z : State) (a0 : Array Value) (hw : ∀ d ∈ tables_1, d.before a0 Z = true) (n0 : Nat) (h0 : Heap) (hn0 : n0 ≤ h0.size) (o0 : Addr) (P0 : Av Z h0 o0 .int (.int 0 :: .int 2 :: zI46)) (g_o0 : n0 ≤ o0) :
    Con l Z n0 [] (⟨"java/util/DualPivotQuicksort", "sort", "([IIII)V"⟩ : MethodName) jdk_2529_method_3_code 7 none ({ frames := 2, cells := 0, slots := 0, locals := 49 } : Room) #[(.ref o0), (.int 0), (.int 0), (.int 2)] h0 (Qau3903_9 Z n0 h0 o0) := by
  refine Con.of pf_11 (fun m => ef_au3903_9 m o0) hn0 ?_
  intro p e s m below meth c C
  refine C.iloadN d9_0 rfl rfl ?_
  refine C.iloadN d9_1 rfl rfl ?_
  refine C.isub d9_2 rfl ?_
  refine Go.cI (y := 2) rfl ?_
  refine C.istore (Ls' := #[rv o0, iv 0, iv 0, iv 2, iv 2, .unset, .unset]) d9_3 rfl rfl ?_
  refine C.iloadN d9_5 rfl rfl ?_
  refine C.iconst 1 d9_6 rfl rfl ?_
  refine C.icmp_le_t d9_7 (by decide) rfl (by decide) ?_
  refine C.aconst_null d9_68 rfl ?_
  refine C.aloadN d9_69 rfl rfl rfl ?_
  refine C.iconst 0 d9_70 rfl rfl ?_
  refine C.iloadN d9_71 rfl rfl ?_
  refine C.iloadN d9_72 rfl rfl ?_
  refine C.callS (argsL := [.null, (.ref o0), (.int 0), (.int 0), (.int 2)]) (rest := []) 0 (fun zz => au3904_10 l Z a0 hw n0 h0 zz o0 P0 g_o0) d9_73 rfl (tw hw 51 rfl) (tw hw 52 rfl) (tw hw 49 rfl) (tw hw 53 rfl) (by decide) pd_9 rfl rfl rfl (Nat.le_of_eq rfl) (by decide) (by decide) (by decide) (by decide) (fun v3926 h3927 r3928 => ?_)
  obtain ⟨rfl, rfl⟩ := r3928
  exact C.ret0 d9_76 (by decide) (by decide) ⟨rfl, rfl⟩
def Qau3898_7 (Z : State) (n0 : Nat) (h0 : Heap) (o0 : Addr) (v : Option Value) (h' : Heap) : Prop := (v = none) ∧ (h0 = h')
theorem ef_au3898_7 (m : MethodId) (o0 : Addr) : entryFrame m #[(.ref o0), (.int 0), (.int 2)] 3 = mkF m 0 #[rv o0, iv 0, iv 2] [] := by first | (simp [entryFrame, mkF, argsToLocals, Value.category]; done) | rfl
set_option maxRecDepth 65536 in
set_option maxHeartbeats 40000000 in
theorem au3898_7 (l : Launch) (Z : State) (a0 : Array Value) (hw : ∀ d ∈ tables_1, d.before a0 Z = true) (n0 : Nat) (h0 : Heap) (hn0 : n0 ≤ h0.size) (o0 : Addr) (P0 : Av Z h0 o0 .int (.int 0 :: .int 2 :: zI46)) (g_o0 : n0 ≤ o0) :
    Con l Z n0 [] (⟨"java/util/Arrays", "sort", "([III)V"⟩ : MethodName) jdk_65_method_3_code 3 none ({ frames := 3, cells := 0, slots := 0, locals := 67 } : Room) #[(.ref o0), (.int 0), (.int 2)] h0 (Qau3898_7 Z n0 h0 o0) := by
  refine Con.of pf_9 (fun m => ef_au3898_7 m o0) hn0 ?_
  intro p e s m below meth c C
  refine C.aloadN d7_0 rfl rfl rfl ?_
  refine C.alen d7_1 rfl P0 ?_
  refine Go.cI (y := 48) rfl ?_
  refine C.iloadN d7_2 rfl rfl ?_
  refine C.iloadN d7_3 rfl rfl ?_
  refine C.callS (argsL := [(.int 48), (.int 0), (.int 2)]) (rest := []) 0 (fun zz => au3829_8 l Z a0 hw n0 h0 zz  ) d7_4 rfl (tw hw 44 rfl) (tw hw 45 rfl) (tw hw 42 rfl) (tw hw 46 rfl) (by decide) pd_7 rfl rfl rfl (Nat.le_of_eq rfl) (by decide) (by decide) (by decide) (by decide) (fun v3942 h3943 r3944 => ?_)
  obtain ⟨rfl, rfl⟩ := r3944
  refine C.aloadN d7_7 rfl rfl rfl ?_
  refine C.iconst 0 d7_8 rfl rfl ?_
  refine C.iloadN d7_9 rfl rfl ?_
  refine C.iloadN d7_10 rfl rfl ?_
  refine C.callS (argsL := [(.ref o0), (.int 0), (.int 0), (.int 2)]) (rest := []) 0 (fun zz => au3903_9 l Z a0 hw n0 h0 zz o0 P0 g_o0) d7_11 rfl (tw hw 47 rfl) (tw hw 48 rfl) (tw hw 49 rfl) (tw hw 50 rfl) (by decide) pd_10 rfl rfl rfl (Nat.le_of_eq rfl) (by decide) (by decide) (by decide) (by decide) (fun v3946 h3947 r3948 => ?_)
  obtain ⟨rfl, rfl⟩ := r3948
  exact C.ret0 d7_14 (by decide) (by decide) ⟨rfl, rfl⟩
def Qau3897_6 (Z : State) (n0 : Nat) (h0 : Heap) (o0 : Addr) (o1 : Addr) (o2 : Addr) (j0 : Int64) (j1 : Int64) (j2 : Int64) (v : Option Value) (h' : Heap) : Prop := (v = none) ∧ (h0 = h')
theorem ef_au3897_6 (m : MethodId) (o0 : Addr) : entryFrame m #[(.ref o0)] 2 = mkF m 0 #[rv o0, .unset] [] := by first | (simp [entryFrame, mkF, argsToLocals, Value.category]; done) | rfl
set_option maxRecDepth 65536 in
set_option maxHeartbeats 40000000 in
theorem au3897_6 (l : Launch) (Z : State) (a0 : Array Value) (hw : ∀ d ∈ tables_1, d.before a0 Z = true) (n0 : Nat) (h0 : Heap) (hn0 : n0 ≤ h0.size) (o0 : Addr) (o1 : Addr) (o2 : Addr) (j0 : Int64) (j1 : Int64) (j2 : Int64) (P0 : Exa Z h0 o0 kC0) (P1 : Fld Z h0 o0 kC0 "count" "I" (.int 2)) (P2 : Fld Z h0 o0 kC0 "held" "[I" (.ref o1)) (P3 : Fld Z h0 o0 kC0 "listing" "Z" (.int 1)) (P4 : Fld Z h0 o0 kC0 "words" "[J" (.ref o2)) (P5 : Av Z h0 o1 .int (.int 0 :: .int 2 :: zI46)) (P6 : Av Z h0 o2 .long (.long j0 :: .long j1 :: .long j2 :: zJ45)) (g_o0 : n0 ≤ o0) (g_o1 : n0 ≤ o1) (g_o2 : n0 ≤ o2) (ne_o0_o1 : o0 ≠ o1) (ne_o0_o2 : o0 ≠ o2) (ne_o1_o2 : o1 ≠ o2) :
    Con l Z n0 [] (⟨"com/example/detra/detra/SetWords", "listHeld", "()V"⟩ : MethodName) prog_21_method_7_code 2 none ({ frames := 4, cells := 0, slots := 0, locals := 81 } : Room) #[(.ref o0)] h0 (Qau3897_6 Z n0 h0 o0 o1 o2 j0 j1 j2) := by
  refine Con.of pf_3 (fun m => ef_au3897_6 m o0) hn0 ?_
  intro p e s m below meth c C
  refine C.aloadN d6_0 rfl rfl rfl ?_
  refine C.getF d6_1 rfl (tw hw 14 rfl) P3 ?_
  refine C.if_eq_f d6_4 rfl (by decide) ?_
  refine C.aloadN d6_7 rfl rfl rfl ?_
  refine C.getF d6_8 rfl (tw hw 38 rfl) P1 ?_
  refine C.aloadN d6_11 rfl rfl rfl ?_
  refine C.getF d6_12 rfl (tw hw 12 rfl) P4 ?_
  refine C.alen d6_15 rfl P6 ?_
  refine Go.cI (y := 48) rfl ?_
  refine C.bipush 16 d6_16 rfl rfl ?_
  refine C.idiv d6_18 rfl (by decide) ?_
  refine Go.cI (y := 3) rfl ?_
  refine C.icmp_le_t d6_19 (by decide) rfl (by decide) ?_
  refine C.aloadN d6_75 rfl rfl rfl ?_
  refine C.getF d6_76 rfl (tw hw 17 rfl) P2 ?_
  refine C.iconst 0 d6_79 rfl rfl ?_
  refine C.aloadN d6_80 rfl rfl rfl ?_
  refine C.getF d6_81 rfl (tw hw 38 rfl) P1 ?_
  refine C.callS (argsL := [(.ref o1), (.int 0), (.int 2)]) (rest := []) 0 (fun zz => au3898_7 l Z a0 hw n0 h0 zz o1 P5 g_o1) d6_84 rfl (tw hw 40 rfl) (tw hw 41 rfl) (tw hw 42 rfl) (tw hw 43 rfl) (by decide) pd_8 rfl rfl rfl (Nat.le_of_eq rfl) (by decide) (by decide) (by decide) (by decide) (fun v3958 h3959 r3960 => ?_)
  obtain ⟨rfl, rfl⟩ := r3960
  exact C.ret0 d6_87 (by decide) (by decide) ⟨rfl, rfl⟩
def Qau3974_11 (Z : State) (n0 : Nat) (h0 : Heap) (o0 : Addr) (v : Option Value) (h' : Heap) : Prop := (v = none) ∧ (h0 = h')
theorem ef_au3974_11 (m : MethodId) (o0 : Addr) : entryFrame m #[(.ref o0), (.int 0), (.int 2)] 6 = mkF m 0 #[rv o0, iv 0, iv 2, .unset, .unset, .unset] [] := by first | (simp [entryFrame, mkF, argsToLocals, Value.category]; done) | rfl
set_option maxRecDepth 65536 in
set_option maxHeartbeats 40000000 in
theorem au3974_11 (l : Launch) (Z : State) (a0 : Array Value) (hw : ∀ d ∈ tables_1, d.before a0 Z = true) (n0 : Nat) (h0 : Heap) (hn0 : n0 ≤ h0.size) (o0 : Addr) (P0 : Av Z h0 o0 .int (.int 1 :: .int 2 :: zI46)) (g_o0 : n0 ≤ o0) :
    Con l Z n0 [] (⟨"java/util/DualPivotQuicksort", "insertionSort", "([III)V"⟩ : MethodName) jdk_2529_method_6_code 6 none ({ frames := 0, cells := 0, slots := 0, locals := 0 } : Room) #[(.ref o0), (.int 0), (.int 2)] h0 (Qau3974_11 Z n0 h0 o0) := by
  refine Con.of pf_13 (fun m => ef_au3974_11 m o0) hn0 ?_
  intro p e s m below meth c C
  refine C.iloadN d11_0 rfl rfl ?_
  refine C.istore (Ls' := #[rv o0, iv 0, iv 2, .unset, iv 0, .unset]) d11_1 rfl rfl ?_
  refine C.iinc (Ls' := #[rv o0, iv 0, iv 2, .unset, iv 1, .unset]) 1 d11_3 rfl rfl rfl rfl ?_
  refine C.iload d11_6 rfl rfl ?_
  refine C.iloadN d11_8 rfl rfl ?_
  refine C.icmp_ge_f d11_9 rfl (by decide) ?_
  refine C.aloadN d11_12 rfl rfl rfl ?_
  refine C.iload d11_13 rfl rfl ?_
  refine C.dup d11_15 rfl rfl ?_
  refine C.istoreN (Ls' := #[rv o0, iv 0, iv 2, iv 1, iv 1, .unset]) d11_16 rfl rfl ?_
  refine C.iaload (.int 2) d11_17 rfl P0 (by decide) rfl ?_
  refine C.istore (Ls' := #[rv o0, iv 0, iv 2, iv 1, iv 1, iv 2]) d11_18 rfl rfl ?_
  refine C.iload d11_20 rfl rfl ?_
  refine C.aloadN d11_22 rfl rfl rfl ?_
  refine C.iloadN d11_23 rfl rfl ?_
  refine C.iconst 1 d11_24 rfl rfl ?_
  refine C.isub d11_25 rfl ?_
  refine Go.cI (y := 0) rfl ?_
  refine C.iaload (.int 1) d11_26 rfl P0 (by decide) rfl ?_
  refine C.icmp_ge_t d11_27 (by decide) rfl (by decide) ?_
  refine C.goto d11_64 (by decide) rfl ?_
  refine C.iinc (Ls' := #[rv o0, iv 0, iv 2, iv 1, iv 2, iv 2]) 1 d11_3 rfl rfl rfl rfl ?_
  refine C.iload d11_6 rfl rfl ?_
  refine C.iloadN d11_8 rfl rfl ?_
  refine C.icmp_ge_t d11_9 (by decide) rfl (by decide) ?_
  exact C.ret0 d11_67 (by decide) (by decide) ⟨rfl, rfl⟩
def Qau3973_10 (Z : State) (n0 : Nat) (h0 : Heap) (o0 : Addr) (v : Option Value) (h' : Heap) : Prop := (v = none) ∧ (h0 = h')
theorem ef_au3973_10 (m : MethodId) (o0 : Addr) : entryFrame m #[.null, (.ref o0), (.int 0), (.int 0), (.int 2)] 21 = mkF m 0 #[.val (.null), rv o0, iv 0, iv 0, iv 2, .unset, .unset, .unset, .unset, .unset, .unset, .unset, .unset, .unset, .unset, .unset, .unset, .unset, .unset, .unset, .unset] [] := by first | (simp [entryFrame, mkF, argsToLocals, Value.category]; done) | rfl
set_option maxRecDepth 65536 in
set_option maxHeartbeats 40000000 in
theorem au3973_10 (l : Launch) (Z : State) (a0 : Array Value) (hw : ∀ d ∈ tables_1, d.before a0 Z = true) (n0 : Nat) (h0 : Heap) (hn0 : n0 ≤ h0.size) (o0 : Addr) (P0 : Av Z h0 o0 .int (.int 1 :: .int 2 :: zI46)) (g_o0 : n0 ≤ o0) :
    Con l Z n0 [] (⟨"java/util/DualPivotQuicksort", "sort", "(Ljava/util/DualPivotQuicksort$Sorter;[IIII)V"⟩ : MethodName) jdk_2529_method_4_code 21 none ({ frames := 1, cells := 0, slots := 0, locals := 17 } : Room) #[.null, (.ref o0), (.int 0), (.int 0), (.int 2)] h0 (Qau3973_10 Z n0 h0 o0) := by
  refine Con.of pf_12 (fun m => ef_au3973_10 m o0) hn0 ?_
  intro p e s m below meth c C
  refine C.iload d10_0 rfl rfl ?_
  refine C.iconst 1 d10_2 rfl rfl ?_
  refine C.isub d10_3 rfl ?_
  refine Go.cI (y := 1) rfl ?_
  refine C.istore (Ls' := #[.val (.null), rv o0, iv 0, iv 0, iv 2, iv 1, .unset, .unset, .unset, .unset, .unset, .unset, .unset, .unset, .unset, .unset, .unset, .unset, .unset, .unset, .unset]) d10_4 rfl rfl ?_
  refine C.iload d10_6 rfl rfl ?_
  refine C.iloadN d10_8 rfl rfl ?_
  refine C.isub d10_9 rfl ?_
  refine Go.cI (y := 2) rfl ?_
  refine C.istore (Ls' := #[.val (.null), rv o0, iv 0, iv 0, iv 2, iv 1, iv 2, .unset, .unset, .unset, .unset, .unset, .unset, .unset, .unset, .unset, .unset, .unset, .unset, .unset, .unset]) d10_10 rfl rfl ?_
  refine C.iload d10_12 rfl rfl ?_
  refine C.bipush 65 d10_14 rfl rfl ?_
  refine C.iloadN d10_16 rfl rfl ?_
  refine C.iadd d10_17 rfl ?_
  refine Go.cI (y := 65) rfl ?_
  refine C.icmp_ge_f d10_18 rfl (by decide) ?_
  refine C.iloadN d10_21 rfl rfl ?_
  refine C.iconst 1 d10_22 rfl rfl ?_
  refine C.iand d10_23 rfl ?_
  refine Go.cI (y := 0) rfl ?_
  refine C.if_le_t d10_24 (by decide) rfl (by decide) ?_
  refine C.iload d10_46 rfl rfl ?_
  refine C.bipush 44 d10_48 rfl rfl ?_
  refine C.icmp_ge_f d10_50 rfl (by decide) ?_
  refine C.aloadN d10_53 rfl rfl rfl ?_
  refine C.iloadN d10_54 rfl rfl ?_
  refine C.iload d10_55 rfl rfl ?_
  refine C.callS (argsL := [(.ref o0), (.int 0), (.int 2)]) (rest := []) 0 (fun zz => au3974_11 l Z a0 hw n0 h0 zz o0 P0 g_o0) d10_57 rfl (tw hw 54 rfl) (tw hw 55 rfl) (tw hw 49 rfl) (tw hw 56 rfl) (by decide) pd_8 rfl rfl rfl (Nat.le_of_eq rfl) (by decide) (by decide) (by decide) (by decide) (fun v3983 h3984 r3985 => ?_)
  obtain ⟨rfl, rfl⟩ := r3985
  exact C.ret0 d10_60 (by decide) (by decide) ⟨rfl, rfl⟩
def Qau3972_9 (Z : State) (n0 : Nat) (h0 : Heap) (o0 : Addr) (v : Option Value) (h' : Heap) : Prop := (v = none) ∧ (h0 = h')
theorem ef_au3972_9 (m : MethodId) (o0 : Addr) : entryFrame m #[(.ref o0), (.int 0), (.int 0), (.int 2)] 7 = mkF m 0 #[rv o0, iv 0, iv 0, iv 2, .unset, .unset, .unset] [] := by first | (simp [entryFrame, mkF, argsToLocals, Value.category]; done) | rfl
set_option maxRecDepth 65536 in
set_option maxHeartbeats 40000000 in
theorem au3972_9 (l : Launch) (Z : State) (a0 : Array Value) (hw : ∀ d ∈ tables_1, d.before a0 Z = true) (n0 : Nat) (h0 : Heap) (hn0 : n0 ≤ h0.size) (o0 : Addr) (P0 : Av Z h0 o0 .int (.int 1 :: .int 2 :: zI46)) (g_o0 : n0 ≤ o0) :
    Con l Z n0 [] (⟨"java/util/DualPivotQuicksort", "sort", "([IIII)V"⟩ : MethodName) jdk_2529_method_3_code 7 none ({ frames := 2, cells := 0, slots := 0, locals := 49 } : Room) #[(.ref o0), (.int 0), (.int 0), (.int 2)] h0 (Qau3972_9 Z n0 h0 o0) := by
  refine Con.of pf_11 (fun m => ef_au3972_9 m o0) hn0 ?_
  intro p e s m below meth c C
  refine C.iloadN d9_0 rfl rfl ?_
  refine C.iloadN d9_1 rfl rfl ?_
  refine C.isub d9_2 rfl ?_
  refine Go.cI (y := 2) rfl ?_
  refine C.istore (Ls' := #[rv o0, iv 0, iv 0, iv 2, iv 2, .unset, .unset]) d9_3 rfl rfl ?_
  refine C.iloadN d9_5 rfl rfl ?_
  refine C.iconst 1 d9_6 rfl rfl ?_
  refine C.icmp_le_t d9_7 (by decide) rfl (by decide) ?_
  refine C.aconst_null d9_68 rfl ?_
  refine C.aloadN d9_69 rfl rfl rfl ?_
  refine C.iconst 0 d9_70 rfl rfl ?_
  refine C.iloadN d9_71 rfl rfl ?_
  refine C.iloadN d9_72 rfl rfl ?_
  refine C.callS (argsL := [.null, (.ref o0), (.int 0), (.int 0), (.int 2)]) (rest := []) 0 (fun zz => au3973_10 l Z a0 hw n0 h0 zz o0 P0 g_o0) d9_73 rfl (tw hw 51 rfl) (tw hw 52 rfl) (tw hw 49 rfl) (tw hw 53 rfl) (by decide) pd_9 rfl rfl rfl (Nat.le_of_eq rfl) (by decide) (by decide) (by decide) (by decide) (fun v3995 h3996 r3997 => ?_)
  obtain ⟨rfl, rfl⟩ := r3997
  exact C.ret0 d9_76 (by decide) (by decide) ⟨rfl, rfl⟩
def Qau3967_7 (Z : State) (n0 : Nat) (h0 : Heap) (o0 : Addr) (v : Option Value) (h' : Heap) : Prop := (v = none) ∧ (h0 = h')
theorem ef_au3967_7 (m : MethodId) (o0 : Addr) : entryFrame m #[(.ref o0), (.int 0), (.int 2)] 3 = mkF m 0 #[rv o0, iv 0, iv 2] [] := by first | (simp [entryFrame, mkF, argsToLocals, Value.category]; done) | rfl
set_option maxRecDepth 65536 in
set_option maxHeartbeats 40000000 in
theorem au3967_7 (l : Launch) (Z : State) (a0 : Array Value) (hw : ∀ d ∈ tables_1, d.before a0 Z = true) (n0 : Nat) (h0 : Heap) (hn0 : n0 ≤ h0.size) (o0 : Addr) (P0 : Av Z h0 o0 .int (.int 1 :: .int 2 :: zI46)) (g_o0 : n0 ≤ o0) :
    Con l Z n0 [] (⟨"java/util/Arrays", "sort", "([III)V"⟩ : MethodName) jdk_65_method_3_code 3 none ({ frames := 3, cells := 0, slots := 0, locals := 67 } : Room) #[(.ref o0), (.int 0), (.int 2)] h0 (Qau3967_7 Z n0 h0 o0) := by
  refine Con.of pf_9 (fun m => ef_au3967_7 m o0) hn0 ?_
  intro p e s m below meth c C
  refine C.aloadN d7_0 rfl rfl rfl ?_
  refine C.alen d7_1 rfl P0 ?_
  refine Go.cI (y := 48) rfl ?_
  refine C.iloadN d7_2 rfl rfl ?_
  refine C.iloadN d7_3 rfl rfl ?_
  refine C.callS (argsL := [(.int 48), (.int 0), (.int 2)]) (rest := []) 0 (fun zz => au3829_8 l Z a0 hw n0 h0 zz  ) d7_4 rfl (tw hw 44 rfl) (tw hw 45 rfl) (tw hw 42 rfl) (tw hw 46 rfl) (by decide) pd_7 rfl rfl rfl (Nat.le_of_eq rfl) (by decide) (by decide) (by decide) (by decide) (fun v4011 h4012 r4013 => ?_)
  obtain ⟨rfl, rfl⟩ := r4013
  refine C.aloadN d7_7 rfl rfl rfl ?_
  refine C.iconst 0 d7_8 rfl rfl ?_
  refine C.iloadN d7_9 rfl rfl ?_
  refine C.iloadN d7_10 rfl rfl ?_
  refine C.callS (argsL := [(.ref o0), (.int 0), (.int 0), (.int 2)]) (rest := []) 0 (fun zz => au3972_9 l Z a0 hw n0 h0 zz o0 P0 g_o0) d7_11 rfl (tw hw 47 rfl) (tw hw 48 rfl) (tw hw 49 rfl) (tw hw 50 rfl) (by decide) pd_10 rfl rfl rfl (Nat.le_of_eq rfl) (by decide) (by decide) (by decide) (by decide) (fun v4015 h4016 r4017 => ?_)
  obtain ⟨rfl, rfl⟩ := r4017
  exact C.ret0 d7_14 (by decide) (by decide) ⟨rfl, rfl⟩
def Qau3966_6 (Z : State) (n0 : Nat) (h0 : Heap) (o0 : Addr) (o1 : Addr) (o2 : Addr) (j0 : Int64) (j1 : Int64) (j2 : Int64) (v : Option Value) (h' : Heap) : Prop := (v = none) ∧ (h0 = h')
theorem ef_au3966_6 (m : MethodId) (o0 : Addr) : entryFrame m #[(.ref o0)] 2 = mkF m 0 #[rv o0, .unset] [] := by first | (simp [entryFrame, mkF, argsToLocals, Value.category]; done) | rfl
set_option maxRecDepth 65536 in
set_option maxHeartbeats 40000000 in
theorem au3966_6 (l : Launch) (Z : State) (a0 : Array Value) (hw : ∀ d ∈ tables_1, d.before a0 Z = true) (n0 : Nat) (h0 : Heap) (hn0 : n0 ≤ h0.size) (o0 : Addr) (o1 : Addr) (o2 : Addr) (j0 : Int64) (j1 : Int64) (j2 : Int64) (P0 : Exa Z h0 o0 kC0) (P1 : Fld Z h0 o0 kC0 "count" "I" (.int 2)) (P2 : Fld Z h0 o0 kC0 "held" "[I" (.ref o1)) (P3 : Fld Z h0 o0 kC0 "listing" "Z" (.int 1)) (P4 : Fld Z h0 o0 kC0 "words" "[J" (.ref o2)) (P5 : Av Z h0 o1 .int (.int 1 :: .int 2 :: zI46)) (P6 : Av Z h0 o2 .long (.long j0 :: .long j1 :: .long j2 :: zJ45)) (g_o0 : n0 ≤ o0) (g_o1 : n0 ≤ o1) (g_o2 : n0 ≤ o2) (ne_o0_o1 : o0 ≠ o1) (ne_o0_o2 : o0 ≠ o2) (ne_o1_o2 : o1 ≠ o2) :
    Con l Z n0 [] (⟨"com/example/detra/detra/SetWords", "listHeld", "()V"⟩ : MethodName) prog_21_method_7_code 2 none ({ frames := 4, cells := 0, slots := 0, locals := 81 } : Room) #[(.ref o0)] h0 (Qau3966_6 Z n0 h0 o0 o1 o2 j0 j1 j2) := by
  refine Con.of pf_3 (fun m => ef_au3966_6 m o0) hn0 ?_
  intro p e s m below meth c C
  refine C.aloadN d6_0 rfl rfl rfl ?_
  refine C.getF d6_1 rfl (tw hw 14 rfl) P3 ?_
  refine C.if_eq_f d6_4 rfl (by decide) ?_
  refine C.aloadN d6_7 rfl rfl rfl ?_
  refine C.getF d6_8 rfl (tw hw 38 rfl) P1 ?_
  refine C.aloadN d6_11 rfl rfl rfl ?_
  refine C.getF d6_12 rfl (tw hw 12 rfl) P4 ?_
  refine C.alen d6_15 rfl P6 ?_
  refine Go.cI (y := 48) rfl ?_
  refine C.bipush 16 d6_16 rfl rfl ?_
  refine C.idiv d6_18 rfl (by decide) ?_
  refine Go.cI (y := 3) rfl ?_
  refine C.icmp_le_t d6_19 (by decide) rfl (by decide) ?_
  refine C.aloadN d6_75 rfl rfl rfl ?_
  refine C.getF d6_76 rfl (tw hw 17 rfl) P2 ?_
  refine C.iconst 0 d6_79 rfl rfl ?_
  refine C.aloadN d6_80 rfl rfl rfl ?_
  refine C.getF d6_81 rfl (tw hw 38 rfl) P1 ?_
  refine C.callS (argsL := [(.ref o1), (.int 0), (.int 2)]) (rest := []) 0 (fun zz => au3967_7 l Z a0 hw n0 h0 zz o1 P5 g_o1) d6_84 rfl (tw hw 40 rfl) (tw hw 41 rfl) (tw hw 42 rfl) (tw hw 43 rfl) (by decide) pd_8 rfl rfl rfl (Nat.le_of_eq rfl) (by decide) (by decide) (by decide) (by decide) (fun v4027 h4028 r4029 => ?_)
  obtain ⟨rfl, rfl⟩ := r4029
  exact C.ret0 d6_87 (by decide) (by decide) ⟨rfl, rfl⟩
def Qau4037_8 (Z : State) (n0 : Nat) (h0 : Heap)  (v : Option Value) (h' : Heap) : Prop := (v = none) ∧ (h0 = h')
theorem ef_au4037_8 (m : MethodId)  : entryFrame m #[(.int 48), (.int 0), (.int 3)] 3 = mkF m 0 #[iv 48, iv 0, iv 3] [] := by first | (simp [entryFrame, mkF, argsToLocals, Value.category]; done) | rfl
set_option maxRecDepth 65536 in
set_option maxHeartbeats 40000000 in
theorem au4037_8 (l : Launch) (Z : State) (a0 : Array Value) (hw : ∀ d ∈ tables_1, d.before a0 Z = true) (n0 : Nat) (h0 : Heap) (hn0 : n0 ≤ h0.size)  :
    Con l Z n0 [] (⟨"java/util/Arrays", "rangeCheck", "(III)V"⟩ : MethodName) jdk_65_method_30_code 3 none ({ frames := 0, cells := 0, slots := 0, locals := 0 } : Room) #[(.int 48), (.int 0), (.int 3)] h0 (Qau4037_8 Z n0 h0) := by
  refine Con.of pf_10 (fun m => ef_au4037_8 m ) hn0 ?_
  intro p e s m below meth c C
  refine C.iloadN d8_0 rfl rfl ?_
  refine C.iloadN d8_1 rfl rfl ?_
  refine C.icmp_le_t d8_2 (by decide) rfl (by decide) ?_
  refine C.iloadN d8_46 rfl rfl ?_
  refine C.if_ge_t d8_47 (by decide) rfl (by decide) ?_
  refine C.iloadN d8_59 rfl rfl ?_
  refine C.iloadN d8_60 rfl rfl ?_
  refine C.icmp_le_t d8_61 (by decide) rfl (by decide) ?_
  exact C.ret0 d8_73 (by decide) (by decide) ⟨rfl, rfl⟩
def Qau4044_11 (Z : State) (n0 : Nat) (h0 : Heap) (o0 : Addr) (v : Option Value) (h' : Heap) : Prop := (v = none) ∧ (h0 = h')
theorem ef_au4044_11 (m : MethodId) (o0 : Addr) : entryFrame m #[(.ref o0), (.int 0), (.int 3)] 6 = mkF m 0 #[rv o0, iv 0, iv 3, .unset, .unset, .unset] [] := by first | (simp [entryFrame, mkF, argsToLocals, Value.category]; done) | rfl
set_option maxRecDepth 65536 in
set_option maxHeartbeats 40000000 in
theorem au4044_11 (l : Launch) (Z : State) (a0 : Array Value) (hw : ∀ d ∈ tables_1, d.before a0 Z = true) (n0 : Nat) (h0 : Heap) (hn0 : n0 ≤ h0.size) (o0 : Addr) (P0 : Av Z h0 o0 .int (.int 0 :: .int 1 :: .int 2 :: zI45)) (g_o0 : n0 ≤ o0) :
    Con l Z n0 [] (⟨"java/util/DualPivotQuicksort", "insertionSort", "([III)V"⟩ : MethodName) jdk_2529_method_6_code 6 none ({ frames := 0, cells := 0, slots := 0, locals := 0 } : Room) #[(.ref o0), (.int 0), (.int 3)] h0 (Qau4044_11 Z n0 h0 o0) := by
  refine Con.of pf_13 (fun m => ef_au4044_11 m o0) hn0 ?_
  intro p e s m below meth c C
  refine C.iloadN d11_0 rfl rfl ?_
  refine C.istore (Ls' := #[rv o0, iv 0, iv 3, .unset, iv 0, .unset]) d11_1 rfl rfl ?_
  refine C.iinc (Ls' := #[rv o0, iv 0, iv 3, .unset, iv 1, .unset]) 1 d11_3 rfl rfl rfl rfl ?_
  refine C.iload d11_6 rfl rfl ?_
  refine C.iloadN d11_8 rfl rfl ?_
  refine C.icmp_ge_f d11_9 rfl (by decide) ?_
  refine C.aloadN d11_12 rfl rfl rfl ?_
  refine C.iload d11_13 rfl rfl ?_
  refine C.dup d11_15 rfl rfl ?_
  refine C.istoreN (Ls' := #[rv o0, iv 0, iv 3, iv 1, iv 1, .unset]) d11_16 rfl rfl ?_
  refine C.iaload (.int 1) d11_17 rfl P0 (by decide) rfl ?_
  refine C.istore (Ls' := #[rv o0, iv 0, iv 3, iv 1, iv 1, iv 1]) d11_18 rfl rfl ?_
  refine C.iload d11_20 rfl rfl ?_
  refine C.aloadN d11_22 rfl rfl rfl ?_
  refine C.iloadN d11_23 rfl rfl ?_
  refine C.iconst 1 d11_24 rfl rfl ?_
  refine C.isub d11_25 rfl ?_
  refine Go.cI (y := 0) rfl ?_
  refine C.iaload (.int 0) d11_26 rfl P0 (by decide) rfl ?_
  refine C.icmp_ge_t d11_27 (by decide) rfl (by decide) ?_
  refine C.goto d11_64 (by decide) rfl ?_
  refine C.iinc (Ls' := #[rv o0, iv 0, iv 3, iv 1, iv 2, iv 1]) 1 d11_3 rfl rfl rfl rfl ?_
  refine C.iload d11_6 rfl rfl ?_
  refine C.iloadN d11_8 rfl rfl ?_
  refine C.icmp_ge_f d11_9 rfl (by decide) ?_
  refine C.aloadN d11_12 rfl rfl rfl ?_
  refine C.iload d11_13 rfl rfl ?_
  refine C.dup d11_15 rfl rfl ?_
  refine C.istoreN (Ls' := #[rv o0, iv 0, iv 3, iv 2, iv 2, iv 1]) d11_16 rfl rfl ?_
  refine C.iaload (.int 2) d11_17 rfl P0 (by decide) rfl ?_
  refine C.istore (Ls' := #[rv o0, iv 0, iv 3, iv 2, iv 2, iv 2]) d11_18 rfl rfl ?_
  refine C.iload d11_20 rfl rfl ?_
  refine C.aloadN d11_22 rfl rfl rfl ?_
  refine C.iloadN d11_23 rfl rfl ?_
  refine C.iconst 1 d11_24 rfl rfl ?_
  refine C.isub d11_25 rfl ?_
  refine Go.cI (y := 1) rfl ?_
  refine C.iaload (.int 1) d11_26 rfl P0 (by decide) rfl ?_
  refine C.icmp_ge_t d11_27 (by decide) rfl (by decide) ?_
  refine C.goto d11_64 (by decide) rfl ?_
  refine C.iinc (Ls' := #[rv o0, iv 0, iv 3, iv 2, iv 3, iv 2]) 1 d11_3 rfl rfl rfl rfl ?_
  refine C.iload d11_6 rfl rfl ?_
  refine C.iloadN d11_8 rfl rfl ?_
  refine C.icmp_ge_t d11_9 (by decide) rfl (by decide) ?_
  exact C.ret0 d11_67 (by decide) (by decide) ⟨rfl, rfl⟩
def Qau4043_10 (Z : State) (n0 : Nat) (h0 : Heap) (o0 : Addr) (v : Option Value) (h' : Heap) : Prop := (v = none) ∧ (h0 = h')
theorem ef_au4043_10 (m : MethodId) (o0 : Addr) : entryFrame m #[.null, (.ref o0), (.int 0), (.int 0), (.int 3)] 21 = mkF m 0 #[.val (.null), rv o0, iv 0, iv 0, iv 3, .unset, .unset, .unset, .unset, .unset, .unset, .unset, .unset, .unset, .unset, .unset, .unset, .unset, .unset, .unset, .unset] [] := by first | (simp [entryFrame, mkF, argsToLocals, Value.category]; done) | rfl
set_option maxRecDepth 65536 in
set_option maxHeartbeats 40000000 in
theorem au4043_10 (l : Launch) (Z : State) (a0 : Array Value) (hw : ∀ d ∈ tables_1, d.before a0 Z = true) (n0 : Nat) (h0 : Heap) (hn0 : n0 ≤ h0.size) (o0 : Addr) (P0 : Av Z h0 o0 .int (.int 0 :: .int 1 :: .int 2 :: zI45)) (g_o0 : n0 ≤ o0) :
    Con l Z n0 [] (⟨"java/util/DualPivotQuicksort", "sort", "(Ljava/util/DualPivotQuicksort$Sorter;[IIII)V"⟩ : MethodName) jdk_2529_method_4_code 21 none ({ frames := 1, cells := 0, slots := 0, locals := 17 } : Room) #[.null, (.ref o0), (.int 0), (.int 0), (.int 3)] h0 (Qau4043_10 Z n0 h0 o0) := by
  refine Con.of pf_12 (fun m => ef_au4043_10 m o0) hn0 ?_
  intro p e s m below meth c C
  refine C.iload d10_0 rfl rfl ?_
  refine C.iconst 1 d10_2 rfl rfl ?_
  refine C.isub d10_3 rfl ?_
  refine Go.cI (y := 2) rfl ?_
  refine C.istore (Ls' := #[.val (.null), rv o0, iv 0, iv 0, iv 3, iv 2, .unset, .unset, .unset, .unset, .unset, .unset, .unset, .unset, .unset, .unset, .unset, .unset, .unset, .unset, .unset]) d10_4 rfl rfl ?_
  refine C.iload d10_6 rfl rfl ?_
  refine C.iloadN d10_8 rfl rfl ?_
  refine C.isub d10_9 rfl ?_
  refine Go.cI (y := 3) rfl ?_
  refine C.istore (Ls' := #[.val (.null), rv o0, iv 0, iv 0, iv 3, iv 2, iv 3, .unset, .unset, .unset, .unset, .unset, .unset, .unset, .unset, .unset, .unset, .unset, .unset, .unset, .unset]) d10_10 rfl rfl ?_
  refine C.iload d10_12 rfl rfl ?_
  refine C.bipush 65 d10_14 rfl rfl ?_
  refine C.iloadN d10_16 rfl rfl ?_
  refine C.iadd d10_17 rfl ?_
  refine Go.cI (y := 65) rfl ?_
  refine C.icmp_ge_f d10_18 rfl (by decide) ?_
  refine C.iloadN d10_21 rfl rfl ?_
  refine C.iconst 1 d10_22 rfl rfl ?_
  refine C.iand d10_23 rfl ?_
  refine Go.cI (y := 0) rfl ?_
  refine C.if_le_t d10_24 (by decide) rfl (by decide) ?_
  refine C.iload d10_46 rfl rfl ?_
  refine C.bipush 44 d10_48 rfl rfl ?_
  refine C.icmp_ge_f d10_50 rfl (by decide) ?_
  refine C.aloadN d10_53 rfl rfl rfl ?_
  refine C.iloadN d10_54 rfl rfl ?_
  refine C.iload d10_55 rfl rfl ?_
  refine C.callS (argsL := [(.ref o0), (.int 0), (.int 3)]) (rest := []) 0 (fun zz => au4044_11 l Z a0 hw n0 h0 zz o0 P0 g_o0) d10_57 rfl (tw hw 54 rfl) (tw hw 55 rfl) (tw hw 49 rfl) (tw hw 56 rfl) (by decide) pd_8 rfl rfl rfl (Nat.le_of_eq rfl) (by decide) (by decide) (by decide) (by decide) (fun v4053 h4054 r4055 => ?_)
  obtain ⟨rfl, rfl⟩ := r4055
  exact C.ret0 d10_60 (by decide) (by decide) ⟨rfl, rfl⟩
def Qau4042_9 (Z : State) (n0 : Nat) (h0 : Heap) (o0 : Addr) (v : Option Value) (h' : Heap) : Prop := (v = none) ∧ (h0 = h')
theorem ef_au4042_9 (m : MethodId) (o0 : Addr) : entryFrame m #[(.ref o0), (.int 0), (.int 0), (.int 3)] 7 = mkF m 0 #[rv o0, iv 0, iv 0, iv 3, .unset, .unset, .unset] [] := by first | (simp [entryFrame, mkF, argsToLocals, Value.category]; done) | rfl
set_option maxRecDepth 65536 in
set_option maxHeartbeats 40000000 in
theorem au4042_9 (l : Launch) (Z : State) (a0 : Array Value) (hw : ∀ d ∈ tables_1, d.before a0 Z = true) (n0 : Nat) (h0 : Heap) (hn0 : n0 ≤ h0.size) (o0 : Addr) (P0 : Av Z h0 o0 .int (.int 0 :: .int 1 :: .int 2 :: zI45)) (g_o0 : n0 ≤ o0) :
    Con l Z n0 [] (⟨"java/util/DualPivotQuicksort", "sort", "([IIII)V"⟩ : MethodName) jdk_2529_method_3_code 7 none ({ frames := 2, cells := 0, slots := 0, locals := 49 } : Room) #[(.ref o0), (.int 0), (.int 0), (.int 3)] h0 (Qau4042_9 Z n0 h0 o0) := by
  refine Con.of pf_11 (fun m => ef_au4042_9 m o0) hn0 ?_
  intro p e s m below meth c C
  refine C.iloadN d9_0 rfl rfl ?_
  refine C.iloadN d9_1 rfl rfl ?_
  refine C.isub d9_2 rfl ?_
  refine Go.cI (y := 3) rfl ?_
  refine C.istore (Ls' := #[rv o0, iv 0, iv 0, iv 3, iv 3, .unset, .unset]) d9_3 rfl rfl ?_
  refine C.iloadN d9_5 rfl rfl ?_
  refine C.iconst 1 d9_6 rfl rfl ?_
  refine C.icmp_le_t d9_7 (by decide) rfl (by decide) ?_
  refine C.aconst_null d9_68 rfl ?_
  refine C.aloadN d9_69 rfl rfl rfl ?_
  refine C.iconst 0 d9_70 rfl rfl ?_
  refine C.iloadN d9_71 rfl rfl ?_
  refine C.iloadN d9_72 rfl rfl ?_
  refine C.callS (argsL := [.null, (.ref o0), (.int 0), (.int 0), (.int 3)]) (rest := []) 0 (fun zz => au4043_10 l Z a0 hw n0 h0 zz o0 P0 g_o0) d9_73 rfl (tw hw 51 rfl) (tw hw 52 rfl) (tw hw 49 rfl) (tw hw 53 rfl) (by decide) pd_9 rfl rfl rfl (Nat.le_of_eq rfl) (by decide) (by decide) (by decide) (by decide) (fun v4065 h4066 r4067 => ?_)
  obtain ⟨rfl, rfl⟩ := r4067
  exact C.ret0 d9_76 (by decide) (by decide) ⟨rfl, rfl⟩
def Qau4036_7 (Z : State) (n0 : Nat) (h0 : Heap) (o0 : Addr) (v : Option Value) (h' : Heap) : Prop := (v = none) ∧ (h0 = h')
theorem ef_au4036_7 (m : MethodId) (o0 : Addr) : entryFrame m #[(.ref o0), (.int 0), (.int 3)] 3 = mkF m 0 #[rv o0, iv 0, iv 3] [] := by first | (simp [entryFrame, mkF, argsToLocals, Value.category]; done) | rfl
set_option maxRecDepth 65536 in
set_option maxHeartbeats 40000000 in
theorem au4036_7 (l : Launch) (Z : State) (a0 : Array Value) (hw : ∀ d ∈ tables_1, d.before a0 Z = true) (n0 : Nat) (h0 : Heap) (hn0 : n0 ≤ h0.size) (o0 : Addr) (P0 : Av Z h0 o0 .int (.int 0 :: .int 1 :: .int 2 :: zI45)) (g_o0 : n0 ≤ o0) :
    Con l Z n0 [] (⟨"java/util/Arrays", "sort", "([III)V"⟩ : MethodName) jdk_65_method_3_code 3 none ({ frames := 3, cells := 0, slots := 0, locals := 67 } : Room) #[(.ref o0), (.int 0), (.int 3)] h0 (Qau4036_7 Z n0 h0 o0) := by
  refine Con.of pf_9 (fun m => ef_au4036_7 m o0) hn0 ?_
  intro p e s m below meth c C
  refine C.aloadN d7_0 rfl rfl rfl ?_
  refine C.alen d7_1 rfl P0 ?_
  refine Go.cI (y := 48) rfl ?_
  refine C.iloadN d7_2 rfl rfl ?_
  refine C.iloadN d7_3 rfl rfl ?_
  refine C.callS (argsL := [(.int 48), (.int 0), (.int 3)]) (rest := []) 0 (fun zz => au4037_8 l Z a0 hw n0 h0 zz  ) d7_4 rfl (tw hw 44 rfl) (tw hw 45 rfl) (tw hw 42 rfl) (tw hw 46 rfl) (by decide) pd_7 rfl rfl rfl (Nat.le_of_eq rfl) (by decide) (by decide) (by decide) (by decide) (fun v4081 h4082 r4083 => ?_)
  obtain ⟨rfl, rfl⟩ := r4083
  refine C.aloadN d7_7 rfl rfl rfl ?_
  refine C.iconst 0 d7_8 rfl rfl ?_
  refine C.iloadN d7_9 rfl rfl ?_
  refine C.iloadN d7_10 rfl rfl ?_
  refine C.callS (argsL := [(.ref o0), (.int 0), (.int 0), (.int 3)]) (rest := []) 0 (fun zz => au4042_9 l Z a0 hw n0 h0 zz o0 P0 g_o0) d7_11 rfl (tw hw 47 rfl) (tw hw 48 rfl) (tw hw 49 rfl) (tw hw 50 rfl) (by decide) pd_10 rfl rfl rfl (Nat.le_of_eq rfl) (by decide) (by decide) (by decide) (by decide) (fun v4085 h4086 r4087 => ?_)
  obtain ⟨rfl, rfl⟩ := r4087
  exact C.ret0 d7_14 (by decide) (by decide) ⟨rfl, rfl⟩
def Qau4035_6 (Z : State) (n0 : Nat) (h0 : Heap) (o0 : Addr) (o1 : Addr) (o2 : Addr) (j0 : Int64) (j1 : Int64) (j2 : Int64) (v : Option Value) (h' : Heap) : Prop := (v = none) ∧ (h0 = h')
theorem ef_au4035_6 (m : MethodId) (o0 : Addr) : entryFrame m #[(.ref o0)] 2 = mkF m 0 #[rv o0, .unset] [] := by first | (simp [entryFrame, mkF, argsToLocals, Value.category]; done) | rfl
set_option maxRecDepth 65536 in
set_option maxHeartbeats 40000000 in
theorem au4035_6 (l : Launch) (Z : State) (a0 : Array Value) (hw : ∀ d ∈ tables_1, d.before a0 Z = true) (n0 : Nat) (h0 : Heap) (hn0 : n0 ≤ h0.size) (o0 : Addr) (o1 : Addr) (o2 : Addr) (j0 : Int64) (j1 : Int64) (j2 : Int64) (P0 : Exa Z h0 o0 kC0) (P1 : Fld Z h0 o0 kC0 "count" "I" (.int 3)) (P2 : Fld Z h0 o0 kC0 "held" "[I" (.ref o1)) (P3 : Fld Z h0 o0 kC0 "listing" "Z" (.int 1)) (P4 : Fld Z h0 o0 kC0 "words" "[J" (.ref o2)) (P5 : Av Z h0 o1 .int (.int 0 :: .int 1 :: .int 2 :: zI45)) (P6 : Av Z h0 o2 .long (.long j0 :: .long j1 :: .long j2 :: zJ45)) (g_o0 : n0 ≤ o0) (g_o1 : n0 ≤ o1) (g_o2 : n0 ≤ o2) (ne_o0_o1 : o0 ≠ o1) (ne_o0_o2 : o0 ≠ o2) (ne_o1_o2 : o1 ≠ o2) :
    Con l Z n0 [] (⟨"com/example/detra/detra/SetWords", "listHeld", "()V"⟩ : MethodName) prog_21_method_7_code 2 none ({ frames := 4, cells := 0, slots := 0, locals := 81 } : Room) #[(.ref o0)] h0 (Qau4035_6 Z n0 h0 o0 o1 o2 j0 j1 j2) := by
  refine Con.of pf_3 (fun m => ef_au4035_6 m o0) hn0 ?_
  intro p e s m below meth c C
  refine C.aloadN d6_0 rfl rfl rfl ?_
  refine C.getF d6_1 rfl (tw hw 14 rfl) P3 ?_
  refine C.if_eq_f d6_4 rfl (by decide) ?_
  refine C.aloadN d6_7 rfl rfl rfl ?_
  refine C.getF d6_8 rfl (tw hw 38 rfl) P1 ?_
  refine C.aloadN d6_11 rfl rfl rfl ?_
  refine C.getF d6_12 rfl (tw hw 12 rfl) P4 ?_
  refine C.alen d6_15 rfl P6 ?_
  refine Go.cI (y := 48) rfl ?_
  refine C.bipush 16 d6_16 rfl rfl ?_
  refine C.idiv d6_18 rfl (by decide) ?_
  refine Go.cI (y := 3) rfl ?_
  refine C.icmp_le_t d6_19 (by decide) rfl (by decide) ?_
  refine C.aloadN d6_75 rfl rfl rfl ?_
  refine C.getF d6_76 rfl (tw hw 17 rfl) P2 ?_
  refine C.iconst 0 d6_79 rfl rfl ?_
  refine C.aloadN d6_80 rfl rfl rfl ?_
  refine C.getF d6_81 rfl (tw hw 38 rfl) P1 ?_
  refine C.callS (argsL := [(.ref o1), (.int 0), (.int 3)]) (rest := []) 0 (fun zz => au4036_7 l Z a0 hw n0 h0 zz o1 P5 g_o1) d6_84 rfl (tw hw 40 rfl) (tw hw 41 rfl) (tw hw 42 rfl) (tw hw 43 rfl) (by decide) pd_8 rfl rfl rfl (Nat.le_of_eq rfl) (by decide) (by decide) (by decide) (by decide) (fun v4097 h4098 r4099 => ?_)
  obtain ⟨rfl, rfl⟩ := r4099
  exact C.ret0 d6_87 (by decide) (by decide) ⟨rfl, rfl⟩
def Qau4113_11 (Z : State) (n0 : Nat) (h0 : Heap) (o0 : Addr) (v : Option Value) (h' : Heap) : Prop := (v = none) ∧ (Keep h0 h' [o0]) ∧ (Av Z h' o0 .int (.int 0 :: .int 1 :: zI46))
theorem ef_au4113_11 (m : MethodId) (o0 : Addr) : entryFrame m #[(.ref o0), (.int 0), (.int 2)] 6 = mkF m 0 #[rv o0, iv 0, iv 2, .unset, .unset, .unset] [] := by first | (simp [entryFrame, mkF, argsToLocals, Value.category]; done) | rfl
set_option maxRecDepth 65536 in
set_option maxHeartbeats 40000000 in
theorem au4113_11 (l : Launch) (Z : State) (a0 : Array Value) (hw : ∀ d ∈ tables_1, d.before a0 Z = true) (n0 : Nat) (h0 : Heap) (hn0 : n0 ≤ h0.size) (o0 : Addr) (P0 : Av Z h0 o0 .int (.int 1 :: zI47)) (g_o0 : n0 ≤ o0) :
    Con l Z n0 [] (⟨"java/util/DualPivotQuicksort", "insertionSort", "([III)V"⟩ : MethodName) jdk_2529_method_6_code 6 none ({ frames := 0, cells := 0, slots := 0, locals := 0 } : Room) #[(.ref o0), (.int 0), (.int 2)] h0 (Qau4113_11 Z n0 h0 o0) := by
  refine Con.of pf_13 (fun m => ef_au4113_11 m o0) hn0 ?_
  intro p e s m below meth c C
  refine C.iloadN d11_0 rfl rfl ?_
  refine C.istore (Ls' := #[rv o0, iv 0, iv 2, .unset, iv 0, .unset]) d11_1 rfl rfl ?_
  refine C.iinc (Ls' := #[rv o0, iv 0, iv 2, .unset, iv 1, .unset]) 1 d11_3 rfl rfl rfl rfl ?_
  refine C.iload d11_6 rfl rfl ?_
  refine C.iloadN d11_8 rfl rfl ?_
  refine C.icmp_ge_f d11_9 rfl (by decide) ?_
  refine C.aloadN d11_12 rfl rfl rfl ?_
  refine C.iload d11_13 rfl rfl ?_
  refine C.dup d11_15 rfl rfl ?_
  refine C.istoreN (Ls' := #[rv o0, iv 0, iv 2, iv 1, iv 1, .unset]) d11_16 rfl rfl ?_
  refine C.iaload (.int 0) d11_17 rfl P0 (by decide) rfl ?_
  refine C.istore (Ls' := #[rv o0, iv 0, iv 2, iv 1, iv 1, iv 0]) d11_18 rfl rfl ?_
  refine C.iload d11_20 rfl rfl ?_
  refine C.aloadN d11_22 rfl rfl rfl ?_
  refine C.iloadN d11_23 rfl rfl ?_
  refine C.iconst 1 d11_24 rfl rfl ?_
  refine C.isub d11_25 rfl ?_
  refine Go.cI (y := 0) rfl ?_
  refine C.iaload (.int 1) d11_26 rfl P0 (by decide) rfl ?_
  refine C.icmp_ge_f d11_27 rfl (by decide) ?_
  refine C.iinc (Ls' := #[rv o0, iv 0, iv 2, iv 0, iv 1, iv 0]) (-1) d11_30 rfl rfl rfl rfl ?_
  refine C.iloadN d11_33 rfl rfl ?_
  refine C.iloadN d11_34 rfl rfl ?_
  refine C.icmp_lt_f d11_35 rfl (by decide) ?_
  refine C.iload d11_38 rfl rfl ?_
  refine C.aloadN d11_40 rfl rfl rfl ?_
  refine C.iloadN d11_41 rfl rfl ?_
  refine C.iaload (.int 1) d11_42 rfl P0 (by decide) rfl ?_
  refine C.icmp_ge_f d11_43 rfl (by decide) ?_
  refine C.aloadN d11_46 rfl rfl rfl ?_
  refine C.iloadN d11_47 rfl rfl ?_
  refine C.iconst 1 d11_48 rfl rfl ?_
  refine C.iadd d11_49 rfl ?_
  refine Go.cI (y := 1) rfl ?_
  refine C.aloadN d11_50 rfl rfl rfl ?_
  refine C.iloadN d11_51 rfl rfl ?_
  refine C.iaload (.int 1) d11_52 rfl P0 (by decide) rfl ?_
  refine C.iastore d11_53 rfl P0 g_o0 (by decide) (Nat.le_of_ble_eq_true rfl) (fun h4130 W4131 F4132 => ?_)
  have F4133 : Av Z h4130 o0 .int (.int 1 :: .int 1 :: zI46) := F4132
  refine C.goto d11_54 (by decide) rfl ?_
  refine C.iinc (Ls' := #[rv o0, iv 0, iv 2, iv (-1), iv 1, iv 0]) (-1) d11_30 rfl rfl rfl rfl ?_
  refine C.iloadN d11_33 rfl rfl ?_
  refine C.iloadN d11_34 rfl rfl ?_
  refine C.icmp_lt_t d11_35 (by decide) rfl (by decide) ?_
  refine C.aloadN d11_57 rfl rfl rfl ?_
  refine C.iloadN d11_58 rfl rfl ?_
  refine C.iconst 1 d11_59 rfl rfl ?_
  refine C.iadd d11_60 rfl ?_
  refine Go.cI (y := 0) rfl ?_
  refine C.iload d11_61 rfl rfl ?_
  refine C.iastore d11_63 rfl F4133 g_o0 (by decide) (Nat.le_of_ble_eq_true rfl) (fun h4134 W4135 F4136 => ?_)
  have F4137 : Av Z h4134 o0 .int (.int 0 :: .int 1 :: zI46) := F4136
  refine C.goto d11_64 (by decide) rfl ?_
  refine C.iinc (Ls' := #[rv o0, iv 0, iv 2, iv (-1), iv 2, iv 0]) 1 d11_3 rfl rfl rfl rfl ?_
  refine C.iload d11_6 rfl rfl ?_
  refine C.iloadN d11_8 rfl rfl ?_
  refine C.icmp_ge_t d11_9 (by decide) rfl (by decide) ?_
  exact C.ret0 d11_67 (by decide) (by decide) ⟨rfl, (((Keep.refl h0 [o0]).wr W4131 (Or.inl (List.mem_of_getElem? (i := 0) rfl))).wr W4135 (Or.inl (List.mem_of_getElem? (i := 0) rfl))), F4137⟩
def Qau4112_10 (Z : State) (n0 : Nat) (h0 : Heap) (o0 : Addr) (v : Option Value) (h' : Heap) : Prop := (v = none) ∧ (Keep h0 h' [o0]) ∧ (Av Z h' o0 .int (.int 0 :: .int 1 :: zI46))
theorem ef_au4112_10 (m : MethodId) (o0 : Addr) : entryFrame m #[.null, (.ref o0), (.int 0), (.int 0), (.int 2)] 21 = mkF m 0 #[.val (.null), rv o0, iv 0, iv 0, iv 2, .unset, .unset, .unset, .unset, .unset, .unset, .unset, .unset, .unset, .unset, .unset, .unset, .unset, .unset, .unset, .unset] [] := by first | (simp [entryFrame, mkF, argsToLocals, Value.category]; done) | rfl
set_option maxRecDepth 65536 in
set_option maxHeartbeats 40000000 in
theorem au4112_10 (l : Launch) (Z : State) (a0 : Array Value) (hw : ∀ d ∈ tables_1, d.before a0 Z = true) (n0 : Nat) (h0 : Heap) (hn0 : n0 ≤ h0.size) (o0 : Addr) (P0 : Av Z h0 o0 .int (.int 1 :: zI47)) (g_o0 : n0 ≤ o0) :
    Con l Z n0 [] (⟨"java/util/DualPivotQuicksort", "sort", "(Ljava/util/DualPivotQuicksort$Sorter;[IIII)V"⟩ : MethodName) jdk_2529_method_4_code 21 none ({ frames := 1, cells := 0, slots := 0, locals := 17 } : Room) #[.null, (.ref o0), (.int 0), (.int 0), (.int 2)] h0 (Qau4112_10 Z n0 h0 o0) := by
  refine Con.of pf_12 (fun m => ef_au4112_10 m o0) hn0 ?_
  intro p e s m below meth c C
  refine C.iload d10_0 rfl rfl ?_
  refine C.iconst 1 d10_2 rfl rfl ?_
  refine C.isub d10_3 rfl ?_
  refine Go.cI (y := 1) rfl ?_
  refine C.istore (Ls' := #[.val (.null), rv o0, iv 0, iv 0, iv 2, iv 1, .unset, .unset, .unset, .unset, .unset, .unset, .unset, .unset, .unset, .unset, .unset, .unset, .unset, .unset, .unset]) d10_4 rfl rfl ?_
  refine C.iload d10_6 rfl rfl ?_
  refine C.iloadN d10_8 rfl rfl ?_
  refine C.isub d10_9 rfl ?_
  refine Go.cI (y := 2) rfl ?_
  refine C.istore (Ls' := #[.val (.null), rv o0, iv 0, iv 0, iv 2, iv 1, iv 2, .unset, .unset, .unset, .unset, .unset, .unset, .unset, .unset, .unset, .unset, .unset, .unset, .unset, .unset]) d10_10 rfl rfl ?_
  refine C.iload d10_12 rfl rfl ?_
  refine C.bipush 65 d10_14 rfl rfl ?_
  refine C.iloadN d10_16 rfl rfl ?_
  refine C.iadd d10_17 rfl ?_
  refine Go.cI (y := 65) rfl ?_
  refine C.icmp_ge_f d10_18 rfl (by decide) ?_
  refine C.iloadN d10_21 rfl rfl ?_
  refine C.iconst 1 d10_22 rfl rfl ?_
  refine C.iand d10_23 rfl ?_
  refine Go.cI (y := 0) rfl ?_
  refine C.if_le_t d10_24 (by decide) rfl (by decide) ?_
  refine C.iload d10_46 rfl rfl ?_
  refine C.bipush 44 d10_48 rfl rfl ?_
  refine C.icmp_ge_f d10_50 rfl (by decide) ?_
  refine C.aloadN d10_53 rfl rfl rfl ?_
  refine C.iloadN d10_54 rfl rfl ?_
  refine C.iload d10_55 rfl rfl ?_
  refine C.callS (argsL := [(.ref o0), (.int 0), (.int 2)]) (rest := []) 0 (fun zz => au4113_11 l Z a0 hw n0 h0 zz o0 P0 g_o0) d10_57 rfl (tw hw 54 rfl) (tw hw 55 rfl) (tw hw 49 rfl) (tw hw 56 rfl) (by decide) pd_8 rfl rfl rfl (Nat.le_of_eq rfl) (by decide) (by decide) (by decide) (by decide) (fun v4150 h4151 r4152 => ?_)
  obtain ⟨rfl, K4153, F4154⟩ := r4152
  exact C.ret0 d10_60 (by decide) (by decide) ⟨rfl, ((Keep.refl h0 [o0]).trans K4153 (allS (Or.inl (List.mem_of_getElem? (i := 0) rfl)) all0)), F4154⟩
def Qau4111_9 (Z : State) (n0 : Nat) (h0 : Heap) (o0 : Addr) (v : Option Value) (h' : Heap) : Prop := (v = none) ∧ (Keep h0 h' [o0]) ∧ (Av Z h' o0 .int (.int 0 :: .int 1 :: zI46))
theorem ef_au4111_9 (m : MethodId) (o0 : Addr) : entryFrame m #[(.ref o0), (.int 0), (.int 0), (.int 2)] 7 = mkF m 0 #[rv o0, iv 0, iv 0, iv 2, .unset, .unset, .unset] [] := by first | (simp [entryFrame, mkF, argsToLocals, Value.category]; done) | rfl
set_option maxRecDepth 65536 in
set_option maxHeartbeats 40000000 in
theorem au4111_9 (l : Launch) (Z : State) (a0 : Array Value) (hw : ∀ d ∈ tables_1, d.before a0 Z = true) (n0 : Nat) (h0 : Heap) (hn0 : n0 ≤ h0.size) (o0 : Addr) (P0 : Av Z h0 o0 .int (.int 1 :: zI47)) (g_o0 : n0 ≤ o0) :
    Con l Z n0 [] (⟨"java/util/DualPivotQuicksort", "sort", "([IIII)V"⟩ : MethodName) jdk_2529_method_3_code 7 none ({ frames := 2, cells := 0, slots := 0, locals := 49 } : Room) #[(.ref o0), (.int 0), (.int 0), (.int 2)] h0 (Qau4111_9 Z n0 h0 o0) := by
  refine Con.of pf_11 (fun m => ef_au4111_9 m o0) hn0 ?_
  intro p e s m below meth c C
  refine C.iloadN d9_0 rfl rfl ?_
  refine C.iloadN d9_1 rfl rfl ?_
  refine C.isub d9_2 rfl ?_
  refine Go.cI (y := 2) rfl ?_
  refine C.istore (Ls' := #[rv o0, iv 0, iv 0, iv 2, iv 2, .unset, .unset]) d9_3 rfl rfl ?_
  refine C.iloadN d9_5 rfl rfl ?_
  refine C.iconst 1 d9_6 rfl rfl ?_
  refine C.icmp_le_t d9_7 (by decide) rfl (by decide) ?_
  refine C.aconst_null d9_68 rfl ?_
  refine C.aloadN d9_69 rfl rfl rfl ?_
  refine C.iconst 0 d9_70 rfl rfl ?_
  refine C.iloadN d9_71 rfl rfl ?_
  refine C.iloadN d9_72 rfl rfl ?_
  refine C.callS (argsL := [.null, (.ref o0), (.int 0), (.int 0), (.int 2)]) (rest := []) 0 (fun zz => au4112_10 l Z a0 hw n0 h0 zz o0 P0 g_o0) d9_73 rfl (tw hw 51 rfl) (tw hw 52 rfl) (tw hw 49 rfl) (tw hw 53 rfl) (by decide) pd_9 rfl rfl rfl (Nat.le_of_eq rfl) (by decide) (by decide) (by decide) (by decide) (fun v4168 h4169 r4170 => ?_)
  obtain ⟨rfl, K4171, F4172⟩ := r4170
  exact C.ret0 d9_76 (by decide) (by decide) ⟨rfl, ((Keep.refl h0 [o0]).trans K4171 (allS (Or.inl (List.mem_of_getElem? (i := 0) rfl)) all0)), F4172⟩
def Qau4106_7 (Z : State) (n0 : Nat) (h0 : Heap) (o0 : Addr) (v : Option Value) (h' : Heap) : Prop := (v = none) ∧ (Keep h0 h' [o0]) ∧ (Av Z h' o0 .int (.int 0 :: .int 1 :: zI46))
theorem ef_au4106_7 (m : MethodId) (o0 : Addr) : entryFrame m #[(.ref o0), (.int 0), (.int 2)] 3 = mkF m 0 #[rv o0, iv 0, iv 2] [] := by first | (simp [entryFrame, mkF, argsToLocals, Value.category]; done) | rfl
set_option maxRecDepth 65536 in
set_option maxHeartbeats 40000000 in
theorem au4106_7 (l : Launch) (Z : State) (a0 : Array Value) (hw : ∀ d ∈ tables_1, d.before a0 Z = true) (n0 : Nat) (h0 : Heap) (hn0 : n0 ≤ h0.size) (o0 : Addr) (P0 : Av Z h0 o0 .int (.int 1 :: zI47)) (g_o0 : n0 ≤ o0) :
    Con l Z n0 [] (⟨"java/util/Arrays", "sort", "([III)V"⟩ : MethodName) jdk_65_method_3_code 3 none ({ frames := 3, cells := 0, slots := 0, locals := 67 } : Room) #[(.ref o0), (.int 0), (.int 2)] h0 (Qau4106_7 Z n0 h0 o0) := by
  refine Con.of pf_9 (fun m => ef_au4106_7 m o0) hn0 ?_
  intro p e s m below meth c C
  refine C.aloadN d7_0 rfl rfl rfl ?_
  refine C.alen d7_1 rfl P0 ?_
  refine Go.cI (y := 48) rfl ?_
  refine C.iloadN d7_2 rfl rfl ?_
  refine C.iloadN d7_3 rfl rfl ?_
  refine C.callS (argsL := [(.int 48), (.int 0), (.int 2)]) (rest := []) 0 (fun zz => au3829_8 l Z a0 hw n0 h0 zz  ) d7_4 rfl (tw hw 44 rfl) (tw hw 45 rfl) (tw hw 42 rfl) (tw hw 46 rfl) (by decide) pd_7 rfl rfl rfl (Nat.le_of_eq rfl) (by decide) (by decide) (by decide) (by decide) (fun v4190 h4191 r4192 => ?_)
  obtain ⟨rfl, rfl⟩ := r4192
  refine C.aloadN d7_7 rfl rfl rfl ?_
  refine C.iconst 0 d7_8 rfl rfl ?_
  refine C.iloadN d7_9 rfl rfl ?_
  refine C.iloadN d7_10 rfl rfl ?_
  refine C.callS (argsL := [(.ref o0), (.int 0), (.int 0), (.int 2)]) (rest := []) 0 (fun zz => au4111_9 l Z a0 hw n0 h0 zz o0 P0 g_o0) d7_11 rfl (tw hw 47 rfl) (tw hw 48 rfl) (tw hw 49 rfl) (tw hw 50 rfl) (by decide) pd_10 rfl rfl rfl (Nat.le_of_eq rfl) (by decide) (by decide) (by decide) (by decide) (fun v4194 h4195 r4196 => ?_)
  obtain ⟨rfl, K4197, F4198⟩ := r4196
  exact C.ret0 d7_14 (by decide) (by decide) ⟨rfl, ((Keep.refl h0 [o0]).trans K4197 (allS (Or.inl (List.mem_of_getElem? (i := 0) rfl)) all0)), F4198⟩
def Qau4105_6 (Z : State) (n0 : Nat) (h0 : Heap) (o0 : Addr) (o1 : Addr) (o2 : Addr) (j0 : Int64) (j1 : Int64) (j2 : Int64) (v : Option Value) (h' : Heap) : Prop := (v = none) ∧ (Keep h0 h' [o1]) ∧ (Av Z h' o1 .int (.int 0 :: .int 1 :: zI46))
theorem ef_au4105_6 (m : MethodId) (o0 : Addr) : entryFrame m #[(.ref o0)] 2 = mkF m 0 #[rv o0, .unset] [] := by first | (simp [entryFrame, mkF, argsToLocals, Value.category]; done) | rfl
set_option maxRecDepth 65536 in
set_option maxHeartbeats 40000000 in
theorem au4105_6 (l : Launch) (Z : State) (a0 : Array Value) (hw : ∀ d ∈ tables_1, d.before a0 Z = true) (n0 : Nat) (h0 : Heap) (hn0 : n0 ≤ h0.size) (o0 : Addr) (o1 : Addr) (o2 : Addr) (j0 : Int64) (j1 : Int64) (j2 : Int64) (P0 : Exa Z h0 o0 kC0) (P1 : Fld Z h0 o0 kC0 "count" "I" (.int 2)) (P2 : Fld Z h0 o0 kC0 "held" "[I" (.ref o1)) (P3 : Fld Z h0 o0 kC0 "listing" "Z" (.int 1)) (P4 : Fld Z h0 o0 kC0 "words" "[J" (.ref o2)) (P5 : Av Z h0 o1 .int (.int 1 :: zI47)) (P6 : Av Z h0 o2 .long (.long j0 :: .long j1 :: .long j2 :: zJ45)) (g_o0 : n0 ≤ o0) (g_o1 : n0 ≤ o1) (g_o2 : n0 ≤ o2) (ne_o0_o1 : o0 ≠ o1) (ne_o0_o2 : o0 ≠ o2) (ne_o1_o2 : o1 ≠ o2) :
    Con l Z n0 [] (⟨"com/example/detra/detra/SetWords", "listHeld", "()V"⟩ : MethodName) prog_21_method_7_code 2 none ({ frames := 4, cells := 0, slots := 0, locals := 81 } : Room) #[(.ref o0)] h0 (Qau4105_6 Z n0 h0 o0 o1 o2 j0 j1 j2) := by
  refine Con.of pf_3 (fun m => ef_au4105_6 m o0) hn0 ?_
  intro p e s m below meth c C
  refine C.aloadN d6_0 rfl rfl rfl ?_
  refine C.getF d6_1 rfl (tw hw 14 rfl) P3 ?_
  refine C.if_eq_f d6_4 rfl (by decide) ?_
  refine C.aloadN d6_7 rfl rfl rfl ?_
  refine C.getF d6_8 rfl (tw hw 38 rfl) P1 ?_
  refine C.aloadN d6_11 rfl rfl rfl ?_
  refine C.getF d6_12 rfl (tw hw 12 rfl) P4 ?_
  refine C.alen d6_15 rfl P6 ?_
  refine Go.cI (y := 48) rfl ?_
  refine C.bipush 16 d6_16 rfl rfl ?_
  refine C.idiv d6_18 rfl (by decide) ?_
  refine Go.cI (y := 3) rfl ?_
  refine C.icmp_le_t d6_19 (by decide) rfl (by decide) ?_
  refine C.aloadN d6_75 rfl rfl rfl ?_
  refine C.getF d6_76 rfl (tw hw 17 rfl) P2 ?_
  refine C.iconst 0 d6_79 rfl rfl ?_
  refine C.aloadN d6_80 rfl rfl rfl ?_
  refine C.getF d6_81 rfl (tw hw 38 rfl) P1 ?_
  refine C.callS (argsL := [(.ref o1), (.int 0), (.int 2)]) (rest := []) 0 (fun zz => au4106_7 l Z a0 hw n0 h0 zz o1 P5 g_o1) d6_84 rfl (tw hw 40 rfl) (tw hw 41 rfl) (tw hw 42 rfl) (tw hw 43 rfl) (by decide) pd_8 rfl rfl rfl (Nat.le_of_eq rfl) (by decide) (by decide) (by decide) (by decide) (fun v4224 h4225 r4226 => ?_)
  obtain ⟨rfl, K4227, F4228⟩ := r4226
  have F4229 := P0.keep K4227
  have F4230 := P1.keep K4227 (ninS ne_o0_o1 nin0)
  have F4231 := P2.keep K4227 (ninS ne_o0_o1 nin0)
  have F4232 := P3.keep K4227 (ninS ne_o0_o1 nin0)
  have F4233 := P4.keep K4227 (ninS ne_o0_o1 nin0)
  have F4235 := P6.keep K4227 (ninS (Ne.symm ne_o1_o2) nin0)
  exact C.ret0 d6_87 (by decide) (by decide) ⟨rfl, ((Keep.refl h0 [o1]).trans K4227 (allS (Or.inl (List.mem_of_getElem? (i := 0) rfl)) all0)), F4228⟩
def Qau4256_11 (Z : State) (n0 : Nat) (h0 : Heap) (o0 : Addr) (v : Option Value) (h' : Heap) : Prop := (v = none) ∧ (Keep h0 h' [o0]) ∧ (Av Z h' o0 .int (.int 0 :: .int 1 :: .int 2 :: zI45))
theorem ef_au4256_11 (m : MethodId) (o0 : Addr) : entryFrame m #[(.ref o0), (.int 0), (.int 3)] 6 = mkF m 0 #[rv o0, iv 0, iv 3, .unset, .unset, .unset] [] := by first | (simp [entryFrame, mkF, argsToLocals, Value.category]; done) | rfl
set_option maxRecDepth 65536 in
set_option maxHeartbeats 40000000 in
theorem au4256_11 (l : Launch) (Z : State) (a0 : Array Value) (hw : ∀ d ∈ tables_1, d.before a0 Z = true) (n0 : Nat) (h0 : Heap) (hn0 : n0 ≤ h0.size) (o0 : Addr) (P0 : Av Z h0 o0 .int (.int 1 :: .int 0 :: .int 2 :: zI45)) (g_o0 : n0 ≤ o0) :
    Con l Z n0 [] (⟨"java/util/DualPivotQuicksort", "insertionSort", "([III)V"⟩ : MethodName) jdk_2529_method_6_code 6 none ({ frames := 0, cells := 0, slots := 0, locals := 0 } : Room) #[(.ref o0), (.int 0), (.int 3)] h0 (Qau4256_11 Z n0 h0 o0) := by
  refine Con.of pf_13 (fun m => ef_au4256_11 m o0) hn0 ?_
  intro p e s m below meth c C
  refine C.iloadN d11_0 rfl rfl ?_
  refine C.istore (Ls' := #[rv o0, iv 0, iv 3, .unset, iv 0, .unset]) d11_1 rfl rfl ?_
  refine C.iinc (Ls' := #[rv o0, iv 0, iv 3, .unset, iv 1, .unset]) 1 d11_3 rfl rfl rfl rfl ?_
  refine C.iload d11_6 rfl rfl ?_
  refine C.iloadN d11_8 rfl rfl ?_
  refine C.icmp_ge_f d11_9 rfl (by decide) ?_
  refine C.aloadN d11_12 rfl rfl rfl ?_
  refine C.iload d11_13 rfl rfl ?_
  refine C.dup d11_15 rfl rfl ?_
  refine C.istoreN (Ls' := #[rv o0, iv 0, iv 3, iv 1, iv 1, .unset]) d11_16 rfl rfl ?_
  refine C.iaload (.int 0) d11_17 rfl P0 (by decide) rfl ?_
  refine C.istore (Ls' := #[rv o0, iv 0, iv 3, iv 1, iv 1, iv 0]) d11_18 rfl rfl ?_
  refine C.iload d11_20 rfl rfl ?_
  refine C.aloadN d11_22 rfl rfl rfl ?_
  refine C.iloadN d11_23 rfl rfl ?_
  refine C.iconst 1 d11_24 rfl rfl ?_
  refine C.isub d11_25 rfl ?_
  refine Go.cI (y := 0) rfl ?_
  refine C.iaload (.int 1) d11_26 rfl P0 (by decide) rfl ?_
  refine C.icmp_ge_f d11_27 rfl (by decide) ?_
  refine C.iinc (Ls' := #[rv o0, iv 0, iv 3, iv 0, iv 1, iv 0]) (-1) d11_30 rfl rfl rfl rfl ?_
  refine C.iloadN d11_33 rfl rfl ?_
  refine C.iloadN d11_34 rfl rfl ?_
  refine C.icmp_lt_f d11_35 rfl (by decide) ?_
  refine C.iload d11_38 rfl rfl ?_
  refine C.aloadN d11_40 rfl rfl rfl ?_
  refine C.iloadN d11_41 rfl rfl ?_
  refine C.iaload (.int 1) d11_42 rfl P0 (by decide) rfl ?_
  refine C.icmp_ge_f d11_43 rfl (by decide) ?_
  refine C.aloadN d11_46 rfl rfl rfl ?_
  refine C.iloadN d11_47 rfl rfl ?_
  refine C.iconst 1 d11_48 rfl rfl ?_
  refine C.iadd d11_49 rfl ?_
  refine Go.cI (y := 1) rfl ?_
  refine C.aloadN d11_50 rfl rfl rfl ?_
  refine C.iloadN d11_51 rfl rfl ?_
  refine C.iaload (.int 1) d11_52 rfl P0 (by decide) rfl ?_
  refine C.iastore d11_53 rfl P0 g_o0 (by decide) (Nat.le_of_ble_eq_true rfl) (fun h4273 W4274 F4275 => ?_)
  have F4276 : Av Z h4273 o0 .int (.int 1 :: .int 1 :: .int 2 :: zI45) := F4275
  refine C.goto d11_54 (by decide) rfl ?_
  refine C.iinc (Ls' := #[rv o0, iv 0, iv 3, iv (-1), iv 1, iv 0]) (-1) d11_30 rfl rfl rfl rfl ?_
  refine C.iloadN d11_33 rfl rfl ?_
  refine C.iloadN d11_34 rfl rfl ?_
  refine C.icmp_lt_t d11_35 (by decide) rfl (by decide) ?_
  refine C.aloadN d11_57 rfl rfl rfl ?_
  refine C.iloadN d11_58 rfl rfl ?_
  refine C.iconst 1 d11_59 rfl rfl ?_
  refine C.iadd d11_60 rfl ?_
  refine Go.cI (y := 0) rfl ?_
  refine C.iload d11_61 rfl rfl ?_
  refine C.iastore d11_63 rfl F4276 g_o0 (by decide) (Nat.le_of_ble_eq_true rfl) (fun h4277 W4278 F4279 => ?_)
  have F4280 : Av Z h4277 o0 .int (.int 0 :: .int 1 :: .int 2 :: zI45) := F4279
  refine C.goto d11_64 (by decide) rfl ?_
  refine C.iinc (Ls' := #[rv o0, iv 0, iv 3, iv (-1), iv 2, iv 0]) 1 d11_3 rfl rfl rfl rfl ?_
  refine C.iload d11_6 rfl rfl ?_
  refine C.iloadN d11_8 rfl rfl ?_
  refine C.icmp_ge_f d11_9 rfl (by decide) ?_
  refine C.aloadN d11_12 rfl rfl rfl ?_
  refine C.iload d11_13 rfl rfl ?_
  refine C.dup d11_15 rfl rfl ?_
  refine C.istoreN (Ls' := #[rv o0, iv 0, iv 3, iv 2, iv 2, iv 0]) d11_16 rfl rfl ?_
  refine C.iaload (.int 2) d11_17 rfl F4280 (by decide) rfl ?_
  refine C.istore (Ls' := #[rv o0, iv 0, iv 3, iv 2, iv 2, iv 2]) d11_18 rfl rfl ?_
  refine C.iload d11_20 rfl rfl ?_
  refine C.aloadN d11_22 rfl rfl rfl ?_
  refine C.iloadN d11_23 rfl rfl ?_
  refine C.iconst 1 d11_24 rfl rfl ?_
  refine C.isub d11_25 rfl ?_
  refine Go.cI (y := 1) rfl ?_
  refine C.iaload (.int 1) d11_26 rfl F4280 (by decide) rfl ?_
  refine C.icmp_ge_t d11_27 (by decide) rfl (by decide) ?_
  refine C.goto d11_64 (by decide) rfl ?_
  refine C.iinc (Ls' := #[rv o0, iv 0, iv 3, iv 2, iv 3, iv 2]) 1 d11_3 rfl rfl rfl rfl ?_
  refine C.iload d11_6 rfl rfl ?_
  refine C.iloadN d11_8 rfl rfl ?_
  refine C.icmp_ge_t d11_9 (by decide) rfl (by decide) ?_
  exact C.ret0 d11_67 (by decide) (by decide) ⟨rfl, (((Keep.refl h0 [o0]).wr W4274 (Or.inl (List.mem_of_getElem? (i := 0) rfl))).wr W4278 (Or.inl (List.mem_of_getElem? (i := 0) rfl))), F4280⟩
def Qau4255_10 (Z : State) (n0 : Nat) (h0 : Heap) (o0 : Addr) (v : Option Value) (h' : Heap) : Prop := (v = none) ∧ (Keep h0 h' [o0]) ∧ (Av Z h' o0 .int (.int 0 :: .int 1 :: .int 2 :: zI45))
theorem ef_au4255_10 (m : MethodId) (o0 : Addr) : entryFrame m #[.null, (.ref o0), (.int 0), (.int 0), (.int 3)] 21 = mkF m 0 #[.val (.null), rv o0, iv 0, iv 0, iv 3, .unset, .unset, .unset, .unset, .unset, .unset, .unset, .unset, .unset, .unset, .unset, .unset, .unset, .unset, .unset, .unset] [] := by first | (simp [entryFrame, mkF, argsToLocals, Value.category]; done) | rfl
set_option maxRecDepth 65536 in
set_option maxHeartbeats 40000000 in
theorem au4255_10 (l : Launch) (Z : State) (a0 : Array Value) (hw : ∀ d ∈ tables_1, d.before a0 Z = true) (n0 : Nat) (h0 : Heap) (hn0 : n0 ≤ h0.size) (o0 : Addr) (P0 : Av Z h0 o0 .int (.int 1 :: .int 0 :: .int 2 :: zI45)) (g_o0 : n0 ≤ o0) :
    Con l Z n0 [] (⟨"java/util/DualPivotQuicksort", "sort", "(Ljava/util/DualPivotQuicksort$Sorter;[IIII)V"⟩ : MethodName) jdk_2529_method_4_code 21 none ({ frames := 1, cells := 0, slots := 0, locals := 17 } : Room) #[.null, (.ref o0), (.int 0), (.int 0), (.int 3)] h0 (Qau4255_10 Z n0 h0 o0) := by
  refine Con.of pf_12 (fun m => ef_au4255_10 m o0) hn0 ?_
  intro p e s m below meth c C
  refine C.iload d10_0 rfl rfl ?_
  refine C.iconst 1 d10_2 rfl rfl ?_
  refine C.isub d10_3 rfl ?_
  refine Go.cI (y := 2) rfl ?_
  refine C.istore (Ls' := #[.val (.null), rv o0, iv 0, iv 0, iv 3, iv 2, .unset, .unset, .unset, .unset, .unset, .unset, .unset, .unset, .unset, .unset, .unset, .unset, .unset, .unset, .unset]) d10_4 rfl rfl ?_
  refine C.iload d10_6 rfl rfl ?_
  refine C.iloadN d10_8 rfl rfl ?_
  refine C.isub d10_9 rfl ?_
  refine Go.cI (y := 3) rfl ?_
  refine C.istore (Ls' := #[.val (.null), rv o0, iv 0, iv 0, iv 3, iv 2, iv 3, .unset, .unset, .unset, .unset, .unset, .unset, .unset, .unset, .unset, .unset, .unset, .unset, .unset, .unset]) d10_10 rfl rfl ?_
  refine C.iload d10_12 rfl rfl ?_
  refine C.bipush 65 d10_14 rfl rfl ?_
  refine C.iloadN d10_16 rfl rfl ?_
  refine C.iadd d10_17 rfl ?_
  refine Go.cI (y := 65) rfl ?_
  refine C.icmp_ge_f d10_18 rfl (by decide) ?_
  refine C.iloadN d10_21 rfl rfl ?_
  refine C.iconst 1 d10_22 rfl rfl ?_
  refine C.iand d10_23 rfl ?_
  refine Go.cI (y := 0) rfl ?_
  refine C.if_le_t d10_24 (by decide) rfl (by decide) ?_
  refine C.iload d10_46 rfl rfl ?_
  refine C.bipush 44 d10_48 rfl rfl ?_
  refine C.icmp_ge_f d10_50 rfl (by decide) ?_
  refine C.aloadN d10_53 rfl rfl rfl ?_
  refine C.iloadN d10_54 rfl rfl ?_
  refine C.iload d10_55 rfl rfl ?_
  refine C.callS (argsL := [(.ref o0), (.int 0), (.int 3)]) (rest := []) 0 (fun zz => au4256_11 l Z a0 hw n0 h0 zz o0 P0 g_o0) d10_57 rfl (tw hw 54 rfl) (tw hw 55 rfl) (tw hw 49 rfl) (tw hw 56 rfl) (by decide) pd_8 rfl rfl rfl (Nat.le_of_eq rfl) (by decide) (by decide) (by decide) (by decide) (fun v4293 h4294 r4295 => ?_)
  obtain ⟨rfl, K4296, F4297⟩ := r4295
  exact C.ret0 d10_60 (by decide) (by decide) ⟨rfl, ((Keep.refl h0 [o0]).trans K4296 (allS (Or.inl (List.mem_of_getElem? (i := 0) rfl)) all0)), F4297⟩
def Qau4254_9 (Z : State) (n0 : Nat) (h0 : Heap) (o0 : Addr) (v : Option Value) (h' : Heap) : Prop := (v = none) ∧ (Keep h0 h' [o0]) ∧ (Av Z h' o0 .int (.int 0 :: .int 1 :: .int 2 :: zI45))
theorem ef_au4254_9 (m : MethodId) (o0 : Addr) : entryFrame m #[(.ref o0), (.int 0), (.int 0), (.int 3)] 7 = mkF m 0 #[rv o0, iv 0, iv 0, iv 3, .unset, .unset, .unset] [] := by first | (simp [entryFrame, mkF, argsToLocals, Value.category]; done) | rfl
set_option maxRecDepth 65536 in
set_option maxHeartbeats 40000000 in
theorem au4254_9 (l : Launch) (Z : State) (a0 : Array Value) (hw : ∀ d ∈ tables_1, d.before a0 Z = true) (n0 : Nat) (h0 : Heap) (hn0 : n0 ≤ h0.size) (o0 : Addr) (P0 : Av Z h0 o0 .int (.int 1 :: .int 0 :: .int 2 :: zI45)) (g_o0 : n0 ≤ o0) :
    Con l Z n0 [] (⟨"java/util/DualPivotQuicksort", "sort", "([IIII)V"⟩ : MethodName) jdk_2529_method_3_code 7 none ({ frames := 2, cells := 0, slots := 0, locals := 49 } : Room) #[(.ref o0), (.int 0), (.int 0), (.int 3)] h0 (Qau4254_9 Z n0 h0 o0) := by
  refine Con.of pf_11 (fun m => ef_au4254_9 m o0) hn0 ?_
  intro p e s m below meth c C
  refine C.iloadN d9_0 rfl rfl ?_
  refine C.iloadN d9_1 rfl rfl ?_
  refine C.isub d9_2 rfl ?_
  refine Go.cI (y := 3) rfl ?_
  refine C.istore (Ls' := #[rv o0, iv 0, iv 0, iv 3, iv 3, .unset, .unset]) d9_3 rfl rfl ?_
  refine C.iloadN d9_5 rfl rfl ?_
  refine C.iconst 1 d9_6 rfl rfl ?_
  refine C.icmp_le_t d9_7 (by decide) rfl (by decide) ?_
  refine C.aconst_null d9_68 rfl ?_
  refine C.aloadN d9_69 rfl rfl rfl ?_
  refine C.iconst 0 d9_70 rfl rfl ?_
  refine C.iloadN d9_71 rfl rfl ?_
  refine C.iloadN d9_72 rfl rfl ?_
  refine C.callS (argsL := [.null, (.ref o0), (.int 0), (.int 0), (.int 3)]) (rest := []) 0 (fun zz => au4255_10 l Z a0 hw n0 h0 zz o0 P0 g_o0) d9_73 rfl (tw hw 51 rfl) (tw hw 52 rfl) (tw hw 49 rfl) (tw hw 53 rfl) (by decide) pd_9 rfl rfl rfl (Nat.le_of_eq rfl) (by decide) (by decide) (by decide) (by decide) (fun v4311 h4312 r4313 => ?_)
  obtain ⟨rfl, K4314, F4315⟩ := r4313
  exact C.ret0 d9_76 (by decide) (by decide) ⟨rfl, ((Keep.refl h0 [o0]).trans K4314 (allS (Or.inl (List.mem_of_getElem? (i := 0) rfl)) all0)), F4315⟩
def Qau4249_7 (Z : State) (n0 : Nat) (h0 : Heap) (o0 : Addr) (v : Option Value) (h' : Heap) : Prop := (v = none) ∧ (Keep h0 h' [o0]) ∧ (Av Z h' o0 .int (.int 0 :: .int 1 :: .int 2 :: zI45))
theorem ef_au4249_7 (m : MethodId) (o0 : Addr) : entryFrame m #[(.ref o0), (.int 0), (.int 3)] 3 = mkF m 0 #[rv o0, iv 0, iv 3] [] := by first | (simp [entryFrame, mkF, argsToLocals, Value.category]; done) | rfl
set_option maxRecDepth 65536 in
set_option maxHeartbeats 40000000 in
theorem au4249_7 (l : Launch) (Z : State) (a0 : Array Value) (hw : ∀ d ∈ tables_1, d.before a0 Z = true) (n0 : Nat) (h0 : Heap) (hn0 : n0 ≤ h0.size) (o0 : Addr) (P0 : Av Z h0 o0 .int (.int 1 :: .int 0 :: .int 2 :: zI45)) (g_o0 : n0 ≤ o0) :
    Con l Z n0 [] (⟨"java/util/Arrays", "sort", "([III)V"⟩ : MethodName) jdk_65_method_3_code 3 none ({ frames := 3, cells := 0, slots := 0, locals := 67 } : Room) #[(.ref o0), (.int 0), (.int 3)] h0 (Qau4249_7 Z n0 h0 o0) := by
  refine Con.of pf_9 (fun m => ef_au4249_7 m o0) hn0 ?_
  intro p e s m below meth c C
  refine C.aloadN d7_0 rfl rfl rfl ?_
  refine C.alen d7_1 rfl P0 ?_
  refine Go.cI (y := 48) rfl ?_
  refine C.iloadN d7_2 rfl rfl ?_
  refine C.iloadN d7_3 rfl rfl ?_
  refine C.callS (argsL := [(.int 48), (.int 0), (.int 3)]) (rest := []) 0 (fun zz => au4037_8 l Z a0 hw n0 h0 zz  ) d7_4 rfl (tw hw 44 rfl) (tw hw 45 rfl) (tw hw 42 rfl) (tw hw 46 rfl) (by decide) pd_7 rfl rfl rfl (Nat.le_of_eq rfl) (by decide) (by decide) (by decide) (by decide) (fun v4333 h4334 r4335 => ?_)
  obtain ⟨rfl, rfl⟩ := r4335
  refine C.aloadN d7_7 rfl rfl rfl ?_
  refine C.iconst 0 d7_8 rfl rfl ?_
  refine C.iloadN d7_9 rfl rfl ?_
  refine C.iloadN d7_10 rfl rfl ?_
  refine C.callS (argsL := [(.ref o0), (.int 0), (.int 0), (.int 3)]) (rest := []) 0 (fun zz => au4254_9 l Z a0 hw n0 h0 zz o0 P0 g_o0) d7_11 rfl (tw hw 47 rfl) (tw hw 48 rfl) (tw hw 49 rfl) (tw hw 50 rfl) (by decide) pd_10 rfl rfl rfl (Nat.le_of_eq rfl) (by decide) (by decide) (by decide) (by decide) (fun v4337 h4338 r4339 => ?_)
  obtain ⟨rfl, K4340, F4341⟩ := r4339
  exact C.ret0 d7_14 (by decide) (by decide) ⟨rfl, ((Keep.refl h0 [o0]).trans K4340 (allS (Or.inl (List.mem_of_getElem? (i := 0) rfl)) all0)), F4341⟩
def Qau4248_6 (Z : State) (n0 : Nat) (h0 : Heap) (o0 : Addr) (o1 : Addr) (o2 : Addr) (j0 : Int64) (j1 : Int64) (j2 : Int64) (v : Option Value) (h' : Heap) : Prop := (v = none) ∧ (Keep h0 h' [o1]) ∧ (Av Z h' o1 .int (.int 0 :: .int 1 :: .int 2 :: zI45))
theorem ef_au4248_6 (m : MethodId) (o0 : Addr) : entryFrame m #[(.ref o0)] 2 = mkF m 0 #[rv o0, .unset] [] := by first | (simp [entryFrame, mkF, argsToLocals, Value.category]; done) | rfl
set_option maxRecDepth 65536 in
set_option maxHeartbeats 40000000 in
theorem au4248_6 (l : Launch) (Z : State) (a0 : Array Value) (hw : ∀ d ∈ tables_1, d.before a0 Z = true) (n0 : Nat) (h0 : Heap) (hn0 : n0 ≤ h0.size) (o0 : Addr) (o1 : Addr) (o2 : Addr) (j0 : Int64) (j1 : Int64) (j2 : Int64) (P0 : Exa Z h0 o0 kC0) (P1 : Fld Z h0 o0 kC0 "count" "I" (.int 3)) (P2 : Fld Z h0 o0 kC0 "held" "[I" (.ref o1)) (P3 : Fld Z h0 o0 kC0 "listing" "Z" (.int 1)) (P4 : Fld Z h0 o0 kC0 "words" "[J" (.ref o2)) (P5 : Av Z h0 o1 .int (.int 1 :: .int 0 :: .int 2 :: zI45)) (P6 : Av Z h0 o2 .long (.long j0 :: .long j1 :: .long j2 :: zJ45)) (g_o0 : n0 ≤ o0) (g_o1 : n0 ≤ o1) (g_o2 : n0 ≤ o2) (ne_o0_o1 : o0 ≠ o1) (ne_o0_o2 : o0 ≠ o2) (ne_o1_o2 : o1 ≠ o2) :
    Con l Z n0 [] (⟨"com/example/detra/detra/SetWords", "listHeld", "()V"⟩ : MethodName) prog_21_method_7_code 2 none ({ frames := 4, cells := 0, slots := 0, locals := 81 } : Room) #[(.ref o0)] h0 (Qau4248_6 Z n0 h0 o0 o1 o2 j0 j1 j2) := by
  refine Con.of pf_3 (fun m => ef_au4248_6 m o0) hn0 ?_
  intro p e s m below meth c C
  refine C.aloadN d6_0 rfl rfl rfl ?_
  refine C.getF d6_1 rfl (tw hw 14 rfl) P3 ?_
  refine C.if_eq_f d6_4 rfl (by decide) ?_
  refine C.aloadN d6_7 rfl rfl rfl ?_
  refine C.getF d6_8 rfl (tw hw 38 rfl) P1 ?_
  refine C.aloadN d6_11 rfl rfl rfl ?_
  refine C.getF d6_12 rfl (tw hw 12 rfl) P4 ?_
  refine C.alen d6_15 rfl P6 ?_
  refine Go.cI (y := 48) rfl ?_
  refine C.bipush 16 d6_16 rfl rfl ?_
  refine C.idiv d6_18 rfl (by decide) ?_
  refine Go.cI (y := 3) rfl ?_
  refine C.icmp_le_t d6_19 (by decide) rfl (by decide) ?_
  refine C.aloadN d6_75 rfl rfl rfl ?_
  refine C.getF d6_76 rfl (tw hw 17 rfl) P2 ?_
  refine C.iconst 0 d6_79 rfl rfl ?_
  refine C.aloadN d6_80 rfl rfl rfl ?_
  refine C.getF d6_81 rfl (tw hw 38 rfl) P1 ?_
  refine C.callS (argsL := [(.ref o1), (.int 0), (.int 3)]) (rest := []) 0 (fun zz => au4249_7 l Z a0 hw n0 h0 zz o1 P5 g_o1) d6_84 rfl (tw hw 40 rfl) (tw hw 41 rfl) (tw hw 42 rfl) (tw hw 43 rfl) (by decide) pd_8 rfl rfl rfl (Nat.le_of_eq rfl) (by decide) (by decide) (by decide) (by decide) (fun v4367 h4368 r4369 => ?_)
  obtain ⟨rfl, K4370, F4371⟩ := r4369
  have F4372 := P0.keep K4370
  have F4373 := P1.keep K4370 (ninS ne_o0_o1 nin0)
  have F4374 := P2.keep K4370 (ninS ne_o0_o1 nin0)
  have F4375 := P3.keep K4370 (ninS ne_o0_o1 nin0)
  have F4376 := P4.keep K4370 (ninS ne_o0_o1 nin0)
  have F4378 := P6.keep K4370 (ninS (Ne.symm ne_o1_o2) nin0)
  exact C.ret0 d6_87 (by decide) (by decide) ⟨rfl, ((Keep.refl h0 [o1]).trans K4370 (allS (Or.inl (List.mem_of_getElem? (i := 0) rfl)) all0)), F4371⟩
def Qau4399_11 (Z : State) (n0 : Nat) (h0 : Heap) (o0 : Addr) (v : Option Value) (h' : Heap) : Prop := (v = none) ∧ (Keep h0 h' [o0]) ∧ (Av Z h' o0 .int (.int 0 :: .int 2 :: zI46))
theorem ef_au4399_11 (m : MethodId) (o0 : Addr) : entryFrame m #[(.ref o0), (.int 0), (.int 2)] 6 = mkF m 0 #[rv o0, iv 0, iv 2, .unset, .unset, .unset] [] := by first | (simp [entryFrame, mkF, argsToLocals, Value.category]; done) | rfl
set_option maxRecDepth 65536 in
set_option maxHeartbeats 40000000 in
theorem au4399_11 (l : Launch) (Z : State) (a0 : Array Value) (hw : ∀ d ∈ tables_1, d.before a0 Z = true) (n0 : Nat) (h0 : Heap) (hn0 : n0 ≤ h0.size) (o0 : Addr) (P0 : Av Z h0 o0 .int (.int 2 :: zI47)) (g_o0 : n0 ≤ o0) :
    Con l Z n0 [] (⟨"java/util/DualPivotQuicksort", "insertionSort", "([III)V"⟩ : MethodName) jdk_2529_method_6_code 6 none ({ frames := 0, cells := 0, slots := 0, locals := 0 } : Room) #[(.ref o0), (.int 0), (.int 2)] h0 (Qau4399_11 Z n0 h0 o0) := by
  refine Con.of pf_13 (fun m => ef_au4399_11 m o0) hn0 ?_
  intro p e s m below meth c C
  refine C.iloadN d11_0 rfl rfl ?_
  refine C.istore (Ls' := #[rv o0, iv 0, iv 2, .unset, iv 0, .unset]) d11_1 rfl rfl ?_
  refine C.iinc (Ls' := #[rv o0, iv 0, iv 2, .unset, iv 1, .unset]) 1 d11_3 rfl rfl rfl rfl ?_
  refine C.iload d11_6 rfl rfl ?_
  refine C.iloadN d11_8 rfl rfl ?_
  refine C.icmp_ge_f d11_9 rfl (by decide) ?_
  refine C.aloadN d11_12 rfl rfl rfl ?_
  refine C.iload d11_13 rfl rfl ?_
  refine C.dup d11_15 rfl rfl ?_
  refine C.istoreN (Ls' := #[rv o0, iv 0, iv 2, iv 1, iv 1, .unset]) d11_16 rfl rfl ?_
  refine C.iaload (.int 0) d11_17 rfl P0 (by decide) rfl ?_
  refine C.istore (Ls' := #[rv o0, iv 0, iv 2, iv 1, iv 1, iv 0]) d11_18 rfl rfl ?_
  refine C.iload d11_20 rfl rfl ?_
  refine C.aloadN d11_22 rfl rfl rfl ?_
  refine C.iloadN d11_23 rfl rfl ?_
  refine C.iconst 1 d11_24 rfl rfl ?_
  refine C.isub d11_25 rfl ?_
  refine Go.cI (y := 0) rfl ?_
  refine C.iaload (.int 2) d11_26 rfl P0 (by decide) rfl ?_
  refine C.icmp_ge_f d11_27 rfl (by decide) ?_
  refine C.iinc (Ls' := #[rv o0, iv 0, iv 2, iv 0, iv 1, iv 0]) (-1) d11_30 rfl rfl rfl rfl ?_
  refine C.iloadN d11_33 rfl rfl ?_
  refine C.iloadN d11_34 rfl rfl ?_
  refine C.icmp_lt_f d11_35 rfl (by decide) ?_
  refine C.iload d11_38 rfl rfl ?_
  refine C.aloadN d11_40 rfl rfl rfl ?_
  refine C.iloadN d11_41 rfl rfl ?_
  refine C.iaload (.int 2) d11_42 rfl P0 (by decide) rfl ?_
  refine C.icmp_ge_f d11_43 rfl (by decide) ?_
  refine C.aloadN d11_46 rfl rfl rfl ?_
  refine C.iloadN d11_47 rfl rfl ?_
  refine C.iconst 1 d11_48 rfl rfl ?_
  refine C.iadd d11_49 rfl ?_
  refine Go.cI (y := 1) rfl ?_
  refine C.aloadN d11_50 rfl rfl rfl ?_
  refine C.iloadN d11_51 rfl rfl ?_
  refine C.iaload (.int 2) d11_52 rfl P0 (by decide) rfl ?_
  refine C.iastore d11_53 rfl P0 g_o0 (by decide) (Nat.le_of_ble_eq_true rfl) (fun h4416 W4417 F4418 => ?_)
  have F4419 : Av Z h4416 o0 .int (.int 2 :: .int 2 :: zI46) := F4418
  refine C.goto d11_54 (by decide) rfl ?_
  refine C.iinc (Ls' := #[rv o0, iv 0, iv 2, iv (-1), iv 1, iv 0]) (-1) d11_30 rfl rfl rfl rfl ?_
  refine C.iloadN d11_33 rfl rfl ?_
  refine C.iloadN d11_34 rfl rfl ?_
  refine C.icmp_lt_t d11_35 (by decide) rfl (by decide) ?_
  refine C.aloadN d11_57 rfl rfl rfl ?_
  refine C.iloadN d11_58 rfl rfl ?_
  refine C.iconst 1 d11_59 rfl rfl ?_
  refine C.iadd d11_60 rfl ?_
  refine Go.cI (y := 0) rfl ?_
  refine C.iload d11_61 rfl rfl ?_
  refine C.iastore d11_63 rfl F4419 g_o0 (by decide) (Nat.le_of_ble_eq_true rfl) (fun h4420 W4421 F4422 => ?_)
  have F4423 : Av Z h4420 o0 .int (.int 0 :: .int 2 :: zI46) := F4422
  refine C.goto d11_64 (by decide) rfl ?_
  refine C.iinc (Ls' := #[rv o0, iv 0, iv 2, iv (-1), iv 2, iv 0]) 1 d11_3 rfl rfl rfl rfl ?_
  refine C.iload d11_6 rfl rfl ?_
  refine C.iloadN d11_8 rfl rfl ?_
  refine C.icmp_ge_t d11_9 (by decide) rfl (by decide) ?_
  exact C.ret0 d11_67 (by decide) (by decide) ⟨rfl, (((Keep.refl h0 [o0]).wr W4417 (Or.inl (List.mem_of_getElem? (i := 0) rfl))).wr W4421 (Or.inl (List.mem_of_getElem? (i := 0) rfl))), F4423⟩
def Qau4398_10 (Z : State) (n0 : Nat) (h0 : Heap) (o0 : Addr) (v : Option Value) (h' : Heap) : Prop := (v = none) ∧ (Keep h0 h' [o0]) ∧ (Av Z h' o0 .int (.int 0 :: .int 2 :: zI46))
theorem ef_au4398_10 (m : MethodId) (o0 : Addr) : entryFrame m #[.null, (.ref o0), (.int 0), (.int 0), (.int 2)] 21 = mkF m 0 #[.val (.null), rv o0, iv 0, iv 0, iv 2, .unset, .unset, .unset, .unset, .unset, .unset, .unset, .unset, .unset, .unset, .unset, .unset, .unset, .unset, .unset, .unset] [] := by first | (simp [entryFrame, mkF, argsToLocals, Value.category]; done) | rfl
set_option maxRecDepth 65536 in
set_option maxHeartbeats 40000000 in
theorem au4398_10 (l : Launch) (Z : State) (a0 : Array Value) (hw : ∀ d ∈ tables_1, d.before a0 Z = true) (n0 : Nat) (h0 : Heap) (hn0 : n0 ≤ h0.size) (o0 : Addr) (P0 : Av Z h0 o0 .int (.int 2 :: zI47)) (g_o0 : n0 ≤ o0) :
    Con l Z n0 [] (⟨"java/util/DualPivotQuicksort", "sort", "(Ljava/util/DualPivotQuicksort$Sorter;[IIII)V"⟩ : MethodName) jdk_2529_method_4_code 21 none ({ frames := 1, cells := 0, slots := 0, locals := 17 } : Room) #[.null, (.ref o0), (.int 0), (.int 0), (.int 2)] h0 (Qau4398_10 Z n0 h0 o0) := by
  refine Con.of pf_12 (fun m => ef_au4398_10 m o0) hn0 ?_
  intro p e s m below meth c C
  refine C.iload d10_0 rfl rfl ?_
  refine C.iconst 1 d10_2 rfl rfl ?_
  refine C.isub d10_3 rfl ?_
  refine Go.cI (y := 1) rfl ?_
  refine C.istore (Ls' := #[.val (.null), rv o0, iv 0, iv 0, iv 2, iv 1, .unset, .unset, .unset, .unset, .unset, .unset, .unset, .unset, .unset, .unset, .unset, .unset, .unset, .unset, .unset]) d10_4 rfl rfl ?_
  refine C.iload d10_6 rfl rfl ?_
  refine C.iloadN d10_8 rfl rfl ?_
  refine C.isub d10_9 rfl ?_
  refine Go.cI (y := 2) rfl ?_
  refine C.istore (Ls' := #[.val (.null), rv o0, iv 0, iv 0, iv 2, iv 1, iv 2, .unset, .unset, .unset, .unset, .unset, .unset, .unset, .unset, .unset, .unset, .unset, .unset, .unset, .unset]) d10_10 rfl rfl ?_
  refine C.iload d10_12 rfl rfl ?_
  refine C.bipush 65 d10_14 rfl rfl ?_
  refine C.iloadN d10_16 rfl rfl ?_
  refine C.iadd d10_17 rfl ?_
  refine Go.cI (y := 65) rfl ?_
  refine C.icmp_ge_f d10_18 rfl (by decide) ?_
  refine C.iloadN d10_21 rfl rfl ?_
  refine C.iconst 1 d10_22 rfl rfl ?_
  refine C.iand d10_23 rfl ?_
  refine Go.cI (y := 0) rfl ?_
  refine C.if_le_t d10_24 (by decide) rfl (by decide) ?_
  refine C.iload d10_46 rfl rfl ?_
  refine C.bipush 44 d10_48 rfl rfl ?_
  refine C.icmp_ge_f d10_50 rfl (by decide) ?_
  refine C.aloadN d10_53 rfl rfl rfl ?_
  refine C.iloadN d10_54 rfl rfl ?_
  refine C.iload d10_55 rfl rfl ?_
  refine C.callS (argsL := [(.ref o0), (.int 0), (.int 2)]) (rest := []) 0 (fun zz => au4399_11 l Z a0 hw n0 h0 zz o0 P0 g_o0) d10_57 rfl (tw hw 54 rfl) (tw hw 55 rfl) (tw hw 49 rfl) (tw hw 56 rfl) (by decide) pd_8 rfl rfl rfl (Nat.le_of_eq rfl) (by decide) (by decide) (by decide) (by decide) (fun v4436 h4437 r4438 => ?_)
  obtain ⟨rfl, K4439, F4440⟩ := r4438
  exact C.ret0 d10_60 (by decide) (by decide) ⟨rfl, ((Keep.refl h0 [o0]).trans K4439 (allS (Or.inl (List.mem_of_getElem? (i := 0) rfl)) all0)), F4440⟩
def Qau4397_9 (Z : State) (n0 : Nat) (h0 : Heap) (o0 : Addr) (v : Option Value) (h' : Heap) : Prop := (v = none) ∧ (Keep h0 h' [o0]) ∧ (Av Z h' o0 .int (.int 0 :: .int 2 :: zI46))
theorem ef_au4397_9 (m : MethodId) (o0 : Addr) : entryFrame m #[(.ref o0), (.int 0), (.int 0), (.int 2)] 7 = mkF m 0 #[rv o0, iv 0, iv 0, iv 2, .unset, .unset, .unset] [] := by first | (simp [entryFrame, mkF, argsToLocals, Value.category]; done) | rfl
set_option maxRecDepth 65536 in
set_option maxHeartbeats 40000000 in
theorem au4397_9 (l : Launch) (Z : State) (a0 : Array Value) (hw : ∀ d ∈ tables_1, d.before a0 Z = true) (n0 : Nat) (h0 : Heap) (hn0 : n0 ≤ h0.size) (o0 : Addr) (P0 : Av Z h0 o0 .int (.int 2 :: zI47)) (g_o0 : n0 ≤ o0) :
    Con l Z n0 [] (⟨"java/util/DualPivotQuicksort", "sort", "([IIII)V"⟩ : MethodName) jdk_2529_method_3_code 7 none ({ frames := 2, cells := 0, slots := 0, locals := 49 } : Room) #[(.ref o0), (.int 0), (.int 0), (.int 2)] h0 (Qau4397_9 Z n0 h0 o0) := by
  refine Con.of pf_11 (fun m => ef_au4397_9 m o0) hn0 ?_
  intro p e s m below meth c C
  refine C.iloadN d9_0 rfl rfl ?_
  refine C.iloadN d9_1 rfl rfl ?_
  refine C.isub d9_2 rfl ?_
  refine Go.cI (y := 2) rfl ?_
  refine C.istore (Ls' := #[rv o0, iv 0, iv 0, iv 2, iv 2, .unset, .unset]) d9_3 rfl rfl ?_
  refine C.iloadN d9_5 rfl rfl ?_
  refine C.iconst 1 d9_6 rfl rfl ?_
  refine C.icmp_le_t d9_7 (by decide) rfl (by decide) ?_
  refine C.aconst_null d9_68 rfl ?_
  refine C.aloadN d9_69 rfl rfl rfl ?_
  refine C.iconst 0 d9_70 rfl rfl ?_
  refine C.iloadN d9_71 rfl rfl ?_
  refine C.iloadN d9_72 rfl rfl ?_
  refine C.callS (argsL := [.null, (.ref o0), (.int 0), (.int 0), (.int 2)]) (rest := []) 0 (fun zz => au4398_10 l Z a0 hw n0 h0 zz o0 P0 g_o0) d9_73 rfl (tw hw 51 rfl) (tw hw 52 rfl) (tw hw 49 rfl) (tw hw 53 rfl) (by decide) pd_9 rfl rfl rfl (Nat.le_of_eq rfl) (by decide) (by decide) (by decide) (by decide) (fun v4454 h4455 r4456 => ?_)
  obtain ⟨rfl, K4457, F4458⟩ := r4456
  exact C.ret0 d9_76 (by decide) (by decide) ⟨rfl, ((Keep.refl h0 [o0]).trans K4457 (allS (Or.inl (List.mem_of_getElem? (i := 0) rfl)) all0)), F4458⟩
def Qau4392_7 (Z : State) (n0 : Nat) (h0 : Heap) (o0 : Addr) (v : Option Value) (h' : Heap) : Prop := (v = none) ∧ (Keep h0 h' [o0]) ∧ (Av Z h' o0 .int (.int 0 :: .int 2 :: zI46))
theorem ef_au4392_7 (m : MethodId) (o0 : Addr) : entryFrame m #[(.ref o0), (.int 0), (.int 2)] 3 = mkF m 0 #[rv o0, iv 0, iv 2] [] := by first | (simp [entryFrame, mkF, argsToLocals, Value.category]; done) | rfl
set_option maxRecDepth 65536 in
set_option maxHeartbeats 40000000 in
theorem au4392_7 (l : Launch) (Z : State) (a0 : Array Value) (hw : ∀ d ∈ tables_1, d.before a0 Z = true) (n0 : Nat) (h0 : Heap) (hn0 : n0 ≤ h0.size) (o0 : Addr) (P0 : Av Z h0 o0 .int (.int 2 :: zI47)) (g_o0 : n0 ≤ o0) :
    Con l Z n0 [] (⟨"java/util/Arrays", "sort", "([III)V"⟩ : MethodName) jdk_65_method_3_code 3 none ({ frames := 3, cells := 0, slots := 0, locals := 67 } : Room) #[(.ref o0), (.int 0), (.int 2)] h0 (Qau4392_7 Z n0 h0 o0) := by
  refine Con.of pf_9 (fun m => ef_au4392_7 m o0) hn0 ?_
  intro p e s m below meth c C
  refine C.aloadN d7_0 rfl rfl rfl ?_
  refine C.alen d7_1 rfl P0 ?_
  refine Go.cI (y := 48) rfl ?_
  refine C.iloadN d7_2 rfl rfl ?_
  refine C.iloadN d7_3 rfl rfl ?_
  refine C.callS (argsL := [(.int 48), (.int 0), (.int 2)]) (rest := []) 0 (fun zz => au3829_8 l Z a0 hw n0 h0 zz  ) d7_4 rfl (tw hw 44 rfl) (tw hw 45 rfl) (tw hw 42 rfl) (tw hw 46 rfl) (by decide) pd_7 rfl rfl rfl (Nat.le_of_eq rfl) (by decide) (by decide) (by decide) (by decide) (fun v4476 h4477 r4478 => ?_)
  obtain ⟨rfl, rfl⟩ := r4478
  refine C.aloadN d7_7 rfl rfl rfl ?_
  refine C.iconst 0 d7_8 rfl rfl ?_
  refine C.iloadN d7_9 rfl rfl ?_
  refine C.iloadN d7_10 rfl rfl ?_
  refine C.callS (argsL := [(.ref o0), (.int 0), (.int 0), (.int 2)]) (rest := []) 0 (fun zz => au4397_9 l Z a0 hw n0 h0 zz o0 P0 g_o0) d7_11 rfl (tw hw 47 rfl) (tw hw 48 rfl) (tw hw 49 rfl) (tw hw 50 rfl) (by decide) pd_10 rfl rfl rfl (Nat.le_of_eq rfl) (by decide) (by decide) (by decide) (by decide) (fun v4480 h4481 r4482 => ?_)
  obtain ⟨rfl, K4483, F4484⟩ := r4482
  exact C.ret0 d7_14 (by decide) (by decide) ⟨rfl, ((Keep.refl h0 [o0]).trans K4483 (allS (Or.inl (List.mem_of_getElem? (i := 0) rfl)) all0)), F4484⟩
def Qau4391_6 (Z : State) (n0 : Nat) (h0 : Heap) (o0 : Addr) (o1 : Addr) (o2 : Addr) (j0 : Int64) (j1 : Int64) (j2 : Int64) (v : Option Value) (h' : Heap) : Prop := (v = none) ∧ (Keep h0 h' [o1]) ∧ (Av Z h' o1 .int (.int 0 :: .int 2 :: zI46))
theorem ef_au4391_6 (m : MethodId) (o0 : Addr) : entryFrame m #[(.ref o0)] 2 = mkF m 0 #[rv o0, .unset] [] := by first | (simp [entryFrame, mkF, argsToLocals, Value.category]; done) | rfl
set_option maxRecDepth 65536 in
set_option maxHeartbeats 40000000 in
theorem au4391_6 (l : Launch) (Z : State) (a0 : Array Value) (hw : ∀ d ∈ tables_1, d.before a0 Z = true) (n0 : Nat) (h0 : Heap) (hn0 : n0 ≤ h0.size) (o0 : Addr) (o1 : Addr) (o2 : Addr) (j0 : Int64) (j1 : Int64) (j2 : Int64) (P0 : Exa Z h0 o0 kC0) (P1 : Fld Z h0 o0 kC0 "count" "I" (.int 2)) (P2 : Fld Z h0 o0 kC0 "held" "[I" (.ref o1)) (P3 : Fld Z h0 o0 kC0 "listing" "Z" (.int 1)) (P4 : Fld Z h0 o0 kC0 "words" "[J" (.ref o2)) (P5 : Av Z h0 o1 .int (.int 2 :: zI47)) (P6 : Av Z h0 o2 .long (.long j0 :: .long j1 :: .long j2 :: zJ45)) (g_o0 : n0 ≤ o0) (g_o1 : n0 ≤ o1) (g_o2 : n0 ≤ o2) (ne_o0_o1 : o0 ≠ o1) (ne_o0_o2 : o0 ≠ o2) (ne_o1_o2 : o1 ≠ o2) :
    Con l Z n0 [] (⟨"com/example/detra/detra/SetWords", "listHeld", "()V"⟩ : MethodName) prog_21_method_7_code 2 none ({ frames := 4, cells := 0, slots := 0, locals := 81 } : Room) #[(.ref o0)] h0 (Qau4391_6 Z n0 h0 o0 o1 o2 j0 j1 j2) := by
  refine Con.of pf_3 (fun m => ef_au4391_6 m o0) hn0 ?_
  intro p e s m below meth c C
  refine C.aloadN d6_0 rfl rfl rfl ?_
  refine C.getF d6_1 rfl (tw hw 14 rfl) P3 ?_
  refine C.if_eq_f d6_4 rfl (by decide) ?_
  refine C.aloadN d6_7 rfl rfl rfl ?_
  refine C.getF d6_8 rfl (tw hw 38 rfl) P1 ?_
  refine C.aloadN d6_11 rfl rfl rfl ?_
  refine C.getF d6_12 rfl (tw hw 12 rfl) P4 ?_
  refine C.alen d6_15 rfl P6 ?_
  refine Go.cI (y := 48) rfl ?_
  refine C.bipush 16 d6_16 rfl rfl ?_
  refine C.idiv d6_18 rfl (by decide) ?_
  refine Go.cI (y := 3) rfl ?_
  refine C.icmp_le_t d6_19 (by decide) rfl (by decide) ?_
  refine C.aloadN d6_75 rfl rfl rfl ?_
  refine C.getF d6_76 rfl (tw hw 17 rfl) P2 ?_
  refine C.iconst 0 d6_79 rfl rfl ?_
  refine C.aloadN d6_80 rfl rfl rfl ?_
  refine C.getF d6_81 rfl (tw hw 38 rfl) P1 ?_
  refine C.callS (argsL := [(.ref o1), (.int 0), (.int 2)]) (rest := []) 0 (fun zz => au4392_7 l Z a0 hw n0 h0 zz o1 P5 g_o1) d6_84 rfl (tw hw 40 rfl) (tw hw 41 rfl) (tw hw 42 rfl) (tw hw 43 rfl) (by decide) pd_8 rfl rfl rfl (Nat.le_of_eq rfl) (by decide) (by decide) (by decide) (by decide) (fun v4510 h4511 r4512 => ?_)
  obtain ⟨rfl, K4513, F4514⟩ := r4512
  have F4515 := P0.keep K4513
  have F4516 := P1.keep K4513 (ninS ne_o0_o1 nin0)
  have F4517 := P2.keep K4513 (ninS ne_o0_o1 nin0)
  have F4518 := P3.keep K4513 (ninS ne_o0_o1 nin0)
  have F4519 := P4.keep K4513 (ninS ne_o0_o1 nin0)
  have F4521 := P6.keep K4513 (ninS (Ne.symm ne_o1_o2) nin0)
  exact C.ret0 d6_87 (by decide) (by decide) ⟨rfl, ((Keep.refl h0 [o1]).trans K4513 (allS (Or.inl (List.mem_of_getElem? (i := 0) rfl)) all0)), F4514⟩
def Qau4542_11 (Z : State) (n0 : Nat) (h0 : Heap) (o0 : Addr) (v : Option Value) (h' : Heap) : Prop := (v = none) ∧ (Keep h0 h' [o0]) ∧ (Av Z h' o0 .int (.int 1 :: .int 2 :: zI46))
theorem ef_au4542_11 (m : MethodId) (o0 : Addr) : entryFrame m #[(.ref o0), (.int 0), (.int 2)] 6 = mkF m 0 #[rv o0, iv 0, iv 2, .unset, .unset, .unset] [] := by first | (simp [entryFrame, mkF, argsToLocals, Value.category]; done) | rfl
set_option maxRecDepth 65536 in
set_option maxHeartbeats 40000000 in
theorem au4542_11 (l : Launch) (Z : State) (a0 : Array Value) (hw : ∀ d ∈ tables_1, d.before a0 Z = true) (n0 : Nat) (h0 : Heap) (hn0 : n0 ≤ h0.size) (o0 : Addr) (P0 : Av Z h0 o0 .int (.int 2 :: .int 1 :: zI46)) (g_o0 : n0 ≤ o0) :
    Con l Z n0 [] (⟨"java/util/DualPivotQuicksort", "insertionSort", "([III)V"⟩ : MethodName) jdk_2529_method_6_code 6 none ({ frames := 0, cells := 0, slots := 0, locals := 0 } : Room) #[(.ref o0), (.int 0), (.int 2)] h0 (Qau4542_11 Z n0 h0 o0) := by
  refine Con.of pf_13 (fun m => ef_au4542_11 m o0) hn0 ?_
  intro p e s m below meth c C
  refine C.iloadN d11_0 rfl rfl ?_
  refine C.istore (Ls' := #[rv o0, iv 0, iv 2, .unset, iv 0, .unset]) d11_1 rfl rfl ?_
  refine C.iinc (Ls' := #[rv o0, iv 0, iv 2, .unset, iv 1, .unset]) 1 d11_3 rfl rfl rfl rfl ?_
  refine C.iload d11_6 rfl rfl ?_
  refine C.iloadN d11_8 rfl rfl ?_
  refine C.icmp_ge_f d11_9 rfl (by decide) ?_
  refine C.aloadN d11_12 rfl rfl rfl ?_
  refine C.iload d11_13 rfl rfl ?_
  refine C.dup d11_15 rfl rfl ?_
  refine C.istoreN (Ls' := #[rv o0, iv 0, iv 2, iv 1, iv 1, .unset]) d11_16 rfl rfl ?_
  refine C.iaload (.int 1) d11_17 rfl P0 (by decide) rfl ?_
  refine C.istore (Ls' := #[rv o0, iv 0, iv 2, iv 1, iv 1, iv 1]) d11_18 rfl rfl ?_
  refine C.iload d11_20 rfl rfl ?_
  refine C.aloadN d11_22 rfl rfl rfl ?_
  refine C.iloadN d11_23 rfl rfl ?_
  refine C.iconst 1 d11_24 rfl rfl ?_
  refine C.isub d11_25 rfl ?_
  refine Go.cI (y := 0) rfl ?_
  refine C.iaload (.int 2) d11_26 rfl P0 (by decide) rfl ?_
  refine C.icmp_ge_f d11_27 rfl (by decide) ?_
  refine C.iinc (Ls' := #[rv o0, iv 0, iv 2, iv 0, iv 1, iv 1]) (-1) d11_30 rfl rfl rfl rfl ?_
  refine C.iloadN d11_33 rfl rfl ?_
  refine C.iloadN d11_34 rfl rfl ?_
  refine C.icmp_lt_f d11_35 rfl (by decide) ?_
  refine C.iload d11_38 rfl rfl ?_
  refine C.aloadN d11_40 rfl rfl rfl ?_
  refine C.iloadN d11_41 rfl rfl ?_
  refine C.iaload (.int 2) d11_42 rfl P0 (by decide) rfl ?_
  refine C.icmp_ge_f d11_43 rfl (by decide) ?_
  refine C.aloadN d11_46 rfl rfl rfl ?_
  refine C.iloadN d11_47 rfl rfl ?_
  refine C.iconst 1 d11_48 rfl rfl ?_
  refine C.iadd d11_49 rfl ?_
  refine Go.cI (y := 1) rfl ?_
  refine C.aloadN d11_50 rfl rfl rfl ?_
  refine C.iloadN d11_51 rfl rfl ?_
  refine C.iaload (.int 2) d11_52 rfl P0 (by decide) rfl ?_
  refine C.iastore d11_53 rfl P0 g_o0 (by decide) (Nat.le_of_ble_eq_true rfl) (fun h4559 W4560 F4561 => ?_)
  have F4562 : Av Z h4559 o0 .int (.int 2 :: .int 2 :: zI46) := F4561
  refine C.goto d11_54 (by decide) rfl ?_
  refine C.iinc (Ls' := #[rv o0, iv 0, iv 2, iv (-1), iv 1, iv 1]) (-1) d11_30 rfl rfl rfl rfl ?_
  refine C.iloadN d11_33 rfl rfl ?_
  refine C.iloadN d11_34 rfl rfl ?_
  refine C.icmp_lt_t d11_35 (by decide) rfl (by decide) ?_
  refine C.aloadN d11_57 rfl rfl rfl ?_
  refine C.iloadN d11_58 rfl rfl ?_
  refine C.iconst 1 d11_59 rfl rfl ?_
  refine C.iadd d11_60 rfl ?_
  refine Go.cI (y := 0) rfl ?_
  refine C.iload d11_61 rfl rfl ?_
  refine C.iastore d11_63 rfl F4562 g_o0 (by decide) (Nat.le_of_ble_eq_true rfl) (fun h4563 W4564 F4565 => ?_)
  have F4566 : Av Z h4563 o0 .int (.int 1 :: .int 2 :: zI46) := F4565
  refine C.goto d11_64 (by decide) rfl ?_
  refine C.iinc (Ls' := #[rv o0, iv 0, iv 2, iv (-1), iv 2, iv 1]) 1 d11_3 rfl rfl rfl rfl ?_
  refine C.iload d11_6 rfl rfl ?_
  refine C.iloadN d11_8 rfl rfl ?_
  refine C.icmp_ge_t d11_9 (by decide) rfl (by decide) ?_
  exact C.ret0 d11_67 (by decide) (by decide) ⟨rfl, (((Keep.refl h0 [o0]).wr W4560 (Or.inl (List.mem_of_getElem? (i := 0) rfl))).wr W4564 (Or.inl (List.mem_of_getElem? (i := 0) rfl))), F4566⟩
def Qau4541_10 (Z : State) (n0 : Nat) (h0 : Heap) (o0 : Addr) (v : Option Value) (h' : Heap) : Prop := (v = none) ∧ (Keep h0 h' [o0]) ∧ (Av Z h' o0 .int (.int 1 :: .int 2 :: zI46))
theorem ef_au4541_10 (m : MethodId) (o0 : Addr) : entryFrame m #[.null, (.ref o0), (.int 0), (.int 0), (.int 2)] 21 = mkF m 0 #[.val (.null), rv o0, iv 0, iv 0, iv 2, .unset, .unset, .unset, .unset, .unset, .unset, .unset, .unset, .unset, .unset, .unset, .unset, .unset, .unset, .unset, .unset] [] := by first | (simp [entryFrame, mkF, argsToLocals, Value.category]; done) | rfl
set_option maxRecDepth 65536 in
set_option maxHeartbeats 40000000 in
theorem au4541_10 (l : Launch) (Z : State) (a0 : Array Value) (hw : ∀ d ∈ tables_1, d.before a0 Z = true) (n0 : Nat) (h0 : Heap) (hn0 : n0 ≤ h0.size) (o0 : Addr) (P0 : Av Z h0 o0 .int (.int 2 :: .int 1 :: zI46)) (g_o0 : n0 ≤ o0) :
    Con l Z n0 [] (⟨"java/util/DualPivotQuicksort", "sort", "(Ljava/util/DualPivotQuicksort$Sorter;[IIII)V"⟩ : MethodName) jdk_2529_method_4_code 21 none ({ frames := 1, cells := 0, slots := 0, locals := 17 } : Room) #[.null, (.ref o0), (.int 0), (.int 0), (.int 2)] h0 (Qau4541_10 Z n0 h0 o0) := by
  refine Con.of pf_12 (fun m => ef_au4541_10 m o0) hn0 ?_
  intro p e s m below meth c C
  refine C.iload d10_0 rfl rfl ?_
  refine C.iconst 1 d10_2 rfl rfl ?_
  refine C.isub d10_3 rfl ?_
  refine Go.cI (y := 1) rfl ?_
  refine C.istore (Ls' := #[.val (.null), rv o0, iv 0, iv 0, iv 2, iv 1, .unset, .unset, .unset, .unset, .unset, .unset, .unset, .unset, .unset, .unset, .unset, .unset, .unset, .unset, .unset]) d10_4 rfl rfl ?_
  refine C.iload d10_6 rfl rfl ?_
  refine C.iloadN d10_8 rfl rfl ?_
  refine C.isub d10_9 rfl ?_
  refine Go.cI (y := 2) rfl ?_
  refine C.istore (Ls' := #[.val (.null), rv o0, iv 0, iv 0, iv 2, iv 1, iv 2, .unset, .unset, .unset, .unset, .unset, .unset, .unset, .unset, .unset, .unset, .unset, .unset, .unset, .unset]) d10_10 rfl rfl ?_
  refine C.iload d10_12 rfl rfl ?_
  refine C.bipush 65 d10_14 rfl rfl ?_
  refine C.iloadN d10_16 rfl rfl ?_
  refine C.iadd d10_17 rfl ?_
  refine Go.cI (y := 65) rfl ?_
  refine C.icmp_ge_f d10_18 rfl (by decide) ?_
  refine C.iloadN d10_21 rfl rfl ?_
  refine C.iconst 1 d10_22 rfl rfl ?_
  refine C.iand d10_23 rfl ?_
  refine Go.cI (y := 0) rfl ?_
  refine C.if_le_t d10_24 (by decide) rfl (by decide) ?_
  refine C.iload d10_46 rfl rfl ?_
  refine C.bipush 44 d10_48 rfl rfl ?_
  refine C.icmp_ge_f d10_50 rfl (by decide) ?_
  refine C.aloadN d10_53 rfl rfl rfl ?_
  refine C.iloadN d10_54 rfl rfl ?_
  refine C.iload d10_55 rfl rfl ?_
  refine C.callS (argsL := [(.ref o0), (.int 0), (.int 2)]) (rest := []) 0 (fun zz => au4542_11 l Z a0 hw n0 h0 zz o0 P0 g_o0) d10_57 rfl (tw hw 54 rfl) (tw hw 55 rfl) (tw hw 49 rfl) (tw hw 56 rfl) (by decide) pd_8 rfl rfl rfl (Nat.le_of_eq rfl) (by decide) (by decide) (by decide) (by decide) (fun v4579 h4580 r4581 => ?_)
  obtain ⟨rfl, K4582, F4583⟩ := r4581
  exact C.ret0 d10_60 (by decide) (by decide) ⟨rfl, ((Keep.refl h0 [o0]).trans K4582 (allS (Or.inl (List.mem_of_getElem? (i := 0) rfl)) all0)), F4583⟩
def Qau4540_9 (Z : State) (n0 : Nat) (h0 : Heap) (o0 : Addr) (v : Option Value) (h' : Heap) : Prop := (v = none) ∧ (Keep h0 h' [o0]) ∧ (Av Z h' o0 .int (.int 1 :: .int 2 :: zI46))
theorem ef_au4540_9 (m : MethodId) (o0 : Addr) : entryFrame m #[(.ref o0), (.int 0), (.int 0), (.int 2)] 7 = mkF m 0 #[rv o0, iv 0, iv 0, iv 2, .unset, .unset, .unset] [] := by first | (simp [entryFrame, mkF, argsToLocals, Value.category]; done) | rfl
set_option maxRecDepth 65536 in
set_option maxHeartbeats 40000000 in
theorem au4540_9 (l : Launch) (Z : State) (a0 : Array Value) (hw : ∀ d ∈ tables_1, d.before a0 Z = true) (n0 : Nat) (h0 : Heap) (hn0 : n0 ≤ h0.size) (o0 : Addr) (P0 : Av Z h0 o0 .int (.int 2 :: .int 1 :: zI46)) (g_o0 : n0 ≤ o0) :
    Con l Z n0 [] (⟨"java/util/DualPivotQuicksort", "sort", "([IIII)V"⟩ : MethodName) jdk_2529_method_3_code 7 none ({ frames := 2, cells := 0, slots := 0, locals := 49 } : Room) #[(.ref o0), (.int 0), (.int 0), (.int 2)] h0 (Qau4540_9 Z n0 h0 o0) := by
  refine Con.of pf_11 (fun m => ef_au4540_9 m o0) hn0 ?_
  intro p e s m below meth c C
  refine C.iloadN d9_0 rfl rfl ?_
  refine C.iloadN d9_1 rfl rfl ?_
  refine C.isub d9_2 rfl ?_
  refine Go.cI (y := 2) rfl ?_
  refine C.istore (Ls' := #[rv o0, iv 0, iv 0, iv 2, iv 2, .unset, .unset]) d9_3 rfl rfl ?_
  refine C.iloadN d9_5 rfl rfl ?_
  refine C.iconst 1 d9_6 rfl rfl ?_
  refine C.icmp_le_t d9_7 (by decide) rfl (by decide) ?_
  refine C.aconst_null d9_68 rfl ?_
  refine C.aloadN d9_69 rfl rfl rfl ?_
  refine C.iconst 0 d9_70 rfl rfl ?_
  refine C.iloadN d9_71 rfl rfl ?_
  refine C.iloadN d9_72 rfl rfl ?_
  refine C.callS (argsL := [.null, (.ref o0), (.int 0), (.int 0), (.int 2)]) (rest := []) 0 (fun zz => au4541_10 l Z a0 hw n0 h0 zz o0 P0 g_o0) d9_73 rfl (tw hw 51 rfl) (tw hw 52 rfl) (tw hw 49 rfl) (tw hw 53 rfl) (by decide) pd_9 rfl rfl rfl (Nat.le_of_eq rfl) (by decide) (by decide) (by decide) (by decide) (fun v4597 h4598 r4599 => ?_)
  obtain ⟨rfl, K4600, F4601⟩ := r4599
  exact C.ret0 d9_76 (by decide) (by decide) ⟨rfl, ((Keep.refl h0 [o0]).trans K4600 (allS (Or.inl (List.mem_of_getElem? (i := 0) rfl)) all0)), F4601⟩
def Qau4535_7 (Z : State) (n0 : Nat) (h0 : Heap) (o0 : Addr) (v : Option Value) (h' : Heap) : Prop := (v = none) ∧ (Keep h0 h' [o0]) ∧ (Av Z h' o0 .int (.int 1 :: .int 2 :: zI46))
theorem ef_au4535_7 (m : MethodId) (o0 : Addr) : entryFrame m #[(.ref o0), (.int 0), (.int 2)] 3 = mkF m 0 #[rv o0, iv 0, iv 2] [] := by first | (simp [entryFrame, mkF, argsToLocals, Value.category]; done) | rfl
set_option maxRecDepth 65536 in
set_option maxHeartbeats 40000000 in
theorem au4535_7 (l : Launch) (Z : State) (a0 : Array Value) (hw : ∀ d ∈ tables_1, d.before a0 Z = true) (n0 : Nat) (h0 : Heap) (hn0 : n0 ≤ h0.size) (o0 : Addr) (P0 : Av Z h0 o0 .int (.int 2 :: .int 1 :: zI46)) (g_o0 : n0 ≤ o0) :
    Con l Z n0 [] (⟨"java/util/Arrays", "sort", "([III)V"⟩ : MethodName) jdk_65_method_3_code 3 none ({ frames := 3, cells := 0, slots := 0, locals := 67 } : Room) #[(.ref o0), (.int 0), (.int 2)] h0 (Qau4535_7 Z n0 h0 o0) := by
  refine Con.of pf_9 (fun m => ef_au4535_7 m o0) hn0 ?_
  intro p e s m below meth c C
  refine C.aloadN d7_0 rfl rfl rfl ?_
  refine C.alen d7_1 rfl P0 ?_
  refine Go.cI (y := 48) rfl ?_
  refine C.iloadN d7_2 rfl rfl ?_
  refine C.iloadN d7_3 rfl rfl ?_
  refine C.callS (argsL := [(.int 48), (.int 0), (.int 2)]) (rest := []) 0 (fun zz => au3829_8 l Z a0 hw n0 h0 zz  ) d7_4 rfl (tw hw 44 rfl) (tw hw 45 rfl) (tw hw 42 rfl) (tw hw 46 rfl) (by decide) pd_7 rfl rfl rfl (Nat.le_of_eq rfl) (by decide) (by decide) (by decide) (by decide) (fun v4619 h4620 r4621 => ?_)
  obtain ⟨rfl, rfl⟩ := r4621
  refine C.aloadN d7_7 rfl rfl rfl ?_
  refine C.iconst 0 d7_8 rfl rfl ?_
  refine C.iloadN d7_9 rfl rfl ?_
  refine C.iloadN d7_10 rfl rfl ?_
  refine C.callS (argsL := [(.ref o0), (.int 0), (.int 0), (.int 2)]) (rest := []) 0 (fun zz => au4540_9 l Z a0 hw n0 h0 zz o0 P0 g_o0) d7_11 rfl (tw hw 47 rfl) (tw hw 48 rfl) (tw hw 49 rfl) (tw hw 50 rfl) (by decide) pd_10 rfl rfl rfl (Nat.le_of_eq rfl) (by decide) (by decide) (by decide) (by decide) (fun v4623 h4624 r4625 => ?_)
  obtain ⟨rfl, K4626, F4627⟩ := r4625
  exact C.ret0 d7_14 (by decide) (by decide) ⟨rfl, ((Keep.refl h0 [o0]).trans K4626 (allS (Or.inl (List.mem_of_getElem? (i := 0) rfl)) all0)), F4627⟩
def Qau4534_6 (Z : State) (n0 : Nat) (h0 : Heap) (o0 : Addr) (o1 : Addr) (o2 : Addr) (j0 : Int64) (j1 : Int64) (j2 : Int64) (v : Option Value) (h' : Heap) : Prop := (v = none) ∧ (Keep h0 h' [o1]) ∧ (Av Z h' o1 .int (.int 1 :: .int 2 :: zI46))
theorem ef_au4534_6 (m : MethodId) (o0 : Addr) : entryFrame m #[(.ref o0)] 2 = mkF m 0 #[rv o0, .unset] [] := by first | (simp [entryFrame, mkF, argsToLocals, Value.category]; done) | rfl
set_option maxRecDepth 65536 in
set_option maxHeartbeats 40000000 in
theorem au4534_6 (l : Launch) (Z : State) (a0 : Array Value) (hw : ∀ d ∈ tables_1, d.before a0 Z = true) (n0 : Nat) (h0 : Heap) (hn0 : n0 ≤ h0.size) (o0 : Addr) (o1 : Addr) (o2 : Addr) (j0 : Int64) (j1 : Int64) (j2 : Int64) (P0 : Exa Z h0 o0 kC0) (P1 : Fld Z h0 o0 kC0 "count" "I" (.int 2)) (P2 : Fld Z h0 o0 kC0 "held" "[I" (.ref o1)) (P3 : Fld Z h0 o0 kC0 "listing" "Z" (.int 1)) (P4 : Fld Z h0 o0 kC0 "words" "[J" (.ref o2)) (P5 : Av Z h0 o1 .int (.int 2 :: .int 1 :: zI46)) (P6 : Av Z h0 o2 .long (.long j0 :: .long j1 :: .long j2 :: zJ45)) (g_o0 : n0 ≤ o0) (g_o1 : n0 ≤ o1) (g_o2 : n0 ≤ o2) (ne_o0_o1 : o0 ≠ o1) (ne_o0_o2 : o0 ≠ o2) (ne_o1_o2 : o1 ≠ o2) :
    Con l Z n0 [] (⟨"com/example/detra/detra/SetWords", "listHeld", "()V"⟩ : MethodName) prog_21_method_7_code 2 none ({ frames := 4, cells := 0, slots := 0, locals := 81 } : Room) #[(.ref o0)] h0 (Qau4534_6 Z n0 h0 o0 o1 o2 j0 j1 j2) := by
  refine Con.of pf_3 (fun m => ef_au4534_6 m o0) hn0 ?_
  intro p e s m below meth c C
  refine C.aloadN d6_0 rfl rfl rfl ?_
  refine C.getF d6_1 rfl (tw hw 14 rfl) P3 ?_
  refine C.if_eq_f d6_4 rfl (by decide) ?_
  refine C.aloadN d6_7 rfl rfl rfl ?_
  refine C.getF d6_8 rfl (tw hw 38 rfl) P1 ?_
  refine C.aloadN d6_11 rfl rfl rfl ?_
  refine C.getF d6_12 rfl (tw hw 12 rfl) P4 ?_
  refine C.alen d6_15 rfl P6 ?_
  refine Go.cI (y := 48) rfl ?_
  refine C.bipush 16 d6_16 rfl rfl ?_
  refine C.idiv d6_18 rfl (by decide) ?_
  refine Go.cI (y := 3) rfl ?_
  refine C.icmp_le_t d6_19 (by decide) rfl (by decide) ?_
  refine C.aloadN d6_75 rfl rfl rfl ?_
  refine C.getF d6_76 rfl (tw hw 17 rfl) P2 ?_
  refine C.iconst 0 d6_79 rfl rfl ?_
  refine C.aloadN d6_80 rfl rfl rfl ?_
  refine C.getF d6_81 rfl (tw hw 38 rfl) P1 ?_
  refine C.callS (argsL := [(.ref o1), (.int 0), (.int 2)]) (rest := []) 0 (fun zz => au4535_7 l Z a0 hw n0 h0 zz o1 P5 g_o1) d6_84 rfl (tw hw 40 rfl) (tw hw 41 rfl) (tw hw 42 rfl) (tw hw 43 rfl) (by decide) pd_8 rfl rfl rfl (Nat.le_of_eq rfl) (by decide) (by decide) (by decide) (by decide) (fun v4653 h4654 r4655 => ?_)
  obtain ⟨rfl, K4656, F4657⟩ := r4655
  have F4658 := P0.keep K4656
  have F4659 := P1.keep K4656 (ninS ne_o0_o1 nin0)
  have F4660 := P2.keep K4656 (ninS ne_o0_o1 nin0)
  have F4661 := P3.keep K4656 (ninS ne_o0_o1 nin0)
  have F4662 := P4.keep K4656 (ninS ne_o0_o1 nin0)
  have F4664 := P6.keep K4656 (ninS (Ne.symm ne_o1_o2) nin0)
  exact C.ret0 d6_87 (by decide) (by decide) ⟨rfl, ((Keep.refl h0 [o1]).trans K4656 (allS (Or.inl (List.mem_of_getElem? (i := 0) rfl)) all0)), F4657⟩
def Qau4685_11 (Z : State) (n0 : Nat) (h0 : Heap) (o0 : Addr) (v : Option Value) (h' : Heap) : Prop := (v = none) ∧ (Keep h0 h' [o0]) ∧ (Av Z h' o0 .int (.int 0 :: .int 1 :: .int 2 :: zI45))
theorem ef_au4685_11 (m : MethodId) (o0 : Addr) : entryFrame m #[(.ref o0), (.int 0), (.int 3)] 6 = mkF m 0 #[rv o0, iv 0, iv 3, .unset, .unset, .unset] [] := by first | (simp [entryFrame, mkF, argsToLocals, Value.category]; done) | rfl
set_option maxRecDepth 65536 in
set_option maxHeartbeats 40000000 in
theorem au4685_11 (l : Launch) (Z : State) (a0 : Array Value) (hw : ∀ d ∈ tables_1, d.before a0 Z = true) (n0 : Nat) (h0 : Heap) (hn0 : n0 ≤ h0.size) (o0 : Addr) (P0 : Av Z h0 o0 .int (.int 2 :: .int 0 :: .int 1 :: zI45)) (g_o0 : n0 ≤ o0) :
    Con l Z n0 [] (⟨"java/util/DualPivotQuicksort", "insertionSort", "([III)V"⟩ : MethodName) jdk_2529_method_6_code 6 none ({ frames := 0, cells := 0, slots := 0, locals := 0 } : Room) #[(.ref o0), (.int 0), (.int 3)] h0 (Qau4685_11 Z n0 h0 o0) := by
  refine Con.of pf_13 (fun m => ef_au4685_11 m o0) hn0 ?_
  intro p e s m below meth c C
  refine C.iloadN d11_0 rfl rfl ?_
  refine C.istore (Ls' := #[rv o0, iv 0, iv 3, .unset, iv 0, .unset]) d11_1 rfl rfl ?_
  refine C.iinc (Ls' := #[rv o0, iv 0, iv 3, .unset, iv 1, .unset]) 1 d11_3 rfl rfl rfl rfl ?_
  refine C.iload d11_6 rfl rfl ?_
  refine C.iloadN d11_8 rfl rfl ?_
  refine C.icmp_ge_f d11_9 rfl (by decide) ?_
  refine C.aloadN d11_12 rfl rfl rfl ?_
  refine C.iload d11_13 rfl rfl ?_
  refine C.dup d11_15 rfl rfl ?_
  refine C.istoreN (Ls' := #[rv o0, iv 0, iv 3, iv 1, iv 1, .unset]) d11_16 rfl rfl ?_
  refine C.iaload (.int 0) d11_17 rfl P0 (by decide) rfl ?_
  refine C.istore (Ls' := #[rv o0, iv 0, iv 3, iv 1, iv 1, iv 0]) d11_18 rfl rfl ?_
  refine C.iload d11_20 rfl rfl ?_
  refine C.aloadN d11_22 rfl rfl rfl ?_
  refine C.iloadN d11_23 rfl rfl ?_
  refine C.iconst 1 d11_24 rfl rfl ?_
  refine C.isub d11_25 rfl ?_
  refine Go.cI (y := 0) rfl ?_
  refine C.iaload (.int 2) d11_26 rfl P0 (by decide) rfl ?_
  refine C.icmp_ge_f d11_27 rfl (by decide) ?_
  refine C.iinc (Ls' := #[rv o0, iv 0, iv 3, iv 0, iv 1, iv 0]) (-1) d11_30 rfl rfl rfl rfl ?_
  refine C.iloadN d11_33 rfl rfl ?_
  refine C.iloadN d11_34 rfl rfl ?_
  refine C.icmp_lt_f d11_35 rfl (by decide) ?_
  refine C.iload d11_38 rfl rfl ?_
  refine C.aloadN d11_40 rfl rfl rfl ?_
  refine C.iloadN d11_41 rfl rfl ?_
  refine C.iaload (.int 2) d11_42 rfl P0 (by decide) rfl ?_
  refine C.icmp_ge_f d11_43 rfl (by decide) ?_
  refine C.aloadN d11_46 rfl rfl rfl ?_
  refine C.iloadN d11_47 rfl rfl ?_
  refine C.iconst 1 d11_48 rfl rfl ?_
  refine C.iadd d11_49 rfl ?_
  refine Go.cI (y := 1) rfl ?_
  refine C.aloadN d11_50 rfl rfl rfl ?_
  refine C.iloadN d11_51 rfl rfl ?_
  refine C.iaload (.int 2) d11_52 rfl P0 (by decide) rfl ?_
  refine C.iastore d11_53 rfl P0 g_o0 (by decide) (Nat.le_of_ble_eq_true rfl) (fun h4718 W4719 F4720 => ?_)
  have F4721 : Av Z h4718 o0 .int (.int 2 :: .int 2 :: .int 1 :: zI45) := F4720
  refine C.goto d11_54 (by decide) rfl ?_
  refine C.iinc (Ls' := #[rv o0, iv 0, iv 3, iv (-1), iv 1, iv 0]) (-1) d11_30 rfl rfl rfl rfl ?_
  refine C.iloadN d11_33 rfl rfl ?_
  refine C.iloadN d11_34 rfl rfl ?_
  refine C.icmp_lt_t d11_35 (by decide) rfl (by decide) ?_
  refine C.aloadN d11_57 rfl rfl rfl ?_
  refine C.iloadN d11_58 rfl rfl ?_
  refine C.iconst 1 d11_59 rfl rfl ?_
  refine C.iadd d11_60 rfl ?_
  refine Go.cI (y := 0) rfl ?_
  refine C.iload d11_61 rfl rfl ?_
  refine C.iastore d11_63 rfl F4721 g_o0 (by decide) (Nat.le_of_ble_eq_true rfl) (fun h4722 W4723 F4724 => ?_)
  have F4725 : Av Z h4722 o0 .int (.int 0 :: .int 2 :: .int 1 :: zI45) := F4724
  refine C.goto d11_64 (by decide) rfl ?_
  refine C.iinc (Ls' := #[rv o0, iv 0, iv 3, iv (-1), iv 2, iv 0]) 1 d11_3 rfl rfl rfl rfl ?_
  refine C.iload d11_6 rfl rfl ?_
  refine C.iloadN d11_8 rfl rfl ?_
  refine C.icmp_ge_f d11_9 rfl (by decide) ?_
  refine C.aloadN d11_12 rfl rfl rfl ?_
  refine C.iload d11_13 rfl rfl ?_
  refine C.dup d11_15 rfl rfl ?_
  refine C.istoreN (Ls' := #[rv o0, iv 0, iv 3, iv 2, iv 2, iv 0]) d11_16 rfl rfl ?_
  refine C.iaload (.int 1) d11_17 rfl F4725 (by decide) rfl ?_
  refine C.istore (Ls' := #[rv o0, iv 0, iv 3, iv 2, iv 2, iv 1]) d11_18 rfl rfl ?_
  refine C.iload d11_20 rfl rfl ?_
  refine C.aloadN d11_22 rfl rfl rfl ?_
  refine C.iloadN d11_23 rfl rfl ?_
  refine C.iconst 1 d11_24 rfl rfl ?_
  refine C.isub d11_25 rfl ?_
  refine Go.cI (y := 1) rfl ?_
  refine C.iaload (.int 2) d11_26 rfl F4725 (by decide) rfl ?_
  refine C.icmp_ge_f d11_27 rfl (by decide) ?_
  refine C.iinc (Ls' := #[rv o0, iv 0, iv 3, iv 1, iv 2, iv 1]) (-1) d11_30 rfl rfl rfl rfl ?_
  refine C.iloadN d11_33 rfl rfl ?_
  refine C.iloadN d11_34 rfl rfl ?_
  refine C.icmp_lt_f d11_35 rfl (by decide) ?_
  refine C.iload d11_38 rfl rfl ?_
  refine C.aloadN d11_40 rfl rfl rfl ?_
  refine C.iloadN d11_41 rfl rfl ?_
  refine C.iaload (.int 2) d11_42 rfl F4725 (by decide) rfl ?_
  refine C.icmp_ge_f d11_43 rfl (by decide) ?_
  refine C.aloadN d11_46 rfl rfl rfl ?_
  refine C.iloadN d11_47 rfl rfl ?_
  refine C.iconst 1 d11_48 rfl rfl ?_
  refine C.iadd d11_49 rfl ?_
  refine Go.cI (y := 2) rfl ?_
  refine C.aloadN d11_50 rfl rfl rfl ?_
  refine C.iloadN d11_51 rfl rfl ?_
  refine C.iaload (.int 2) d11_52 rfl F4725 (by decide) rfl ?_
  refine C.iastore d11_53 rfl F4725 g_o0 (by decide) (Nat.le_of_ble_eq_true rfl) (fun h4726 W4727 F4728 => ?_)
  have F4729 : Av Z h4726 o0 .int (.int 0 :: .int 2 :: .int 2 :: zI45) := F4728
  refine C.goto d11_54 (by decide) rfl ?_
  refine C.iinc (Ls' := #[rv o0, iv 0, iv 3, iv 0, iv 2, iv 1]) (-1) d11_30 rfl rfl rfl rfl ?_
  refine C.iloadN d11_33 rfl rfl ?_
  refine C.iloadN d11_34 rfl rfl ?_
  refine C.icmp_lt_f d11_35 rfl (by decide) ?_
  refine C.iload d11_38 rfl rfl ?_
  refine C.aloadN d11_40 rfl rfl rfl ?_
  refine C.iloadN d11_41 rfl rfl ?_
  refine C.iaload (.int 0) d11_42 rfl F4729 (by decide) rfl ?_
  refine C.icmp_ge_t d11_43 (by decide) rfl (by decide) ?_
  refine C.aloadN d11_57 rfl rfl rfl ?_
  refine C.iloadN d11_58 rfl rfl ?_
  refine C.iconst 1 d11_59 rfl rfl ?_
  refine C.iadd d11_60 rfl ?_
  refine Go.cI (y := 1) rfl ?_
  refine C.iload d11_61 rfl rfl ?_
  refine C.iastore d11_63 rfl F4729 g_o0 (by decide) (Nat.le_of_ble_eq_true rfl) (fun h4730 W4731 F4732 => ?_)
  have F4733 : Av Z h4730 o0 .int (.int 0 :: .int 1 :: .int 2 :: zI45) := F4732
  refine C.goto d11_64 (by decide) rfl ?_
  refine C.iinc (Ls' := #[rv o0, iv 0, iv 3, iv 0, iv 3, iv 1]) 1 d11_3 rfl rfl rfl rfl ?_
  refine C.iload d11_6 rfl rfl ?_
  refine C.iloadN d11_8 rfl rfl ?_
  refine C.icmp_ge_t d11_9 (by decide) rfl (by decide) ?_
  exact C.ret0 d11_67 (by decide) (by decide) ⟨rfl, (((((Keep.refl h0 [o0]).wr W4719 (Or.inl (List.mem_of_getElem? (i := 0) rfl))).wr W4723 (Or.inl (List.mem_of_getElem? (i := 0) rfl))).wr W4727 (Or.inl (List.mem_of_getElem? (i := 0) rfl))).wr W4731 (Or.inl (List.mem_of_getElem? (i := 0) rfl))), F4733⟩
def Qau4684_10 (Z : State) (n0 : Nat) (h0 : Heap) (o0 : Addr) (v : Option Value) (h' : Heap) : Prop := (v = none) ∧ (Keep h0 h' [o0]) ∧ (Av Z h' o0 .int (.int 0 :: .int 1 :: .int 2 :: zI45))
theorem ef_au4684_10 (m : MethodId) (o0 : Addr) : entryFrame m #[.null, (.ref o0), (.int 0), (.int 0), (.int 3)] 21 = mkF m 0 #[.val (.null), rv o0, iv 0, iv 0, iv 3, .unset, .unset, .unset, .unset, .unset, .unset, .unset, .unset, .unset, .unset, .unset, .unset, .unset, .unset, .unset, .unset] [] := by first | (simp [entryFrame, mkF, argsToLocals, Value.category]; done) | rfl
set_option maxRecDepth 65536 in
set_option maxHeartbeats 40000000 in
theorem au4684_10 (l : Launch) (Z : State) (a0 : Array Value) (hw : ∀ d ∈ tables_1, d.before a0 Z = true) (n0 : Nat) (h0 : Heap) (hn0 : n0 ≤ h0.size) (o0 : Addr) (P0 : Av Z h0 o0 .int (.int 2 :: .int 0 :: .int 1 :: zI45)) (g_o0 : n0 ≤ o0) :
    Con l Z n0 [] (⟨"java/util/DualPivotQuicksort", "sort", "(Ljava/util/DualPivotQuicksort$Sorter;[IIII)V"⟩ : MethodName) jdk_2529_method_4_code 21 none ({ frames := 1, cells := 0, slots := 0, locals := 17 } : Room) #[.null, (.ref o0), (.int 0), (.int 0), (.int 3)] h0 (Qau4684_10 Z n0 h0 o0) := by
  refine Con.of pf_12 (fun m => ef_au4684_10 m o0) hn0 ?_
  intro p e s m below meth c C
  refine C.iload d10_0 rfl rfl ?_
  refine C.iconst 1 d10_2 rfl rfl ?_
  refine C.isub d10_3 rfl ?_
  refine Go.cI (y := 2) rfl ?_
  refine C.istore (Ls' := #[.val (.null), rv o0, iv 0, iv 0, iv 3, iv 2, .unset, .unset, .unset, .unset, .unset, .unset, .unset, .unset, .unset, .unset, .unset, .unset, .unset, .unset, .unset]) d10_4 rfl rfl ?_
  refine C.iload d10_6 rfl rfl ?_
  refine C.iloadN d10_8 rfl rfl ?_
  refine C.isub d10_9 rfl ?_
  refine Go.cI (y := 3) rfl ?_
  refine C.istore (Ls' := #[.val (.null), rv o0, iv 0, iv 0, iv 3, iv 2, iv 3, .unset, .unset, .unset, .unset, .unset, .unset, .unset, .unset, .unset, .unset, .unset, .unset, .unset, .unset]) d10_10 rfl rfl ?_
  refine C.iload d10_12 rfl rfl ?_
  refine C.bipush 65 d10_14 rfl rfl ?_
  refine C.iloadN d10_16 rfl rfl ?_
  refine C.iadd d10_17 rfl ?_
  refine Go.cI (y := 65) rfl ?_
  refine C.icmp_ge_f d10_18 rfl (by decide) ?_
  refine C.iloadN d10_21 rfl rfl ?_
  refine C.iconst 1 d10_22 rfl rfl ?_
  refine C.iand d10_23 rfl ?_
  refine Go.cI (y := 0) rfl ?_
  refine C.if_le_t d10_24 (by decide) rfl (by decide) ?_
  refine C.iload d10_46 rfl rfl ?_
  refine C.bipush 44 d10_48 rfl rfl ?_
  refine C.icmp_ge_f d10_50 rfl (by decide) ?_
  refine C.aloadN d10_53 rfl rfl rfl ?_
  refine C.iloadN d10_54 rfl rfl ?_
  refine C.iload d10_55 rfl rfl ?_
  refine C.callS (argsL := [(.ref o0), (.int 0), (.int 3)]) (rest := []) 0 (fun zz => au4685_11 l Z a0 hw n0 h0 zz o0 P0 g_o0) d10_57 rfl (tw hw 54 rfl) (tw hw 55 rfl) (tw hw 49 rfl) (tw hw 56 rfl) (by decide) pd_8 rfl rfl rfl (Nat.le_of_eq rfl) (by decide) (by decide) (by decide) (by decide) (fun v4746 h4747 r4748 => ?_)
  obtain ⟨rfl, K4749, F4750⟩ := r4748
  exact C.ret0 d10_60 (by decide) (by decide) ⟨rfl, ((Keep.refl h0 [o0]).trans K4749 (allS (Or.inl (List.mem_of_getElem? (i := 0) rfl)) all0)), F4750⟩
def Qau4683_9 (Z : State) (n0 : Nat) (h0 : Heap) (o0 : Addr) (v : Option Value) (h' : Heap) : Prop := (v = none) ∧ (Keep h0 h' [o0]) ∧ (Av Z h' o0 .int (.int 0 :: .int 1 :: .int 2 :: zI45))
theorem ef_au4683_9 (m : MethodId) (o0 : Addr) : entryFrame m #[(.ref o0), (.int 0), (.int 0), (.int 3)] 7 = mkF m 0 #[rv o0, iv 0, iv 0, iv 3, .unset, .unset, .unset] [] := by first | (simp [entryFrame, mkF, argsToLocals, Value.category]; done) | rfl
set_option maxRecDepth 65536 in
set_option maxHeartbeats 40000000 in
theorem au4683_9 (l : Launch) (Z : State) (a0 : Array Value) (hw : ∀ d ∈ tables_1, d.before a0 Z = true) (n0 : Nat) (h0 : Heap) (hn0 : n0 ≤ h0.size) (o0 : Addr) (P0 : Av Z h0 o0 .int (.int 2 :: .int 0 :: .int 1 :: zI45)) (g_o0 : n0 ≤ o0) :
    Con l Z n0 [] (⟨"java/util/DualPivotQuicksort", "sort", "([IIII)V"⟩ : MethodName) jdk_2529_method_3_code 7 none ({ frames := 2, cells := 0, slots := 0, locals := 49 } : Room) #[(.ref o0), (.int 0), (.int 0), (.int 3)] h0 (Qau4683_9 Z n0 h0 o0) := by
  refine Con.of pf_11 (fun m => ef_au4683_9 m o0) hn0 ?_
  intro p e s m below meth c C
  refine C.iloadN d9_0 rfl rfl ?_
  refine C.iloadN d9_1 rfl rfl ?_
  refine C.isub d9_2 rfl ?_
  refine Go.cI (y := 3) rfl ?_
  refine C.istore (Ls' := #[rv o0, iv 0, iv 0, iv 3, iv 3, .unset, .unset]) d9_3 rfl rfl ?_
  refine C.iloadN d9_5 rfl rfl ?_
  refine C.iconst 1 d9_6 rfl rfl ?_
  refine C.icmp_le_t d9_7 (by decide) rfl (by decide) ?_
  refine C.aconst_null d9_68 rfl ?_
  refine C.aloadN d9_69 rfl rfl rfl ?_
  refine C.iconst 0 d9_70 rfl rfl ?_
  refine C.iloadN d9_71 rfl rfl ?_
  refine C.iloadN d9_72 rfl rfl ?_
  refine C.callS (argsL := [.null, (.ref o0), (.int 0), (.int 0), (.int 3)]) (rest := []) 0 (fun zz => au4684_10 l Z a0 hw n0 h0 zz o0 P0 g_o0) d9_73 rfl (tw hw 51 rfl) (tw hw 52 rfl) (tw hw 49 rfl) (tw hw 53 rfl) (by decide) pd_9 rfl rfl rfl (Nat.le_of_eq rfl) (by decide) (by decide) (by decide) (by decide) (fun v4764 h4765 r4766 => ?_)
  obtain ⟨rfl, K4767, F4768⟩ := r4766
  exact C.ret0 d9_76 (by decide) (by decide) ⟨rfl, ((Keep.refl h0 [o0]).trans K4767 (allS (Or.inl (List.mem_of_getElem? (i := 0) rfl)) all0)), F4768⟩
def Qau4678_7 (Z : State) (n0 : Nat) (h0 : Heap) (o0 : Addr) (v : Option Value) (h' : Heap) : Prop := (v = none) ∧ (Keep h0 h' [o0]) ∧ (Av Z h' o0 .int (.int 0 :: .int 1 :: .int 2 :: zI45))
theorem ef_au4678_7 (m : MethodId) (o0 : Addr) : entryFrame m #[(.ref o0), (.int 0), (.int 3)] 3 = mkF m 0 #[rv o0, iv 0, iv 3] [] := by first | (simp [entryFrame, mkF, argsToLocals, Value.category]; done) | rfl
set_option maxRecDepth 65536 in
set_option maxHeartbeats 40000000 in
theorem au4678_7 (l : Launch) (Z : State) (a0 : Array Value) (hw : ∀ d ∈ tables_1, d.before a0 Z = true) (n0 : Nat) (h0 : Heap) (hn0 : n0 ≤ h0.size) (o0 : Addr) (P0 : Av Z h0 o0 .int (.int 2 :: .int 0 :: .int 1 :: zI45)) (g_o0 : n0 ≤ o0) :
    Con l Z n0 [] (⟨"java/util/Arrays", "sort", "([III)V"⟩ : MethodName) jdk_65_method_3_code 3 none ({ frames := 3, cells := 0, slots := 0, locals := 67 } : Room) #[(.ref o0), (.int 0), (.int 3)] h0 (Qau4678_7 Z n0 h0 o0) := by
  refine Con.of pf_9 (fun m => ef_au4678_7 m o0) hn0 ?_
  intro p e s m below meth c C
  refine C.aloadN d7_0 rfl rfl rfl ?_
  refine C.alen d7_1 rfl P0 ?_
  refine Go.cI (y := 48) rfl ?_
  refine C.iloadN d7_2 rfl rfl ?_
  refine C.iloadN d7_3 rfl rfl ?_
  refine C.callS (argsL := [(.int 48), (.int 0), (.int 3)]) (rest := []) 0 (fun zz => au4037_8 l Z a0 hw n0 h0 zz  ) d7_4 rfl (tw hw 44 rfl) (tw hw 45 rfl) (tw hw 42 rfl) (tw hw 46 rfl) (by decide) pd_7 rfl rfl rfl (Nat.le_of_eq rfl) (by decide) (by decide) (by decide) (by decide) (fun v4786 h4787 r4788 => ?_)
  obtain ⟨rfl, rfl⟩ := r4788
  refine C.aloadN d7_7 rfl rfl rfl ?_
  refine C.iconst 0 d7_8 rfl rfl ?_
  refine C.iloadN d7_9 rfl rfl ?_
  refine C.iloadN d7_10 rfl rfl ?_
  refine C.callS (argsL := [(.ref o0), (.int 0), (.int 0), (.int 3)]) (rest := []) 0 (fun zz => au4683_9 l Z a0 hw n0 h0 zz o0 P0 g_o0) d7_11 rfl (tw hw 47 rfl) (tw hw 48 rfl) (tw hw 49 rfl) (tw hw 50 rfl) (by decide) pd_10 rfl rfl rfl (Nat.le_of_eq rfl) (by decide) (by decide) (by decide) (by decide) (fun v4790 h4791 r4792 => ?_)
  obtain ⟨rfl, K4793, F4794⟩ := r4792
  exact C.ret0 d7_14 (by decide) (by decide) ⟨rfl, ((Keep.refl h0 [o0]).trans K4793 (allS (Or.inl (List.mem_of_getElem? (i := 0) rfl)) all0)), F4794⟩
def Qau4677_6 (Z : State) (n0 : Nat) (h0 : Heap) (o0 : Addr) (o1 : Addr) (o2 : Addr) (j0 : Int64) (j1 : Int64) (j2 : Int64) (v : Option Value) (h' : Heap) : Prop := (v = none) ∧ (Keep h0 h' [o1]) ∧ (Av Z h' o1 .int (.int 0 :: .int 1 :: .int 2 :: zI45))
theorem ef_au4677_6 (m : MethodId) (o0 : Addr) : entryFrame m #[(.ref o0)] 2 = mkF m 0 #[rv o0, .unset] [] := by first | (simp [entryFrame, mkF, argsToLocals, Value.category]; done) | rfl
set_option maxRecDepth 65536 in
set_option maxHeartbeats 40000000 in
theorem au4677_6 (l : Launch) (Z : State) (a0 : Array Value) (hw : ∀ d ∈ tables_1, d.before a0 Z = true) (n0 : Nat) (h0 : Heap) (hn0 : n0 ≤ h0.size) (o0 : Addr) (o1 : Addr) (o2 : Addr) (j0 : Int64) (j1 : Int64) (j2 : Int64) (P0 : Exa Z h0 o0 kC0) (P1 : Fld Z h0 o0 kC0 "count" "I" (.int 3)) (P2 : Fld Z h0 o0 kC0 "held" "[I" (.ref o1)) (P3 : Fld Z h0 o0 kC0 "listing" "Z" (.int 1)) (P4 : Fld Z h0 o0 kC0 "words" "[J" (.ref o2)) (P5 : Av Z h0 o1 .int (.int 2 :: .int 0 :: .int 1 :: zI45)) (P6 : Av Z h0 o2 .long (.long j0 :: .long j1 :: .long j2 :: zJ45)) (g_o0 : n0 ≤ o0) (g_o1 : n0 ≤ o1) (g_o2 : n0 ≤ o2) (ne_o0_o1 : o0 ≠ o1) (ne_o0_o2 : o0 ≠ o2) (ne_o1_o2 : o1 ≠ o2) :
    Con l Z n0 [] (⟨"com/example/detra/detra/SetWords", "listHeld", "()V"⟩ : MethodName) prog_21_method_7_code 2 none ({ frames := 4, cells := 0, slots := 0, locals := 81 } : Room) #[(.ref o0)] h0 (Qau4677_6 Z n0 h0 o0 o1 o2 j0 j1 j2) := by
  refine Con.of pf_3 (fun m => ef_au4677_6 m o0) hn0 ?_
  intro p e s m below meth c C
  refine C.aloadN d6_0 rfl rfl rfl ?_
  refine C.getF d6_1 rfl (tw hw 14 rfl) P3 ?_
  refine C.if_eq_f d6_4 rfl (by decide) ?_
  refine C.aloadN d6_7 rfl rfl rfl ?_
  refine C.getF d6_8 rfl (tw hw 38 rfl) P1 ?_
  refine C.aloadN d6_11 rfl rfl rfl ?_
  refine C.getF d6_12 rfl (tw hw 12 rfl) P4 ?_
  refine C.alen d6_15 rfl P6 ?_
  refine Go.cI (y := 48) rfl ?_
  refine C.bipush 16 d6_16 rfl rfl ?_
  refine C.idiv d6_18 rfl (by decide) ?_
  refine Go.cI (y := 3) rfl ?_
  refine C.icmp_le_t d6_19 (by decide) rfl (by decide) ?_
  refine C.aloadN d6_75 rfl rfl rfl ?_
  refine C.getF d6_76 rfl (tw hw 17 rfl) P2 ?_
  refine C.iconst 0 d6_79 rfl rfl ?_
  refine C.aloadN d6_80 rfl rfl rfl ?_
  refine C.getF d6_81 rfl (tw hw 38 rfl) P1 ?_
  refine C.callS (argsL := [(.ref o1), (.int 0), (.int 3)]) (rest := []) 0 (fun zz => au4678_7 l Z a0 hw n0 h0 zz o1 P5 g_o1) d6_84 rfl (tw hw 40 rfl) (tw hw 41 rfl) (tw hw 42 rfl) (tw hw 43 rfl) (by decide) pd_8 rfl rfl rfl (Nat.le_of_eq rfl) (by decide) (by decide) (by decide) (by decide) (fun v4820 h4821 r4822 => ?_)
  obtain ⟨rfl, K4823, F4824⟩ := r4822
  have F4825 := P0.keep K4823
  have F4826 := P1.keep K4823 (ninS ne_o0_o1 nin0)
  have F4827 := P2.keep K4823 (ninS ne_o0_o1 nin0)
  have F4828 := P3.keep K4823 (ninS ne_o0_o1 nin0)
  have F4829 := P4.keep K4823 (ninS ne_o0_o1 nin0)
  have F4831 := P6.keep K4823 (ninS (Ne.symm ne_o1_o2) nin0)
  exact C.ret0 d6_87 (by decide) (by decide) ⟨rfl, ((Keep.refl h0 [o1]).trans K4823 (allS (Or.inl (List.mem_of_getElem? (i := 0) rfl)) all0)), F4824⟩
def Qau4844_1 (Z : State) (n0 : Nat) (h0 : Heap) (o0 : Addr) (v : Option Value) (h' : Heap) : Prop := ∃ (f0 : Addr) (f1 : Addr), (v = none) ∧ (Keep h0 h' [o0]) ∧ (n0 ≤ f0) ∧ (h0.size ≤ f0) ∧ (n0 ≤ f1) ∧ (h0.size ≤ f1) ∧ (f0 ≠ f1) ∧ (Fld Z h' o0 kC0 "count" "I" (.int 0)) ∧ (Fld Z h' o0 kC0 "held" "[I" (.ref f0)) ∧ (Fld Z h' o0 kC0 "listing" "Z" (.int 1)) ∧ (Fld Z h' o0 kC0 "words" "[J" (.ref f1)) ∧ (Av Z h' f0 .int zI48) ∧ (Av Z h' f1 .long zJ48)
theorem ef_au4844_1 (m : MethodId) (o0 : Addr) : entryFrame m #[(.ref o0), (.int 3072)] 3 = mkF m 0 #[rv o0, iv 3072, .unset] [] := by first | (simp [entryFrame, mkF, argsToLocals, Value.category]; done) | rfl
set_option maxRecDepth 65536 in
set_option maxHeartbeats 40000000 in
theorem au4844_1 (l : Launch) (Z : State) (a0 : Array Value) (hw : ∀ d ∈ tables_1, d.before a0 Z = true) (n0 : Nat) (h0 : Heap) (hn0 : n0 ≤ h0.size) (o0 : Addr) (P0 : Exa Z h0 o0 kC0) (P1 : Fld Z h0 o0 kC0 "count" "I" (.int 0)) (P2 : Fld Z h0 o0 kC0 "held" "[I" (.null)) (P3 : Fld Z h0 o0 kC0 "listing" "Z" (.int 0)) (P4 : Fld Z h0 o0 kC0 "words" "[J" (.null)) (g_o0 : n0 ≤ o0) :
    Con l Z n0 [] (⟨"com/example/detra/detra/SetWords", "<init>", "(I)V"⟩ : MethodName) prog_21_method_1_code 3 none ({ frames := 1, cells := 2, slots := 96, locals := 12 } : Room) #[(.ref o0), (.int 3072)] h0 (Qau4844_1 Z n0 h0 o0) := by
  refine Con.of pf_6 (fun m => ef_au4844_1 m o0) hn0 ?_
  intro p e s m below meth c C
  refine C.aloadN d1_0 rfl rfl rfl ?_
  refine C.initO 0 d1_1 rfl (tw hw 9 rfl) (tw hw 10 rfl) (tw hw 11 rfl) rfl (by decide) (Nat.le_of_eq rfl) (by decide) ?_
  refine C.iloadN d1_4 rfl rfl ?_
  refine C.bipush 64 d1_5 rfl rfl ?_
  refine C.iadd d1_7 rfl ?_
  refine Go.cI (y := 3136) rfl ?_
  refine C.iconst 1 d1_8 rfl rfl ?_
  refine C.isub d1_9 rfl ?_
  refine Go.cI (y := 3135) rfl ?_
  refine C.bipush 64 d1_10 rfl rfl ?_
  refine C.idiv d1_12 rfl (by decide) ?_
  refine Go.cI (y := 48) rfl ?_
  refine C.istoreN (Ls' := #[rv o0, iv 3072, iv 48]) d1_13 rfl rfl ?_
  refine C.aloadN d1_14 rfl rfl rfl ?_
  refine C.iloadN d1_15 rfl rfl ?_
  refine C.newarr 48 d1_16 rfl rfl (tw hw 1 rfl) (by decide) (by decide) (by decide) (by decide) (by decide) (fun a4955 h4956 z4959 g4960 X4957 F4958 => ?_)
  have gz4961 : h0.size ≤ a4955 := by rw [z4959]; exact (Keep.refl h0 [o0]).1
  have ne4962 : o0 ≠ a4955 := by rw [z4959]; exact Nat.ne_of_lt P0.lt
  have F4963 := Exa.ext X4957 P0
  have F4964 := Fld.ext X4957 P1
  have F4965 := Fld.ext X4957 P2
  have F4966 := Fld.ext X4957 P3
  have F4967 := Fld.ext X4957 P4
  have F4968 : Av Z h4956 a4955 .long zJ48 := F4958
  refine C.putF d1_18 rfl (tw hw 12 rfl) F4967 F4963 (Or.inr ⟨(tw hw 13 rfl), rfl, rfl⟩) (tw hw 4 rfl) (ty := (.array .long)) (by decide) rfl rfl g_o0 (fun h4969 W4970 F4971 => ?_)
  have F4972 := Exa.wr W4970 F4963
  have F4973 := Fld.other W4970 F4964 (Or.inr (slot_ne (C := kC0) (t := .int) (t' := (.array .long)) (Or.inl (tw hw 39 rfl)) (Or.inr (tw hw 13 rfl)) (by decide) (by decide) (by decide)))
  have F4974 := Fld.other W4970 F4965 (Or.inr (slot_ne (C := kC0) (t := (.array .int)) (t' := (.array .long)) (Or.inr (tw hw 18 rfl)) (Or.inr (tw hw 13 rfl)) (by decide) (by decide) (by decide)))
  have F4975 := Fld.other W4970 F4966 (Or.inr (slot_ne (C := kC0) (t := .boolean) (t' := (.array .long)) (Or.inr (tw hw 15 rfl)) (Or.inr (tw hw 13 rfl)) (by decide) (by decide) (by decide)))
  have F4976 := F4968.other W4970 (Ne.symm ne4962)
  refine C.aloadN d1_21 rfl rfl rfl ?_
  refine C.iloadN d1_22 rfl rfl ?_
  refine C.bipush 16 d1_23 rfl rfl ?_
  refine C.icmp_le_f d1_25 rfl (by decide) ?_
  refine C.iconst 1 d1_28 rfl rfl ?_
  refine C.goto d1_29 (by decide) rfl ?_
  refine C.putF d1_33 rfl (tw hw 14 rfl) F4975 F4972 (Or.inr ⟨(tw hw 15 rfl), rfl, rfl⟩) (tw hw 4 rfl) (ty := .boolean) (by decide) rfl rfl g_o0 (fun h4977 W4978 F4979 => ?_)
  have F4980 := Exa.wr W4978 F4972
  have F4981 := Fld.other W4978 F4973 (Or.inr (slot_ne (C := kC0) (t := .int) (t' := .boolean) (Or.inl (tw hw 39 rfl)) (Or.inr (tw hw 15 rfl)) (by decide) (by decide) (by decide)))
  have F4982 := Fld.other W4978 F4974 (Or.inr (slot_ne (C := kC0) (t := (.array .int)) (t' := .boolean) (Or.inr (tw hw 18 rfl)) (Or.inr (tw hw 15 rfl)) (by decide) (by decide) (by decide)))
  have F4983 := F4976.other W4978 (Ne.symm ne4962)
  have F4984 := Fld.other W4978 F4971 (Or.inr (slot_ne (C := kC0) (t := (.array .long)) (t' := .boolean) (Or.inr (tw hw 13 rfl)) (Or.inr (tw hw 15 rfl)) (by decide) (by decide) (by decide)))
  refine C.aloadN d1_36 rfl rfl rfl ?_
  refine C.iloadN d1_37 rfl rfl ?_
  refine C.newarr 48 d1_38 rfl rfl (tw hw 16 rfl) (by decide) (by decide) (by decide) (by decide) (by decide) (fun a4985 h4986 z4989 g4990 X4987 F4988 => ?_)
  have gz4991 : h0.size ≤ a4985 := by rw [z4989]; exact ((((Keep.refl h0 [o0]).ext X4957).wr W4970 (Or.inl (List.mem_of_getElem? (i := 0) rfl))).wr W4978 (Or.inl (List.mem_of_getElem? (i := 0) rfl))).1
  have ne4992 : o0 ≠ a4985 := by rw [z4989]; exact Nat.ne_of_lt F4980.lt
  have ne4993 : a4955 ≠ a4985 := by rw [z4989]; exact Nat.ne_of_lt F4983.lt
  have F4994 := Exa.ext X4987 F4980
  have F4995 := Fld.ext X4987 F4981
  have F4996 := Fld.ext X4987 F4982
  have F4997 := F4983.ext X4987
  have F4998 := Fld.ext X4987 F4984
  have F4999 := Fld.ext X4987 F4979
  have F5000 : Av Z h4986 a4985 .int zI48 := F4988
  refine C.putF d1_40 rfl (tw hw 17 rfl) F4996 F4994 (Or.inr ⟨(tw hw 18 rfl), rfl, rfl⟩) (tw hw 4 rfl) (ty := (.array .int)) (by decide) rfl rfl g_o0 (fun h5001 W5002 F5003 => ?_)
  have F5004 := Exa.wr W5002 F4994
  have F5005 := Fld.other W5002 F4995 (Or.inr (slot_ne (C := kC0) (t := .int) (t' := (.array .int)) (Or.inl (tw hw 39 rfl)) (Or.inr (tw hw 18 rfl)) (by decide) (by decide) (by decide)))
  have F5006 := F4997.other W5002 (Ne.symm ne4962)
  have F5007 := Fld.other W5002 F4998 (Or.inr (slot_ne (C := kC0) (t := (.array .long)) (t' := (.array .int)) (Or.inr (tw hw 13 rfl)) (Or.inr (tw hw 18 rfl)) (by decide) (by decide) (by decide)))
  have F5008 := Fld.other W5002 F4999 (Or.inr (slot_ne (C := kC0) (t := .boolean) (t' := (.array .int)) (Or.inr (tw hw 15 rfl)) (Or.inr (tw hw 18 rfl)) (by decide) (by decide) (by decide)))
  have F5009 := F5000.other W5002 (Ne.symm ne4992)
  exact C.ret0 d1_43 (by decide) (by decide) ⟨a4985, a4955, rfl, ((((((Keep.refl h0 [o0]).ext X4957).wr W4970 (Or.inl (List.mem_of_getElem? (i := 0) rfl))).wr W4978 (Or.inl (List.mem_of_getElem? (i := 0) rfl))).ext X4987).wr W5002 (Or.inl (List.mem_of_getElem? (i := 0) rfl))), g4990, gz4991, g4960, gz4961, (Ne.symm ne4993), F5005, F5003, F5008, F5007, F5009, F5006⟩
def Qau5146_14 (Z : State) (n0 : Nat) (h0 : Heap) (o0 : Addr) (i0 : Int32) (o1 : Addr) (o2 : Addr) (v : Option Value) (h' : Heap) : Prop := (v = none) ∧ (Keep h0 h' [o0, o1, o2]) ∧ (Fld Z h' o0 kC0 "count" "I" (.int 1)) ∧ (Fld Z h' o0 kC0 "held" "[I" (.ref o1)) ∧ (Fld Z h' o0 kC0 "listing" "Z" (.int 1)) ∧ (Fld Z h' o0 kC0 "words" "[J" (.ref o2)) ∧ (Av Z h' o1 .int zI48) ∧ (Av Z h' o2 .long (.long (1 <<< (Int32.toInt64 i0 &&& 63)) :: zJ47))
theorem ef_au5146_14 (m : MethodId) (o0 : Addr) (i0 : Int32) : entryFrame m #[(.ref o0), (.int i0)] 3 = mkF m 0 #[rv o0, iv i0, .unset] [] := by first | (simp [entryFrame, mkF, argsToLocals, Value.category]; done) | rfl
set_option maxRecDepth 65536 in
set_option maxHeartbeats 40000000 in
theorem au5146_14 (l : Launch) (Z : State) (a0 : Array Value) (hw : ∀ d ∈ tables_1, d.before a0 Z = true) (n0 : Nat) (h0 : Heap) (hn0 : n0 ≤ h0.size) (o0 : Addr) (i0 : Int32) (o1 : Addr) (o2 : Addr) (P0 : Exa Z h0 o0 kC0) (P1 : Fld Z h0 o0 kC0 "count" "I" (.int 0)) (P2 : Fld Z h0 o0 kC0 "held" "[I" (.ref o1)) (P3 : Fld Z h0 o0 kC0 "listing" "Z" (.int 1)) (P4 : Fld Z h0 o0 kC0 "words" "[J" (.ref o2)) (P5 : Av Z h0 o1 .int zI48) (P6 : Av Z h0 o2 .long zJ48) (g_o0 : n0 ≤ o0) (g_o1 : n0 ≤ o1) (g_o2 : n0 ≤ o2) (ne_o0_o1 : o0 ≠ o1) (ne_o0_o2 : o0 ≠ o2) (ne_o1_o2 : o1 ≠ o2) (kq0 : ((i0 / 64) = (0 : Int32))) (kq1 : ((XT.ushr i0 6) = (0 : Int32))) :
    Con l Z n0 [] (⟨"com/example/detra/detra/SetWords", "add", "(I)V"⟩ : MethodName) prog_21_method_2_code 3 none ({ frames := 0, cells := 0, slots := 0, locals := 0 } : Room) #[(.ref o0), (.int i0)] h0 (Qau5146_14 Z n0 h0 o0 i0 o1 o2) := by
  refine Con.of pf_8 (fun m => ef_au5146_14 m o0 i0) hn0 ?_
  intro p e s m below meth c C
  refine C.iloadN d14_0 rfl rfl ?_
  refine C.bipush 64 d14_1 rfl rfl ?_
  refine C.idiv d14_3 rfl (by decide) ?_
  rw [kq0]
  refine C.istoreN (Ls' := #[rv o0, iv i0, iv 0]) d14_4 rfl rfl ?_
  refine C.aloadN d14_5 rfl rfl rfl ?_
  refine C.getF d14_6 rfl (tw hw 14 rfl) P3 ?_
  refine C.if_eq_f d14_9 rfl (by decide) ?_
  refine C.aloadN d14_12 rfl rfl rfl ?_
  refine C.getF d14_13 rfl (tw hw 12 rfl) P4 ?_
  refine C.iloadN d14_16 rfl rfl ?_
  refine C.laload (.long 0) d14_17 rfl P6 (by decide) rfl ?_
  refine C.lconst 0 d14_18 rfl rfl ?_
  refine C.lcmp d14_19 rfl ?_
  refine C.lif_ne_f d14_20 rfl (by decide) ?_
  refine C.aloadN d14_23 rfl rfl rfl ?_
  refine C.getF d14_24 rfl (tw hw 17 rfl) P2 ?_
  refine C.aloadN d14_27 rfl rfl rfl ?_
  refine C.dup d14_28 rfl rfl ?_
  refine C.getF d14_29 rfl (tw hw 38 rfl) P1 ?_
  refine C.dupX1 d14_32 rfl rfl rfl ?_
  refine C.iconst 1 d14_33 rfl rfl ?_
  refine C.iadd d14_34 rfl ?_
  refine Go.cI (y := 1) rfl ?_
  refine C.putF d14_35 rfl (tw hw 38 rfl) P1 P0 (Or.inl (tw hw 39 rfl)) (tw hw 4 rfl) (ty := .int) (by decide) rfl rfl g_o0 (fun h5205 W5206 F5207 => ?_)
  have F5208 := Exa.wr W5206 P0
  have F5209 := Fld.other W5206 P2 (Or.inr (slot_ne (C := kC0) (t := (.array .int)) (t' := .int) (Or.inr (tw hw 18 rfl)) (Or.inl (tw hw 39 rfl)) (by decide) (by decide) (by decide)))
  have F5210 := Fld.other W5206 P3 (Or.inr (slot_ne (C := kC0) (t := .boolean) (t' := .int) (Or.inr (tw hw 15 rfl)) (Or.inl (tw hw 39 rfl)) (by decide) (by decide) (by decide)))
  have F5211 := Fld.other W5206 P4 (Or.inr (slot_ne (C := kC0) (t := (.array .long)) (t' := .int) (Or.inr (tw hw 13 rfl)) (Or.inl (tw hw 39 rfl)) (by decide) (by decide) (by decide)))
  have F5212 := P5.other W5206 (Ne.symm ne_o0_o1)
  have F5213 := P6.other W5206 (Ne.symm ne_o0_o2)
  refine C.iloadN d14_38 rfl rfl ?_
  refine C.iastore d14_39 rfl F5212 g_o1 (by decide) (Nat.le_of_ble_eq_true rfl) (fun h5214 W5215 F5216 => ?_)
  have F5217 := Exa.wr W5215 F5208
  have F5218 := Fld.other W5215 F5209 (Or.inl ne_o0_o1)
  have F5219 := Fld.other W5215 F5210 (Or.inl ne_o0_o1)
  have F5220 := Fld.other W5215 F5211 (Or.inl ne_o0_o1)
  have F5221 := F5213.other W5215 (Ne.symm ne_o1_o2)
  have F5222 := Fld.other W5215 F5207 (Or.inl ne_o0_o1)
  have F5223 : Av Z h5214 o1 .int zI48 := F5216
  refine C.aloadN d14_40 rfl rfl rfl ?_
  refine C.getF d14_41 rfl (tw hw 12 rfl) F5220 ?_
  refine C.iloadN d14_44 rfl rfl ?_
  refine C.dup2 d14_45 rfl rfl rfl ?_
  refine C.laload (.long 0) d14_46 rfl F5221 (by decide) rfl ?_
  refine C.lconst 1 d14_47 rfl rfl ?_
  refine C.iloadN d14_48 rfl rfl ?_
  refine C.lshl d14_49 rfl ?_
  refine C.lor d14_50 rfl ?_
  rw [Int64.zero_or]
  refine C.lastore d14_51 rfl F5221 g_o2 (by decide) (Nat.le_of_ble_eq_true rfl) (fun h5224 W5225 F5226 => ?_)
  have F5227 := Exa.wr W5225 F5217
  have F5228 := Fld.other W5225 F5218 (Or.inl ne_o0_o2)
  have F5229 := Fld.other W5225 F5219 (Or.inl ne_o0_o2)
  have F5230 := Fld.other W5225 F5220 (Or.inl ne_o0_o2)
  have F5231 := Fld.other W5225 F5222 (Or.inl ne_o0_o2)
  have F5232 := F5223.other W5225 ne_o1_o2
  have F5233 : Av Z h5224 o2 .long (.long (1 <<< (Int32.toInt64 i0 &&& 63)) :: zJ47) := F5226
  exact C.ret0 d14_52 (by decide) (by decide) ⟨rfl, ((((Keep.refl h0 [o0, o1, o2]).wr W5206 (Or.inl (List.mem_of_getElem? (i := 0) rfl))).wr W5215 (Or.inl (List.mem_of_getElem? (i := 1) rfl))).wr W5225 (Or.inl (List.mem_of_getElem? (i := 2) rfl))), F5231, F5228, F5229, F5230, F5232, F5233⟩
def Qau5361_14 (Z : State) (n0 : Nat) (h0 : Heap) (o0 : Addr) (i0 : Int32) (o1 : Addr) (o2 : Addr) (v : Option Value) (h' : Heap) : Prop := (v = none) ∧ (Keep h0 h' [o0, o1, o2]) ∧ (Fld Z h' o0 kC0 "count" "I" (.int 1)) ∧ (Fld Z h' o0 kC0 "held" "[I" (.ref o1)) ∧ (Fld Z h' o0 kC0 "listing" "Z" (.int 1)) ∧ (Fld Z h' o0 kC0 "words" "[J" (.ref o2)) ∧ (Av Z h' o1 .int (.int 1 :: zI47)) ∧ (Av Z h' o2 .long (.long 0 :: .long (1 <<< (Int32.toInt64 i0 &&& 63)) :: zJ46))
theorem ef_au5361_14 (m : MethodId) (o0 : Addr) (i0 : Int32) : entryFrame m #[(.ref o0), (.int i0)] 3 = mkF m 0 #[rv o0, iv i0, .unset] [] := by first | (simp [entryFrame, mkF, argsToLocals, Value.category]; done) | rfl
set_option maxRecDepth 65536 in
set_option maxHeartbeats 40000000 in
theorem au5361_14 (l : Launch) (Z : State) (a0 : Array Value) (hw : ∀ d ∈ tables_1, d.before a0 Z = true) (n0 : Nat) (h0 : Heap) (hn0 : n0 ≤ h0.size) (o0 : Addr) (i0 : Int32) (o1 : Addr) (o2 : Addr) (P0 : Exa Z h0 o0 kC0) (P1 : Fld Z h0 o0 kC0 "count" "I" (.int 0)) (P2 : Fld Z h0 o0 kC0 "held" "[I" (.ref o1)) (P3 : Fld Z h0 o0 kC0 "listing" "Z" (.int 1)) (P4 : Fld Z h0 o0 kC0 "words" "[J" (.ref o2)) (P5 : Av Z h0 o1 .int zI48) (P6 : Av Z h0 o2 .long zJ48) (g_o0 : n0 ≤ o0) (g_o1 : n0 ≤ o1) (g_o2 : n0 ≤ o2) (ne_o0_o1 : o0 ≠ o1) (ne_o0_o2 : o0 ≠ o2) (ne_o1_o2 : o1 ≠ o2) (kq0 : ((i0 / 64) = (1 : Int32))) (kq1 : ((XT.ushr i0 6) = (1 : Int32))) :
    Con l Z n0 [] (⟨"com/example/detra/detra/SetWords", "add", "(I)V"⟩ : MethodName) prog_21_method_2_code 3 none ({ frames := 0, cells := 0, slots := 0, locals := 0 } : Room) #[(.ref o0), (.int i0)] h0 (Qau5361_14 Z n0 h0 o0 i0 o1 o2) := by
  refine Con.of pf_8 (fun m => ef_au5361_14 m o0 i0) hn0 ?_
  intro p e s m below meth c C
  refine C.iloadN d14_0 rfl rfl ?_
  refine C.bipush 64 d14_1 rfl rfl ?_
  refine C.idiv d14_3 rfl (by decide) ?_
  rw [kq0]
  refine C.istoreN (Ls' := #[rv o0, iv i0, iv 1]) d14_4 rfl rfl ?_
  refine C.aloadN d14_5 rfl rfl rfl ?_
  refine C.getF d14_6 rfl (tw hw 14 rfl) P3 ?_
  refine C.if_eq_f d14_9 rfl (by decide) ?_
  refine C.aloadN d14_12 rfl rfl rfl ?_
  refine C.getF d14_13 rfl (tw hw 12 rfl) P4 ?_
  refine C.iloadN d14_16 rfl rfl ?_
  refine C.laload (.long 0) d14_17 rfl P6 (by decide) rfl ?_
  refine C.lconst 0 d14_18 rfl rfl ?_
  refine C.lcmp d14_19 rfl ?_
  refine C.lif_ne_f d14_20 rfl (by decide) ?_
  refine C.aloadN d14_23 rfl rfl rfl ?_
  refine C.getF d14_24 rfl (tw hw 17 rfl) P2 ?_
  refine C.aloadN d14_27 rfl rfl rfl ?_
  refine C.dup d14_28 rfl rfl ?_
  refine C.getF d14_29 rfl (tw hw 38 rfl) P1 ?_
  refine C.dupX1 d14_32 rfl rfl rfl ?_
  refine C.iconst 1 d14_33 rfl rfl ?_
  refine C.iadd d14_34 rfl ?_
  refine Go.cI (y := 1) rfl ?_
  refine C.putF d14_35 rfl (tw hw 38 rfl) P1 P0 (Or.inl (tw hw 39 rfl)) (tw hw 4 rfl) (ty := .int) (by decide) rfl rfl g_o0 (fun h5420 W5421 F5422 => ?_)
  have F5423 := Exa.wr W5421 P0
  have F5424 := Fld.other W5421 P2 (Or.inr (slot_ne (C := kC0) (t := (.array .int)) (t' := .int) (Or.inr (tw hw 18 rfl)) (Or.inl (tw hw 39 rfl)) (by decide) (by decide) (by decide)))
  have F5425 := Fld.other W5421 P3 (Or.inr (slot_ne (C := kC0) (t := .boolean) (t' := .int) (Or.inr (tw hw 15 rfl)) (Or.inl (tw hw 39 rfl)) (by decide) (by decide) (by decide)))
  have F5426 := Fld.other W5421 P4 (Or.inr (slot_ne (C := kC0) (t := (.array .long)) (t' := .int) (Or.inr (tw hw 13 rfl)) (Or.inl (tw hw 39 rfl)) (by decide) (by decide) (by decide)))
  have F5427 := P5.other W5421 (Ne.symm ne_o0_o1)
  have F5428 := P6.other W5421 (Ne.symm ne_o0_o2)
  refine C.iloadN d14_38 rfl rfl ?_
  refine C.iastore d14_39 rfl F5427 g_o1 (by decide) (Nat.le_of_ble_eq_true rfl) (fun h5429 W5430 F5431 => ?_)
  have F5432 := Exa.wr W5430 F5423
  have F5433 := Fld.other W5430 F5424 (Or.inl ne_o0_o1)
  have F5434 := Fld.other W5430 F5425 (Or.inl ne_o0_o1)
  have F5435 := Fld.other W5430 F5426 (Or.inl ne_o0_o1)
  have F5436 := F5428.other W5430 (Ne.symm ne_o1_o2)
  have F5437 := Fld.other W5430 F5422 (Or.inl ne_o0_o1)
  have F5438 : Av Z h5429 o1 .int (.int 1 :: zI47) := F5431
  refine C.aloadN d14_40 rfl rfl rfl ?_
  refine C.getF d14_41 rfl (tw hw 12 rfl) F5435 ?_
  refine C.iloadN d14_44 rfl rfl ?_
  refine C.dup2 d14_45 rfl rfl rfl ?_
  refine C.laload (.long 0) d14_46 rfl F5436 (by decide) rfl ?_
  refine C.lconst 1 d14_47 rfl rfl ?_
  refine C.iloadN d14_48 rfl rfl ?_
  refine C.lshl d14_49 rfl ?_
  refine C.lor d14_50 rfl ?_
  rw [Int64.zero_or]
  refine C.lastore d14_51 rfl F5436 g_o2 (by decide) (Nat.le_of_ble_eq_true rfl) (fun h5439 W5440 F5441 => ?_)
  have F5442 := Exa.wr W5440 F5432
  have F5443 := Fld.other W5440 F5433 (Or.inl ne_o0_o2)
  have F5444 := Fld.other W5440 F5434 (Or.inl ne_o0_o2)
  have F5445 := Fld.other W5440 F5435 (Or.inl ne_o0_o2)
  have F5446 := Fld.other W5440 F5437 (Or.inl ne_o0_o2)
  have F5447 := F5438.other W5440 ne_o1_o2
  have F5448 : Av Z h5439 o2 .long (.long 0 :: .long (1 <<< (Int32.toInt64 i0 &&& 63)) :: zJ46) := F5441
  exact C.ret0 d14_52 (by decide) (by decide) ⟨rfl, ((((Keep.refl h0 [o0, o1, o2]).wr W5421 (Or.inl (List.mem_of_getElem? (i := 0) rfl))).wr W5430 (Or.inl (List.mem_of_getElem? (i := 1) rfl))).wr W5440 (Or.inl (List.mem_of_getElem? (i := 2) rfl))), F5446, F5443, F5444, F5445, F5447, F5448⟩
def Qau5577_14 (Z : State) (n0 : Nat) (h0 : Heap) (o0 : Addr) (i0 : Int32) (o1 : Addr) (o2 : Addr) (v : Option Value) (h' : Heap) : Prop := (v = none) ∧ (Keep h0 h' [o0, o1, o2]) ∧ (Fld Z h' o0 kC0 "count" "I" (.int 1)) ∧ (Fld Z h' o0 kC0 "held" "[I" (.ref o1)) ∧ (Fld Z h' o0 kC0 "listing" "Z" (.int 1)) ∧ (Fld Z h' o0 kC0 "words" "[J" (.ref o2)) ∧ (Av Z h' o1 .int (.int 2 :: zI47)) ∧ (Av Z h' o2 .long (.long 0 :: .long 0 :: .long (1 <<< (Int32.toInt64 i0 &&& 63)) :: zJ45))
theorem ef_au5577_14 (m : MethodId) (o0 : Addr) (i0 : Int32) : entryFrame m #[(.ref o0), (.int i0)] 3 = mkF m 0 #[rv o0, iv i0, .unset] [] := by first | (simp [entryFrame, mkF, argsToLocals, Value.category]; done) | rfl
set_option maxRecDepth 65536 in
set_option maxHeartbeats 40000000 in
theorem au5577_14 (l : Launch) (Z : State) (a0 : Array Value) (hw : ∀ d ∈ tables_1, d.before a0 Z = true) (n0 : Nat) (h0 : Heap) (hn0 : n0 ≤ h0.size) (o0 : Addr) (i0 : Int32) (o1 : Addr) (o2 : Addr) (P0 : Exa Z h0 o0 kC0) (P1 : Fld Z h0 o0 kC0 "count" "I" (.int 0)) (P2 : Fld Z h0 o0 kC0 "held" "[I" (.ref o1)) (P3 : Fld Z h0 o0 kC0 "listing" "Z" (.int 1)) (P4 : Fld Z h0 o0 kC0 "words" "[J" (.ref o2)) (P5 : Av Z h0 o1 .int zI48) (P6 : Av Z h0 o2 .long zJ48) (g_o0 : n0 ≤ o0) (g_o1 : n0 ≤ o1) (g_o2 : n0 ≤ o2) (ne_o0_o1 : o0 ≠ o1) (ne_o0_o2 : o0 ≠ o2) (ne_o1_o2 : o1 ≠ o2) (kq0 : ((i0 / 64) = (2 : Int32))) (kq1 : ((XT.ushr i0 6) = (2 : Int32))) :
    Con l Z n0 [] (⟨"com/example/detra/detra/SetWords", "add", "(I)V"⟩ : MethodName) prog_21_method_2_code 3 none ({ frames := 0, cells := 0, slots := 0, locals := 0 } : Room) #[(.ref o0), (.int i0)] h0 (Qau5577_14 Z n0 h0 o0 i0 o1 o2) := by
  refine Con.of pf_8 (fun m => ef_au5577_14 m o0 i0) hn0 ?_
  intro p e s m below meth c C
  refine C.iloadN d14_0 rfl rfl ?_
  refine C.bipush 64 d14_1 rfl rfl ?_
  refine C.idiv d14_3 rfl (by decide) ?_
  rw [kq0]
  refine C.istoreN (Ls' := #[rv o0, iv i0, iv 2]) d14_4 rfl rfl ?_
  refine C.aloadN d14_5 rfl rfl rfl ?_
  refine C.getF d14_6 rfl (tw hw 14 rfl) P3 ?_
  refine C.if_eq_f d14_9 rfl (by decide) ?_
  refine C.aloadN d14_12 rfl rfl rfl ?_
  refine C.getF d14_13 rfl (tw hw 12 rfl) P4 ?_
  refine C.iloadN d14_16 rfl rfl ?_
  refine C.laload (.long 0) d14_17 rfl P6 (by decide) rfl ?_
  refine C.lconst 0 d14_18 rfl rfl ?_
  refine C.lcmp d14_19 rfl ?_
  refine C.lif_ne_f d14_20 rfl (by decide) ?_
  refine C.aloadN d14_23 rfl rfl rfl ?_
  refine C.getF d14_24 rfl (tw hw 17 rfl) P2 ?_
  refine C.aloadN d14_27 rfl rfl rfl ?_
  refine C.dup d14_28 rfl rfl ?_
  refine C.getF d14_29 rfl (tw hw 38 rfl) P1 ?_
  refine C.dupX1 d14_32 rfl rfl rfl ?_
  refine C.iconst 1 d14_33 rfl rfl ?_
  refine C.iadd d14_34 rfl ?_
  refine Go.cI (y := 1) rfl ?_
  refine C.putF d14_35 rfl (tw hw 38 rfl) P1 P0 (Or.inl (tw hw 39 rfl)) (tw hw 4 rfl) (ty := .int) (by decide) rfl rfl g_o0 (fun h5636 W5637 F5638 => ?_)
  have F5639 := Exa.wr W5637 P0
  have F5640 := Fld.other W5637 P2 (Or.inr (slot_ne (C := kC0) (t := (.array .int)) (t' := .int) (Or.inr (tw hw 18 rfl)) (Or.inl (tw hw 39 rfl)) (by decide) (by decide) (by decide)))
  have F5641 := Fld.other W5637 P3 (Or.inr (slot_ne (C := kC0) (t := .boolean) (t' := .int) (Or.inr (tw hw 15 rfl)) (Or.inl (tw hw 39 rfl)) (by decide) (by decide) (by decide)))
  have F5642 := Fld.other W5637 P4 (Or.inr (slot_ne (C := kC0) (t := (.array .long)) (t' := .int) (Or.inr (tw hw 13 rfl)) (Or.inl (tw hw 39 rfl)) (by decide) (by decide) (by decide)))
  have F5643 := P5.other W5637 (Ne.symm ne_o0_o1)
  have F5644 := P6.other W5637 (Ne.symm ne_o0_o2)
  refine C.iloadN d14_38 rfl rfl ?_
  refine C.iastore d14_39 rfl F5643 g_o1 (by decide) (Nat.le_of_ble_eq_true rfl) (fun h5645 W5646 F5647 => ?_)
  have F5648 := Exa.wr W5646 F5639
  have F5649 := Fld.other W5646 F5640 (Or.inl ne_o0_o1)
  have F5650 := Fld.other W5646 F5641 (Or.inl ne_o0_o1)
  have F5651 := Fld.other W5646 F5642 (Or.inl ne_o0_o1)
  have F5652 := F5644.other W5646 (Ne.symm ne_o1_o2)
  have F5653 := Fld.other W5646 F5638 (Or.inl ne_o0_o1)
  have F5654 : Av Z h5645 o1 .int (.int 2 :: zI47) := F5647
  refine C.aloadN d14_40 rfl rfl rfl ?_
  refine C.getF d14_41 rfl (tw hw 12 rfl) F5651 ?_
  refine C.iloadN d14_44 rfl rfl ?_
  refine C.dup2 d14_45 rfl rfl rfl ?_
  refine C.laload (.long 0) d14_46 rfl F5652 (by decide) rfl ?_
  refine C.lconst 1 d14_47 rfl rfl ?_
  refine C.iloadN d14_48 rfl rfl ?_
  refine C.lshl d14_49 rfl ?_
  refine C.lor d14_50 rfl ?_
  rw [Int64.zero_or]
  refine C.lastore d14_51 rfl F5652 g_o2 (by decide) (Nat.le_of_ble_eq_true rfl) (fun h5655 W5656 F5657 => ?_)
  have F5658 := Exa.wr W5656 F5648
  have F5659 := Fld.other W5656 F5649 (Or.inl ne_o0_o2)
  have F5660 := Fld.other W5656 F5650 (Or.inl ne_o0_o2)
  have F5661 := Fld.other W5656 F5651 (Or.inl ne_o0_o2)
  have F5662 := Fld.other W5656 F5653 (Or.inl ne_o0_o2)
  have F5663 := F5654.other W5656 ne_o1_o2
  have F5664 : Av Z h5655 o2 .long (.long 0 :: .long 0 :: .long (1 <<< (Int32.toInt64 i0 &&& 63)) :: zJ45) := F5657
  exact C.ret0 d14_52 (by decide) (by decide) ⟨rfl, ((((Keep.refl h0 [o0, o1, o2]).wr W5637 (Or.inl (List.mem_of_getElem? (i := 0) rfl))).wr W5646 (Or.inl (List.mem_of_getElem? (i := 1) rfl))).wr W5656 (Or.inl (List.mem_of_getElem? (i := 2) rfl))), F5662, F5659, F5660, F5661, F5663, F5664⟩
def Qcon0 (Z : State) (n0 : Nat) (h0 : Heap) (x0 : Int64) (x1 : Int64) (x2 : Int64) (x3 : Int32) (x4 : Int32) (v : Option Value) (h' : Heap) : Prop := v = some (.int 1) ∧ True
theorem ef_con0 (m : MethodId) (x0 : Int64) (x1 : Int64) (x2 : Int64) (x3 : Int32) (x4 : Int32) : entryFrame m #[(.long x0), (.long x1), (.long x2), (.int x3), (.int x4)] maxLocals = mkF m 0 #[.val (.long x0), .second, .val (.long x1), .second, .val (.long x2), .second, iv x3, iv x4, .unset, .unset, .unset, .unset, .unset, .unset, .unset, .unset, .unset, .unset, .unset, .unset, .unset, .unset, .unset] [] := by first | (simp [entryFrame, mkF, argsToLocals, Value.category, maxLocals]; done) | rfl
set_option maxRecDepth 65536 in
set_option maxHeartbeats 40000000 in
theorem con0 (l : Launch) (Z : State) (a0 : Array Value) (hw : ∀ d ∈ tables_1, d.before a0 Z = true) (n0 : Nat) (h0 : Heap) (hn0 : n0 ≤ h0.size) (x0 : Int64) (x1 : Int64) (x2 : Int64) (x3 : Int32) (x4 : Int32) :
    Con l Z n0 tables_1 x code maxLocals ret room_1 #[(.long x0), (.long x1), (.long x2), (.int x3), (.int x4)] h0 (Qcon0 Z n0 h0 x0 x1 x2 x3 x4) := by
  refine Con.of pf_1 (fun m => ef_con0 m x0 x1 x2 x3 x4) hn0 ?_
  intro p e s m below meth c C
  refine C.iload at_0 rfl rfl ?_
  refine C.iconst 1 at_2 rfl rfl ?_
  refine C.iand at_3 rfl ?_
  have J12_637 : ∀ (b8 : Int32) (h8 : b8 = 0 ∨ b8 = 1), Go p l e room_1 s m #[(.long x0), (.long x1), (.long x2), (.int x3), (.int x4)] below meth c n0 (FinQ s n0 (Qcon0 Z n0 h0 x0 x1 x2 x3 x4) room_1.cells room_1.slots) h0 0 0 12 #[.val (.long x0), .second, .val (.long x1), .second, .val (.long x2), .second, iv x3, iv x4, .unset, .unset, .unset, .unset, .unset, .unset, .unset, .unset, .unset, .unset, .unset, .unset, .unset, .unset, .unset] [(.int b8)] := by
    intro b8 h8
    refine C.istore (Ls' := #[.val (.long x0), .second, .val (.long x1), .second, .val (.long x2), .second, iv x3, iv x4, iv b8, .unset, .unset, .unset, .unset, .unset, .unset, .unset, .unset, .unset, .unset, .unset, .unset, .unset, .unset]) at_12 rfl rfl ?_
    refine C.iload at_14 rfl rfl ?_
    refine C.iconst 1 at_16 rfl rfl ?_
    refine C.iushr at_17 rfl ?_
    refine C.iconst 3 at_18 rfl rfl ?_
    refine C.iand at_19 rfl ?_
    refine C.iconst 3 at_20 rfl rfl ?_
    refine C.irem at_21 rfl (by decide) ?_
    refine C.istore (Ls' := #[.val (.long x0), .second, .val (.long x1), .second, .val (.long x2), .second, iv x3, iv x4, iv b8, iv (((XT.ushr x4 1) &&& 3) % 3), .unset, .unset, .unset, .unset, .unset, .unset, .unset, .unset, .unset, .unset, .unset, .unset, .unset]) at_22 rfl rfl ?_
    refine C.iload at_24 rfl rfl ?_
    refine C.iconst 3 at_26 rfl rfl ?_
    refine C.iushr at_27 rfl ?_
    refine C.iconst 3 at_28 rfl rfl ?_
    refine C.iand at_29 rfl ?_
    refine C.istore (Ls' := #[.val (.long x0), .second, .val (.long x1), .second, .val (.long x2), .second, iv x3, iv x4, iv b8, iv (((XT.ushr x4 1) &&& 3) % 3), iv ((XT.ushr x4 3) &&& 3), .unset, .unset, .unset, .unset, .unset, .unset, .unset, .unset, .unset, .unset, .unset, .unset]) at_30 rfl rfl ?_
    refine C.iload at_32 rfl rfl ?_
    refine C.iconst 5 at_34 rfl rfl ?_
    refine C.iushr at_35 rfl ?_
    refine C.iconst 1 at_36 rfl rfl ?_
    refine C.iand at_37 rfl ?_
    have J46_638 : ∀ (b11 : Int32) (h11 : b11 = 0 ∨ b11 = 1), Go p l e room_1 s m #[(.long x0), (.long x1), (.long x2), (.int x3), (.int x4)] below meth c n0 (FinQ s n0 (Qcon0 Z n0 h0 x0 x1 x2 x3 x4) room_1.cells room_1.slots) h0 0 0 46 #[.val (.long x0), .second, .val (.long x1), .second, .val (.long x2), .second, iv x3, iv x4, iv b8, iv (((XT.ushr x4 1) &&& 3) % 3), iv ((XT.ushr x4 3) &&& 3), .unset, .unset, .unset, .unset, .unset, .unset, .unset, .unset, .unset, .unset, .unset, .unset] [(.int b11)] := by
      intro b11 h11
      refine C.istore (Ls' := #[.val (.long x0), .second, .val (.long x1), .second, .val (.long x2), .second, iv x3, iv x4, iv b8, iv (((XT.ushr x4 1) &&& 3) % 3), iv ((XT.ushr x4 3) &&& 3), iv b11, .unset, .unset, .unset, .unset, .unset, .unset, .unset, .unset, .unset, .unset, .unset]) at_46 rfl rfl ?_
      refine C.iload at_48 rfl rfl ?_
      refine C.ldcI at_50 rfl (tw hw 0 rfl) ?_
      refine C.iand at_52 rfl ?_
      refine C.sipush 192 at_53 rfl rfl ?_
      refine C.irem at_56 rfl (by decide) ?_
      refine C.istore (Ls' := #[.val (.long x0), .second, .val (.long x1), .second, .val (.long x2), .second, iv x3, iv x4, iv b8, iv (((XT.ushr x4 1) &&& 3) % 3), iv ((XT.ushr x4 3) &&& 3), iv b11, iv ((x3 &&& 2147483647) % 192), .unset, .unset, .unset, .unset, .unset, .unset, .unset, .unset, .unset, .unset]) at_57 rfl rfl ?_
      refine C.iconst 5 at_59 rfl rfl ?_
      refine C.newarr 5 at_60 rfl rfl (tw hw 1 rfl) (by decide) (by decide) (by decide) (by decide) (by decide) (fun a639 h640 z643 g644 X641 F642 => ?_)
      have F645 : Av Z h640 a639 .long ([.long 0, .long 0, .long 0, .long 0, .long 0]) := F642
      refine C.astore (Ls' := #[.val (.long x0), .second, .val (.long x1), .second, .val (.long x2), .second, iv x3, iv x4, iv b8, iv (((XT.ushr x4 1) &&& 3) % 3), iv ((XT.ushr x4 3) &&& 3), iv b11, iv ((x3 &&& 2147483647) % 192), rv a639, .unset, .unset, .unset, .unset, .unset, .unset, .unset, .unset, .unset]) at_62 rfl rfl rfl ?_
      refine C.aload at_64 rfl rfl rfl ?_
      refine C.iconst 0 at_66 rfl rfl ?_
      refine C.ldc2J at_67 rfl (tw hw 2 rfl) ?_
      refine C.lastore at_70 rfl F645 g644 (by decide) (Nat.le_of_ble_eq_true rfl) (fun h646 W647 F648 => ?_)
      have F649 : Av Z h646 a639 .long ([.long (-1), .long 0, .long 0, .long 0, .long 0]) := F648
      refine C.aload at_71 rfl rfl rfl ?_
      refine C.iconst 1 at_73 rfl rfl ?_
      refine C.ldc2J at_74 rfl (tw hw 2 rfl) ?_
      refine C.lastore at_77 rfl F649 g644 (by decide) (Nat.le_of_ble_eq_true rfl) (fun h650 W651 F652 => ?_)
      have F653 : Av Z h650 a639 .long ([.long (-1), .long (-1), .long 0, .long 0, .long 0]) := F652
      refine C.aload at_78 rfl rfl rfl ?_
      refine C.iconst 2 at_80 rfl rfl ?_
      refine C.ldc2J at_81 rfl (tw hw 2 rfl) ?_
      refine C.lastore at_84 rfl F653 g644 (by decide) (Nat.le_of_ble_eq_true rfl) (fun h654 W655 F656 => ?_)
      have F657 : Av Z h654 a639 .long ([.long (-1), .long (-1), .long (-1), .long 0, .long 0]) := F656
      refine C.aload at_85 rfl rfl rfl ?_
      refine C.iconst 3 at_87 rfl rfl ?_
      refine C.ldc2J at_88 rfl (tw hw 2 rfl) ?_
      refine C.lastore at_91 rfl F657 g644 (by decide) (Nat.le_of_ble_eq_true rfl) (fun h658 W659 F660 => ?_)
      have F661 : Av Z h658 a639 .long ([.long (-1), .long (-1), .long (-1), .long (-1), .long 0]) := F660
      refine C.aload at_92 rfl rfl rfl ?_
      refine C.iconst 4 at_94 rfl rfl ?_
      refine C.ldc2J at_95 rfl (tw hw 2 rfl) ?_
      refine C.lastore at_98 rfl F661 g644 (by decide) (Nat.le_of_ble_eq_true rfl) (fun h662 W663 F664 => ?_)
      have F665 : Av Z h662 a639 .long ([.long (-1), .long (-1), .long (-1), .long (-1), .long (-1)]) := F664
      have J122_666 : ∀ (hJ667 : Heap) (f9 : Int32) (vs9 : List Value) (hj0 : ¬ f9 + 0 < 0) (hg0 : vs9[Int32.toNatClampNeg (f9 + 0)]? = some (.long x0)) (hj1 : ¬ f9 + 1 < 0) (hg1 : vs9[Int32.toNatClampNeg (f9 + 1)]? = some (.long x1)) (hj2 : ¬ f9 + 2 < 0) (hg2 : vs9[Int32.toNatClampNeg (f9 + 2)]? = some (.long x2)) (F669 : Av Z hJ667 a639 .long vs9), Go p l e room_1 s m #[(.long x0), (.long x1), (.long x2), (.int x3), (.int x4)] below meth c n0 (FinQ s n0 (Qcon0 Z n0 h0 x0 x1 x2 x3 x4) room_1.cells room_1.slots) hJ667 1 5 122 #[.val (.long x0), .second, .val (.long x1), .second, .val (.long x2), .second, iv x3, iv x4, iv b8, iv f9, iv ((XT.ushr x4 3) &&& 3), iv b11, iv ((x3 &&& 2147483647) % 192), rv a639, .unset, .unset, .unset, .unset, .unset, .unset, .unset, .unset, .unset] [] := by
        intro hJ667 f9 vs9 hj0 hg0 hj1 hg1 hj2 hg2 F669
        refine C.new at_122 rfl (tw hw 3 rfl) (tw hw 4 rfl) (tw hw 5 rfl) (by decide) (by decide) (fun a670 h671 z675 g676 X673 E672 D674 => ?_)
        have ne677 : a639 ≠ a670 := by rw [z675]; exact Nat.ne_of_lt F669.lt
        have F678 := F669.ext X673
        have F679 : Fld Z h671 a670 kC0 "words" "[J" (.null) := D674 (Or.inr (tw hw 13 rfl)) (ty := (.array .long)) (by decide)
        have F680 : Fld Z h671 a670 kC0 "listing" "Z" (.int 0) := D674 (Or.inr (tw hw 15 rfl)) (ty := .boolean) (by decide)
        have F681 : Fld Z h671 a670 kC0 "held" "[I" (.null) := D674 (Or.inr (tw hw 18 rfl)) (ty := (.array .int)) (by decide)
        have F682 : Fld Z h671 a670 kC0 "count" "I" (.int 0) := D674 (Or.inl (tw hw 39 rfl)) (ty := .int) (by decide)
        refine C.dup at_125 rfl rfl ?_
        rcases h8 with q8 | q8
        · rw [q8]
          refine C.iload at_126 rfl rfl ?_
          have J208_683 : ∀ (hJ684 : Heap) (f9 : Int32) (f10 : Int32) (f11 : Int32) (f12 : Int32) (am : Addr) (as : Addr) (aw : Addr) (ah : Addr) (e0 : Int64) (e1 : Int64) (e2 : Int64) (g693 : n0 ≤ as) (g694 : n0 ≤ aw) (g695 : n0 ≤ ah) (ne696 : as ≠ aw) (ne697 : as ≠ ah) (ne698 : aw ≠ ah) (F686 : Exa Z hJ684 as kC0) (F687 : Fld Z hJ684 as kC0 "words" "[J" (.ref aw)) (F688 : Fld Z hJ684 as kC0 "held" "[I" (.ref ah)) (F689 : Fld Z hJ684 as kC0 "listing" "Z" (.int 0)) (F690 : Fld Z hJ684 as kC0 "count" "I" (.int 0)) (F691 : Av Z hJ684 aw .long ([.long e0, .long e1, .long e2])) (F692 : Av Z hJ684 ah .int ([.int 0, .int 0, .int 0])), Go p l e room_1 s m #[(.long x0), (.long x1), (.long x2), (.int x3), (.int x4)] below meth c n0 (FinQ s n0 (Qcon0 Z n0 h0 x0 x1 x2 x3 x4) room_1.cells room_1.slots) hJ684 4 15 208 #[.val (.long x0), .second, .val (.long x1), .second, .val (.long x2), .second, iv x3, iv x4, iv 0, iv f9, iv f10, iv f11, iv f12, rv am, rv as, .val (.long e0), .second, .val (.long e1), .second, .val (.long e2), .second, .unset, .unset] [] := by
            intro hJ684 f9 f10 f11 f12 am as aw ah e0 e1 e2 g693 g694 g695 ne696 ne697 ne698 F686 F687 F688 F689 F690 F691 F692
            refine C.aload at_208 rfl rfl rfl ?_
            refine C.iconst 0 at_210 rfl rfl ?_
            refine C.callV (argsL := [(.int 0)]) (rest := []) 0 (fun zz => au699_5 l Z a0 hw n0 hJ684 zz as ah aw e0 e1 e2 F686 F690 F688 F689 F687 F692 F691 g693 g695 g694 ne697 ne696 (Ne.symm ne698)) F686 at_211 rfl (tw hw 28 rfl) (tw hw 29 rfl) (tw hw 30 rfl) (tw hw 31 rfl) (tw hw 5 rfl) (tw hw 32 rfl) (by decide) pd_0 rfl rfl rfl (Nat.le_of_eq rfl) (by decide) (by decide) (by decide) (by decide) (fun v700 h701 r702 => ?_)
            obtain ⟨rfl, rfl⟩ := r702
            refine C.lload at_214 rfl rfl ?_
            refine C.lcmp at_216 rfl ?_
            refine C.lif_ne_f at_217 rfl rfl ?_
            refine C.aload at_220 rfl rfl rfl ?_
            refine C.iconst 1 at_222 rfl rfl ?_
            refine C.callV (argsL := [(.int 1)]) (rest := []) 0 (fun zz => au704_5 l Z a0 hw n0 hJ684 zz as ah aw e0 e1 e2 F686 F690 F688 F689 F687 F692 F691 g693 g695 g694 ne697 ne696 (Ne.symm ne698)) F686 at_223 rfl (tw hw 28 rfl) (tw hw 29 rfl) (tw hw 30 rfl) (tw hw 31 rfl) (tw hw 5 rfl) (tw hw 32 rfl) (by decide) pd_0 rfl rfl rfl (Nat.le_of_eq rfl) (by decide) (by decide) (by decide) (by decide) (fun v705 h706 r707 => ?_)
            obtain ⟨rfl, rfl⟩ := r707
            refine C.lload at_226 rfl rfl ?_
            refine C.lcmp at_228 rfl ?_
            refine C.lif_ne_f at_229 rfl rfl ?_
            refine C.aload at_232 rfl rfl rfl ?_
            refine C.iconst 2 at_234 rfl rfl ?_
            refine C.callV (argsL := [(.int 2)]) (rest := []) 0 (fun zz => au709_5 l Z a0 hw n0 hJ684 zz as ah aw e0 e1 e2 F686 F690 F688 F689 F687 F692 F691 g693 g695 g694 ne697 ne696 (Ne.symm ne698)) F686 at_235 rfl (tw hw 28 rfl) (tw hw 29 rfl) (tw hw 30 rfl) (tw hw 31 rfl) (tw hw 5 rfl) (tw hw 32 rfl) (by decide) pd_0 rfl rfl rfl (Nat.le_of_eq rfl) (by decide) (by decide) (by decide) (by decide) (fun v710 h711 r712 => ?_)
            obtain ⟨rfl, rfl⟩ := r712
            refine C.lload at_238 rfl rfl ?_
            refine C.lcmp at_240 rfl ?_
            refine C.lif_eq_t at_241 (by decide) rfl rfl ?_
            refine C.aload at_246 rfl rfl rfl ?_
            by_cases qs734 : (e0 : Int64) = 0
            · by_cases qs755 : (e1 : Int64) = 0
              · by_cases qs776 : (e2 : Int64) = 0
                · refine C.callV (argsL := []) (rest := []) 0 (fun zz => au777_6 l Z a0 hw n0 hJ684 zz as ah aw e0 e1 e2 F686 F690 F688 F689 F687 F692 F691 g693 g695 g694 ne697 ne696 (Ne.symm ne698) qs734 qs755 qs776) F686 at_248 rfl (tw hw 33 rfl) (tw hw 34 rfl) (tw hw 35 rfl) (tw hw 36 rfl) (tw hw 5 rfl) (tw hw 37 rfl) (by decide) pd_1 rfl rfl rfl (Nat.le_of_eq rfl) (by decide) (by decide) (by decide) (by decide) (fun v805 h806 r807 => ?_)
                  obtain ⟨rfl, K808, F809, F810, F811, F812⟩ := r807
                  have F813 := F686.keep K808
                  have F818 := F691.keep K808 (ninS (Ne.symm ne696) nin0)
                  have F819 := F692.keep K808 (ninS (Ne.symm ne697) nin0)
                  refine C.iconst 3 at_251 rfl rfl ?_
                  refine C.newarr 3 at_252 rfl rfl (tw hw 16 rfl) (by decide) (by decide) (by decide) (by decide) (by decide) (fun a820 h821 z824 g825 X822 F823 => ?_)
                  have ne826 : as ≠ a820 := by rw [z824]; exact Nat.ne_of_lt F813.lt
                  have ne827 : aw ≠ a820 := by rw [z824]; exact Nat.ne_of_lt F818.lt
                  have ne828 : ah ≠ a820 := by rw [z824]; exact Nat.ne_of_lt F819.lt
                  have F829 := Exa.ext X822 F813
                  have F830 := F818.ext X822
                  have F831 := F819.ext X822
                  have F832 := Fld.ext X822 F809
                  have F833 := Fld.ext X822 F810
                  have F834 := Fld.ext X822 F811
                  have F835 := Fld.ext X822 F812
                  have F836 : Av Z h821 a820 .int ([.int 0, .int 0, .int 0]) := F823
                  refine C.astore (Ls' := #[.val (.long x0), .second, .val (.long x1), .second, .val (.long x2), .second, iv x3, iv x4, iv 0, iv f9, iv f10, iv f11, iv f12, rv am, rv as, .val (.long e0), .second, .val (.long e1), .second, .val (.long e2), .second, rv a820, .unset]) at_254 rfl rfl rfl ?_
                  refine C.iconst 0 at_256 rfl rfl ?_
                  refine C.istore (Ls' := #[.val (.long x0), .second, .val (.long x1), .second, .val (.long x2), .second, iv x3, iv x4, iv 0, iv f9, iv f10, iv f11, iv f12, rv am, rv as, .val (.long e0), .second, .val (.long e1), .second, .val (.long e2), .second, rv a820, iv 0]) at_257 rfl rfl ?_
                  refine C.lload at_259 rfl rfl ?_
                  refine C.lconst 0 at_261 rfl rfl ?_
                  refine C.lcmp at_262 rfl ?_
                  refine C.lif_eq_t at_263 (by decide) rfl qs734 ?_
                  refine C.lload at_275 rfl rfl ?_
                  refine C.lconst 0 at_277 rfl rfl ?_
                  refine C.lcmp at_278 rfl ?_
                  refine C.lif_eq_t at_279 (by decide) rfl qs755 ?_
                  refine C.lload at_291 rfl rfl ?_
                  refine C.lconst 0 at_293 rfl rfl ?_
                  refine C.lcmp at_294 rfl ?_
                  refine C.lif_eq_t at_295 (by decide) rfl qs776 ?_
                  refine C.aload at_307 rfl rfl rfl ?_
                  refine C.callV (argsL := []) (rest := []) 0 (fun zz => au837_12 l Z a0 hw n0 h821 zz as ah aw e0 e1 e2 F829 F832 F833 F834 F835 F831 F830 g693 g695 g694 ne697 ne696 (Ne.symm ne698)) F829 at_309 rfl (tw hw 57 rfl) (tw hw 58 rfl) (tw hw 59 rfl) (tw hw 60 rfl) (tw hw 5 rfl) (tw hw 61 rfl) (by decide) pd_2 rfl rfl rfl (Nat.le_of_eq rfl) (by decide) (by decide) (by decide) (by decide) (fun v838 h839 r840 => ?_)
                  obtain ⟨rfl, rfl⟩ := r840
                  refine C.iload at_312 rfl rfl ?_
                  refine C.icmp_eq_t at_314 (by decide) rfl (by decide) ?_
                  refine C.iload at_319 rfl rfl ?_
                  refine C.if_le_t at_321 (by decide) rfl (by decide) ?_
                  refine C.iload at_339 rfl rfl ?_
                  refine C.iconst 1 at_341 rfl rfl ?_
                  refine C.icmp_le_t at_342 (by decide) rfl (by decide) ?_
                  refine C.iload at_360 rfl rfl ?_
                  refine C.iconst 2 at_362 rfl rfl ?_
                  refine C.icmp_le_t at_363 (by decide) rfl (by decide) ?_
                  refine C.iconst 1 at_381 rfl rfl ?_
                  exact C.retZ at_382 rfl (by decide) (by decide) ⟨rfl, trivial⟩
                refine C.callV (argsL := []) (rest := []) 0 (fun zz => au842_6 l Z a0 hw n0 hJ684 zz as ah aw e0 e1 e2 F686 F690 F688 F689 F687 F692 F691 g693 g695 g694 ne697 ne696 (Ne.symm ne698) qs734 qs755 qs776) F686 at_248 rfl (tw hw 33 rfl) (tw hw 34 rfl) (tw hw 35 rfl) (tw hw 36 rfl) (tw hw 5 rfl) (tw hw 37 rfl) (by decide) pd_1 rfl rfl rfl (Nat.le_of_eq rfl) (by decide) (by decide) (by decide) (by decide) (fun v927 h928 r929 => ?_)
                obtain ⟨rfl, K930, F931, F932, F933, F934, F935⟩ := r929
                have F936 := F686.keep K930
                have F941 := F691.keep K930 (ninS (Ne.symm ne696) (ninS ne698 nin0))
                refine C.iconst 3 at_251 rfl rfl ?_
                refine C.newarr 3 at_252 rfl rfl (tw hw 16 rfl) (by decide) (by decide) (by decide) (by decide) (by decide) (fun a943 h944 z947 g948 X945 F946 => ?_)
                have ne949 : as ≠ a943 := by rw [z947]; exact Nat.ne_of_lt F936.lt
                have ne950 : aw ≠ a943 := by rw [z947]; exact Nat.ne_of_lt F941.lt
                have ne951 : ah ≠ a943 := by rw [z947]; exact Nat.ne_of_lt F935.lt
                have F952 := Exa.ext X945 F936
                have F953 := F941.ext X945
                have F954 := Fld.ext X945 F931
                have F955 := Fld.ext X945 F932
                have F956 := Fld.ext X945 F933
                have F957 := Fld.ext X945 F934
                have F958 := F935.ext X945
                have F959 : Av Z h944 a943 .int ([.int 0, .int 0, .int 0]) := F946
                refine C.astore (Ls' := #[.val (.long x0), .second, .val (.long x1), .second, .val (.long x2), .second, iv x3, iv x4, iv 0, iv f9, iv f10, iv f11, iv f12, rv am, rv as, .val (.long e0), .second, .val (.long e1), .second, .val (.long e2), .second, rv a943, .unset]) at_254 rfl rfl rfl ?_
                refine C.iconst 0 at_256 rfl rfl ?_
                refine C.istore (Ls' := #[.val (.long x0), .second, .val (.long x1), .second, .val (.long x2), .second, iv x3, iv x4, iv 0, iv f9, iv f10, iv f11, iv f12, rv am, rv as, .val (.long e0), .second, .val (.long e1), .second, .val (.long e2), .second, rv a943, iv 0]) at_257 rfl rfl ?_
                refine C.lload at_259 rfl rfl ?_
                refine C.lconst 0 at_261 rfl rfl ?_
                refine C.lcmp at_262 rfl ?_
                refine C.lif_eq_t at_263 (by decide) rfl qs734 ?_
                refine C.lload at_275 rfl rfl ?_
                refine C.lconst 0 at_277 rfl rfl ?_
                refine C.lcmp at_278 rfl ?_
                refine C.lif_eq_t at_279 (by decide) rfl qs755 ?_
                refine C.lload at_291 rfl rfl ?_
                refine C.lconst 0 at_293 rfl rfl ?_
                refine C.lcmp at_294 rfl ?_
                refine C.lif_eq_f at_295 rfl qs776 ?_
                refine C.aload at_298 rfl rfl rfl ?_
                refine C.iload at_300 rfl rfl ?_
                refine C.iconst 2 at_302 rfl rfl ?_
                refine C.iastore at_303 rfl F959 g948 (by decide) (Nat.le_of_ble_eq_true rfl) (fun h960 W961 F962 => ?_)
                have F963 := Exa.wr W961 F952
                have F964 := F953.other W961 ne950
                have F965 := Fld.other W961 F954 (Or.inl ne949)
                have F966 := Fld.other W961 F955 (Or.inl ne949)
                have F967 := Fld.other W961 F956 (Or.inl ne949)
                have F968 := Fld.other W961 F957 (Or.inl ne949)
                have F969 := F958.other W961 ne951
                have F970 : Av Z h960 a943 .int ([.int 2, .int 0, .int 0]) := F962
                refine C.iinc (Ls' := #[.val (.long x0), .second, .val (.long x1), .second, .val (.long x2), .second, iv x3, iv x4, iv 0, iv f9, iv f10, iv f11, iv f12, rv am, rv as, .val (.long e0), .second, .val (.long e1), .second, .val (.long e2), .second, rv a943, iv 1]) 1 at_304 rfl rfl rfl rfl ?_
                refine C.aload at_307 rfl rfl rfl ?_
                refine C.callV (argsL := []) (rest := []) 0 (fun zz => au971_12 l Z a0 hw n0 h960 zz as ah aw e0 e1 e2 F963 F965 F966 F967 F968 F969 F964 g693 g695 g694 ne697 ne696 (Ne.symm ne698)) F963 at_309 rfl (tw hw 57 rfl) (tw hw 58 rfl) (tw hw 59 rfl) (tw hw 60 rfl) (tw hw 5 rfl) (tw hw 61 rfl) (by decide) pd_2 rfl rfl rfl (Nat.le_of_eq rfl) (by decide) (by decide) (by decide) (by decide) (fun v972 h973 r974 => ?_)
                obtain ⟨rfl, rfl⟩ := r974
                refine C.iload at_312 rfl rfl ?_
                refine C.icmp_eq_t at_314 (by decide) rfl (by decide) ?_
                refine C.iload at_319 rfl rfl ?_
                refine C.if_le_f at_321 rfl (by decide) ?_
                refine C.aload at_324 rfl rfl rfl ?_
                refine C.iconst 0 at_326 rfl rfl ?_
                refine C.callV (argsL := [(.int 0)]) (rest := []) 0 (fun zz => au976_13 l Z a0 hw n0 h960 zz as ah aw e0 e1 e2 F963 F965 F966 F967 F968 F969 F964 g693 g695 g694 ne697 ne696 (Ne.symm ne698)) F963 at_327 rfl (tw hw 62 rfl) (tw hw 63 rfl) (tw hw 64 rfl) (tw hw 65 rfl) (tw hw 5 rfl) (tw hw 66 rfl) (by decide) pd_3 rfl rfl rfl (Nat.le_of_eq rfl) (by decide) (by decide) (by decide) (by decide) (fun v977 h978 r979 => ?_)
                obtain ⟨rfl, rfl⟩ := r979
                refine C.aload at_330 rfl rfl rfl ?_
                refine C.iconst 0 at_332 rfl rfl ?_
                refine C.iaload (.int 2) at_333 rfl F970 (by decide) rfl ?_
                refine C.icmp_eq_t at_334 (by decide) rfl (by decide) ?_
                refine C.iload at_339 rfl rfl ?_
                refine C.iconst 1 at_341 rfl rfl ?_
                refine C.icmp_le_t at_342 (by decide) rfl (by decide) ?_
                refine C.iload at_360 rfl rfl ?_
                refine C.iconst 2 at_362 rfl rfl ?_
                refine C.icmp_le_t at_363 (by decide) rfl (by decide) ?_
                refine C.iconst 1 at_381 rfl rfl ?_
                exact C.retZ at_382 rfl (by decide) (by decide) ⟨rfl, trivial⟩
              by_cases qs1010 : (e2 : Int64) = 0
              · refine C.callV (argsL := []) (rest := []) 0 (fun zz => au1011_6 l Z a0 hw n0 hJ684 zz as ah aw e0 e1 e2 F686 F690 F688 F689 F687 F692 F691 g693 g695 g694 ne697 ne696 (Ne.symm ne698) qs734 qs755 qs1010) F686 at_248 rfl (tw hw 33 rfl) (tw hw 34 rfl) (tw hw 35 rfl) (tw hw 36 rfl) (tw hw 5 rfl) (tw hw 37 rfl) (by decide) pd_1 rfl rfl rfl (Nat.le_of_eq rfl) (by decide) (by decide) (by decide) (by decide) (fun v1096 h1097 r1098 => ?_)
                obtain ⟨rfl, K1099, F1100, F1101, F1102, F1103, F1104⟩ := r1098
                have F1105 := F686.keep K1099
                have F1110 := F691.keep K1099 (ninS (Ne.symm ne696) (ninS ne698 nin0))
                refine C.iconst 3 at_251 rfl rfl ?_
                refine C.newarr 3 at_252 rfl rfl (tw hw 16 rfl) (by decide) (by decide) (by decide) (by decide) (by decide) (fun a1112 h1113 z1116 g1117 X1114 F1115 => ?_)
                have ne1118 : as ≠ a1112 := by rw [z1116]; exact Nat.ne_of_lt F1105.lt
                have ne1119 : aw ≠ a1112 := by rw [z1116]; exact Nat.ne_of_lt F1110.lt
                have ne1120 : ah ≠ a1112 := by rw [z1116]; exact Nat.ne_of_lt F1104.lt
                have F1121 := Exa.ext X1114 F1105
                have F1122 := F1110.ext X1114
                have F1123 := Fld.ext X1114 F1100
                have F1124 := Fld.ext X1114 F1101
                have F1125 := Fld.ext X1114 F1102
                have F1126 := Fld.ext X1114 F1103
                have F1127 := F1104.ext X1114
                have F1128 : Av Z h1113 a1112 .int ([.int 0, .int 0, .int 0]) := F1115
                refine C.astore (Ls' := #[.val (.long x0), .second, .val (.long x1), .second, .val (.long x2), .second, iv x3, iv x4, iv 0, iv f9, iv f10, iv f11, iv f12, rv am, rv as, .val (.long e0), .second, .val (.long e1), .second, .val (.long e2), .second, rv a1112, .unset]) at_254 rfl rfl rfl ?_
                refine C.iconst 0 at_256 rfl rfl ?_
                refine C.istore (Ls' := #[.val (.long x0), .second, .val (.long x1), .second, .val (.long x2), .second, iv x3, iv x4, iv 0, iv f9, iv f10, iv f11, iv f12, rv am, rv as, .val (.long e0), .second, .val (.long e1), .second, .val (.long e2), .second, rv a1112, iv 0]) at_257 rfl rfl ?_
                refine C.lload at_259 rfl rfl ?_
                refine C.lconst 0 at_261 rfl rfl ?_
                refine C.lcmp at_262 rfl ?_
                refine C.lif_eq_t at_263 (by decide) rfl qs734 ?_
                refine C.lload at_275 rfl rfl ?_
                refine C.lconst 0 at_277 rfl rfl ?_
                refine C.lcmp at_278 rfl ?_
                refine C.lif_eq_f at_279 rfl qs755 ?_
                refine C.aload at_282 rfl rfl rfl ?_
                refine C.iload at_284 rfl rfl ?_
                refine C.iconst 1 at_286 rfl rfl ?_
                refine C.iastore at_287 rfl F1128 g1117 (by decide) (Nat.le_of_ble_eq_true rfl) (fun h1129 W1130 F1131 => ?_)
                have F1132 := Exa.wr W1130 F1121
                have F1133 := F1122.other W1130 ne1119
                have F1134 := Fld.other W1130 F1123 (Or.inl ne1118)
                have F1135 := Fld.other W1130 F1124 (Or.inl ne1118)
                have F1136 := Fld.other W1130 F1125 (Or.inl ne1118)
                have F1137 := Fld.other W1130 F1126 (Or.inl ne1118)
                have F1138 := F1127.other W1130 ne1120
                have F1139 : Av Z h1129 a1112 .int ([.int 1, .int 0, .int 0]) := F1131
                refine C.iinc (Ls' := #[.val (.long x0), .second, .val (.long x1), .second, .val (.long x2), .second, iv x3, iv x4, iv 0, iv f9, iv f10, iv f11, iv f12, rv am, rv as, .val (.long e0), .second, .val (.long e1), .second, .val (.long e2), .second, rv a1112, iv 1]) 1 at_288 rfl rfl rfl rfl ?_
                refine C.lload at_291 rfl rfl ?_
                refine C.lconst 0 at_293 rfl rfl ?_
                refine C.lcmp at_294 rfl ?_
                refine C.lif_eq_t at_295 (by decide) rfl qs1010 ?_
                refine C.aload at_307 rfl rfl rfl ?_
                refine C.callV (argsL := []) (rest := []) 0 (fun zz => au1140_12 l Z a0 hw n0 h1129 zz as ah aw e0 e1 e2 F1132 F1134 F1135 F1136 F1137 F1138 F1133 g693 g695 g694 ne697 ne696 (Ne.symm ne698)) F1132 at_309 rfl (tw hw 57 rfl) (tw hw 58 rfl) (tw hw 59 rfl) (tw hw 60 rfl) (tw hw 5 rfl) (tw hw 61 rfl) (by decide) pd_2 rfl rfl rfl (Nat.le_of_eq rfl) (by decide) (by decide) (by decide) (by decide) (fun v1141 h1142 r1143 => ?_)
                obtain ⟨rfl, rfl⟩ := r1143
                refine C.iload at_312 rfl rfl ?_
                refine C.icmp_eq_t at_314 (by decide) rfl (by decide) ?_
                refine C.iload at_319 rfl rfl ?_
                refine C.if_le_f at_321 rfl (by decide) ?_
                refine C.aload at_324 rfl rfl rfl ?_
                refine C.iconst 0 at_326 rfl rfl ?_
                refine C.callV (argsL := [(.int 0)]) (rest := []) 0 (fun zz => au1145_13 l Z a0 hw n0 h1129 zz as ah aw e0 e1 e2 F1132 F1134 F1135 F1136 F1137 F1138 F1133 g693 g695 g694 ne697 ne696 (Ne.symm ne698)) F1132 at_327 rfl (tw hw 62 rfl) (tw hw 63 rfl) (tw hw 64 rfl) (tw hw 65 rfl) (tw hw 5 rfl) (tw hw 66 rfl) (by decide) pd_3 rfl rfl rfl (Nat.le_of_eq rfl) (by decide) (by decide) (by decide) (by decide) (fun v1146 h1147 r1148 => ?_)
                obtain ⟨rfl, rfl⟩ := r1148
                refine C.aload at_330 rfl rfl rfl ?_
                refine C.iconst 0 at_332 rfl rfl ?_
                refine C.iaload (.int 1) at_333 rfl F1139 (by decide) rfl ?_
                refine C.icmp_eq_t at_334 (by decide) rfl (by decide) ?_
                refine C.iload at_339 rfl rfl ?_
                refine C.iconst 1 at_341 rfl rfl ?_
                refine C.icmp_le_t at_342 (by decide) rfl (by decide) ?_
                refine C.iload at_360 rfl rfl ?_
                refine C.iconst 2 at_362 rfl rfl ?_
                refine C.icmp_le_t at_363 (by decide) rfl (by decide) ?_
                refine C.iconst 1 at_381 rfl rfl ?_
                exact C.retZ at_382 rfl (by decide) (by decide) ⟨rfl, trivial⟩
              refine C.callV (argsL := []) (rest := []) 0 (fun zz => au1150_6 l Z a0 hw n0 hJ684 zz as ah aw e0 e1 e2 F686 F690 F688 F689 F687 F692 F691 g693 g695 g694 ne697 ne696 (Ne.symm ne698) qs734 qs755 qs1010) F686 at_248 rfl (tw hw 33 rfl) (tw hw 34 rfl) (tw hw 35 rfl) (tw hw 36 rfl) (tw hw 5 rfl) (tw hw 37 rfl) (by decide) pd_1 rfl rfl rfl (Nat.le_of_eq rfl) (by decide) (by decide) (by decide) (by decide) (fun v1292 h1293 r1294 => ?_)
              obtain ⟨rfl, K1295, F1296, F1297, F1298, F1299, F1300⟩ := r1294
              have F1301 := F686.keep K1295
              have F1306 := F691.keep K1295 (ninS (Ne.symm ne696) (ninS ne698 nin0))
              refine C.iconst 3 at_251 rfl rfl ?_
              refine C.newarr 3 at_252 rfl rfl (tw hw 16 rfl) (by decide) (by decide) (by decide) (by decide) (by decide) (fun a1308 h1309 z1312 g1313 X1310 F1311 => ?_)
              have ne1314 : as ≠ a1308 := by rw [z1312]; exact Nat.ne_of_lt F1301.lt
              have ne1315 : aw ≠ a1308 := by rw [z1312]; exact Nat.ne_of_lt F1306.lt
              have ne1316 : ah ≠ a1308 := by rw [z1312]; exact Nat.ne_of_lt F1300.lt
              have F1317 := Exa.ext X1310 F1301
              have F1318 := F1306.ext X1310
              have F1319 := Fld.ext X1310 F1296
              have F1320 := Fld.ext X1310 F1297
              have F1321 := Fld.ext X1310 F1298
              have F1322 := Fld.ext X1310 F1299
              have F1323 := F1300.ext X1310
              have F1324 : Av Z h1309 a1308 .int ([.int 0, .int 0, .int 0]) := F1311
              refine C.astore (Ls' := #[.val (.long x0), .second, .val (.long x1), .second, .val (.long x2), .second, iv x3, iv x4, iv 0, iv f9, iv f10, iv f11, iv f12, rv am, rv as, .val (.long e0), .second, .val (.long e1), .second, .val (.long e2), .second, rv a1308, .unset]) at_254 rfl rfl rfl ?_
              refine C.iconst 0 at_256 rfl rfl ?_
              refine C.istore (Ls' := #[.val (.long x0), .second, .val (.long x1), .second, .val (.long x2), .second, iv x3, iv x4, iv 0, iv f9, iv f10, iv f11, iv f12, rv am, rv as, .val (.long e0), .second, .val (.long e1), .second, .val (.long e2), .second, rv a1308, iv 0]) at_257 rfl rfl ?_
              refine C.lload at_259 rfl rfl ?_
              refine C.lconst 0 at_261 rfl rfl ?_
              refine C.lcmp at_262 rfl ?_
              refine C.lif_eq_t at_263 (by decide) rfl qs734 ?_
              refine C.lload at_275 rfl rfl ?_
              refine C.lconst 0 at_277 rfl rfl ?_
              refine C.lcmp at_278 rfl ?_
              refine C.lif_eq_f at_279 rfl qs755 ?_
              refine C.aload at_282 rfl rfl rfl ?_
              refine C.iload at_284 rfl rfl ?_
              refine C.iconst 1 at_286 rfl rfl ?_
              refine C.iastore at_287 rfl F1324 g1313 (by decide) (Nat.le_of_ble_eq_true rfl) (fun h1325 W1326 F1327 => ?_)
              have F1328 := Exa.wr W1326 F1317
              have F1329 := F1318.other W1326 ne1315
              have F1330 := Fld.other W1326 F1319 (Or.inl ne1314)
              have F1331 := Fld.other W1326 F1320 (Or.inl ne1314)
              have F1332 := Fld.other W1326 F1321 (Or.inl ne1314)
              have F1333 := Fld.other W1326 F1322 (Or.inl ne1314)
              have F1334 := F1323.other W1326 ne1316
              have F1335 : Av Z h1325 a1308 .int ([.int 1, .int 0, .int 0]) := F1327
              refine C.iinc (Ls' := #[.val (.long x0), .second, .val (.long x1), .second, .val (.long x2), .second, iv x3, iv x4, iv 0, iv f9, iv f10, iv f11, iv f12, rv am, rv as, .val (.long e0), .second, .val (.long e1), .second, .val (.long e2), .second, rv a1308, iv 1]) 1 at_288 rfl rfl rfl rfl ?_
              refine C.lload at_291 rfl rfl ?_
              refine C.lconst 0 at_293 rfl rfl ?_
              refine C.lcmp at_294 rfl ?_
              refine C.lif_eq_f at_295 rfl qs1010 ?_
              refine C.aload at_298 rfl rfl rfl ?_
              refine C.iload at_300 rfl rfl ?_
              refine C.iconst 2 at_302 rfl rfl ?_
              refine C.iastore at_303 rfl F1335 g1313 (by decide) (Nat.le_of_ble_eq_true rfl) (fun h1336 W1337 F1338 => ?_)
              have F1339 := Exa.wr W1337 F1328
              have F1340 := F1329.other W1337 ne1315
              have F1341 := Fld.other W1337 F1330 (Or.inl ne1314)
              have F1342 := Fld.other W1337 F1331 (Or.inl ne1314)
              have F1343 := Fld.other W1337 F1332 (Or.inl ne1314)
              have F1344 := Fld.other W1337 F1333 (Or.inl ne1314)
              have F1345 := F1334.other W1337 ne1316
              have F1346 : Av Z h1336 a1308 .int ([.int 1, .int 2, .int 0]) := F1338
              refine C.iinc (Ls' := #[.val (.long x0), .second, .val (.long x1), .second, .val (.long x2), .second, iv x3, iv x4, iv 0, iv f9, iv f10, iv f11, iv f12, rv am, rv as, .val (.long e0), .second, .val (.long e1), .second, .val (.long e2), .second, rv a1308, iv 2]) 1 at_304 rfl rfl rfl rfl ?_
              refine C.aload at_307 rfl rfl rfl ?_
              refine C.callV (argsL := []) (rest := []) 0 (fun zz => au1347_12 l Z a0 hw n0 h1336 zz as ah aw e0 e1 e2 F1339 F1341 F1342 F1343 F1344 F1345 F1340 g693 g695 g694 ne697 ne696 (Ne.symm ne698)) F1339 at_309 rfl (tw hw 57 rfl) (tw hw 58 rfl) (tw hw 59 rfl) (tw hw 60 rfl) (tw hw 5 rfl) (tw hw 61 rfl) (by decide) pd_2 rfl rfl rfl (Nat.le_of_eq rfl) (by decide) (by decide) (by decide) (by decide) (fun v1348 h1349 r1350 => ?_)
              obtain ⟨rfl, rfl⟩ := r1350
              refine C.iload at_312 rfl rfl ?_
              refine C.icmp_eq_t at_314 (by decide) rfl (by decide) ?_
              refine C.iload at_319 rfl rfl ?_
              refine C.if_le_f at_321 rfl (by decide) ?_
              refine C.aload at_324 rfl rfl rfl ?_
              refine C.iconst 0 at_326 rfl rfl ?_
              refine C.callV (argsL := [(.int 0)]) (rest := []) 0 (fun zz => au1352_13 l Z a0 hw n0 h1336 zz as ah aw e0 e1 e2 F1339 F1341 F1342 F1343 F1344 F1345 F1340 g693 g695 g694 ne697 ne696 (Ne.symm ne698)) F1339 at_327 rfl (tw hw 62 rfl) (tw hw 63 rfl) (tw hw 64 rfl) (tw hw 65 rfl) (tw hw 5 rfl) (tw hw 66 rfl) (by decide) pd_3 rfl rfl rfl (Nat.le_of_eq rfl) (by decide) (by decide) (by decide) (by decide) (fun v1353 h1354 r1355 => ?_)
              obtain ⟨rfl, rfl⟩ := r1355
              refine C.aload at_330 rfl rfl rfl ?_
              refine C.iconst 0 at_332 rfl rfl ?_
              refine C.iaload (.int 1) at_333 rfl F1346 (by decide) rfl ?_
              refine C.icmp_eq_t at_334 (by decide) rfl (by decide) ?_
              refine C.iload at_339 rfl rfl ?_
              refine C.iconst 1 at_341 rfl rfl ?_
              refine C.icmp_le_f at_342 rfl (by decide) ?_
              refine C.aload at_345 rfl rfl rfl ?_
              refine C.iconst 1 at_347 rfl rfl ?_
              refine C.callV (argsL := [(.int 1)]) (rest := []) 0 (fun zz => au1357_13 l Z a0 hw n0 h1336 zz as ah aw e0 e1 e2 F1339 F1341 F1342 F1343 F1344 F1345 F1340 g693 g695 g694 ne697 ne696 (Ne.symm ne698)) F1339 at_348 rfl (tw hw 62 rfl) (tw hw 63 rfl) (tw hw 64 rfl) (tw hw 65 rfl) (tw hw 5 rfl) (tw hw 66 rfl) (by decide) pd_3 rfl rfl rfl (Nat.le_of_eq rfl) (by decide) (by decide) (by decide) (by decide) (fun v1358 h1359 r1360 => ?_)
              obtain ⟨rfl, rfl⟩ := r1360
              refine C.aload at_351 rfl rfl rfl ?_
              refine C.iconst 1 at_353 rfl rfl ?_
              refine C.iaload (.int 2) at_354 rfl F1346 (by decide) rfl ?_
              refine C.icmp_eq_t at_355 (by decide) rfl (by decide) ?_
              refine C.iload at_360 rfl rfl ?_
              refine C.iconst 2 at_362 rfl rfl ?_
              refine C.icmp_le_t at_363 (by decide) rfl (by decide) ?_
              refine C.iconst 1 at_381 rfl rfl ?_
              exact C.retZ at_382 rfl (by decide) (by decide) ⟨rfl, trivial⟩
            by_cases qs1391 : (e1 : Int64) = 0
            · by_cases qs1421 : (e2 : Int64) = 0
              · refine C.callV (argsL := []) (rest := []) 0 (fun zz => au1422_6 l Z a0 hw n0 hJ684 zz as ah aw e0 e1 e2 F686 F690 F688 F689 F687 F692 F691 g693 g695 g694 ne697 ne696 (Ne.symm ne698) qs734 qs1391 qs1421) F686 at_248 rfl (tw hw 33 rfl) (tw hw 34 rfl) (tw hw 35 rfl) (tw hw 36 rfl) (tw hw 5 rfl) (tw hw 37 rfl) (by decide) pd_1 rfl rfl rfl (Nat.le_of_eq rfl) (by decide) (by decide) (by decide) (by decide) (fun v1507 h1508 r1509 => ?_)
                obtain ⟨rfl, K1510, F1511, F1512, F1513, F1514, F1515⟩ := r1509
                have F1516 := F686.keep K1510
                have F1521 := F691.keep K1510 (ninS (Ne.symm ne696) (ninS ne698 nin0))
                refine C.iconst 3 at_251 rfl rfl ?_
                refine C.newarr 3 at_252 rfl rfl (tw hw 16 rfl) (by decide) (by decide) (by decide) (by decide) (by decide) (fun a1523 h1524 z1527 g1528 X1525 F1526 => ?_)
                have ne1529 : as ≠ a1523 := by rw [z1527]; exact Nat.ne_of_lt F1516.lt
                have ne1530 : aw ≠ a1523 := by rw [z1527]; exact Nat.ne_of_lt F1521.lt
                have ne1531 : ah ≠ a1523 := by rw [z1527]; exact Nat.ne_of_lt F1515.lt
                have F1532 := Exa.ext X1525 F1516
                have F1533 := F1521.ext X1525
                have F1534 := Fld.ext X1525 F1511
                have F1535 := Fld.ext X1525 F1512
                have F1536 := Fld.ext X1525 F1513
                have F1537 := Fld.ext X1525 F1514
                have F1538 := F1515.ext X1525
                have F1539 : Av Z h1524 a1523 .int ([.int 0, .int 0, .int 0]) := F1526
                refine C.astore (Ls' := #[.val (.long x0), .second, .val (.long x1), .second, .val (.long x2), .second, iv x3, iv x4, iv 0, iv f9, iv f10, iv f11, iv f12, rv am, rv as, .val (.long e0), .second, .val (.long e1), .second, .val (.long e2), .second, rv a1523, .unset]) at_254 rfl rfl rfl ?_
                refine C.iconst 0 at_256 rfl rfl ?_
                refine C.istore (Ls' := #[.val (.long x0), .second, .val (.long x1), .second, .val (.long x2), .second, iv x3, iv x4, iv 0, iv f9, iv f10, iv f11, iv f12, rv am, rv as, .val (.long e0), .second, .val (.long e1), .second, .val (.long e2), .second, rv a1523, iv 0]) at_257 rfl rfl ?_
                refine C.lload at_259 rfl rfl ?_
                refine C.lconst 0 at_261 rfl rfl ?_
                refine C.lcmp at_262 rfl ?_
                refine C.lif_eq_f at_263 rfl qs734 ?_
                refine C.aload at_266 rfl rfl rfl ?_
                refine C.iload at_268 rfl rfl ?_
                refine C.iconst 0 at_270 rfl rfl ?_
                refine C.iastore at_271 rfl F1539 g1528 (by decide) (Nat.le_of_ble_eq_true rfl) (fun h1540 W1541 F1542 => ?_)
                have F1543 := Exa.wr W1541 F1532
                have F1544 := F1533.other W1541 ne1530
                have F1545 := Fld.other W1541 F1534 (Or.inl ne1529)
                have F1546 := Fld.other W1541 F1535 (Or.inl ne1529)
                have F1547 := Fld.other W1541 F1536 (Or.inl ne1529)
                have F1548 := Fld.other W1541 F1537 (Or.inl ne1529)
                have F1549 := F1538.other W1541 ne1531
                have F1550 : Av Z h1540 a1523 .int ([.int 0, .int 0, .int 0]) := F1542
                refine C.iinc (Ls' := #[.val (.long x0), .second, .val (.long x1), .second, .val (.long x2), .second, iv x3, iv x4, iv 0, iv f9, iv f10, iv f11, iv f12, rv am, rv as, .val (.long e0), .second, .val (.long e1), .second, .val (.long e2), .second, rv a1523, iv 1]) 1 at_272 rfl rfl rfl rfl ?_
                refine C.lload at_275 rfl rfl ?_
                refine C.lconst 0 at_277 rfl rfl ?_
                refine C.lcmp at_278 rfl ?_
                refine C.lif_eq_t at_279 (by decide) rfl qs1391 ?_
                refine C.lload at_291 rfl rfl ?_
                refine C.lconst 0 at_293 rfl rfl ?_
                refine C.lcmp at_294 rfl ?_
                refine C.lif_eq_t at_295 (by decide) rfl qs1421 ?_
                refine C.aload at_307 rfl rfl rfl ?_
                refine C.callV (argsL := []) (rest := []) 0 (fun zz => au1551_12 l Z a0 hw n0 h1540 zz as ah aw e0 e1 e2 F1543 F1545 F1546 F1547 F1548 F1549 F1544 g693 g695 g694 ne697 ne696 (Ne.symm ne698)) F1543 at_309 rfl (tw hw 57 rfl) (tw hw 58 rfl) (tw hw 59 rfl) (tw hw 60 rfl) (tw hw 5 rfl) (tw hw 61 rfl) (by decide) pd_2 rfl rfl rfl (Nat.le_of_eq rfl) (by decide) (by decide) (by decide) (by decide) (fun v1552 h1553 r1554 => ?_)
                obtain ⟨rfl, rfl⟩ := r1554
                refine C.iload at_312 rfl rfl ?_
                refine C.icmp_eq_t at_314 (by decide) rfl (by decide) ?_
                refine C.iload at_319 rfl rfl ?_
                refine C.if_le_f at_321 rfl (by decide) ?_
                refine C.aload at_324 rfl rfl rfl ?_
                refine C.iconst 0 at_326 rfl rfl ?_
                refine C.callV (argsL := [(.int 0)]) (rest := []) 0 (fun zz => au1556_13 l Z a0 hw n0 h1540 zz as ah aw e0 e1 e2 F1543 F1545 F1546 F1547 F1548 F1549 F1544 g693 g695 g694 ne697 ne696 (Ne.symm ne698)) F1543 at_327 rfl (tw hw 62 rfl) (tw hw 63 rfl) (tw hw 64 rfl) (tw hw 65 rfl) (tw hw 5 rfl) (tw hw 66 rfl) (by decide) pd_3 rfl rfl rfl (Nat.le_of_eq rfl) (by decide) (by decide) (by decide) (by decide) (fun v1557 h1558 r1559 => ?_)
                obtain ⟨rfl, rfl⟩ := r1559
                refine C.aload at_330 rfl rfl rfl ?_
                refine C.iconst 0 at_332 rfl rfl ?_
                refine C.iaload (.int 0) at_333 rfl F1550 (by decide) rfl ?_
                refine C.icmp_eq_t at_334 (by decide) rfl (by decide) ?_
                refine C.iload at_339 rfl rfl ?_
                refine C.iconst 1 at_341 rfl rfl ?_
                refine C.icmp_le_t at_342 (by decide) rfl (by decide) ?_
                refine C.iload at_360 rfl rfl ?_
                refine C.iconst 2 at_362 rfl rfl ?_
                refine C.icmp_le_t at_363 (by decide) rfl (by decide) ?_
                refine C.iconst 1 at_381 rfl rfl ?_
                exact C.retZ at_382 rfl (by decide) (by decide) ⟨rfl, trivial⟩
              refine C.callV (argsL := []) (rest := []) 0 (fun zz => au1561_6 l Z a0 hw n0 hJ684 zz as ah aw e0 e1 e2 F686 F690 F688 F689 F687 F692 F691 g693 g695 g694 ne697 ne696 (Ne.symm ne698) qs734 qs1391 qs1421) F686 at_248 rfl (tw hw 33 rfl) (tw hw 34 rfl) (tw hw 35 rfl) (tw hw 36 rfl) (tw hw 5 rfl) (tw hw 37 rfl) (by decide) pd_1 rfl rfl rfl (Nat.le_of_eq rfl) (by decide) (by decide) (by decide) (by decide) (fun v1703 h1704 r1705 => ?_)
              obtain ⟨rfl, K1706, F1707, F1708, F1709, F1710, F1711⟩ := r1705
              have F1712 := F686.keep K1706
              have F1717 := F691.keep K1706 (ninS (Ne.symm ne696) (ninS ne698 nin0))
              refine C.iconst 3 at_251 rfl rfl ?_
              refine C.newarr 3 at_252 rfl rfl (tw hw 16 rfl) (by decide) (by decide) (by decide) (by decide) (by decide) (fun a1719 h1720 z1723 g1724 X1721 F1722 => ?_)
              have ne1725 : as ≠ a1719 := by rw [z1723]; exact Nat.ne_of_lt F1712.lt
              have ne1726 : aw ≠ a1719 := by rw [z1723]; exact Nat.ne_of_lt F1717.lt
              have ne1727 : ah ≠ a1719 := by rw [z1723]; exact Nat.ne_of_lt F1711.lt
              have F1728 := Exa.ext X1721 F1712
              have F1729 := F1717.ext X1721
              have F1730 := Fld.ext X1721 F1707
              have F1731 := Fld.ext X1721 F1708
              have F1732 := Fld.ext X1721 F1709
              have F1733 := Fld.ext X1721 F1710
              have F1734 := F1711.ext X1721
              have F1735 : Av Z h1720 a1719 .int ([.int 0, .int 0, .int 0]) := F1722
              refine C.astore (Ls' := #[.val (.long x0), .second, .val (.long x1), .second, .val (.long x2), .second, iv x3, iv x4, iv 0, iv f9, iv f10, iv f11, iv f12, rv am, rv as, .val (.long e0), .second, .val (.long e1), .second, .val (.long e2), .second, rv a1719, .unset]) at_254 rfl rfl rfl ?_
              refine C.iconst 0 at_256 rfl rfl ?_
              refine C.istore (Ls' := #[.val (.long x0), .second, .val (.long x1), .second, .val (.long x2), .second, iv x3, iv x4, iv 0, iv f9, iv f10, iv f11, iv f12, rv am, rv as, .val (.long e0), .second, .val (.long e1), .second, .val (.long e2), .second, rv a1719, iv 0]) at_257 rfl rfl ?_
              refine C.lload at_259 rfl rfl ?_
              refine C.lconst 0 at_261 rfl rfl ?_
              refine C.lcmp at_262 rfl ?_
              refine C.lif_eq_f at_263 rfl qs734 ?_
              refine C.aload at_266 rfl rfl rfl ?_
              refine C.iload at_268 rfl rfl ?_
              refine C.iconst 0 at_270 rfl rfl ?_
              refine C.iastore at_271 rfl F1735 g1724 (by decide) (Nat.le_of_ble_eq_true rfl) (fun h1736 W1737 F1738 => ?_)
              have F1739 := Exa.wr W1737 F1728
              have F1740 := F1729.other W1737 ne1726
              have F1741 := Fld.other W1737 F1730 (Or.inl ne1725)
              have F1742 := Fld.other W1737 F1731 (Or.inl ne1725)
              have F1743 := Fld.other W1737 F1732 (Or.inl ne1725)
              have F1744 := Fld.other W1737 F1733 (Or.inl ne1725)
              have F1745 := F1734.other W1737 ne1727
              have F1746 : Av Z h1736 a1719 .int ([.int 0, .int 0, .int 0]) := F1738
              refine C.iinc (Ls' := #[.val (.long x0), .second, .val (.long x1), .second, .val (.long x2), .second, iv x3, iv x4, iv 0, iv f9, iv f10, iv f11, iv f12, rv am, rv as, .val (.long e0), .second, .val (.long e1), .second, .val (.long e2), .second, rv a1719, iv 1]) 1 at_272 rfl rfl rfl rfl ?_
              refine C.lload at_275 rfl rfl ?_
              refine C.lconst 0 at_277 rfl rfl ?_
              refine C.lcmp at_278 rfl ?_
              refine C.lif_eq_t at_279 (by decide) rfl qs1391 ?_
              refine C.lload at_291 rfl rfl ?_
              refine C.lconst 0 at_293 rfl rfl ?_
              refine C.lcmp at_294 rfl ?_
              refine C.lif_eq_f at_295 rfl qs1421 ?_
              refine C.aload at_298 rfl rfl rfl ?_
              refine C.iload at_300 rfl rfl ?_
              refine C.iconst 2 at_302 rfl rfl ?_
              refine C.iastore at_303 rfl F1746 g1724 (by decide) (Nat.le_of_ble_eq_true rfl) (fun h1747 W1748 F1749 => ?_)
              have F1750 := Exa.wr W1748 F1739
              have F1751 := F1740.other W1748 ne1726
              have F1752 := Fld.other W1748 F1741 (Or.inl ne1725)
              have F1753 := Fld.other W1748 F1742 (Or.inl ne1725)
              have F1754 := Fld.other W1748 F1743 (Or.inl ne1725)
              have F1755 := Fld.other W1748 F1744 (Or.inl ne1725)
              have F1756 := F1745.other W1748 ne1727
              have F1757 : Av Z h1747 a1719 .int ([.int 0, .int 2, .int 0]) := F1749
              refine C.iinc (Ls' := #[.val (.long x0), .second, .val (.long x1), .second, .val (.long x2), .second, iv x3, iv x4, iv 0, iv f9, iv f10, iv f11, iv f12, rv am, rv as, .val (.long e0), .second, .val (.long e1), .second, .val (.long e2), .second, rv a1719, iv 2]) 1 at_304 rfl rfl rfl rfl ?_
              refine C.aload at_307 rfl rfl rfl ?_
              refine C.callV (argsL := []) (rest := []) 0 (fun zz => au1758_12 l Z a0 hw n0 h1747 zz as ah aw e0 e1 e2 F1750 F1752 F1753 F1754 F1755 F1756 F1751 g693 g695 g694 ne697 ne696 (Ne.symm ne698)) F1750 at_309 rfl (tw hw 57 rfl) (tw hw 58 rfl) (tw hw 59 rfl) (tw hw 60 rfl) (tw hw 5 rfl) (tw hw 61 rfl) (by decide) pd_2 rfl rfl rfl (Nat.le_of_eq rfl) (by decide) (by decide) (by decide) (by decide) (fun v1759 h1760 r1761 => ?_)
              obtain ⟨rfl, rfl⟩ := r1761
              refine C.iload at_312 rfl rfl ?_
              refine C.icmp_eq_t at_314 (by decide) rfl (by decide) ?_
              refine C.iload at_319 rfl rfl ?_
              refine C.if_le_f at_321 rfl (by decide) ?_
              refine C.aload at_324 rfl rfl rfl ?_
              refine C.iconst 0 at_326 rfl rfl ?_
              refine C.callV (argsL := [(.int 0)]) (rest := []) 0 (fun zz => au1763_13 l Z a0 hw n0 h1747 zz as ah aw e0 e1 e2 F1750 F1752 F1753 F1754 F1755 F1756 F1751 g693 g695 g694 ne697 ne696 (Ne.symm ne698)) F1750 at_327 rfl (tw hw 62 rfl) (tw hw 63 rfl) (tw hw 64 rfl) (tw hw 65 rfl) (tw hw 5 rfl) (tw hw 66 rfl) (by decide) pd_3 rfl rfl rfl (Nat.le_of_eq rfl) (by decide) (by decide) (by decide) (by decide) (fun v1764 h1765 r1766 => ?_)
              obtain ⟨rfl, rfl⟩ := r1766
              refine C.aload at_330 rfl rfl rfl ?_
              refine C.iconst 0 at_332 rfl rfl ?_
              refine C.iaload (.int 0) at_333 rfl F1757 (by decide) rfl ?_
              refine C.icmp_eq_t at_334 (by decide) rfl (by decide) ?_
              refine C.iload at_339 rfl rfl ?_
              refine C.iconst 1 at_341 rfl rfl ?_
              refine C.icmp_le_f at_342 rfl (by decide) ?_
              refine C.aload at_345 rfl rfl rfl ?_
              refine C.iconst 1 at_347 rfl rfl ?_
              refine C.callV (argsL := [(.int 1)]) (rest := []) 0 (fun zz => au1768_13 l Z a0 hw n0 h1747 zz as ah aw e0 e1 e2 F1750 F1752 F1753 F1754 F1755 F1756 F1751 g693 g695 g694 ne697 ne696 (Ne.symm ne698)) F1750 at_348 rfl (tw hw 62 rfl) (tw hw 63 rfl) (tw hw 64 rfl) (tw hw 65 rfl) (tw hw 5 rfl) (tw hw 66 rfl) (by decide) pd_3 rfl rfl rfl (Nat.le_of_eq rfl) (by decide) (by decide) (by decide) (by decide) (fun v1769 h1770 r1771 => ?_)
              obtain ⟨rfl, rfl⟩ := r1771
              refine C.aload at_351 rfl rfl rfl ?_
              refine C.iconst 1 at_353 rfl rfl ?_
              refine C.iaload (.int 2) at_354 rfl F1757 (by decide) rfl ?_
              refine C.icmp_eq_t at_355 (by decide) rfl (by decide) ?_
              refine C.iload at_360 rfl rfl ?_
              refine C.iconst 2 at_362 rfl rfl ?_
              refine C.icmp_le_t at_363 (by decide) rfl (by decide) ?_
              refine C.iconst 1 at_381 rfl rfl ?_
              exact C.retZ at_382 rfl (by decide) (by decide) ⟨rfl, trivial⟩
            by_cases qs1821 : (e2 : Int64) = 0
            · refine C.callV (argsL := []) (rest := []) 0 (fun zz => au1822_6 l Z a0 hw n0 hJ684 zz as ah aw e0 e1 e2 F686 F690 F688 F689 F687 F692 F691 g693 g695 g694 ne697 ne696 (Ne.symm ne698) qs734 qs1391 qs1821) F686 at_248 rfl (tw hw 33 rfl) (tw hw 34 rfl) (tw hw 35 rfl) (tw hw 36 rfl) (tw hw 5 rfl) (tw hw 37 rfl) (by decide) pd_1 rfl rfl rfl (Nat.le_of_eq rfl) (by decide) (by decide) (by decide) (by decide) (fun v1964 h1965 r1966 => ?_)
              obtain ⟨rfl, K1967, F1968, F1969, F1970, F1971, F1972⟩ := r1966
              have F1973 := F686.keep K1967
              have F1978 := F691.keep K1967 (ninS (Ne.symm ne696) (ninS ne698 nin0))
              refine C.iconst 3 at_251 rfl rfl ?_
              refine C.newarr 3 at_252 rfl rfl (tw hw 16 rfl) (by decide) (by decide) (by decide) (by decide) (by decide) (fun a1980 h1981 z1984 g1985 X1982 F1983 => ?_)
              have ne1986 : as ≠ a1980 := by rw [z1984]; exact Nat.ne_of_lt F1973.lt
              have ne1987 : aw ≠ a1980 := by rw [z1984]; exact Nat.ne_of_lt F1978.lt
              have ne1988 : ah ≠ a1980 := by rw [z1984]; exact Nat.ne_of_lt F1972.lt
              have F1989 := Exa.ext X1982 F1973
              have F1990 := F1978.ext X1982
              have F1991 := Fld.ext X1982 F1968
              have F1992 := Fld.ext X1982 F1969
              have F1993 := Fld.ext X1982 F1970
              have F1994 := Fld.ext X1982 F1971
              have F1995 := F1972.ext X1982
              have F1996 : Av Z h1981 a1980 .int ([.int 0, .int 0, .int 0]) := F1983
              refine C.astore (Ls' := #[.val (.long x0), .second, .val (.long x1), .second, .val (.long x2), .second, iv x3, iv x4, iv 0, iv f9, iv f10, iv f11, iv f12, rv am, rv as, .val (.long e0), .second, .val (.long e1), .second, .val (.long e2), .second, rv a1980, .unset]) at_254 rfl rfl rfl ?_
              refine C.iconst 0 at_256 rfl rfl ?_
              refine C.istore (Ls' := #[.val (.long x0), .second, .val (.long x1), .second, .val (.long x2), .second, iv x3, iv x4, iv 0, iv f9, iv f10, iv f11, iv f12, rv am, rv as, .val (.long e0), .second, .val (.long e1), .second, .val (.long e2), .second, rv a1980, iv 0]) at_257 rfl rfl ?_
              refine C.lload at_259 rfl rfl ?_
              refine C.lconst 0 at_261 rfl rfl ?_
              refine C.lcmp at_262 rfl ?_
              refine C.lif_eq_f at_263 rfl qs734 ?_
              refine C.aload at_266 rfl rfl rfl ?_
              refine C.iload at_268 rfl rfl ?_
              refine C.iconst 0 at_270 rfl rfl ?_
              refine C.iastore at_271 rfl F1996 g1985 (by decide) (Nat.le_of_ble_eq_true rfl) (fun h1997 W1998 F1999 => ?_)
              have F2000 := Exa.wr W1998 F1989
              have F2001 := F1990.other W1998 ne1987
              have F2002 := Fld.other W1998 F1991 (Or.inl ne1986)
              have F2003 := Fld.other W1998 F1992 (Or.inl ne1986)
              have F2004 := Fld.other W1998 F1993 (Or.inl ne1986)
              have F2005 := Fld.other W1998 F1994 (Or.inl ne1986)
              have F2006 := F1995.other W1998 ne1988
              have F2007 : Av Z h1997 a1980 .int ([.int 0, .int 0, .int 0]) := F1999
              refine C.iinc (Ls' := #[.val (.long x0), .second, .val (.long x1), .second, .val (.long x2), .second, iv x3, iv x4, iv 0, iv f9, iv f10, iv f11, iv f12, rv am, rv as, .val (.long e0), .second, .val (.long e1), .second, .val (.long e2), .second, rv a1980, iv 1]) 1 at_272 rfl rfl rfl rfl ?_
              refine C.lload at_275 rfl rfl ?_
              refine C.lconst 0 at_277 rfl rfl ?_
              refine C.lcmp at_278 rfl ?_
              refine C.lif_eq_f at_279 rfl qs1391 ?_
              refine C.aload at_282 rfl rfl rfl ?_
              refine C.iload at_284 rfl rfl ?_
              refine C.iconst 1 at_286 rfl rfl ?_
              refine C.iastore at_287 rfl F2007 g1985 (by decide) (Nat.le_of_ble_eq_true rfl) (fun h2008 W2009 F2010 => ?_)
              have F2011 := Exa.wr W2009 F2000
              have F2012 := F2001.other W2009 ne1987
              have F2013 := Fld.other W2009 F2002 (Or.inl ne1986)
              have F2014 := Fld.other W2009 F2003 (Or.inl ne1986)
              have F2015 := Fld.other W2009 F2004 (Or.inl ne1986)
              have F2016 := Fld.other W2009 F2005 (Or.inl ne1986)
              have F2017 := F2006.other W2009 ne1988
              have F2018 : Av Z h2008 a1980 .int ([.int 0, .int 1, .int 0]) := F2010
              refine C.iinc (Ls' := #[.val (.long x0), .second, .val (.long x1), .second, .val (.long x2), .second, iv x3, iv x4, iv 0, iv f9, iv f10, iv f11, iv f12, rv am, rv as, .val (.long e0), .second, .val (.long e1), .second, .val (.long e2), .second, rv a1980, iv 2]) 1 at_288 rfl rfl rfl rfl ?_
              refine C.lload at_291 rfl rfl ?_
              refine C.lconst 0 at_293 rfl rfl ?_
              refine C.lcmp at_294 rfl ?_
              refine C.lif_eq_t at_295 (by decide) rfl qs1821 ?_
              refine C.aload at_307 rfl rfl rfl ?_
              refine C.callV (argsL := []) (rest := []) 0 (fun zz => au2019_12 l Z a0 hw n0 h2008 zz as ah aw e0 e1 e2 F2011 F2013 F2014 F2015 F2016 F2017 F2012 g693 g695 g694 ne697 ne696 (Ne.symm ne698)) F2011 at_309 rfl (tw hw 57 rfl) (tw hw 58 rfl) (tw hw 59 rfl) (tw hw 60 rfl) (tw hw 5 rfl) (tw hw 61 rfl) (by decide) pd_2 rfl rfl rfl (Nat.le_of_eq rfl) (by decide) (by decide) (by decide) (by decide) (fun v2020 h2021 r2022 => ?_)
              obtain ⟨rfl, rfl⟩ := r2022
              refine C.iload at_312 rfl rfl ?_
              refine C.icmp_eq_t at_314 (by decide) rfl (by decide) ?_
              refine C.iload at_319 rfl rfl ?_
              refine C.if_le_f at_321 rfl (by decide) ?_
              refine C.aload at_324 rfl rfl rfl ?_
              refine C.iconst 0 at_326 rfl rfl ?_
              refine C.callV (argsL := [(.int 0)]) (rest := []) 0 (fun zz => au2024_13 l Z a0 hw n0 h2008 zz as ah aw e0 e1 e2 F2011 F2013 F2014 F2015 F2016 F2017 F2012 g693 g695 g694 ne697 ne696 (Ne.symm ne698)) F2011 at_327 rfl (tw hw 62 rfl) (tw hw 63 rfl) (tw hw 64 rfl) (tw hw 65 rfl) (tw hw 5 rfl) (tw hw 66 rfl) (by decide) pd_3 rfl rfl rfl (Nat.le_of_eq rfl) (by decide) (by decide) (by decide) (by decide) (fun v2025 h2026 r2027 => ?_)
              obtain ⟨rfl, rfl⟩ := r2027
              refine C.aload at_330 rfl rfl rfl ?_
              refine C.iconst 0 at_332 rfl rfl ?_
              refine C.iaload (.int 0) at_333 rfl F2018 (by decide) rfl ?_
              refine C.icmp_eq_t at_334 (by decide) rfl (by decide) ?_
              refine C.iload at_339 rfl rfl ?_
              refine C.iconst 1 at_341 rfl rfl ?_
              refine C.icmp_le_f at_342 rfl (by decide) ?_
              refine C.aload at_345 rfl rfl rfl ?_
              refine C.iconst 1 at_347 rfl rfl ?_
              refine C.callV (argsL := [(.int 1)]) (rest := []) 0 (fun zz => au2029_13 l Z a0 hw n0 h2008 zz as ah aw e0 e1 e2 F2011 F2013 F2014 F2015 F2016 F2017 F2012 g693 g695 g694 ne697 ne696 (Ne.symm ne698)) F2011 at_348 rfl (tw hw 62 rfl) (tw hw 63 rfl) (tw hw 64 rfl) (tw hw 65 rfl) (tw hw 5 rfl) (tw hw 66 rfl) (by decide) pd_3 rfl rfl rfl (Nat.le_of_eq rfl) (by decide) (by decide) (by decide) (by decide) (fun v2030 h2031 r2032 => ?_)
              obtain ⟨rfl, rfl⟩ := r2032
              refine C.aload at_351 rfl rfl rfl ?_
              refine C.iconst 1 at_353 rfl rfl ?_
              refine C.iaload (.int 1) at_354 rfl F2018 (by decide) rfl ?_
              refine C.icmp_eq_t at_355 (by decide) rfl (by decide) ?_
              refine C.iload at_360 rfl rfl ?_
              refine C.iconst 2 at_362 rfl rfl ?_
              refine C.icmp_le_t at_363 (by decide) rfl (by decide) ?_
              refine C.iconst 1 at_381 rfl rfl ?_
              exact C.retZ at_382 rfl (by decide) (by decide) ⟨rfl, trivial⟩
            refine C.callV (argsL := []) (rest := []) 0 (fun zz => au2034_6 l Z a0 hw n0 hJ684 zz as ah aw e0 e1 e2 F686 F690 F688 F689 F687 F692 F691 g693 g695 g694 ne697 ne696 (Ne.symm ne698) qs734 qs1391 qs1821) F686 at_248 rfl (tw hw 33 rfl) (tw hw 34 rfl) (tw hw 35 rfl) (tw hw 36 rfl) (tw hw 5 rfl) (tw hw 37 rfl) (by decide) pd_1 rfl rfl rfl (Nat.le_of_eq rfl) (by decide) (by decide) (by decide) (by decide) (fun v2233 h2234 r2235 => ?_)
            obtain ⟨rfl, K2236, F2237, F2238, F2239, F2240, F2241⟩ := r2235
            have F2242 := F686.keep K2236
            have F2247 := F691.keep K2236 (ninS (Ne.symm ne696) (ninS ne698 nin0))
            refine C.iconst 3 at_251 rfl rfl ?_
            refine C.newarr 3 at_252 rfl rfl (tw hw 16 rfl) (by decide) (by decide) (by decide) (by decide) (by decide) (fun a2249 h2250 z2253 g2254 X2251 F2252 => ?_)
            have ne2255 : as ≠ a2249 := by rw [z2253]; exact Nat.ne_of_lt F2242.lt
            have ne2256 : aw ≠ a2249 := by rw [z2253]; exact Nat.ne_of_lt F2247.lt
            have ne2257 : ah ≠ a2249 := by rw [z2253]; exact Nat.ne_of_lt F2241.lt
            have F2258 := Exa.ext X2251 F2242
            have F2259 := F2247.ext X2251
            have F2260 := Fld.ext X2251 F2237
            have F2261 := Fld.ext X2251 F2238
            have F2262 := Fld.ext X2251 F2239
            have F2263 := Fld.ext X2251 F2240
            have F2264 := F2241.ext X2251
            have F2265 : Av Z h2250 a2249 .int ([.int 0, .int 0, .int 0]) := F2252
            refine C.astore (Ls' := #[.val (.long x0), .second, .val (.long x1), .second, .val (.long x2), .second, iv x3, iv x4, iv 0, iv f9, iv f10, iv f11, iv f12, rv am, rv as, .val (.long e0), .second, .val (.long e1), .second, .val (.long e2), .second, rv a2249, .unset]) at_254 rfl rfl rfl ?_
            refine C.iconst 0 at_256 rfl rfl ?_
            refine C.istore (Ls' := #[.val (.long x0), .second, .val (.long x1), .second, .val (.long x2), .second, iv x3, iv x4, iv 0, iv f9, iv f10, iv f11, iv f12, rv am, rv as, .val (.long e0), .second, .val (.long e1), .second, .val (.long e2), .second, rv a2249, iv 0]) at_257 rfl rfl ?_
            refine C.lload at_259 rfl rfl ?_
            refine C.lconst 0 at_261 rfl rfl ?_
            refine C.lcmp at_262 rfl ?_
            refine C.lif_eq_f at_263 rfl qs734 ?_
            refine C.aload at_266 rfl rfl rfl ?_
            refine C.iload at_268 rfl rfl ?_
            refine C.iconst 0 at_270 rfl rfl ?_
            refine C.iastore at_271 rfl F2265 g2254 (by decide) (Nat.le_of_ble_eq_true rfl) (fun h2266 W2267 F2268 => ?_)
            have F2269 := Exa.wr W2267 F2258
            have F2270 := F2259.other W2267 ne2256
            have F2271 := Fld.other W2267 F2260 (Or.inl ne2255)
            have F2272 := Fld.other W2267 F2261 (Or.inl ne2255)
            have F2273 := Fld.other W2267 F2262 (Or.inl ne2255)
            have F2274 := Fld.other W2267 F2263 (Or.inl ne2255)
            have F2275 := F2264.other W2267 ne2257
            have F2276 : Av Z h2266 a2249 .int ([.int 0, .int 0, .int 0]) := F2268
            refine C.iinc (Ls' := #[.val (.long x0), .second, .val (.long x1), .second, .val (.long x2), .second, iv x3, iv x4, iv 0, iv f9, iv f10, iv f11, iv f12, rv am, rv as, .val (.long e0), .second, .val (.long e1), .second, .val (.long e2), .second, rv a2249, iv 1]) 1 at_272 rfl rfl rfl rfl ?_
            refine C.lload at_275 rfl rfl ?_
            refine C.lconst 0 at_277 rfl rfl ?_
            refine C.lcmp at_278 rfl ?_
            refine C.lif_eq_f at_279 rfl qs1391 ?_
            refine C.aload at_282 rfl rfl rfl ?_
            refine C.iload at_284 rfl rfl ?_
            refine C.iconst 1 at_286 rfl rfl ?_
            refine C.iastore at_287 rfl F2276 g2254 (by decide) (Nat.le_of_ble_eq_true rfl) (fun h2277 W2278 F2279 => ?_)
            have F2280 := Exa.wr W2278 F2269
            have F2281 := F2270.other W2278 ne2256
            have F2282 := Fld.other W2278 F2271 (Or.inl ne2255)
            have F2283 := Fld.other W2278 F2272 (Or.inl ne2255)
            have F2284 := Fld.other W2278 F2273 (Or.inl ne2255)
            have F2285 := Fld.other W2278 F2274 (Or.inl ne2255)
            have F2286 := F2275.other W2278 ne2257
            have F2287 : Av Z h2277 a2249 .int ([.int 0, .int 1, .int 0]) := F2279
            refine C.iinc (Ls' := #[.val (.long x0), .second, .val (.long x1), .second, .val (.long x2), .second, iv x3, iv x4, iv 0, iv f9, iv f10, iv f11, iv f12, rv am, rv as, .val (.long e0), .second, .val (.long e1), .second, .val (.long e2), .second, rv a2249, iv 2]) 1 at_288 rfl rfl rfl rfl ?_
            refine C.lload at_291 rfl rfl ?_
            refine C.lconst 0 at_293 rfl rfl ?_
            refine C.lcmp at_294 rfl ?_
            refine C.lif_eq_f at_295 rfl qs1821 ?_
            refine C.aload at_298 rfl rfl rfl ?_
            refine C.iload at_300 rfl rfl ?_
            refine C.iconst 2 at_302 rfl rfl ?_
            refine C.iastore at_303 rfl F2287 g2254 (by decide) (Nat.le_of_ble_eq_true rfl) (fun h2288 W2289 F2290 => ?_)
            have F2291 := Exa.wr W2289 F2280
            have F2292 := F2281.other W2289 ne2256
            have F2293 := Fld.other W2289 F2282 (Or.inl ne2255)
            have F2294 := Fld.other W2289 F2283 (Or.inl ne2255)
            have F2295 := Fld.other W2289 F2284 (Or.inl ne2255)
            have F2296 := Fld.other W2289 F2285 (Or.inl ne2255)
            have F2297 := F2286.other W2289 ne2257
            have F2298 : Av Z h2288 a2249 .int ([.int 0, .int 1, .int 2]) := F2290
            refine C.iinc (Ls' := #[.val (.long x0), .second, .val (.long x1), .second, .val (.long x2), .second, iv x3, iv x4, iv 0, iv f9, iv f10, iv f11, iv f12, rv am, rv as, .val (.long e0), .second, .val (.long e1), .second, .val (.long e2), .second, rv a2249, iv 3]) 1 at_304 rfl rfl rfl rfl ?_
            refine C.aload at_307 rfl rfl rfl ?_
            refine C.callV (argsL := []) (rest := []) 0 (fun zz => au2299_12 l Z a0 hw n0 h2288 zz as ah aw e0 e1 e2 F2291 F2293 F2294 F2295 F2296 F2297 F2292 g693 g695 g694 ne697 ne696 (Ne.symm ne698)) F2291 at_309 rfl (tw hw 57 rfl) (tw hw 58 rfl) (tw hw 59 rfl) (tw hw 60 rfl) (tw hw 5 rfl) (tw hw 61 rfl) (by decide) pd_2 rfl rfl rfl (Nat.le_of_eq rfl) (by decide) (by decide) (by decide) (by decide) (fun v2300 h2301 r2302 => ?_)
            obtain ⟨rfl, rfl⟩ := r2302
            refine C.iload at_312 rfl rfl ?_
            refine C.icmp_eq_t at_314 (by decide) rfl (by decide) ?_
            refine C.iload at_319 rfl rfl ?_
            refine C.if_le_f at_321 rfl (by decide) ?_
            refine C.aload at_324 rfl rfl rfl ?_
            refine C.iconst 0 at_326 rfl rfl ?_
            refine C.callV (argsL := [(.int 0)]) (rest := []) 0 (fun zz => au2304_13 l Z a0 hw n0 h2288 zz as ah aw e0 e1 e2 F2291 F2293 F2294 F2295 F2296 F2297 F2292 g693 g695 g694 ne697 ne696 (Ne.symm ne698)) F2291 at_327 rfl (tw hw 62 rfl) (tw hw 63 rfl) (tw hw 64 rfl) (tw hw 65 rfl) (tw hw 5 rfl) (tw hw 66 rfl) (by decide) pd_3 rfl rfl rfl (Nat.le_of_eq rfl) (by decide) (by decide) (by decide) (by decide) (fun v2305 h2306 r2307 => ?_)
            obtain ⟨rfl, rfl⟩ := r2307
            refine C.aload at_330 rfl rfl rfl ?_
            refine C.iconst 0 at_332 rfl rfl ?_
            refine C.iaload (.int 0) at_333 rfl F2298 (by decide) rfl ?_
            refine C.icmp_eq_t at_334 (by decide) rfl (by decide) ?_
            refine C.iload at_339 rfl rfl ?_
            refine C.iconst 1 at_341 rfl rfl ?_
            refine C.icmp_le_f at_342 rfl (by decide) ?_
            refine C.aload at_345 rfl rfl rfl ?_
            refine C.iconst 1 at_347 rfl rfl ?_
            refine C.callV (argsL := [(.int 1)]) (rest := []) 0 (fun zz => au2309_13 l Z a0 hw n0 h2288 zz as ah aw e0 e1 e2 F2291 F2293 F2294 F2295 F2296 F2297 F2292 g693 g695 g694 ne697 ne696 (Ne.symm ne698)) F2291 at_348 rfl (tw hw 62 rfl) (tw hw 63 rfl) (tw hw 64 rfl) (tw hw 65 rfl) (tw hw 5 rfl) (tw hw 66 rfl) (by decide) pd_3 rfl rfl rfl (Nat.le_of_eq rfl) (by decide) (by decide) (by decide) (by decide) (fun v2310 h2311 r2312 => ?_)
            obtain ⟨rfl, rfl⟩ := r2312
            refine C.aload at_351 rfl rfl rfl ?_
            refine C.iconst 1 at_353 rfl rfl ?_
            refine C.iaload (.int 1) at_354 rfl F2298 (by decide) rfl ?_
            refine C.icmp_eq_t at_355 (by decide) rfl (by decide) ?_
            refine C.iload at_360 rfl rfl ?_
            refine C.iconst 2 at_362 rfl rfl ?_
            refine C.icmp_le_f at_363 rfl (by decide) ?_
            refine C.aload at_366 rfl rfl rfl ?_
            refine C.iconst 2 at_368 rfl rfl ?_
            refine C.callV (argsL := [(.int 2)]) (rest := []) 0 (fun zz => au2314_13 l Z a0 hw n0 h2288 zz as ah aw e0 e1 e2 F2291 F2293 F2294 F2295 F2296 F2297 F2292 g693 g695 g694 ne697 ne696 (Ne.symm ne698)) F2291 at_369 rfl (tw hw 62 rfl) (tw hw 63 rfl) (tw hw 64 rfl) (tw hw 65 rfl) (tw hw 5 rfl) (tw hw 66 rfl) (by decide) pd_3 rfl rfl rfl (Nat.le_of_eq rfl) (by decide) (by decide) (by decide) (by decide) (fun v2315 h2316 r2317 => ?_)
            obtain ⟨rfl, rfl⟩ := r2317
            refine C.aload at_372 rfl rfl rfl ?_
            refine C.iconst 2 at_374 rfl rfl ?_
            refine C.iaload (.int 2) at_375 rfl F2298 (by decide) rfl ?_
            refine C.icmp_eq_t at_376 (by decide) rfl (by decide) ?_
            refine C.iconst 1 at_381 rfl rfl ?_
            exact C.retZ at_382 rfl (by decide) (by decide) ⟨rfl, trivial⟩
          refine C.if_eq_t at_128 (by decide) rfl (by decide) ?_
          refine C.sipush 192 at_137 rfl rfl ?_
          refine C.callN (argsL := [(.int 192)]) (rest := [(.ref a670)]) 1 (fun zz => au2319_1 l Z a0 hw n0 h671 zz a670 E672 F682 F681 F680 F679 g676) at_140 rfl rfl (tw hw 6 rfl) (tw hw 7 rfl) (tw hw 5 rfl) (tw hw 8 rfl) (by decide) pd_4 rfl rfl rfl (Nat.le_of_eq rfl) (by decide) (by decide) (by decide) (by decide) (fun v2485 h2486 r2487 => ?_)
          obtain ⟨a2488, a2489, rfl, K2490, g2498, gz2499, g2500, gz2501, ne2491, F2492, F2493, F2494, F2495, F2496, F2497⟩ := r2487
          have ne2502 : a639 ≠ a2488 := Nat.ne_of_lt (Nat.lt_of_lt_of_le F678.lt gz2499)
          have ne2503 : a670 ≠ a2488 := Nat.ne_of_lt (Nat.lt_of_lt_of_le E672.lt gz2499)
          have ne2504 : a639 ≠ a2489 := Nat.ne_of_lt (Nat.lt_of_lt_of_le F678.lt gz2501)
          have ne2505 : a670 ≠ a2489 := Nat.ne_of_lt (Nat.lt_of_lt_of_le E672.lt gz2501)
          have F2506 := F678.keep K2490 (ninS ne677 nin0)
          have F2507 := E672.keep K2490
          refine C.astore (Ls' := #[.val (.long x0), .second, .val (.long x1), .second, .val (.long x2), .second, iv x3, iv x4, iv 0, iv f9, iv ((XT.ushr x4 3) &&& 3), iv b11, iv ((x3 &&& 2147483647) % 192), rv a639, rv a670, .unset, .unset, .unset, .unset, .unset, .unset, .unset, .unset]) at_143 rfl rfl rfl ?_
          rcases h11 with q11 | q11
          · rw [q11]
            refine C.iload at_145 rfl rfl ?_
            refine C.if_eq_t at_147 (by decide) rfl (by decide) ?_
            rcases own_four (XT.ushr x4 3) with ql | ql | ql | ql
            · rw [ql]
              refine C.aload at_157 rfl rfl rfl ?_
              refine C.aload at_159 rfl rfl rfl ?_
              refine C.iload at_161 rfl rfl ?_
              refine C.iload at_163 rfl rfl ?_
              refine C.callV (argsL := [(.ref a639), (.int f9), (.int 0)]) (rest := []) 0 (fun zz => con_aw0_0 l Z a0 hw n0 h2486 zz a670 a639 f9 a2489 a2488 0 [.int 0, .int 0, .int 0] vs9 0 0 0 x0 x1 x2 F2507 F2495 F2493 F2494 F2492 F2497 F2496 F2506 g676 g2500 g2498 ne2505 ne2503 (Ne.symm ne2491) (Ne.symm ne677) (Ne.symm ne2504) (Ne.symm ne2502) hj0 hg0 hj1 hg1 hj2 hg2) F2507 at_165 rfl (tw hw 19 rfl) (tw hw 20 rfl) (tw hw 21 rfl) (tw hw 22 rfl) (tw hw 5 rfl) (tw hw 23 rfl) (by decide) pd_5 rfl rfl rfl (Nat.le_of_eq rfl) (by decide) (by decide) (by decide) (by decide) (fun v2512 h2513 r2514 => ?_)
              obtain ⟨rfl, rfl⟩ := r2514
              refine C.iconst 0 at_168 rfl rfl ?_
              refine C.iload at_169 rfl rfl ?_
              refine C.iload at_171 rfl rfl ?_
              refine C.iload at_173 rfl rfl ?_
              refine C.lloadN at_175 rfl rfl ?_
              refine C.callS (argsL := [(.int 0), (.int 0), (.int ((x3 &&& 2147483647) % 192)), (.int 0), (.long x0)]) (rest := []) 0 (fun zz => au2516_4 l Z a0 hw n0 h2486 zz ((x3 &&& 2147483647) % 192) x0 ) at_176 rfl (tw hw 24 rfl) (tw hw 25 rfl) (tw hw 26 rfl) (tw hw 27 rfl) (by decide) pd_6 rfl rfl rfl (Nat.le_of_eq rfl) (by decide) (by decide) (by decide) (by decide) (fun v2517 h2518 r2519 => ?_)
              obtain ⟨rfl, rfl⟩ := r2519
              refine C.lstore (Ls' := #[.val (.long x0), .second, .val (.long x1), .second, .val (.long x2), .second, iv x3, iv x4, iv 0, iv f9, iv 0, iv 0, iv ((x3 &&& 2147483647) % 192), rv a639, rv a670, .val (.long 0), .second, .unset, .unset, .unset, .unset, .unset, .unset]) at_179 rfl rfl ?_
              refine C.iconst 1 at_181 rfl rfl ?_
              refine C.iload at_182 rfl rfl ?_
              refine C.iload at_184 rfl rfl ?_
              refine C.iload at_186 rfl rfl ?_
              refine C.lloadN at_188 rfl rfl ?_
              refine C.callS (argsL := [(.int 1), (.int 0), (.int ((x3 &&& 2147483647) % 192)), (.int 0), (.long x1)]) (rest := []) 0 (fun zz => au2521_4 l Z a0 hw n0 h2486 zz ((x3 &&& 2147483647) % 192) x1 ) at_189 rfl (tw hw 24 rfl) (tw hw 25 rfl) (tw hw 26 rfl) (tw hw 27 rfl) (by decide) pd_6 rfl rfl rfl (Nat.le_of_eq rfl) (by decide) (by decide) (by decide) (by decide) (fun v2522 h2523 r2524 => ?_)
              obtain ⟨rfl, rfl⟩ := r2524
              refine C.lstore (Ls' := #[.val (.long x0), .second, .val (.long x1), .second, .val (.long x2), .second, iv x3, iv x4, iv 0, iv f9, iv 0, iv 0, iv ((x3 &&& 2147483647) % 192), rv a639, rv a670, .val (.long 0), .second, .val (.long 0), .second, .unset, .unset, .unset, .unset]) at_192 rfl rfl ?_
              refine C.iconst 2 at_194 rfl rfl ?_
              refine C.iload at_195 rfl rfl ?_
              refine C.iload at_197 rfl rfl ?_
              refine C.iload at_199 rfl rfl ?_
              refine C.lload at_201 rfl rfl ?_
              refine C.callS (argsL := [(.int 2), (.int 0), (.int ((x3 &&& 2147483647) % 192)), (.int 0), (.long x2)]) (rest := []) 0 (fun zz => au2526_4 l Z a0 hw n0 h2486 zz ((x3 &&& 2147483647) % 192) x2 ) at_203 rfl (tw hw 24 rfl) (tw hw 25 rfl) (tw hw 26 rfl) (tw hw 27 rfl) (by decide) pd_6 rfl rfl rfl (Nat.le_of_eq rfl) (by decide) (by decide) (by decide) (by decide) (fun v2527 h2528 r2529 => ?_)
              obtain ⟨rfl, rfl⟩ := r2529
              refine C.lstore (Ls' := #[.val (.long x0), .second, .val (.long x1), .second, .val (.long x2), .second, iv x3, iv x4, iv 0, iv f9, iv 0, iv 0, iv ((x3 &&& 2147483647) % 192), rv a639, rv a670, .val (.long 0), .second, .val (.long 0), .second, .val (.long 0), .second, .unset, .unset]) at_206 rfl rfl ?_
              exact J208_683 h2486 f9 0 0 ((x3 &&& 2147483647) % 192) a639 a670 a2489 a2488 0 0 0 g676 g2500 g2498 ne2505 ne2503 (Ne.symm ne2491) F2507 F2495 F2493 F2494 F2492 F2497 F2496
            · rw [ql]
              refine C.aload at_157 rfl rfl rfl ?_
              refine C.aload at_159 rfl rfl rfl ?_
              refine C.iload at_161 rfl rfl ?_
              refine C.iload at_163 rfl rfl ?_
              refine C.callV (argsL := [(.ref a639), (.int f9), (.int 1)]) (rest := []) 0 (fun zz => con_aw0_1 l Z a0 hw n0 h2486 zz a670 a639 f9 a2489 a2488 0 [.int 0, .int 0, .int 0] vs9 0 0 0 x0 x1 x2 F2507 F2495 F2493 F2494 F2492 F2497 F2496 F2506 g676 g2500 g2498 ne2505 ne2503 (Ne.symm ne2491) (Ne.symm ne677) (Ne.symm ne2504) (Ne.symm ne2502) hj0 hg0 hj1 hg1 hj2 hg2) F2507 at_165 rfl (tw hw 19 rfl) (tw hw 20 rfl) (tw hw 21 rfl) (tw hw 22 rfl) (tw hw 5 rfl) (tw hw 23 rfl) (by decide) pd_5 rfl rfl rfl (Nat.le_of_eq rfl) (by decide) (by decide) (by decide) (by decide) (fun v2531 h2532 r2533 => ?_)
              obtain ⟨rfl, K2534, F2535⟩ := r2533
              have F2536 := F2506.keep K2534 (ninS ne2504 nin0)
              have F2537 := F2507.keep K2534
              have F2538 := F2492.keep K2534 (ninS ne2505 nin0)
              have F2539 := F2493.keep K2534 (ninS ne2505 nin0)
              have F2540 := F2494.keep K2534 (ninS ne2505 nin0)
              have F2541 := F2495.keep K2534 (ninS ne2505 nin0)
              have F2542 := F2496.keep K2534 (ninS ne2491 nin0)
              have F2544 : Av Z h2532 a2489 .long ([.long x0, .long 0, .long 0]) := by have q := F2535; simp only [Int64.zero_or] at q; exact q
              refine C.iconst 0 at_168 rfl rfl ?_
              refine C.iload at_169 rfl rfl ?_
              refine C.iload at_171 rfl rfl ?_
              refine C.iload at_173 rfl rfl ?_
              refine C.lloadN at_175 rfl rfl ?_
              refine C.callS (argsL := [(.int 0), (.int 0), (.int ((x3 &&& 2147483647) % 192)), (.int 1), (.long x0)]) (rest := []) 0 (fun zz => au2545_4 l Z a0 hw n0 h2532 zz ((x3 &&& 2147483647) % 192) x0 ) at_176 rfl (tw hw 24 rfl) (tw hw 25 rfl) (tw hw 26 rfl) (tw hw 27 rfl) (by decide) pd_6 rfl rfl rfl (Nat.le_of_eq rfl) (by decide) (by decide) (by decide) (by decide) (fun v2546 h2547 r2548 => ?_)
              obtain ⟨rfl, rfl⟩ := r2548
              refine C.lstore (Ls' := #[.val (.long x0), .second, .val (.long x1), .second, .val (.long x2), .second, iv x3, iv x4, iv 0, iv f9, iv 1, iv 0, iv ((x3 &&& 2147483647) % 192), rv a639, rv a670, .val (.long x0), .second, .unset, .unset, .unset, .unset, .unset, .unset]) at_179 rfl rfl ?_
              refine C.iconst 1 at_181 rfl rfl ?_
              refine C.iload at_182 rfl rfl ?_
              refine C.iload at_184 rfl rfl ?_
              refine C.iload at_186 rfl rfl ?_
              refine C.lloadN at_188 rfl rfl ?_
              refine C.callS (argsL := [(.int 1), (.int 0), (.int ((x3 &&& 2147483647) % 192)), (.int 1), (.long x1)]) (rest := []) 0 (fun zz => au2550_4 l Z a0 hw n0 h2532 zz ((x3 &&& 2147483647) % 192) x1 ) at_189 rfl (tw hw 24 rfl) (tw hw 25 rfl) (tw hw 26 rfl) (tw hw 27 rfl) (by decide) pd_6 rfl rfl rfl (Nat.le_of_eq rfl) (by decide) (by decide) (by decide) (by decide) (fun v2551 h2552 r2553 => ?_)
              obtain ⟨rfl, rfl⟩ := r2553
              refine C.lstore (Ls' := #[.val (.long x0), .second, .val (.long x1), .second, .val (.long x2), .second, iv x3, iv x4, iv 0, iv f9, iv 1, iv 0, iv ((x3 &&& 2147483647) % 192), rv a639, rv a670, .val (.long x0), .second, .val (.long 0), .second, .unset, .unset, .unset, .unset]) at_192 rfl rfl ?_
              refine C.iconst 2 at_194 rfl rfl ?_
              refine C.iload at_195 rfl rfl ?_
              refine C.iload at_197 rfl rfl ?_
              refine C.iload at_199 rfl rfl ?_
              refine C.lload at_201 rfl rfl ?_
              refine C.callS (argsL := [(.int 2), (.int 0), (.int ((x3 &&& 2147483647) % 192)), (.int 1), (.long x2)]) (rest := []) 0 (fun zz => au2555_4 l Z a0 hw n0 h2532 zz ((x3 &&& 2147483647) % 192) x2 ) at_203 rfl (tw hw 24 rfl) (tw hw 25 rfl) (tw hw 26 rfl) (tw hw 27 rfl) (by decide) pd_6 rfl rfl rfl (Nat.le_of_eq rfl) (by decide) (by decide) (by decide) (by decide) (fun v2556 h2557 r2558 => ?_)
              obtain ⟨rfl, rfl⟩ := r2558
              refine C.lstore (Ls' := #[.val (.long x0), .second, .val (.long x1), .second, .val (.long x2), .second, iv x3, iv x4, iv 0, iv f9, iv 1, iv 0, iv ((x3 &&& 2147483647) % 192), rv a639, rv a670, .val (.long x0), .second, .val (.long 0), .second, .val (.long 0), .second, .unset, .unset]) at_206 rfl rfl ?_
              exact J208_683 h2532 f9 1 0 ((x3 &&& 2147483647) % 192) a639 a670 a2489 a2488 x0 0 0 g676 g2500 g2498 ne2505 ne2503 (Ne.symm ne2491) F2537 F2541 F2539 F2540 F2538 F2544 F2542
            · rw [ql]
              refine C.aload at_157 rfl rfl rfl ?_
              refine C.aload at_159 rfl rfl rfl ?_
              refine C.iload at_161 rfl rfl ?_
              refine C.iload at_163 rfl rfl ?_
              refine C.callV (argsL := [(.ref a639), (.int f9), (.int 2)]) (rest := []) 0 (fun zz => con_aw0_2 l Z a0 hw n0 h2486 zz a670 a639 f9 a2489 a2488 0 [.int 0, .int 0, .int 0] vs9 0 0 0 x0 x1 x2 F2507 F2495 F2493 F2494 F2492 F2497 F2496 F2506 g676 g2500 g2498 ne2505 ne2503 (Ne.symm ne2491) (Ne.symm ne677) (Ne.symm ne2504) (Ne.symm ne2502) hj0 hg0 hj1 hg1 hj2 hg2) F2507 at_165 rfl (tw hw 19 rfl) (tw hw 20 rfl) (tw hw 21 rfl) (tw hw 22 rfl) (tw hw 5 rfl) (tw hw 23 rfl) (by decide) pd_5 rfl rfl rfl (Nat.le_of_eq rfl) (by decide) (by decide) (by decide) (by decide) (fun v2560 h2561 r2562 => ?_)
              obtain ⟨rfl, K2563, F2564⟩ := r2562
              have F2565 := F2506.keep K2563 (ninS ne2504 nin0)
              have F2566 := F2507.keep K2563
              have F2567 := F2492.keep K2563 (ninS ne2505 nin0)
              have F2568 := F2493.keep K2563 (ninS ne2505 nin0)
              have F2569 := F2494.keep K2563 (ninS ne2505 nin0)
              have F2570 := F2495.keep K2563 (ninS ne2505 nin0)
              have F2571 := F2496.keep K2563 (ninS ne2491 nin0)
              have F2573 : Av Z h2561 a2489 .long ([.long x0, .long x1, .long 0]) := by have q := F2564; simp only [Int64.zero_or] at q; exact q
              refine C.iconst 0 at_168 rfl rfl ?_
              refine C.iload at_169 rfl rfl ?_
              refine C.iload at_171 rfl rfl ?_
              refine C.iload at_173 rfl rfl ?_
              refine C.lloadN at_175 rfl rfl ?_
              refine C.callS (argsL := [(.int 0), (.int 0), (.int ((x3 &&& 2147483647) % 192)), (.int 2), (.long x0)]) (rest := []) 0 (fun zz => au2574_4 l Z a0 hw n0 h2561 zz ((x3 &&& 2147483647) % 192) x0 ) at_176 rfl (tw hw 24 rfl) (tw hw 25 rfl) (tw hw 26 rfl) (tw hw 27 rfl) (by decide) pd_6 rfl rfl rfl (Nat.le_of_eq rfl) (by decide) (by decide) (by decide) (by decide) (fun v2575 h2576 r2577 => ?_)
              obtain ⟨rfl, rfl⟩ := r2577
              refine C.lstore (Ls' := #[.val (.long x0), .second, .val (.long x1), .second, .val (.long x2), .second, iv x3, iv x4, iv 0, iv f9, iv 2, iv 0, iv ((x3 &&& 2147483647) % 192), rv a639, rv a670, .val (.long x0), .second, .unset, .unset, .unset, .unset, .unset, .unset]) at_179 rfl rfl ?_
              refine C.iconst 1 at_181 rfl rfl ?_
              refine C.iload at_182 rfl rfl ?_
              refine C.iload at_184 rfl rfl ?_
              refine C.iload at_186 rfl rfl ?_
              refine C.lloadN at_188 rfl rfl ?_
              refine C.callS (argsL := [(.int 1), (.int 0), (.int ((x3 &&& 2147483647) % 192)), (.int 2), (.long x1)]) (rest := []) 0 (fun zz => au2579_4 l Z a0 hw n0 h2561 zz ((x3 &&& 2147483647) % 192) x1 ) at_189 rfl (tw hw 24 rfl) (tw hw 25 rfl) (tw hw 26 rfl) (tw hw 27 rfl) (by decide) pd_6 rfl rfl rfl (Nat.le_of_eq rfl) (by decide) (by decide) (by decide) (by decide) (fun v2580 h2581 r2582 => ?_)
              obtain ⟨rfl, rfl⟩ := r2582
              refine C.lstore (Ls' := #[.val (.long x0), .second, .val (.long x1), .second, .val (.long x2), .second, iv x3, iv x4, iv 0, iv f9, iv 2, iv 0, iv ((x3 &&& 2147483647) % 192), rv a639, rv a670, .val (.long x0), .second, .val (.long x1), .second, .unset, .unset, .unset, .unset]) at_192 rfl rfl ?_
              refine C.iconst 2 at_194 rfl rfl ?_
              refine C.iload at_195 rfl rfl ?_
              refine C.iload at_197 rfl rfl ?_
              refine C.iload at_199 rfl rfl ?_
              refine C.lload at_201 rfl rfl ?_
              refine C.callS (argsL := [(.int 2), (.int 0), (.int ((x3 &&& 2147483647) % 192)), (.int 2), (.long x2)]) (rest := []) 0 (fun zz => au2584_4 l Z a0 hw n0 h2561 zz ((x3 &&& 2147483647) % 192) x2 ) at_203 rfl (tw hw 24 rfl) (tw hw 25 rfl) (tw hw 26 rfl) (tw hw 27 rfl) (by decide) pd_6 rfl rfl rfl (Nat.le_of_eq rfl) (by decide) (by decide) (by decide) (by decide) (fun v2585 h2586 r2587 => ?_)
              obtain ⟨rfl, rfl⟩ := r2587
              refine C.lstore (Ls' := #[.val (.long x0), .second, .val (.long x1), .second, .val (.long x2), .second, iv x3, iv x4, iv 0, iv f9, iv 2, iv 0, iv ((x3 &&& 2147483647) % 192), rv a639, rv a670, .val (.long x0), .second, .val (.long x1), .second, .val (.long 0), .second, .unset, .unset]) at_206 rfl rfl ?_
              exact J208_683 h2561 f9 2 0 ((x3 &&& 2147483647) % 192) a639 a670 a2489 a2488 x0 x1 0 g676 g2500 g2498 ne2505 ne2503 (Ne.symm ne2491) F2566 F2570 F2568 F2569 F2567 F2573 F2571
            rw [ql]
            refine C.aload at_157 rfl rfl rfl ?_
            refine C.aload at_159 rfl rfl rfl ?_
            refine C.iload at_161 rfl rfl ?_
            refine C.iload at_163 rfl rfl ?_
            refine C.callV (argsL := [(.ref a639), (.int f9), (.int 3)]) (rest := []) 0 (fun zz => con_aw0_3 l Z a0 hw n0 h2486 zz a670 a639 f9 a2489 a2488 0 [.int 0, .int 0, .int 0] vs9 0 0 0 x0 x1 x2 F2507 F2495 F2493 F2494 F2492 F2497 F2496 F2506 g676 g2500 g2498 ne2505 ne2503 (Ne.symm ne2491) (Ne.symm ne677) (Ne.symm ne2504) (Ne.symm ne2502) hj0 hg0 hj1 hg1 hj2 hg2) F2507 at_165 rfl (tw hw 19 rfl) (tw hw 20 rfl) (tw hw 21 rfl) (tw hw 22 rfl) (tw hw 5 rfl) (tw hw 23 rfl) (by decide) pd_5 rfl rfl rfl (Nat.le_of_eq rfl) (by decide) (by decide) (by decide) (by decide) (fun v2589 h2590 r2591 => ?_)
            obtain ⟨rfl, K2592, F2593⟩ := r2591
            have F2594 := F2506.keep K2592 (ninS ne2504 nin0)
            have F2595 := F2507.keep K2592
            have F2596 := F2492.keep K2592 (ninS ne2505 nin0)
            have F2597 := F2493.keep K2592 (ninS ne2505 nin0)
            have F2598 := F2494.keep K2592 (ninS ne2505 nin0)
            have F2599 := F2495.keep K2592 (ninS ne2505 nin0)
            have F2600 := F2496.keep K2592 (ninS ne2491 nin0)
            have F2602 : Av Z h2590 a2489 .long ([.long x0, .long x1, .long x2]) := by have q := F2593; simp only [Int64.zero_or] at q; exact q
            refine C.iconst 0 at_168 rfl rfl ?_
            refine C.iload at_169 rfl rfl ?_
            refine C.iload at_171 rfl rfl ?_
            refine C.iload at_173 rfl rfl ?_
            refine C.lloadN at_175 rfl rfl ?_
            refine C.callS (argsL := [(.int 0), (.int 0), (.int ((x3 &&& 2147483647) % 192)), (.int 3), (.long x0)]) (rest := []) 0 (fun zz => au2603_4 l Z a0 hw n0 h2590 zz ((x3 &&& 2147483647) % 192) x0 ) at_176 rfl (tw hw 24 rfl) (tw hw 25 rfl) (tw hw 26 rfl) (tw hw 27 rfl) (by decide) pd_6 rfl rfl rfl (Nat.le_of_eq rfl) (by decide) (by decide) (by decide) (by decide) (fun v2604 h2605 r2606 => ?_)
            obtain ⟨rfl, rfl⟩ := r2606
            refine C.lstore (Ls' := #[.val (.long x0), .second, .val (.long x1), .second, .val (.long x2), .second, iv x3, iv x4, iv 0, iv f9, iv 3, iv 0, iv ((x3 &&& 2147483647) % 192), rv a639, rv a670, .val (.long x0), .second, .unset, .unset, .unset, .unset, .unset, .unset]) at_179 rfl rfl ?_
            refine C.iconst 1 at_181 rfl rfl ?_
            refine C.iload at_182 rfl rfl ?_
            refine C.iload at_184 rfl rfl ?_
            refine C.iload at_186 rfl rfl ?_
            refine C.lloadN at_188 rfl rfl ?_
            refine C.callS (argsL := [(.int 1), (.int 0), (.int ((x3 &&& 2147483647) % 192)), (.int 3), (.long x1)]) (rest := []) 0 (fun zz => au2608_4 l Z a0 hw n0 h2590 zz ((x3 &&& 2147483647) % 192) x1 ) at_189 rfl (tw hw 24 rfl) (tw hw 25 rfl) (tw hw 26 rfl) (tw hw 27 rfl) (by decide) pd_6 rfl rfl rfl (Nat.le_of_eq rfl) (by decide) (by decide) (by decide) (by decide) (fun v2609 h2610 r2611 => ?_)
            obtain ⟨rfl, rfl⟩ := r2611
            refine C.lstore (Ls' := #[.val (.long x0), .second, .val (.long x1), .second, .val (.long x2), .second, iv x3, iv x4, iv 0, iv f9, iv 3, iv 0, iv ((x3 &&& 2147483647) % 192), rv a639, rv a670, .val (.long x0), .second, .val (.long x1), .second, .unset, .unset, .unset, .unset]) at_192 rfl rfl ?_
            refine C.iconst 2 at_194 rfl rfl ?_
            refine C.iload at_195 rfl rfl ?_
            refine C.iload at_197 rfl rfl ?_
            refine C.iload at_199 rfl rfl ?_
            refine C.lload at_201 rfl rfl ?_
            refine C.callS (argsL := [(.int 2), (.int 0), (.int ((x3 &&& 2147483647) % 192)), (.int 3), (.long x2)]) (rest := []) 0 (fun zz => au2613_4 l Z a0 hw n0 h2590 zz ((x3 &&& 2147483647) % 192) x2 ) at_203 rfl (tw hw 24 rfl) (tw hw 25 rfl) (tw hw 26 rfl) (tw hw 27 rfl) (by decide) pd_6 rfl rfl rfl (Nat.le_of_eq rfl) (by decide) (by decide) (by decide) (by decide) (fun v2614 h2615 r2616 => ?_)
            obtain ⟨rfl, rfl⟩ := r2616
            refine C.lstore (Ls' := #[.val (.long x0), .second, .val (.long x1), .second, .val (.long x2), .second, iv x3, iv x4, iv 0, iv f9, iv 3, iv 0, iv ((x3 &&& 2147483647) % 192), rv a639, rv a670, .val (.long x0), .second, .val (.long x1), .second, .val (.long x2), .second, .unset, .unset]) at_206 rfl rfl ?_
            exact J208_683 h2590 f9 3 0 ((x3 &&& 2147483647) % 192) a639 a670 a2489 a2488 x0 x1 x2 g676 g2500 g2498 ne2505 ne2503 (Ne.symm ne2491) F2595 F2599 F2597 F2598 F2596 F2602 F2600
          rw [q11]
          refine C.iload at_145 rfl rfl ?_
          refine C.if_eq_f at_147 rfl (by decide) ?_
          have hp := own_p x3
          generalize ((x3 &&& 2147483647) % 192) = p9 at hp ⊢
          rcases hp with ⟨e1, e2⟩ | ⟨e1, e2⟩ | ⟨e1, e2⟩
          · obtain ⟨bb, hb1⟩ : ∃ z : Int64, (1 : Int64) <<< (Int32.toInt64 p9 &&& 63) = z := ⟨_, rfl⟩
            have hb2 : (1 : Int64) <<< (Int32.toInt64 (p9 &&& 63) &&& 63) = bb := by rw [own_sh, hb1]
            have hb0 : ¬ bb = 0 := hb1 ▸ own_bit p9
            refine C.aload at_150 rfl rfl rfl ?_
            refine C.iload at_152 rfl rfl ?_
            refine C.callV (argsL := [(.int p9)]) (rest := []) 0 (fun zz => au2618_14 l Z a0 hw n0 h2486 zz a670 p9 a2488 a2489 F2507 F2492 F2493 F2494 F2495 F2496 F2497 g676 g2498 g2500 ne2503 ne2505 ne2491 e1 e2) F2507 at_154 rfl (tw hw 67 rfl) (tw hw 68 rfl) (tw hw 69 rfl) (tw hw 70 rfl) (tw hw 5 rfl) (tw hw 71 rfl) (by decide) pd_4 rfl rfl rfl (Nat.le_of_eq rfl) (by decide) (by decide) (by decide) (by decide) (fun v2649 h2650 r2651 => ?_)
            obtain ⟨rfl, K2652, F2653⟩ := r2651
            have F2654 := F2506.keep K2652 (ninS ne2504 nin0)
            have F2655 := F2507.keep K2652
            have F2656 := F2492.keep K2652 (ninS ne2505 nin0)
            have F2657 := F2493.keep K2652 (ninS ne2505 nin0)
            have F2658 := F2494.keep K2652 (ninS ne2505 nin0)
            have F2659 := F2495.keep K2652 (ninS ne2505 nin0)
            have F2660 := F2496.keep K2652 (ninS ne2491 nin0)
            have F2662 : Av Z h2650 a2489 .long ([.long bb, .long 0, .long 0]) := by have q := F2653; rw [hb1] at q; exact q
            rcases own_four (XT.ushr x4 3) with ql | ql | ql | ql
            · rw [ql]
              refine C.aload at_157 rfl rfl rfl ?_
              refine C.aload at_159 rfl rfl rfl ?_
              refine C.iload at_161 rfl rfl ?_
              refine C.iload at_163 rfl rfl ?_
              refine C.callV (argsL := [(.ref a639), (.int f9), (.int 0)]) (rest := []) 0 (fun zz => con_aw0_0 l Z a0 hw n0 h2650 zz a670 a639 f9 a2489 a2488 0 [.int 0, .int 0, .int 0] vs9 bb 0 0 x0 x1 x2 F2655 F2659 F2657 F2658 F2656 F2662 F2660 F2654 g676 g2500 g2498 ne2505 ne2503 (Ne.symm ne2491) (Ne.symm ne677) (Ne.symm ne2504) (Ne.symm ne2502) hj0 hg0 hj1 hg1 hj2 hg2) F2655 at_165 rfl (tw hw 19 rfl) (tw hw 20 rfl) (tw hw 21 rfl) (tw hw 22 rfl) (tw hw 5 rfl) (tw hw 23 rfl) (by decide) pd_5 rfl rfl rfl (Nat.le_of_eq rfl) (by decide) (by decide) (by decide) (by decide) (fun v2663 h2664 r2665 => ?_)
              obtain ⟨rfl, rfl⟩ := r2665
              refine C.iconst 0 at_168 rfl rfl ?_
              refine C.iload at_169 rfl rfl ?_
              refine C.iload at_171 rfl rfl ?_
              refine C.iload at_173 rfl rfl ?_
              refine C.lloadN at_175 rfl rfl ?_
              refine C.callS (argsL := [(.int 0), (.int 1), (.int p9), (.int 0), (.long x0)]) (rest := []) 0 (fun zz => au2667_4 l Z a0 hw n0 h2650 zz p9 x0 e1 e2) at_176 rfl (tw hw 24 rfl) (tw hw 25 rfl) (tw hw 26 rfl) (tw hw 27 rfl) (by decide) pd_6 rfl rfl rfl (Nat.le_of_eq rfl) (by decide) (by decide) (by decide) (by decide) (fun v2668 h2669 r2670 => ?_)
              obtain ⟨rfl, rfl⟩ := r2670
              rw [hb2]
              refine C.lstore (Ls' := #[.val (.long x0), .second, .val (.long x1), .second, .val (.long x2), .second, iv x3, iv x4, iv 0, iv f9, iv 0, iv 1, iv p9, rv a639, rv a670, .val (.long bb), .second, .unset, .unset, .unset, .unset, .unset, .unset]) at_179 rfl rfl ?_
              refine C.iconst 1 at_181 rfl rfl ?_
              refine C.iload at_182 rfl rfl ?_
              refine C.iload at_184 rfl rfl ?_
              refine C.iload at_186 rfl rfl ?_
              refine C.lloadN at_188 rfl rfl ?_
              refine C.callS (argsL := [(.int 1), (.int 1), (.int p9), (.int 0), (.long x1)]) (rest := []) 0 (fun zz => au2672_4 l Z a0 hw n0 h2650 zz p9 x1 e1 e2) at_189 rfl (tw hw 24 rfl) (tw hw 25 rfl) (tw hw 26 rfl) (tw hw 27 rfl) (by decide) pd_6 rfl rfl rfl (Nat.le_of_eq rfl) (by decide) (by decide) (by decide) (by decide) (fun v2673 h2674 r2675 => ?_)
              obtain ⟨rfl, rfl⟩ := r2675
              refine C.lstore (Ls' := #[.val (.long x0), .second, .val (.long x1), .second, .val (.long x2), .second, iv x3, iv x4, iv 0, iv f9, iv 0, iv 1, iv p9, rv a639, rv a670, .val (.long bb), .second, .val (.long 0), .second, .unset, .unset, .unset, .unset]) at_192 rfl rfl ?_
              refine C.iconst 2 at_194 rfl rfl ?_
              refine C.iload at_195 rfl rfl ?_
              refine C.iload at_197 rfl rfl ?_
              refine C.iload at_199 rfl rfl ?_
              refine C.lload at_201 rfl rfl ?_
              refine C.callS (argsL := [(.int 2), (.int 1), (.int p9), (.int 0), (.long x2)]) (rest := []) 0 (fun zz => au2677_4 l Z a0 hw n0 h2650 zz p9 x2 e1 e2) at_203 rfl (tw hw 24 rfl) (tw hw 25 rfl) (tw hw 26 rfl) (tw hw 27 rfl) (by decide) pd_6 rfl rfl rfl (Nat.le_of_eq rfl) (by decide) (by decide) (by decide) (by decide) (fun v2678 h2679 r2680 => ?_)
              obtain ⟨rfl, rfl⟩ := r2680
              refine C.lstore (Ls' := #[.val (.long x0), .second, .val (.long x1), .second, .val (.long x2), .second, iv x3, iv x4, iv 0, iv f9, iv 0, iv 1, iv p9, rv a639, rv a670, .val (.long bb), .second, .val (.long 0), .second, .val (.long 0), .second, .unset, .unset]) at_206 rfl rfl ?_
              exact J208_683 h2650 f9 0 1 p9 a639 a670 a2489 a2488 bb 0 0 g676 g2500 g2498 ne2505 ne2503 (Ne.symm ne2491) F2655 F2659 F2657 F2658 F2656 F2662 F2660
            · rw [ql]
              refine C.aload at_157 rfl rfl rfl ?_
              refine C.aload at_159 rfl rfl rfl ?_
              refine C.iload at_161 rfl rfl ?_
              refine C.iload at_163 rfl rfl ?_
              refine C.callV (argsL := [(.ref a639), (.int f9), (.int 1)]) (rest := []) 0 (fun zz => con_aw0_1 l Z a0 hw n0 h2650 zz a670 a639 f9 a2489 a2488 0 [.int 0, .int 0, .int 0] vs9 bb 0 0 x0 x1 x2 F2655 F2659 F2657 F2658 F2656 F2662 F2660 F2654 g676 g2500 g2498 ne2505 ne2503 (Ne.symm ne2491) (Ne.symm ne677) (Ne.symm ne2504) (Ne.symm ne2502) hj0 hg0 hj1 hg1 hj2 hg2) F2655 at_165 rfl (tw hw 19 rfl) (tw hw 20 rfl) (tw hw 21 rfl) (tw hw 22 rfl) (tw hw 5 rfl) (tw hw 23 rfl) (by decide) pd_5 rfl rfl rfl (Nat.le_of_eq rfl) (by decide) (by decide) (by decide) (by decide) (fun v2682 h2683 r2684 => ?_)
              obtain ⟨rfl, K2685, F2686⟩ := r2684
              have F2687 := F2654.keep K2685 (ninS ne2504 nin0)
              have F2688 := F2655.keep K2685
              have F2689 := F2656.keep K2685 (ninS ne2505 nin0)
              have F2690 := F2657.keep K2685 (ninS ne2505 nin0)
              have F2691 := F2658.keep K2685 (ninS ne2505 nin0)
              have F2692 := F2659.keep K2685 (ninS ne2505 nin0)
              have F2693 := F2660.keep K2685 (ninS ne2491 nin0)
              refine C.iconst 0 at_168 rfl rfl ?_
              refine C.iload at_169 rfl rfl ?_
              refine C.iload at_171 rfl rfl ?_
              refine C.iload at_173 rfl rfl ?_
              refine C.lloadN at_175 rfl rfl ?_
              refine C.callS (argsL := [(.int 0), (.int 1), (.int p9), (.int 1), (.long x0)]) (rest := []) 0 (fun zz => au2695_4 l Z a0 hw n0 h2683 zz p9 x0 e1 e2) at_176 rfl (tw hw 24 rfl) (tw hw 25 rfl) (tw hw 26 rfl) (tw hw 27 rfl) (by decide) pd_6 rfl rfl rfl (Nat.le_of_eq rfl) (by decide) (by decide) (by decide) (by decide) (fun v2696 h2697 r2698 => ?_)
              obtain ⟨rfl, rfl⟩ := r2698
              rw [hb2]
              refine C.lstore (Ls' := #[.val (.long x0), .second, .val (.long x1), .second, .val (.long x2), .second, iv x3, iv x4, iv 0, iv f9, iv 1, iv 1, iv p9, rv a639, rv a670, .val (.long (bb ||| x0)), .second, .unset, .unset, .unset, .unset, .unset, .unset]) at_179 rfl rfl ?_
              refine C.iconst 1 at_181 rfl rfl ?_
              refine C.iload at_182 rfl rfl ?_
              refine C.iload at_184 rfl rfl ?_
              refine C.iload at_186 rfl rfl ?_
              refine C.lloadN at_188 rfl rfl ?_
              refine C.callS (argsL := [(.int 1), (.int 1), (.int p9), (.int 1), (.long x1)]) (rest := []) 0 (fun zz => au2700_4 l Z a0 hw n0 h2683 zz p9 x1 e1 e2) at_189 rfl (tw hw 24 rfl) (tw hw 25 rfl) (tw hw 26 rfl) (tw hw 27 rfl) (by decide) pd_6 rfl rfl rfl (Nat.le_of_eq rfl) (by decide) (by decide) (by decide) (by decide) (fun v2701 h2702 r2703 => ?_)
              obtain ⟨rfl, rfl⟩ := r2703
              refine C.lstore (Ls' := #[.val (.long x0), .second, .val (.long x1), .second, .val (.long x2), .second, iv x3, iv x4, iv 0, iv f9, iv 1, iv 1, iv p9, rv a639, rv a670, .val (.long (bb ||| x0)), .second, .val (.long 0), .second, .unset, .unset, .unset, .unset]) at_192 rfl rfl ?_
              refine C.iconst 2 at_194 rfl rfl ?_
              refine C.iload at_195 rfl rfl ?_
              refine C.iload at_197 rfl rfl ?_
              refine C.iload at_199 rfl rfl ?_
              refine C.lload at_201 rfl rfl ?_
              refine C.callS (argsL := [(.int 2), (.int 1), (.int p9), (.int 1), (.long x2)]) (rest := []) 0 (fun zz => au2705_4 l Z a0 hw n0 h2683 zz p9 x2 e1 e2) at_203 rfl (tw hw 24 rfl) (tw hw 25 rfl) (tw hw 26 rfl) (tw hw 27 rfl) (by decide) pd_6 rfl rfl rfl (Nat.le_of_eq rfl) (by decide) (by decide) (by decide) (by decide) (fun v2706 h2707 r2708 => ?_)
              obtain ⟨rfl, rfl⟩ := r2708
              refine C.lstore (Ls' := #[.val (.long x0), .second, .val (.long x1), .second, .val (.long x2), .second, iv x3, iv x4, iv 0, iv f9, iv 1, iv 1, iv p9, rv a639, rv a670, .val (.long (bb ||| x0)), .second, .val (.long 0), .second, .val (.long 0), .second, .unset, .unset]) at_206 rfl rfl ?_
              exact J208_683 h2683 f9 1 1 p9 a639 a670 a2489 a2488 (bb ||| x0) 0 0 g676 g2500 g2498 ne2505 ne2503 (Ne.symm ne2491) F2688 F2692 F2690 F2691 F2689 F2686 F2693
            · rw [ql]
              refine C.aload at_157 rfl rfl rfl ?_
              refine C.aload at_159 rfl rfl rfl ?_
              refine C.iload at_161 rfl rfl ?_
              refine C.iload at_163 rfl rfl ?_
              refine C.callV (argsL := [(.ref a639), (.int f9), (.int 2)]) (rest := []) 0 (fun zz => con_aw0_2 l Z a0 hw n0 h2650 zz a670 a639 f9 a2489 a2488 0 [.int 0, .int 0, .int 0] vs9 bb 0 0 x0 x1 x2 F2655 F2659 F2657 F2658 F2656 F2662 F2660 F2654 g676 g2500 g2498 ne2505 ne2503 (Ne.symm ne2491) (Ne.symm ne677) (Ne.symm ne2504) (Ne.symm ne2502) hj0 hg0 hj1 hg1 hj2 hg2) F2655 at_165 rfl (tw hw 19 rfl) (tw hw 20 rfl) (tw hw 21 rfl) (tw hw 22 rfl) (tw hw 5 rfl) (tw hw 23 rfl) (by decide) pd_5 rfl rfl rfl (Nat.le_of_eq rfl) (by decide) (by decide) (by decide) (by decide) (fun v2710 h2711 r2712 => ?_)
              obtain ⟨rfl, K2713, F2714⟩ := r2712
              have F2715 := F2654.keep K2713 (ninS ne2504 nin0)
              have F2716 := F2655.keep K2713
              have F2717 := F2656.keep K2713 (ninS ne2505 nin0)
              have F2718 := F2657.keep K2713 (ninS ne2505 nin0)
              have F2719 := F2658.keep K2713 (ninS ne2505 nin0)
              have F2720 := F2659.keep K2713 (ninS ne2505 nin0)
              have F2721 := F2660.keep K2713 (ninS ne2491 nin0)
              have F2723 : Av Z h2711 a2489 .long ([.long (bb ||| x0), .long x1, .long 0]) := by have q := F2714; simp only [Int64.zero_or] at q; exact q
              refine C.iconst 0 at_168 rfl rfl ?_
              refine C.iload at_169 rfl rfl ?_
              refine C.iload at_171 rfl rfl ?_
              refine C.iload at_173 rfl rfl ?_
              refine C.lloadN at_175 rfl rfl ?_
              refine C.callS (argsL := [(.int 0), (.int 1), (.int p9), (.int 2), (.long x0)]) (rest := []) 0 (fun zz => au2724_4 l Z a0 hw n0 h2711 zz p9 x0 e1 e2) at_176 rfl (tw hw 24 rfl) (tw hw 25 rfl) (tw hw 26 rfl) (tw hw 27 rfl) (by decide) pd_6 rfl rfl rfl (Nat.le_of_eq rfl) (by decide) (by decide) (by decide) (by decide) (fun v2725 h2726 r2727 => ?_)
              obtain ⟨rfl, rfl⟩ := r2727
              rw [hb2]
              refine C.lstore (Ls' := #[.val (.long x0), .second, .val (.long x1), .second, .val (.long x2), .second, iv x3, iv x4, iv 0, iv f9, iv 2, iv 1, iv p9, rv a639, rv a670, .val (.long (bb ||| x0)), .second, .unset, .unset, .unset, .unset, .unset, .unset]) at_179 rfl rfl ?_
              refine C.iconst 1 at_181 rfl rfl ?_
              refine C.iload at_182 rfl rfl ?_
              refine C.iload at_184 rfl rfl ?_
              refine C.iload at_186 rfl rfl ?_
              refine C.lloadN at_188 rfl rfl ?_
              refine C.callS (argsL := [(.int 1), (.int 1), (.int p9), (.int 2), (.long x1)]) (rest := []) 0 (fun zz => au2729_4 l Z a0 hw n0 h2711 zz p9 x1 e1 e2) at_189 rfl (tw hw 24 rfl) (tw hw 25 rfl) (tw hw 26 rfl) (tw hw 27 rfl) (by decide) pd_6 rfl rfl rfl (Nat.le_of_eq rfl) (by decide) (by decide) (by decide) (by decide) (fun v2730 h2731 r2732 => ?_)
              obtain ⟨rfl, rfl⟩ := r2732
              refine C.lstore (Ls' := #[.val (.long x0), .second, .val (.long x1), .second, .val (.long x2), .second, iv x3, iv x4, iv 0, iv f9, iv 2, iv 1, iv p9, rv a639, rv a670, .val (.long (bb ||| x0)), .second, .val (.long x1), .second, .unset, .unset, .unset, .unset]) at_192 rfl rfl ?_
              refine C.iconst 2 at_194 rfl rfl ?_
              refine C.iload at_195 rfl rfl ?_
              refine C.iload at_197 rfl rfl ?_
              refine C.iload at_199 rfl rfl ?_
              refine C.lload at_201 rfl rfl ?_
              refine C.callS (argsL := [(.int 2), (.int 1), (.int p9), (.int 2), (.long x2)]) (rest := []) 0 (fun zz => au2734_4 l Z a0 hw n0 h2711 zz p9 x2 e1 e2) at_203 rfl (tw hw 24 rfl) (tw hw 25 rfl) (tw hw 26 rfl) (tw hw 27 rfl) (by decide) pd_6 rfl rfl rfl (Nat.le_of_eq rfl) (by decide) (by decide) (by decide) (by decide) (fun v2735 h2736 r2737 => ?_)
              obtain ⟨rfl, rfl⟩ := r2737
              refine C.lstore (Ls' := #[.val (.long x0), .second, .val (.long x1), .second, .val (.long x2), .second, iv x3, iv x4, iv 0, iv f9, iv 2, iv 1, iv p9, rv a639, rv a670, .val (.long (bb ||| x0)), .second, .val (.long x1), .second, .val (.long 0), .second, .unset, .unset]) at_206 rfl rfl ?_
              exact J208_683 h2711 f9 2 1 p9 a639 a670 a2489 a2488 (bb ||| x0) x1 0 g676 g2500 g2498 ne2505 ne2503 (Ne.symm ne2491) F2716 F2720 F2718 F2719 F2717 F2723 F2721
            rw [ql]
            refine C.aload at_157 rfl rfl rfl ?_
            refine C.aload at_159 rfl rfl rfl ?_
            refine C.iload at_161 rfl rfl ?_
            refine C.iload at_163 rfl rfl ?_
            refine C.callV (argsL := [(.ref a639), (.int f9), (.int 3)]) (rest := []) 0 (fun zz => con_aw0_3 l Z a0 hw n0 h2650 zz a670 a639 f9 a2489 a2488 0 [.int 0, .int 0, .int 0] vs9 bb 0 0 x0 x1 x2 F2655 F2659 F2657 F2658 F2656 F2662 F2660 F2654 g676 g2500 g2498 ne2505 ne2503 (Ne.symm ne2491) (Ne.symm ne677) (Ne.symm ne2504) (Ne.symm ne2502) hj0 hg0 hj1 hg1 hj2 hg2) F2655 at_165 rfl (tw hw 19 rfl) (tw hw 20 rfl) (tw hw 21 rfl) (tw hw 22 rfl) (tw hw 5 rfl) (tw hw 23 rfl) (by decide) pd_5 rfl rfl rfl (Nat.le_of_eq rfl) (by decide) (by decide) (by decide) (by decide) (fun v2739 h2740 r2741 => ?_)
            obtain ⟨rfl, K2742, F2743⟩ := r2741
            have F2744 := F2654.keep K2742 (ninS ne2504 nin0)
            have F2745 := F2655.keep K2742
            have F2746 := F2656.keep K2742 (ninS ne2505 nin0)
            have F2747 := F2657.keep K2742 (ninS ne2505 nin0)
            have F2748 := F2658.keep K2742 (ninS ne2505 nin0)
            have F2749 := F2659.keep K2742 (ninS ne2505 nin0)
            have F2750 := F2660.keep K2742 (ninS ne2491 nin0)
            have F2752 : Av Z h2740 a2489 .long ([.long (bb ||| x0), .long x1, .long x2]) := by have q := F2743; simp only [Int64.zero_or] at q; exact q
            refine C.iconst 0 at_168 rfl rfl ?_
            refine C.iload at_169 rfl rfl ?_
            refine C.iload at_171 rfl rfl ?_
            refine C.iload at_173 rfl rfl ?_
            refine C.lloadN at_175 rfl rfl ?_
            refine C.callS (argsL := [(.int 0), (.int 1), (.int p9), (.int 3), (.long x0)]) (rest := []) 0 (fun zz => au2753_4 l Z a0 hw n0 h2740 zz p9 x0 e1 e2) at_176 rfl (tw hw 24 rfl) (tw hw 25 rfl) (tw hw 26 rfl) (tw hw 27 rfl) (by decide) pd_6 rfl rfl rfl (Nat.le_of_eq rfl) (by decide) (by decide) (by decide) (by decide) (fun v2754 h2755 r2756 => ?_)
            obtain ⟨rfl, rfl⟩ := r2756
            rw [hb2]
            refine C.lstore (Ls' := #[.val (.long x0), .second, .val (.long x1), .second, .val (.long x2), .second, iv x3, iv x4, iv 0, iv f9, iv 3, iv 1, iv p9, rv a639, rv a670, .val (.long (bb ||| x0)), .second, .unset, .unset, .unset, .unset, .unset, .unset]) at_179 rfl rfl ?_
            refine C.iconst 1 at_181 rfl rfl ?_
            refine C.iload at_182 rfl rfl ?_
            refine C.iload at_184 rfl rfl ?_
            refine C.iload at_186 rfl rfl ?_
            refine C.lloadN at_188 rfl rfl ?_
            refine C.callS (argsL := [(.int 1), (.int 1), (.int p9), (.int 3), (.long x1)]) (rest := []) 0 (fun zz => au2758_4 l Z a0 hw n0 h2740 zz p9 x1 e1 e2) at_189 rfl (tw hw 24 rfl) (tw hw 25 rfl) (tw hw 26 rfl) (tw hw 27 rfl) (by decide) pd_6 rfl rfl rfl (Nat.le_of_eq rfl) (by decide) (by decide) (by decide) (by decide) (fun v2759 h2760 r2761 => ?_)
            obtain ⟨rfl, rfl⟩ := r2761
            refine C.lstore (Ls' := #[.val (.long x0), .second, .val (.long x1), .second, .val (.long x2), .second, iv x3, iv x4, iv 0, iv f9, iv 3, iv 1, iv p9, rv a639, rv a670, .val (.long (bb ||| x0)), .second, .val (.long x1), .second, .unset, .unset, .unset, .unset]) at_192 rfl rfl ?_
            refine C.iconst 2 at_194 rfl rfl ?_
            refine C.iload at_195 rfl rfl ?_
            refine C.iload at_197 rfl rfl ?_
            refine C.iload at_199 rfl rfl ?_
            refine C.lload at_201 rfl rfl ?_
            refine C.callS (argsL := [(.int 2), (.int 1), (.int p9), (.int 3), (.long x2)]) (rest := []) 0 (fun zz => au2763_4 l Z a0 hw n0 h2740 zz p9 x2 e1 e2) at_203 rfl (tw hw 24 rfl) (tw hw 25 rfl) (tw hw 26 rfl) (tw hw 27 rfl) (by decide) pd_6 rfl rfl rfl (Nat.le_of_eq rfl) (by decide) (by decide) (by decide) (by decide) (fun v2764 h2765 r2766 => ?_)
            obtain ⟨rfl, rfl⟩ := r2766
            refine C.lstore (Ls' := #[.val (.long x0), .second, .val (.long x1), .second, .val (.long x2), .second, iv x3, iv x4, iv 0, iv f9, iv 3, iv 1, iv p9, rv a639, rv a670, .val (.long (bb ||| x0)), .second, .val (.long x1), .second, .val (.long x2), .second, .unset, .unset]) at_206 rfl rfl ?_
            exact J208_683 h2740 f9 3 1 p9 a639 a670 a2489 a2488 (bb ||| x0) x1 x2 g676 g2500 g2498 ne2505 ne2503 (Ne.symm ne2491) F2745 F2749 F2747 F2748 F2746 F2752 F2750
          · obtain ⟨bb, hb1⟩ : ∃ z : Int64, (1 : Int64) <<< (Int32.toInt64 p9 &&& 63) = z := ⟨_, rfl⟩
            have hb2 : (1 : Int64) <<< (Int32.toInt64 (p9 &&& 63) &&& 63) = bb := by rw [own_sh, hb1]
            have hb0 : ¬ bb = 0 := hb1 ▸ own_bit p9
            refine C.aload at_150 rfl rfl rfl ?_
            refine C.iload at_152 rfl rfl ?_
            refine C.callV (argsL := [(.int p9)]) (rest := []) 0 (fun zz => au2768_14 l Z a0 hw n0 h2486 zz a670 p9 a2488 a2489 F2507 F2492 F2493 F2494 F2495 F2496 F2497 g676 g2498 g2500 ne2503 ne2505 ne2491 e1 e2) F2507 at_154 rfl (tw hw 67 rfl) (tw hw 68 rfl) (tw hw 69 rfl) (tw hw 70 rfl) (tw hw 5 rfl) (tw hw 71 rfl) (by decide) pd_4 rfl rfl rfl (Nat.le_of_eq rfl) (by decide) (by decide) (by decide) (by decide) (fun v2799 h2800 r2801 => ?_)
            obtain ⟨rfl, K2802, F2803⟩ := r2801
            have F2804 := F2506.keep K2802 (ninS ne2504 nin0)
            have F2805 := F2507.keep K2802
            have F2806 := F2492.keep K2802 (ninS ne2505 nin0)
            have F2807 := F2493.keep K2802 (ninS ne2505 nin0)
            have F2808 := F2494.keep K2802 (ninS ne2505 nin0)
            have F2809 := F2495.keep K2802 (ninS ne2505 nin0)
            have F2810 := F2496.keep K2802 (ninS ne2491 nin0)
            have F2812 : Av Z h2800 a2489 .long ([.long 0, .long bb, .long 0]) := by have q := F2803; rw [hb1] at q; exact q
            rcases own_four (XT.ushr x4 3) with ql | ql | ql | ql
            · rw [ql]
              refine C.aload at_157 rfl rfl rfl ?_
              refine C.aload at_159 rfl rfl rfl ?_
              refine C.iload at_161 rfl rfl ?_
              refine C.iload at_163 rfl rfl ?_
              refine C.callV (argsL := [(.ref a639), (.int f9), (.int 0)]) (rest := []) 0 (fun zz => con_aw0_0 l Z a0 hw n0 h2800 zz a670 a639 f9 a2489 a2488 0 [.int 0, .int 0, .int 0] vs9 0 bb 0 x0 x1 x2 F2805 F2809 F2807 F2808 F2806 F2812 F2810 F2804 g676 g2500 g2498 ne2505 ne2503 (Ne.symm ne2491) (Ne.symm ne677) (Ne.symm ne2504) (Ne.symm ne2502) hj0 hg0 hj1 hg1 hj2 hg2) F2805 at_165 rfl (tw hw 19 rfl) (tw hw 20 rfl) (tw hw 21 rfl) (tw hw 22 rfl) (tw hw 5 rfl) (tw hw 23 rfl) (by decide) pd_5 rfl rfl rfl (Nat.le_of_eq rfl) (by decide) (by decide) (by decide) (by decide) (fun v2813 h2814 r2815 => ?_)
              obtain ⟨rfl, rfl⟩ := r2815
              refine C.iconst 0 at_168 rfl rfl ?_
              refine C.iload at_169 rfl rfl ?_
              refine C.iload at_171 rfl rfl ?_
              refine C.iload at_173 rfl rfl ?_
              refine C.lloadN at_175 rfl rfl ?_
              refine C.callS (argsL := [(.int 0), (.int 1), (.int p9), (.int 0), (.long x0)]) (rest := []) 0 (fun zz => au2817_4 l Z a0 hw n0 h2800 zz p9 x0 e1 e2) at_176 rfl (tw hw 24 rfl) (tw hw 25 rfl) (tw hw 26 rfl) (tw hw 27 rfl) (by decide) pd_6 rfl rfl rfl (Nat.le_of_eq rfl) (by decide) (by decide) (by decide) (by decide) (fun v2818 h2819 r2820 => ?_)
              obtain ⟨rfl, rfl⟩ := r2820
              refine C.lstore (Ls' := #[.val (.long x0), .second, .val (.long x1), .second, .val (.long x2), .second, iv x3, iv x4, iv 0, iv f9, iv 0, iv 1, iv p9, rv a639, rv a670, .val (.long 0), .second, .unset, .unset, .unset, .unset, .unset, .unset]) at_179 rfl rfl ?_
              refine C.iconst 1 at_181 rfl rfl ?_
              refine C.iload at_182 rfl rfl ?_
              refine C.iload at_184 rfl rfl ?_
              refine C.iload at_186 rfl rfl ?_
              refine C.lloadN at_188 rfl rfl ?_
              refine C.callS (argsL := [(.int 1), (.int 1), (.int p9), (.int 0), (.long x1)]) (rest := []) 0 (fun zz => au2822_4 l Z a0 hw n0 h2800 zz p9 x1 e1 e2) at_189 rfl (tw hw 24 rfl) (tw hw 25 rfl) (tw hw 26 rfl) (tw hw 27 rfl) (by decide) pd_6 rfl rfl rfl (Nat.le_of_eq rfl) (by decide) (by decide) (by decide) (by decide) (fun v2823 h2824 r2825 => ?_)
              obtain ⟨rfl, rfl⟩ := r2825
              rw [hb2]
              refine C.lstore (Ls' := #[.val (.long x0), .second, .val (.long x1), .second, .val (.long x2), .second, iv x3, iv x4, iv 0, iv f9, iv 0, iv 1, iv p9, rv a639, rv a670, .val (.long 0), .second, .val (.long bb), .second, .unset, .unset, .unset, .unset]) at_192 rfl rfl ?_
              refine C.iconst 2 at_194 rfl rfl ?_
              refine C.iload at_195 rfl rfl ?_
              refine C.iload at_197 rfl rfl ?_
              refine C.iload at_199 rfl rfl ?_
              refine C.lload at_201 rfl rfl ?_
              refine C.callS (argsL := [(.int 2), (.int 1), (.int p9), (.int 0), (.long x2)]) (rest := []) 0 (fun zz => au2827_4 l Z a0 hw n0 h2800 zz p9 x2 e1 e2) at_203 rfl (tw hw 24 rfl) (tw hw 25 rfl) (tw hw 26 rfl) (tw hw 27 rfl) (by decide) pd_6 rfl rfl rfl (Nat.le_of_eq rfl) (by decide) (by decide) (by decide) (by decide) (fun v2828 h2829 r2830 => ?_)
              obtain ⟨rfl, rfl⟩ := r2830
              refine C.lstore (Ls' := #[.val (.long x0), .second, .val (.long x1), .second, .val (.long x2), .second, iv x3, iv x4, iv 0, iv f9, iv 0, iv 1, iv p9, rv a639, rv a670, .val (.long 0), .second, .val (.long bb), .second, .val (.long 0), .second, .unset, .unset]) at_206 rfl rfl ?_
              exact J208_683 h2800 f9 0 1 p9 a639 a670 a2489 a2488 0 bb 0 g676 g2500 g2498 ne2505 ne2503 (Ne.symm ne2491) F2805 F2809 F2807 F2808 F2806 F2812 F2810
            · rw [ql]
              refine C.aload at_157 rfl rfl rfl ?_
              refine C.aload at_159 rfl rfl rfl ?_
              refine C.iload at_161 rfl rfl ?_
              refine C.iload at_163 rfl rfl ?_
              refine C.callV (argsL := [(.ref a639), (.int f9), (.int 1)]) (rest := []) 0 (fun zz => con_aw0_1 l Z a0 hw n0 h2800 zz a670 a639 f9 a2489 a2488 0 [.int 0, .int 0, .int 0] vs9 0 bb 0 x0 x1 x2 F2805 F2809 F2807 F2808 F2806 F2812 F2810 F2804 g676 g2500 g2498 ne2505 ne2503 (Ne.symm ne2491) (Ne.symm ne677) (Ne.symm ne2504) (Ne.symm ne2502) hj0 hg0 hj1 hg1 hj2 hg2) F2805 at_165 rfl (tw hw 19 rfl) (tw hw 20 rfl) (tw hw 21 rfl) (tw hw 22 rfl) (tw hw 5 rfl) (tw hw 23 rfl) (by decide) pd_5 rfl rfl rfl (Nat.le_of_eq rfl) (by decide) (by decide) (by decide) (by decide) (fun v2832 h2833 r2834 => ?_)
              obtain ⟨rfl, K2835, F2836⟩ := r2834
              have F2837 := F2804.keep K2835 (ninS ne2504 nin0)
              have F2838 := F2805.keep K2835
              have F2839 := F2806.keep K2835 (ninS ne2505 nin0)
              have F2840 := F2807.keep K2835 (ninS ne2505 nin0)
              have F2841 := F2808.keep K2835 (ninS ne2505 nin0)
              have F2842 := F2809.keep K2835 (ninS ne2505 nin0)
              have F2843 := F2810.keep K2835 (ninS ne2491 nin0)
              have F2845 : Av Z h2833 a2489 .long ([.long x0, .long bb, .long 0]) := by have q := F2836; simp only [Int64.zero_or] at q; exact q
              refine C.iconst 0 at_168 rfl rfl ?_
              refine C.iload at_169 rfl rfl ?_
              refine C.iload at_171 rfl rfl ?_
              refine C.iload at_173 rfl rfl ?_
              refine C.lloadN at_175 rfl rfl ?_
              refine C.callS (argsL := [(.int 0), (.int 1), (.int p9), (.int 1), (.long x0)]) (rest := []) 0 (fun zz => au2846_4 l Z a0 hw n0 h2833 zz p9 x0 e1 e2) at_176 rfl (tw hw 24 rfl) (tw hw 25 rfl) (tw hw 26 rfl) (tw hw 27 rfl) (by decide) pd_6 rfl rfl rfl (Nat.le_of_eq rfl) (by decide) (by decide) (by decide) (by decide) (fun v2847 h2848 r2849 => ?_)
              obtain ⟨rfl, rfl⟩ := r2849
              refine C.lstore (Ls' := #[.val (.long x0), .second, .val (.long x1), .second, .val (.long x2), .second, iv x3, iv x4, iv 0, iv f9, iv 1, iv 1, iv p9, rv a639, rv a670, .val (.long x0), .second, .unset, .unset, .unset, .unset, .unset, .unset]) at_179 rfl rfl ?_
              refine C.iconst 1 at_181 rfl rfl ?_
              refine C.iload at_182 rfl rfl ?_
              refine C.iload at_184 rfl rfl ?_
              refine C.iload at_186 rfl rfl ?_
              refine C.lloadN at_188 rfl rfl ?_
              refine C.callS (argsL := [(.int 1), (.int 1), (.int p9), (.int 1), (.long x1)]) (rest := []) 0 (fun zz => au2851_4 l Z a0 hw n0 h2833 zz p9 x1 e1 e2) at_189 rfl (tw hw 24 rfl) (tw hw 25 rfl) (tw hw 26 rfl) (tw hw 27 rfl) (by decide) pd_6 rfl rfl rfl (Nat.le_of_eq rfl) (by decide) (by decide) (by decide) (by decide) (fun v2852 h2853 r2854 => ?_)
              obtain ⟨rfl, rfl⟩ := r2854
              rw [hb2]
              refine C.lstore (Ls' := #[.val (.long x0), .second, .val (.long x1), .second, .val (.long x2), .second, iv x3, iv x4, iv 0, iv f9, iv 1, iv 1, iv p9, rv a639, rv a670, .val (.long x0), .second, .val (.long bb), .second, .unset, .unset, .unset, .unset]) at_192 rfl rfl ?_
              refine C.iconst 2 at_194 rfl rfl ?_
              refine C.iload at_195 rfl rfl ?_
              refine C.iload at_197 rfl rfl ?_
              refine C.iload at_199 rfl rfl ?_
              refine C.lload at_201 rfl rfl ?_
              refine C.callS (argsL := [(.int 2), (.int 1), (.int p9), (.int 1), (.long x2)]) (rest := []) 0 (fun zz => au2856_4 l Z a0 hw n0 h2833 zz p9 x2 e1 e2) at_203 rfl (tw hw 24 rfl) (tw hw 25 rfl) (tw hw 26 rfl) (tw hw 27 rfl) (by decide) pd_6 rfl rfl rfl (Nat.le_of_eq rfl) (by decide) (by decide) (by decide) (by decide) (fun v2857 h2858 r2859 => ?_)
              obtain ⟨rfl, rfl⟩ := r2859
              refine C.lstore (Ls' := #[.val (.long x0), .second, .val (.long x1), .second, .val (.long x2), .second, iv x3, iv x4, iv 0, iv f9, iv 1, iv 1, iv p9, rv a639, rv a670, .val (.long x0), .second, .val (.long bb), .second, .val (.long 0), .second, .unset, .unset]) at_206 rfl rfl ?_
              exact J208_683 h2833 f9 1 1 p9 a639 a670 a2489 a2488 x0 bb 0 g676 g2500 g2498 ne2505 ne2503 (Ne.symm ne2491) F2838 F2842 F2840 F2841 F2839 F2845 F2843
            · rw [ql]
              refine C.aload at_157 rfl rfl rfl ?_
              refine C.aload at_159 rfl rfl rfl ?_
              refine C.iload at_161 rfl rfl ?_
              refine C.iload at_163 rfl rfl ?_
              refine C.callV (argsL := [(.ref a639), (.int f9), (.int 2)]) (rest := []) 0 (fun zz => con_aw0_2 l Z a0 hw n0 h2800 zz a670 a639 f9 a2489 a2488 0 [.int 0, .int 0, .int 0] vs9 0 bb 0 x0 x1 x2 F2805 F2809 F2807 F2808 F2806 F2812 F2810 F2804 g676 g2500 g2498 ne2505 ne2503 (Ne.symm ne2491) (Ne.symm ne677) (Ne.symm ne2504) (Ne.symm ne2502) hj0 hg0 hj1 hg1 hj2 hg2) F2805 at_165 rfl (tw hw 19 rfl) (tw hw 20 rfl) (tw hw 21 rfl) (tw hw 22 rfl) (tw hw 5 rfl) (tw hw 23 rfl) (by decide) pd_5 rfl rfl rfl (Nat.le_of_eq rfl) (by decide) (by decide) (by decide) (by decide) (fun v2861 h2862 r2863 => ?_)
              obtain ⟨rfl, K2864, F2865⟩ := r2863
              have F2866 := F2804.keep K2864 (ninS ne2504 nin0)
              have F2867 := F2805.keep K2864
              have F2868 := F2806.keep K2864 (ninS ne2505 nin0)
              have F2869 := F2807.keep K2864 (ninS ne2505 nin0)
              have F2870 := F2808.keep K2864 (ninS ne2505 nin0)
              have F2871 := F2809.keep K2864 (ninS ne2505 nin0)
              have F2872 := F2810.keep K2864 (ninS ne2491 nin0)
              have F2874 : Av Z h2862 a2489 .long ([.long x0, .long (bb ||| x1), .long 0]) := by have q := F2865; simp only [Int64.zero_or] at q; exact q
              refine C.iconst 0 at_168 rfl rfl ?_
              refine C.iload at_169 rfl rfl ?_
              refine C.iload at_171 rfl rfl ?_
              refine C.iload at_173 rfl rfl ?_
              refine C.lloadN at_175 rfl rfl ?_
              refine C.callS (argsL := [(.int 0), (.int 1), (.int p9), (.int 2), (.long x0)]) (rest := []) 0 (fun zz => au2875_4 l Z a0 hw n0 h2862 zz p9 x0 e1 e2) at_176 rfl (tw hw 24 rfl) (tw hw 25 rfl) (tw hw 26 rfl) (tw hw 27 rfl) (by decide) pd_6 rfl rfl rfl (Nat.le_of_eq rfl) (by decide) (by decide) (by decide) (by decide) (fun v2876 h2877 r2878 => ?_)
              obtain ⟨rfl, rfl⟩ := r2878
              refine C.lstore (Ls' := #[.val (.long x0), .second, .val (.long x1), .second, .val (.long x2), .second, iv x3, iv x4, iv 0, iv f9, iv 2, iv 1, iv p9, rv a639, rv a670, .val (.long x0), .second, .unset, .unset, .unset, .unset, .unset, .unset]) at_179 rfl rfl ?_
              refine C.iconst 1 at_181 rfl rfl ?_
              refine C.iload at_182 rfl rfl ?_
              refine C.iload at_184 rfl rfl ?_
              refine C.iload at_186 rfl rfl ?_
              refine C.lloadN at_188 rfl rfl ?_
              refine C.callS (argsL := [(.int 1), (.int 1), (.int p9), (.int 2), (.long x1)]) (rest := []) 0 (fun zz => au2880_4 l Z a0 hw n0 h2862 zz p9 x1 e1 e2) at_189 rfl (tw hw 24 rfl) (tw hw 25 rfl) (tw hw 26 rfl) (tw hw 27 rfl) (by decide) pd_6 rfl rfl rfl (Nat.le_of_eq rfl) (by decide) (by decide) (by decide) (by decide) (fun v2881 h2882 r2883 => ?_)
              obtain ⟨rfl, rfl⟩ := r2883
              rw [hb2]
              refine C.lstore (Ls' := #[.val (.long x0), .second, .val (.long x1), .second, .val (.long x2), .second, iv x3, iv x4, iv 0, iv f9, iv 2, iv 1, iv p9, rv a639, rv a670, .val (.long x0), .second, .val (.long (bb ||| x1)), .second, .unset, .unset, .unset, .unset]) at_192 rfl rfl ?_
              refine C.iconst 2 at_194 rfl rfl ?_
              refine C.iload at_195 rfl rfl ?_
              refine C.iload at_197 rfl rfl ?_
              refine C.iload at_199 rfl rfl ?_
              refine C.lload at_201 rfl rfl ?_
              refine C.callS (argsL := [(.int 2), (.int 1), (.int p9), (.int 2), (.long x2)]) (rest := []) 0 (fun zz => au2885_4 l Z a0 hw n0 h2862 zz p9 x2 e1 e2) at_203 rfl (tw hw 24 rfl) (tw hw 25 rfl) (tw hw 26 rfl) (tw hw 27 rfl) (by decide) pd_6 rfl rfl rfl (Nat.le_of_eq rfl) (by decide) (by decide) (by decide) (by decide) (fun v2886 h2887 r2888 => ?_)
              obtain ⟨rfl, rfl⟩ := r2888
              refine C.lstore (Ls' := #[.val (.long x0), .second, .val (.long x1), .second, .val (.long x2), .second, iv x3, iv x4, iv 0, iv f9, iv 2, iv 1, iv p9, rv a639, rv a670, .val (.long x0), .second, .val (.long (bb ||| x1)), .second, .val (.long 0), .second, .unset, .unset]) at_206 rfl rfl ?_
              exact J208_683 h2862 f9 2 1 p9 a639 a670 a2489 a2488 x0 (bb ||| x1) 0 g676 g2500 g2498 ne2505 ne2503 (Ne.symm ne2491) F2867 F2871 F2869 F2870 F2868 F2874 F2872
            rw [ql]
            refine C.aload at_157 rfl rfl rfl ?_
            refine C.aload at_159 rfl rfl rfl ?_
            refine C.iload at_161 rfl rfl ?_
            refine C.iload at_163 rfl rfl ?_
            refine C.callV (argsL := [(.ref a639), (.int f9), (.int 3)]) (rest := []) 0 (fun zz => con_aw0_3 l Z a0 hw n0 h2800 zz a670 a639 f9 a2489 a2488 0 [.int 0, .int 0, .int 0] vs9 0 bb 0 x0 x1 x2 F2805 F2809 F2807 F2808 F2806 F2812 F2810 F2804 g676 g2500 g2498 ne2505 ne2503 (Ne.symm ne2491) (Ne.symm ne677) (Ne.symm ne2504) (Ne.symm ne2502) hj0 hg0 hj1 hg1 hj2 hg2) F2805 at_165 rfl (tw hw 19 rfl) (tw hw 20 rfl) (tw hw 21 rfl) (tw hw 22 rfl) (tw hw 5 rfl) (tw hw 23 rfl) (by decide) pd_5 rfl rfl rfl (Nat.le_of_eq rfl) (by decide) (by decide) (by decide) (by decide) (fun v2890 h2891 r2892 => ?_)
            obtain ⟨rfl, K2893, F2894⟩ := r2892
            have F2895 := F2804.keep K2893 (ninS ne2504 nin0)
            have F2896 := F2805.keep K2893
            have F2897 := F2806.keep K2893 (ninS ne2505 nin0)
            have F2898 := F2807.keep K2893 (ninS ne2505 nin0)
            have F2899 := F2808.keep K2893 (ninS ne2505 nin0)
            have F2900 := F2809.keep K2893 (ninS ne2505 nin0)
            have F2901 := F2810.keep K2893 (ninS ne2491 nin0)
            have F2903 : Av Z h2891 a2489 .long ([.long x0, .long (bb ||| x1), .long x2]) := by have q := F2894; simp only [Int64.zero_or] at q; exact q
            refine C.iconst 0 at_168 rfl rfl ?_
            refine C.iload at_169 rfl rfl ?_
            refine C.iload at_171 rfl rfl ?_
            refine C.iload at_173 rfl rfl ?_
            refine C.lloadN at_175 rfl rfl ?_
            refine C.callS (argsL := [(.int 0), (.int 1), (.int p9), (.int 3), (.long x0)]) (rest := []) 0 (fun zz => au2904_4 l Z a0 hw n0 h2891 zz p9 x0 e1 e2) at_176 rfl (tw hw 24 rfl) (tw hw 25 rfl) (tw hw 26 rfl) (tw hw 27 rfl) (by decide) pd_6 rfl rfl rfl (Nat.le_of_eq rfl) (by decide) (by decide) (by decide) (by decide) (fun v2905 h2906 r2907 => ?_)
            obtain ⟨rfl, rfl⟩ := r2907
            refine C.lstore (Ls' := #[.val (.long x0), .second, .val (.long x1), .second, .val (.long x2), .second, iv x3, iv x4, iv 0, iv f9, iv 3, iv 1, iv p9, rv a639, rv a670, .val (.long x0), .second, .unset, .unset, .unset, .unset, .unset, .unset]) at_179 rfl rfl ?_
            refine C.iconst 1 at_181 rfl rfl ?_
            refine C.iload at_182 rfl rfl ?_
            refine C.iload at_184 rfl rfl ?_
            refine C.iload at_186 rfl rfl ?_
            refine C.lloadN at_188 rfl rfl ?_
            refine C.callS (argsL := [(.int 1), (.int 1), (.int p9), (.int 3), (.long x1)]) (rest := []) 0 (fun zz => au2909_4 l Z a0 hw n0 h2891 zz p9 x1 e1 e2) at_189 rfl (tw hw 24 rfl) (tw hw 25 rfl) (tw hw 26 rfl) (tw hw 27 rfl) (by decide) pd_6 rfl rfl rfl (Nat.le_of_eq rfl) (by decide) (by decide) (by decide) (by decide) (fun v2910 h2911 r2912 => ?_)
            obtain ⟨rfl, rfl⟩ := r2912
            rw [hb2]
            refine C.lstore (Ls' := #[.val (.long x0), .second, .val (.long x1), .second, .val (.long x2), .second, iv x3, iv x4, iv 0, iv f9, iv 3, iv 1, iv p9, rv a639, rv a670, .val (.long x0), .second, .val (.long (bb ||| x1)), .second, .unset, .unset, .unset, .unset]) at_192 rfl rfl ?_
            refine C.iconst 2 at_194 rfl rfl ?_
            refine C.iload at_195 rfl rfl ?_
            refine C.iload at_197 rfl rfl ?_
            refine C.iload at_199 rfl rfl ?_
            refine C.lload at_201 rfl rfl ?_
            refine C.callS (argsL := [(.int 2), (.int 1), (.int p9), (.int 3), (.long x2)]) (rest := []) 0 (fun zz => au2914_4 l Z a0 hw n0 h2891 zz p9 x2 e1 e2) at_203 rfl (tw hw 24 rfl) (tw hw 25 rfl) (tw hw 26 rfl) (tw hw 27 rfl) (by decide) pd_6 rfl rfl rfl (Nat.le_of_eq rfl) (by decide) (by decide) (by decide) (by decide) (fun v2915 h2916 r2917 => ?_)
            obtain ⟨rfl, rfl⟩ := r2917
            refine C.lstore (Ls' := #[.val (.long x0), .second, .val (.long x1), .second, .val (.long x2), .second, iv x3, iv x4, iv 0, iv f9, iv 3, iv 1, iv p9, rv a639, rv a670, .val (.long x0), .second, .val (.long (bb ||| x1)), .second, .val (.long x2), .second, .unset, .unset]) at_206 rfl rfl ?_
            exact J208_683 h2891 f9 3 1 p9 a639 a670 a2489 a2488 x0 (bb ||| x1) x2 g676 g2500 g2498 ne2505 ne2503 (Ne.symm ne2491) F2896 F2900 F2898 F2899 F2897 F2903 F2901
          obtain ⟨bb, hb1⟩ : ∃ z : Int64, (1 : Int64) <<< (Int32.toInt64 p9 &&& 63) = z := ⟨_, rfl⟩
          have hb2 : (1 : Int64) <<< (Int32.toInt64 (p9 &&& 63) &&& 63) = bb := by rw [own_sh, hb1]
          have hb0 : ¬ bb = 0 := hb1 ▸ own_bit p9
          refine C.aload at_150 rfl rfl rfl ?_
          refine C.iload at_152 rfl rfl ?_
          refine C.callV (argsL := [(.int p9)]) (rest := []) 0 (fun zz => au2919_14 l Z a0 hw n0 h2486 zz a670 p9 a2488 a2489 F2507 F2492 F2493 F2494 F2495 F2496 F2497 g676 g2498 g2500 ne2503 ne2505 ne2491 e1 e2) F2507 at_154 rfl (tw hw 67 rfl) (tw hw 68 rfl) (tw hw 69 rfl) (tw hw 70 rfl) (tw hw 5 rfl) (tw hw 71 rfl) (by decide) pd_4 rfl rfl rfl (Nat.le_of_eq rfl) (by decide) (by decide) (by decide) (by decide) (fun v2950 h2951 r2952 => ?_)
          obtain ⟨rfl, K2953, F2954⟩ := r2952
          have F2955 := F2506.keep K2953 (ninS ne2504 nin0)
          have F2956 := F2507.keep K2953
          have F2957 := F2492.keep K2953 (ninS ne2505 nin0)
          have F2958 := F2493.keep K2953 (ninS ne2505 nin0)
          have F2959 := F2494.keep K2953 (ninS ne2505 nin0)
          have F2960 := F2495.keep K2953 (ninS ne2505 nin0)
          have F2961 := F2496.keep K2953 (ninS ne2491 nin0)
          have F2963 : Av Z h2951 a2489 .long ([.long 0, .long 0, .long bb]) := by have q := F2954; rw [hb1] at q; exact q
          rcases own_four (XT.ushr x4 3) with ql | ql | ql | ql
          · rw [ql]
            refine C.aload at_157 rfl rfl rfl ?_
            refine C.aload at_159 rfl rfl rfl ?_
            refine C.iload at_161 rfl rfl ?_
            refine C.iload at_163 rfl rfl ?_
            refine C.callV (argsL := [(.ref a639), (.int f9), (.int 0)]) (rest := []) 0 (fun zz => con_aw0_0 l Z a0 hw n0 h2951 zz a670 a639 f9 a2489 a2488 0 [.int 0, .int 0, .int 0] vs9 0 0 bb x0 x1 x2 F2956 F2960 F2958 F2959 F2957 F2963 F2961 F2955 g676 g2500 g2498 ne2505 ne2503 (Ne.symm ne2491) (Ne.symm ne677) (Ne.symm ne2504) (Ne.symm ne2502) hj0 hg0 hj1 hg1 hj2 hg2) F2956 at_165 rfl (tw hw 19 rfl) (tw hw 20 rfl) (tw hw 21 rfl) (tw hw 22 rfl) (tw hw 5 rfl) (tw hw 23 rfl) (by decide) pd_5 rfl rfl rfl (Nat.le_of_eq rfl) (by decide) (by decide) (by decide) (by decide) (fun v2964 h2965 r2966 => ?_)
            obtain ⟨rfl, rfl⟩ := r2966
            refine C.iconst 0 at_168 rfl rfl ?_
            refine C.iload at_169 rfl rfl ?_
            refine C.iload at_171 rfl rfl ?_
            refine C.iload at_173 rfl rfl ?_
            refine C.lloadN at_175 rfl rfl ?_
            refine C.callS (argsL := [(.int 0), (.int 1), (.int p9), (.int 0), (.long x0)]) (rest := []) 0 (fun zz => au2968_4 l Z a0 hw n0 h2951 zz p9 x0 e1 e2) at_176 rfl (tw hw 24 rfl) (tw hw 25 rfl) (tw hw 26 rfl) (tw hw 27 rfl) (by decide) pd_6 rfl rfl rfl (Nat.le_of_eq rfl) (by decide) (by decide) (by decide) (by decide) (fun v2969 h2970 r2971 => ?_)
            obtain ⟨rfl, rfl⟩ := r2971
            refine C.lstore (Ls' := #[.val (.long x0), .second, .val (.long x1), .second, .val (.long x2), .second, iv x3, iv x4, iv 0, iv f9, iv 0, iv 1, iv p9, rv a639, rv a670, .val (.long 0), .second, .unset, .unset, .unset, .unset, .unset, .unset]) at_179 rfl rfl ?_
            refine C.iconst 1 at_181 rfl rfl ?_
            refine C.iload at_182 rfl rfl ?_
            refine C.iload at_184 rfl rfl ?_
            refine C.iload at_186 rfl rfl ?_
            refine C.lloadN at_188 rfl rfl ?_
            refine C.callS (argsL := [(.int 1), (.int 1), (.int p9), (.int 0), (.long x1)]) (rest := []) 0 (fun zz => au2973_4 l Z a0 hw n0 h2951 zz p9 x1 e1 e2) at_189 rfl (tw hw 24 rfl) (tw hw 25 rfl) (tw hw 26 rfl) (tw hw 27 rfl) (by decide) pd_6 rfl rfl rfl (Nat.le_of_eq rfl) (by decide) (by decide) (by decide) (by decide) (fun v2974 h2975 r2976 => ?_)
            obtain ⟨rfl, rfl⟩ := r2976
            refine C.lstore (Ls' := #[.val (.long x0), .second, .val (.long x1), .second, .val (.long x2), .second, iv x3, iv x4, iv 0, iv f9, iv 0, iv 1, iv p9, rv a639, rv a670, .val (.long 0), .second, .val (.long 0), .second, .unset, .unset, .unset, .unset]) at_192 rfl rfl ?_
            refine C.iconst 2 at_194 rfl rfl ?_
            refine C.iload at_195 rfl rfl ?_
            refine C.iload at_197 rfl rfl ?_
            refine C.iload at_199 rfl rfl ?_
            refine C.lload at_201 rfl rfl ?_
            refine C.callS (argsL := [(.int 2), (.int 1), (.int p9), (.int 0), (.long x2)]) (rest := []) 0 (fun zz => au2978_4 l Z a0 hw n0 h2951 zz p9 x2 e1 e2) at_203 rfl (tw hw 24 rfl) (tw hw 25 rfl) (tw hw 26 rfl) (tw hw 27 rfl) (by decide) pd_6 rfl rfl rfl (Nat.le_of_eq rfl) (by decide) (by decide) (by decide) (by decide) (fun v2979 h2980 r2981 => ?_)
            obtain ⟨rfl, rfl⟩ := r2981
            rw [hb2]
            refine C.lstore (Ls' := #[.val (.long x0), .second, .val (.long x1), .second, .val (.long x2), .second, iv x3, iv x4, iv 0, iv f9, iv 0, iv 1, iv p9, rv a639, rv a670, .val (.long 0), .second, .val (.long 0), .second, .val (.long bb), .second, .unset, .unset]) at_206 rfl rfl ?_
            exact J208_683 h2951 f9 0 1 p9 a639 a670 a2489 a2488 0 0 bb g676 g2500 g2498 ne2505 ne2503 (Ne.symm ne2491) F2956 F2960 F2958 F2959 F2957 F2963 F2961
          · rw [ql]
            refine C.aload at_157 rfl rfl rfl ?_
            refine C.aload at_159 rfl rfl rfl ?_
            refine C.iload at_161 rfl rfl ?_
            refine C.iload at_163 rfl rfl ?_
            refine C.callV (argsL := [(.ref a639), (.int f9), (.int 1)]) (rest := []) 0 (fun zz => con_aw0_1 l Z a0 hw n0 h2951 zz a670 a639 f9 a2489 a2488 0 [.int 0, .int 0, .int 0] vs9 0 0 bb x0 x1 x2 F2956 F2960 F2958 F2959 F2957 F2963 F2961 F2955 g676 g2500 g2498 ne2505 ne2503 (Ne.symm ne2491) (Ne.symm ne677) (Ne.symm ne2504) (Ne.symm ne2502) hj0 hg0 hj1 hg1 hj2 hg2) F2956 at_165 rfl (tw hw 19 rfl) (tw hw 20 rfl) (tw hw 21 rfl) (tw hw 22 rfl) (tw hw 5 rfl) (tw hw 23 rfl) (by decide) pd_5 rfl rfl rfl (Nat.le_of_eq rfl) (by decide) (by decide) (by decide) (by decide) (fun v2983 h2984 r2985 => ?_)
            obtain ⟨rfl, K2986, F2987⟩ := r2985
            have F2988 := F2955.keep K2986 (ninS ne2504 nin0)
            have F2989 := F2956.keep K2986
            have F2990 := F2957.keep K2986 (ninS ne2505 nin0)
            have F2991 := F2958.keep K2986 (ninS ne2505 nin0)
            have F2992 := F2959.keep K2986 (ninS ne2505 nin0)
            have F2993 := F2960.keep K2986 (ninS ne2505 nin0)
            have F2994 := F2961.keep K2986 (ninS ne2491 nin0)
            have F2996 : Av Z h2984 a2489 .long ([.long x0, .long 0, .long bb]) := by have q := F2987; simp only [Int64.zero_or] at q; exact q
            refine C.iconst 0 at_168 rfl rfl ?_
            refine C.iload at_169 rfl rfl ?_
            refine C.iload at_171 rfl rfl ?_
            refine C.iload at_173 rfl rfl ?_
            refine C.lloadN at_175 rfl rfl ?_
            refine C.callS (argsL := [(.int 0), (.int 1), (.int p9), (.int 1), (.long x0)]) (rest := []) 0 (fun zz => au2997_4 l Z a0 hw n0 h2984 zz p9 x0 e1 e2) at_176 rfl (tw hw 24 rfl) (tw hw 25 rfl) (tw hw 26 rfl) (tw hw 27 rfl) (by decide) pd_6 rfl rfl rfl (Nat.le_of_eq rfl) (by decide) (by decide) (by decide) (by decide) (fun v2998 h2999 r3000 => ?_)
            obtain ⟨rfl, rfl⟩ := r3000
            refine C.lstore (Ls' := #[.val (.long x0), .second, .val (.long x1), .second, .val (.long x2), .second, iv x3, iv x4, iv 0, iv f9, iv 1, iv 1, iv p9, rv a639, rv a670, .val (.long x0), .second, .unset, .unset, .unset, .unset, .unset, .unset]) at_179 rfl rfl ?_
            refine C.iconst 1 at_181 rfl rfl ?_
            refine C.iload at_182 rfl rfl ?_
            refine C.iload at_184 rfl rfl ?_
            refine C.iload at_186 rfl rfl ?_
            refine C.lloadN at_188 rfl rfl ?_
            refine C.callS (argsL := [(.int 1), (.int 1), (.int p9), (.int 1), (.long x1)]) (rest := []) 0 (fun zz => au3002_4 l Z a0 hw n0 h2984 zz p9 x1 e1 e2) at_189 rfl (tw hw 24 rfl) (tw hw 25 rfl) (tw hw 26 rfl) (tw hw 27 rfl) (by decide) pd_6 rfl rfl rfl (Nat.le_of_eq rfl) (by decide) (by decide) (by decide) (by decide) (fun v3003 h3004 r3005 => ?_)
            obtain ⟨rfl, rfl⟩ := r3005
            refine C.lstore (Ls' := #[.val (.long x0), .second, .val (.long x1), .second, .val (.long x2), .second, iv x3, iv x4, iv 0, iv f9, iv 1, iv 1, iv p9, rv a639, rv a670, .val (.long x0), .second, .val (.long 0), .second, .unset, .unset, .unset, .unset]) at_192 rfl rfl ?_
            refine C.iconst 2 at_194 rfl rfl ?_
            refine C.iload at_195 rfl rfl ?_
            refine C.iload at_197 rfl rfl ?_
            refine C.iload at_199 rfl rfl ?_
            refine C.lload at_201 rfl rfl ?_
            refine C.callS (argsL := [(.int 2), (.int 1), (.int p9), (.int 1), (.long x2)]) (rest := []) 0 (fun zz => au3007_4 l Z a0 hw n0 h2984 zz p9 x2 e1 e2) at_203 rfl (tw hw 24 rfl) (tw hw 25 rfl) (tw hw 26 rfl) (tw hw 27 rfl) (by decide) pd_6 rfl rfl rfl (Nat.le_of_eq rfl) (by decide) (by decide) (by decide) (by decide) (fun v3008 h3009 r3010 => ?_)
            obtain ⟨rfl, rfl⟩ := r3010
            rw [hb2]
            refine C.lstore (Ls' := #[.val (.long x0), .second, .val (.long x1), .second, .val (.long x2), .second, iv x3, iv x4, iv 0, iv f9, iv 1, iv 1, iv p9, rv a639, rv a670, .val (.long x0), .second, .val (.long 0), .second, .val (.long bb), .second, .unset, .unset]) at_206 rfl rfl ?_
            exact J208_683 h2984 f9 1 1 p9 a639 a670 a2489 a2488 x0 0 bb g676 g2500 g2498 ne2505 ne2503 (Ne.symm ne2491) F2989 F2993 F2991 F2992 F2990 F2996 F2994
          · rw [ql]
            refine C.aload at_157 rfl rfl rfl ?_
            refine C.aload at_159 rfl rfl rfl ?_
            refine C.iload at_161 rfl rfl ?_
            refine C.iload at_163 rfl rfl ?_
            refine C.callV (argsL := [(.ref a639), (.int f9), (.int 2)]) (rest := []) 0 (fun zz => con_aw0_2 l Z a0 hw n0 h2951 zz a670 a639 f9 a2489 a2488 0 [.int 0, .int 0, .int 0] vs9 0 0 bb x0 x1 x2 F2956 F2960 F2958 F2959 F2957 F2963 F2961 F2955 g676 g2500 g2498 ne2505 ne2503 (Ne.symm ne2491) (Ne.symm ne677) (Ne.symm ne2504) (Ne.symm ne2502) hj0 hg0 hj1 hg1 hj2 hg2) F2956 at_165 rfl (tw hw 19 rfl) (tw hw 20 rfl) (tw hw 21 rfl) (tw hw 22 rfl) (tw hw 5 rfl) (tw hw 23 rfl) (by decide) pd_5 rfl rfl rfl (Nat.le_of_eq rfl) (by decide) (by decide) (by decide) (by decide) (fun v3012 h3013 r3014 => ?_)
            obtain ⟨rfl, K3015, F3016⟩ := r3014
            have F3017 := F2955.keep K3015 (ninS ne2504 nin0)
            have F3018 := F2956.keep K3015
            have F3019 := F2957.keep K3015 (ninS ne2505 nin0)
            have F3020 := F2958.keep K3015 (ninS ne2505 nin0)
            have F3021 := F2959.keep K3015 (ninS ne2505 nin0)
            have F3022 := F2960.keep K3015 (ninS ne2505 nin0)
            have F3023 := F2961.keep K3015 (ninS ne2491 nin0)
            have F3025 : Av Z h3013 a2489 .long ([.long x0, .long x1, .long bb]) := by have q := F3016; simp only [Int64.zero_or] at q; exact q
            refine C.iconst 0 at_168 rfl rfl ?_
            refine C.iload at_169 rfl rfl ?_
            refine C.iload at_171 rfl rfl ?_
            refine C.iload at_173 rfl rfl ?_
            refine C.lloadN at_175 rfl rfl ?_
            refine C.callS (argsL := [(.int 0), (.int 1), (.int p9), (.int 2), (.long x0)]) (rest := []) 0 (fun zz => au3026_4 l Z a0 hw n0 h3013 zz p9 x0 e1 e2) at_176 rfl (tw hw 24 rfl) (tw hw 25 rfl) (tw hw 26 rfl) (tw hw 27 rfl) (by decide) pd_6 rfl rfl rfl (Nat.le_of_eq rfl) (by decide) (by decide) (by decide) (by decide) (fun v3027 h3028 r3029 => ?_)
            obtain ⟨rfl, rfl⟩ := r3029
            refine C.lstore (Ls' := #[.val (.long x0), .second, .val (.long x1), .second, .val (.long x2), .second, iv x3, iv x4, iv 0, iv f9, iv 2, iv 1, iv p9, rv a639, rv a670, .val (.long x0), .second, .unset, .unset, .unset, .unset, .unset, .unset]) at_179 rfl rfl ?_
            refine C.iconst 1 at_181 rfl rfl ?_
            refine C.iload at_182 rfl rfl ?_
            refine C.iload at_184 rfl rfl ?_
            refine C.iload at_186 rfl rfl ?_
            refine C.lloadN at_188 rfl rfl ?_
            refine C.callS (argsL := [(.int 1), (.int 1), (.int p9), (.int 2), (.long x1)]) (rest := []) 0 (fun zz => au3031_4 l Z a0 hw n0 h3013 zz p9 x1 e1 e2) at_189 rfl (tw hw 24 rfl) (tw hw 25 rfl) (tw hw 26 rfl) (tw hw 27 rfl) (by decide) pd_6 rfl rfl rfl (Nat.le_of_eq rfl) (by decide) (by decide) (by decide) (by decide) (fun v3032 h3033 r3034 => ?_)
            obtain ⟨rfl, rfl⟩ := r3034
            refine C.lstore (Ls' := #[.val (.long x0), .second, .val (.long x1), .second, .val (.long x2), .second, iv x3, iv x4, iv 0, iv f9, iv 2, iv 1, iv p9, rv a639, rv a670, .val (.long x0), .second, .val (.long x1), .second, .unset, .unset, .unset, .unset]) at_192 rfl rfl ?_
            refine C.iconst 2 at_194 rfl rfl ?_
            refine C.iload at_195 rfl rfl ?_
            refine C.iload at_197 rfl rfl ?_
            refine C.iload at_199 rfl rfl ?_
            refine C.lload at_201 rfl rfl ?_
            refine C.callS (argsL := [(.int 2), (.int 1), (.int p9), (.int 2), (.long x2)]) (rest := []) 0 (fun zz => au3036_4 l Z a0 hw n0 h3013 zz p9 x2 e1 e2) at_203 rfl (tw hw 24 rfl) (tw hw 25 rfl) (tw hw 26 rfl) (tw hw 27 rfl) (by decide) pd_6 rfl rfl rfl (Nat.le_of_eq rfl) (by decide) (by decide) (by decide) (by decide) (fun v3037 h3038 r3039 => ?_)
            obtain ⟨rfl, rfl⟩ := r3039
            rw [hb2]
            refine C.lstore (Ls' := #[.val (.long x0), .second, .val (.long x1), .second, .val (.long x2), .second, iv x3, iv x4, iv 0, iv f9, iv 2, iv 1, iv p9, rv a639, rv a670, .val (.long x0), .second, .val (.long x1), .second, .val (.long bb), .second, .unset, .unset]) at_206 rfl rfl ?_
            exact J208_683 h3013 f9 2 1 p9 a639 a670 a2489 a2488 x0 x1 bb g676 g2500 g2498 ne2505 ne2503 (Ne.symm ne2491) F3018 F3022 F3020 F3021 F3019 F3025 F3023
          rw [ql]
          refine C.aload at_157 rfl rfl rfl ?_
          refine C.aload at_159 rfl rfl rfl ?_
          refine C.iload at_161 rfl rfl ?_
          refine C.iload at_163 rfl rfl ?_
          refine C.callV (argsL := [(.ref a639), (.int f9), (.int 3)]) (rest := []) 0 (fun zz => con_aw0_3 l Z a0 hw n0 h2951 zz a670 a639 f9 a2489 a2488 0 [.int 0, .int 0, .int 0] vs9 0 0 bb x0 x1 x2 F2956 F2960 F2958 F2959 F2957 F2963 F2961 F2955 g676 g2500 g2498 ne2505 ne2503 (Ne.symm ne2491) (Ne.symm ne677) (Ne.symm ne2504) (Ne.symm ne2502) hj0 hg0 hj1 hg1 hj2 hg2) F2956 at_165 rfl (tw hw 19 rfl) (tw hw 20 rfl) (tw hw 21 rfl) (tw hw 22 rfl) (tw hw 5 rfl) (tw hw 23 rfl) (by decide) pd_5 rfl rfl rfl (Nat.le_of_eq rfl) (by decide) (by decide) (by decide) (by decide) (fun v3041 h3042 r3043 => ?_)
          obtain ⟨rfl, K3044, F3045⟩ := r3043
          have F3046 := F2955.keep K3044 (ninS ne2504 nin0)
          have F3047 := F2956.keep K3044
          have F3048 := F2957.keep K3044 (ninS ne2505 nin0)
          have F3049 := F2958.keep K3044 (ninS ne2505 nin0)
          have F3050 := F2959.keep K3044 (ninS ne2505 nin0)
          have F3051 := F2960.keep K3044 (ninS ne2505 nin0)
          have F3052 := F2961.keep K3044 (ninS ne2491 nin0)
          have F3054 : Av Z h3042 a2489 .long ([.long x0, .long x1, .long (bb ||| x2)]) := by have q := F3045; simp only [Int64.zero_or] at q; exact q
          refine C.iconst 0 at_168 rfl rfl ?_
          refine C.iload at_169 rfl rfl ?_
          refine C.iload at_171 rfl rfl ?_
          refine C.iload at_173 rfl rfl ?_
          refine C.lloadN at_175 rfl rfl ?_
          refine C.callS (argsL := [(.int 0), (.int 1), (.int p9), (.int 3), (.long x0)]) (rest := []) 0 (fun zz => au3055_4 l Z a0 hw n0 h3042 zz p9 x0 e1 e2) at_176 rfl (tw hw 24 rfl) (tw hw 25 rfl) (tw hw 26 rfl) (tw hw 27 rfl) (by decide) pd_6 rfl rfl rfl (Nat.le_of_eq rfl) (by decide) (by decide) (by decide) (by decide) (fun v3056 h3057 r3058 => ?_)
          obtain ⟨rfl, rfl⟩ := r3058
          refine C.lstore (Ls' := #[.val (.long x0), .second, .val (.long x1), .second, .val (.long x2), .second, iv x3, iv x4, iv 0, iv f9, iv 3, iv 1, iv p9, rv a639, rv a670, .val (.long x0), .second, .unset, .unset, .unset, .unset, .unset, .unset]) at_179 rfl rfl ?_
          refine C.iconst 1 at_181 rfl rfl ?_
          refine C.iload at_182 rfl rfl ?_
          refine C.iload at_184 rfl rfl ?_
          refine C.iload at_186 rfl rfl ?_
          refine C.lloadN at_188 rfl rfl ?_
          refine C.callS (argsL := [(.int 1), (.int 1), (.int p9), (.int 3), (.long x1)]) (rest := []) 0 (fun zz => au3060_4 l Z a0 hw n0 h3042 zz p9 x1 e1 e2) at_189 rfl (tw hw 24 rfl) (tw hw 25 rfl) (tw hw 26 rfl) (tw hw 27 rfl) (by decide) pd_6 rfl rfl rfl (Nat.le_of_eq rfl) (by decide) (by decide) (by decide) (by decide) (fun v3061 h3062 r3063 => ?_)
          obtain ⟨rfl, rfl⟩ := r3063
          refine C.lstore (Ls' := #[.val (.long x0), .second, .val (.long x1), .second, .val (.long x2), .second, iv x3, iv x4, iv 0, iv f9, iv 3, iv 1, iv p9, rv a639, rv a670, .val (.long x0), .second, .val (.long x1), .second, .unset, .unset, .unset, .unset]) at_192 rfl rfl ?_
          refine C.iconst 2 at_194 rfl rfl ?_
          refine C.iload at_195 rfl rfl ?_
          refine C.iload at_197 rfl rfl ?_
          refine C.iload at_199 rfl rfl ?_
          refine C.lload at_201 rfl rfl ?_
          refine C.callS (argsL := [(.int 2), (.int 1), (.int p9), (.int 3), (.long x2)]) (rest := []) 0 (fun zz => au3065_4 l Z a0 hw n0 h3042 zz p9 x2 e1 e2) at_203 rfl (tw hw 24 rfl) (tw hw 25 rfl) (tw hw 26 rfl) (tw hw 27 rfl) (by decide) pd_6 rfl rfl rfl (Nat.le_of_eq rfl) (by decide) (by decide) (by decide) (by decide) (fun v3066 h3067 r3068 => ?_)
          obtain ⟨rfl, rfl⟩ := r3068
          rw [hb2]
          refine C.lstore (Ls' := #[.val (.long x0), .second, .val (.long x1), .second, .val (.long x2), .second, iv x3, iv x4, iv 0, iv f9, iv 3, iv 1, iv p9, rv a639, rv a670, .val (.long x0), .second, .val (.long x1), .second, .val (.long (bb ||| x2)), .second, .unset, .unset]) at_206 rfl rfl ?_
          exact J208_683 h3042 f9 3 1 p9 a639 a670 a2489 a2488 x0 x1 (bb ||| x2) g676 g2500 g2498 ne2505 ne2503 (Ne.symm ne2491) F3047 F3051 F3049 F3050 F3048 F3054 F3052
        rw [q8]
        refine C.iload at_126 rfl rfl ?_
        have J208_3070 : ∀ (hJ3071 : Heap) (f9 : Int32) (f10 : Int32) (f11 : Int32) (f12 : Int32) (am : Addr) (as : Addr) (aw : Addr) (ah : Addr) (e0 : Int64) (e1 : Int64) (e2 : Int64) (c9 : Int32) (l9 : List Value) (hlist : own_listed e0 e1 e2 c9 l9) (g3080 : n0 ≤ as) (g3081 : n0 ≤ aw) (g3082 : n0 ≤ ah) (ne3083 : as ≠ aw) (ne3084 : as ≠ ah) (ne3085 : aw ≠ ah) (F3073 : Exa Z hJ3071 as kC0) (F3074 : Fld Z hJ3071 as kC0 "words" "[J" (.ref aw)) (F3075 : Fld Z hJ3071 as kC0 "held" "[I" (.ref ah)) (F3076 : Fld Z hJ3071 as kC0 "listing" "Z" (.int 1)) (F3077 : Fld Z hJ3071 as kC0 "count" "I" (.int c9)) (F3078 : Av Z hJ3071 aw .long (.long e0 :: .long e1 :: .long e2 :: zJ45)) (F3079 : Av Z hJ3071 ah .int l9), Go p l e room_1 s m #[(.long x0), (.long x1), (.long x2), (.int x3), (.int x4)] below meth c n0 (FinQ s n0 (Qcon0 Z n0 h0 x0 x1 x2 x3 x4) room_1.cells room_1.slots) hJ3071 4 105 208 #[.val (.long x0), .second, .val (.long x1), .second, .val (.long x2), .second, iv x3, iv x4, iv 1, iv f9, iv f10, iv f11, iv f12, rv am, rv as, .val (.long e0), .second, .val (.long e1), .second, .val (.long e2), .second, .unset, .unset] [] := by
          intro hJ3071 f9 f10 f11 f12 am as aw ah e0 e1 e2 c9 l9 hlist g3080 g3081 g3082 ne3083 ne3084 ne3085 F3073 F3074 F3075 F3076 F3077 F3078 F3079
          refine C.aload at_208 rfl rfl rfl ?_
          refine C.iconst 0 at_210 rfl rfl ?_
          refine C.callV (argsL := [(.int 0)]) (rest := []) 0 (fun zz => au3086_5 l Z a0 hw n0 hJ3071 zz as c9 ah aw l9 e0 e1 e2 F3073 F3077 F3075 F3076 F3074 F3079 F3078 g3080 g3082 g3081 ne3084 ne3083 (Ne.symm ne3085)) F3073 at_211 rfl (tw hw 28 rfl) (tw hw 29 rfl) (tw hw 30 rfl) (tw hw 31 rfl) (tw hw 5 rfl) (tw hw 32 rfl) (by decide) pd_0 rfl rfl rfl (Nat.le_of_eq rfl) (by decide) (by decide) (by decide) (by decide) (fun v3087 h3088 r3089 => ?_)
          obtain ⟨rfl, rfl⟩ := r3089
          refine C.lload at_214 rfl rfl ?_
          refine C.lcmp at_216 rfl ?_
          refine C.lif_ne_f at_217 rfl rfl ?_
          refine C.aload at_220 rfl rfl rfl ?_
          refine C.iconst 1 at_222 rfl rfl ?_
          refine C.callV (argsL := [(.int 1)]) (rest := []) 0 (fun zz => au3091_5 l Z a0 hw n0 hJ3071 zz as c9 ah aw l9 e0 e1 e2 F3073 F3077 F3075 F3076 F3074 F3079 F3078 g3080 g3082 g3081 ne3084 ne3083 (Ne.symm ne3085)) F3073 at_223 rfl (tw hw 28 rfl) (tw hw 29 rfl) (tw hw 30 rfl) (tw hw 31 rfl) (tw hw 5 rfl) (tw hw 32 rfl) (by decide) pd_0 rfl rfl rfl (Nat.le_of_eq rfl) (by decide) (by decide) (by decide) (by decide) (fun v3092 h3093 r3094 => ?_)
          obtain ⟨rfl, rfl⟩ := r3094
          refine C.lload at_226 rfl rfl ?_
          refine C.lcmp at_228 rfl ?_
          refine C.lif_ne_f at_229 rfl rfl ?_
          refine C.aload at_232 rfl rfl rfl ?_
          refine C.iconst 2 at_234 rfl rfl ?_
          refine C.callV (argsL := [(.int 2)]) (rest := []) 0 (fun zz => au3096_5 l Z a0 hw n0 hJ3071 zz as c9 ah aw l9 e0 e1 e2 F3073 F3077 F3075 F3076 F3074 F3079 F3078 g3080 g3082 g3081 ne3084 ne3083 (Ne.symm ne3085)) F3073 at_235 rfl (tw hw 28 rfl) (tw hw 29 rfl) (tw hw 30 rfl) (tw hw 31 rfl) (tw hw 5 rfl) (tw hw 32 rfl) (by decide) pd_0 rfl rfl rfl (Nat.le_of_eq rfl) (by decide) (by decide) (by decide) (by decide) (fun v3097 h3098 r3099 => ?_)
          obtain ⟨rfl, rfl⟩ := r3099
          refine C.lload at_238 rfl rfl ?_
          refine C.lcmp at_240 rfl ?_
          refine C.lif_eq_t at_241 (by decide) rfl rfl ?_
          have J251_3101 : ∀ (hJ3102 : Heap) (hz0 : e0 = 0) (hz1 : e1 = 0) (hz2 : e2 = 0) (F3104 : Exa Z hJ3102 as kC0) (F3105 : Fld Z hJ3102 as kC0 "words" "[J" (.ref aw)) (F3106 : Fld Z hJ3102 as kC0 "held" "[I" (.ref ah)) (F3107 : Fld Z hJ3102 as kC0 "listing" "Z" (.int 1)) (F3108 : Fld Z hJ3102 as kC0 "count" "I" (.int 0)) (F3109 : Av Z hJ3102 aw .long (.long e0 :: .long e1 :: .long e2 :: zJ45)) (F3110 : Av Z hJ3102 ah .int zI48), Go p l e room_1 s m #[(.long x0), (.long x1), (.long x2), (.int x3), (.int x4)] below meth c n0 (FinQ s n0 (Qcon0 Z n0 h0 x0 x1 x2 x3 x4) room_1.cells room_1.slots) hJ3102 4 105 251 #[.val (.long x0), .second, .val (.long x1), .second, .val (.long x2), .second, iv x3, iv x4, iv 1, iv f9, iv f10, iv f11, iv f12, rv am, rv as, .val (.long e0), .second, .val (.long e1), .second, .val (.long e2), .second, .unset, .unset] [] := by
            intro hJ3102 hz0 hz1 hz2 F3104 F3105 F3106 F3107 F3108 F3109 F3110
            refine C.iconst 3 at_251 rfl rfl ?_
            refine C.newarr 3 at_252 rfl rfl (tw hw 16 rfl) (by decide) (by decide) (by decide) (by decide) (by decide) (fun a3111 h3112 z3115 g3116 X3113 F3114 => ?_)
            have ne3117 : as ≠ a3111 := by rw [z3115]; exact Nat.ne_of_lt F3104.lt
            have ne3118 : aw ≠ a3111 := by rw [z3115]; exact Nat.ne_of_lt F3109.lt
            have ne3119 : ah ≠ a3111 := by rw [z3115]; exact Nat.ne_of_lt F3110.lt
            have F3120 := Exa.ext X3113 F3104
            have F3121 := Fld.ext X3113 F3105
            have F3122 := Fld.ext X3113 F3106
            have F3123 := Fld.ext X3113 F3107
            have F3124 := Fld.ext X3113 F3108
            have F3125 := F3109.ext X3113
            have F3126 := F3110.ext X3113
            have F3127 : Av Z h3112 a3111 .int ([.int 0, .int 0, .int 0]) := F3114
            refine C.astore (Ls' := #[.val (.long x0), .second, .val (.long x1), .second, .val (.long x2), .second, iv x3, iv x4, iv 1, iv f9, iv f10, iv f11, iv f12, rv am, rv as, .val (.long e0), .second, .val (.long e1), .second, .val (.long e2), .second, rv a3111, .unset]) at_254 rfl rfl rfl ?_
            refine C.iconst 0 at_256 rfl rfl ?_
            refine C.istore (Ls' := #[.val (.long x0), .second, .val (.long x1), .second, .val (.long x2), .second, iv x3, iv x4, iv 1, iv f9, iv f10, iv f11, iv f12, rv am, rv as, .val (.long e0), .second, .val (.long e1), .second, .val (.long e2), .second, rv a3111, iv 0]) at_257 rfl rfl ?_
            refine C.lload at_259 rfl rfl ?_
            refine C.lconst 0 at_261 rfl rfl ?_
            refine C.lcmp at_262 rfl ?_
            refine C.lif_eq_t at_263 (by decide) rfl hz0 ?_
            refine C.lload at_275 rfl rfl ?_
            refine C.lconst 0 at_277 rfl rfl ?_
            refine C.lcmp at_278 rfl ?_
            refine C.lif_eq_t at_279 (by decide) rfl hz1 ?_
            refine C.lload at_291 rfl rfl ?_
            refine C.lconst 0 at_293 rfl rfl ?_
            refine C.lcmp at_294 rfl ?_
            refine C.lif_eq_t at_295 (by decide) rfl hz2 ?_
            refine C.aload at_307 rfl rfl rfl ?_
            refine C.callV (argsL := []) (rest := []) 0 (fun zz => au3128_12 l Z a0 hw n0 h3112 zz as ah aw e0 e1 e2 F3120 F3124 F3122 F3123 F3121 F3126 F3125 g3080 g3082 g3081 ne3084 ne3083 (Ne.symm ne3085)) F3120 at_309 rfl (tw hw 57 rfl) (tw hw 58 rfl) (tw hw 59 rfl) (tw hw 60 rfl) (tw hw 5 rfl) (tw hw 61 rfl) (by decide) pd_2 rfl rfl rfl (Nat.le_of_eq rfl) (by decide) (by decide) (by decide) (by decide) (fun v3129 h3130 r3131 => ?_)
            obtain ⟨rfl, rfl⟩ := r3131
            refine C.iload at_312 rfl rfl ?_
            refine C.icmp_eq_t at_314 (by decide) rfl (by decide) ?_
            refine C.iload at_319 rfl rfl ?_
            refine C.if_le_t at_321 (by decide) rfl (by decide) ?_
            refine C.iload at_339 rfl rfl ?_
            refine C.iconst 1 at_341 rfl rfl ?_
            refine C.icmp_le_t at_342 (by decide) rfl (by decide) ?_
            refine C.iload at_360 rfl rfl ?_
            refine C.iconst 2 at_362 rfl rfl ?_
            refine C.icmp_le_t at_363 (by decide) rfl (by decide) ?_
            refine C.iconst 1 at_381 rfl rfl ?_
            exact C.retZ at_382 rfl (by decide) (by decide) ⟨rfl, trivial⟩
          have J251_3133 : ∀ (hJ3134 : Heap) (hz0 : ¬ e0 = 0) (hz1 : e1 = 0) (hz2 : e2 = 0) (F3136 : Exa Z hJ3134 as kC0) (F3137 : Fld Z hJ3134 as kC0 "words" "[J" (.ref aw)) (F3138 : Fld Z hJ3134 as kC0 "held" "[I" (.ref ah)) (F3139 : Fld Z hJ3134 as kC0 "listing" "Z" (.int 1)) (F3140 : Fld Z hJ3134 as kC0 "count" "I" (.int 1)) (F3141 : Av Z hJ3134 aw .long (.long e0 :: .long e1 :: .long e2 :: zJ45)) (F3142 : Av Z hJ3134 ah .int zI48), Go p l e room_1 s m #[(.long x0), (.long x1), (.long x2), (.int x3), (.int x4)] below meth c n0 (FinQ s n0 (Qcon0 Z n0 h0 x0 x1 x2 x3 x4) room_1.cells room_1.slots) hJ3134 4 105 251 #[.val (.long x0), .second, .val (.long x1), .second, .val (.long x2), .second, iv x3, iv x4, iv 1, iv f9, iv f10, iv f11, iv f12, rv am, rv as, .val (.long e0), .second, .val (.long e1), .second, .val (.long e2), .second, .unset, .unset] [] := by
            intro hJ3134 hz0 hz1 hz2 F3136 F3137 F3138 F3139 F3140 F3141 F3142
            refine C.iconst 3 at_251 rfl rfl ?_
            refine C.newarr 3 at_252 rfl rfl (tw hw 16 rfl) (by decide) (by decide) (by decide) (by decide) (by decide) (fun a3143 h3144 z3147 g3148 X3145 F3146 => ?_)
            have ne3149 : as ≠ a3143 := by rw [z3147]; exact Nat.ne_of_lt F3136.lt
            have ne3150 : aw ≠ a3143 := by rw [z3147]; exact Nat.ne_of_lt F3141.lt
            have ne3151 : ah ≠ a3143 := by rw [z3147]; exact Nat.ne_of_lt F3142.lt
            have F3152 := Exa.ext X3145 F3136
            have F3153 := Fld.ext X3145 F3137
            have F3154 := Fld.ext X3145 F3138
            have F3155 := Fld.ext X3145 F3139
            have F3156 := Fld.ext X3145 F3140
            have F3157 := F3141.ext X3145
            have F3158 := F3142.ext X3145
            have F3159 : Av Z h3144 a3143 .int ([.int 0, .int 0, .int 0]) := F3146
            refine C.astore (Ls' := #[.val (.long x0), .second, .val (.long x1), .second, .val (.long x2), .second, iv x3, iv x4, iv 1, iv f9, iv f10, iv f11, iv f12, rv am, rv as, .val (.long e0), .second, .val (.long e1), .second, .val (.long e2), .second, rv a3143, .unset]) at_254 rfl rfl rfl ?_
            refine C.iconst 0 at_256 rfl rfl ?_
            refine C.istore (Ls' := #[.val (.long x0), .second, .val (.long x1), .second, .val (.long x2), .second, iv x3, iv x4, iv 1, iv f9, iv f10, iv f11, iv f12, rv am, rv as, .val (.long e0), .second, .val (.long e1), .second, .val (.long e2), .second, rv a3143, iv 0]) at_257 rfl rfl ?_
            refine C.lload at_259 rfl rfl ?_
            refine C.lconst 0 at_261 rfl rfl ?_
            refine C.lcmp at_262 rfl ?_
            refine C.lif_eq_f at_263 rfl hz0 ?_
            refine C.aload at_266 rfl rfl rfl ?_
            refine C.iload at_268 rfl rfl ?_
            refine C.iconst 0 at_270 rfl rfl ?_
            refine C.iastore at_271 rfl F3159 g3148 (by decide) (Nat.le_of_ble_eq_true rfl) (fun h3160 W3161 F3162 => ?_)
            have F3163 := Exa.wr W3161 F3152
            have F3164 := Fld.other W3161 F3153 (Or.inl ne3149)
            have F3165 := Fld.other W3161 F3154 (Or.inl ne3149)
            have F3166 := Fld.other W3161 F3155 (Or.inl ne3149)
            have F3167 := Fld.other W3161 F3156 (Or.inl ne3149)
            have F3168 := F3157.other W3161 ne3150
            have F3169 := F3158.other W3161 ne3151
            have F3170 : Av Z h3160 a3143 .int ([.int 0, .int 0, .int 0]) := F3162
            refine C.iinc (Ls' := #[.val (.long x0), .second, .val (.long x1), .second, .val (.long x2), .second, iv x3, iv x4, iv 1, iv f9, iv f10, iv f11, iv f12, rv am, rv as, .val (.long e0), .second, .val (.long e1), .second, .val (.long e2), .second, rv a3143, iv 1]) 1 at_272 rfl rfl rfl rfl ?_
            refine C.lload at_275 rfl rfl ?_
            refine C.lconst 0 at_277 rfl rfl ?_
            refine C.lcmp at_278 rfl ?_
            refine C.lif_eq_t at_279 (by decide) rfl hz1 ?_
            refine C.lload at_291 rfl rfl ?_
            refine C.lconst 0 at_293 rfl rfl ?_
            refine C.lcmp at_294 rfl ?_
            refine C.lif_eq_t at_295 (by decide) rfl hz2 ?_
            refine C.aload at_307 rfl rfl rfl ?_
            refine C.callV (argsL := []) (rest := []) 0 (fun zz => au3171_12 l Z a0 hw n0 h3160 zz as ah aw e0 e1 e2 F3163 F3167 F3165 F3166 F3164 F3169 F3168 g3080 g3082 g3081 ne3084 ne3083 (Ne.symm ne3085)) F3163 at_309 rfl (tw hw 57 rfl) (tw hw 58 rfl) (tw hw 59 rfl) (tw hw 60 rfl) (tw hw 5 rfl) (tw hw 61 rfl) (by decide) pd_2 rfl rfl rfl (Nat.le_of_eq rfl) (by decide) (by decide) (by decide) (by decide) (fun v3172 h3173 r3174 => ?_)
            obtain ⟨rfl, rfl⟩ := r3174
            refine C.iload at_312 rfl rfl ?_
            refine C.icmp_eq_t at_314 (by decide) rfl (by decide) ?_
            refine C.iload at_319 rfl rfl ?_
            refine C.if_le_f at_321 rfl (by decide) ?_
            refine C.aload at_324 rfl rfl rfl ?_
            refine C.iconst 0 at_326 rfl rfl ?_
            refine C.callV (argsL := [(.int 0)]) (rest := []) 0 (fun zz => au3176_13 l Z a0 hw n0 h3160 zz as ah aw e0 e1 e2 F3163 F3167 F3165 F3166 F3164 F3169 F3168 g3080 g3082 g3081 ne3084 ne3083 (Ne.symm ne3085)) F3163 at_327 rfl (tw hw 62 rfl) (tw hw 63 rfl) (tw hw 64 rfl) (tw hw 65 rfl) (tw hw 5 rfl) (tw hw 66 rfl) (by decide) pd_3 rfl rfl rfl (Nat.le_of_eq rfl) (by decide) (by decide) (by decide) (by decide) (fun v3177 h3178 r3179 => ?_)
            obtain ⟨rfl, rfl⟩ := r3179
            refine C.aload at_330 rfl rfl rfl ?_
            refine C.iconst 0 at_332 rfl rfl ?_
            refine C.iaload (.int 0) at_333 rfl F3170 (by decide) rfl ?_
            refine C.icmp_eq_t at_334 (by decide) rfl (by decide) ?_
            refine C.iload at_339 rfl rfl ?_
            refine C.iconst 1 at_341 rfl rfl ?_
            refine C.icmp_le_t at_342 (by decide) rfl (by decide) ?_
            refine C.iload at_360 rfl rfl ?_
            refine C.iconst 2 at_362 rfl rfl ?_
            refine C.icmp_le_t at_363 (by decide) rfl (by decide) ?_
            refine C.iconst 1 at_381 rfl rfl ?_
            exact C.retZ at_382 rfl (by decide) (by decide) ⟨rfl, trivial⟩
          have J251_3181 : ∀ (hJ3182 : Heap) (hz0 : e0 = 0) (hz1 : ¬ e1 = 0) (hz2 : e2 = 0) (F3184 : Exa Z hJ3182 as kC0) (F3185 : Fld Z hJ3182 as kC0 "words" "[J" (.ref aw)) (F3186 : Fld Z hJ3182 as kC0 "held" "[I" (.ref ah)) (F3187 : Fld Z hJ3182 as kC0 "listing" "Z" (.int 1)) (F3188 : Fld Z hJ3182 as kC0 "count" "I" (.int 1)) (F3189 : Av Z hJ3182 aw .long (.long e0 :: .long e1 :: .long e2 :: zJ45)) (F3190 : Av Z hJ3182 ah .int (.int 1 :: zI47)), Go p l e room_1 s m #[(.long x0), (.long x1), (.long x2), (.int x3), (.int x4)] below meth c n0 (FinQ s n0 (Qcon0 Z n0 h0 x0 x1 x2 x3 x4) room_1.cells room_1.slots) hJ3182 4 105 251 #[.val (.long x0), .second, .val (.long x1), .second, .val (.long x2), .second, iv x3, iv x4, iv 1, iv f9, iv f10, iv f11, iv f12, rv am, rv as, .val (.long e0), .second, .val (.long e1), .second, .val (.long e2), .second, .unset, .unset] [] := by
            intro hJ3182 hz0 hz1 hz2 F3184 F3185 F3186 F3187 F3188 F3189 F3190
            refine C.iconst 3 at_251 rfl rfl ?_
            refine C.newarr 3 at_252 rfl rfl (tw hw 16 rfl) (by decide) (by decide) (by decide) (by decide) (by decide) (fun a3191 h3192 z3195 g3196 X3193 F3194 => ?_)
            have ne3197 : as ≠ a3191 := by rw [z3195]; exact Nat.ne_of_lt F3184.lt
            have ne3198 : aw ≠ a3191 := by rw [z3195]; exact Nat.ne_of_lt F3189.lt
            have ne3199 : ah ≠ a3191 := by rw [z3195]; exact Nat.ne_of_lt F3190.lt
            have F3200 := Exa.ext X3193 F3184
            have F3201 := Fld.ext X3193 F3185
            have F3202 := Fld.ext X3193 F3186
            have F3203 := Fld.ext X3193 F3187
            have F3204 := Fld.ext X3193 F3188
            have F3205 := F3189.ext X3193
            have F3206 := F3190.ext X3193
            have F3207 : Av Z h3192 a3191 .int ([.int 0, .int 0, .int 0]) := F3194
            refine C.astore (Ls' := #[.val (.long x0), .second, .val (.long x1), .second, .val (.long x2), .second, iv x3, iv x4, iv 1, iv f9, iv f10, iv f11, iv f12, rv am, rv as, .val (.long e0), .second, .val (.long e1), .second, .val (.long e2), .second, rv a3191, .unset]) at_254 rfl rfl rfl ?_
            refine C.iconst 0 at_256 rfl rfl ?_
            refine C.istore (Ls' := #[.val (.long x0), .second, .val (.long x1), .second, .val (.long x2), .second, iv x3, iv x4, iv 1, iv f9, iv f10, iv f11, iv f12, rv am, rv as, .val (.long e0), .second, .val (.long e1), .second, .val (.long e2), .second, rv a3191, iv 0]) at_257 rfl rfl ?_
            refine C.lload at_259 rfl rfl ?_
            refine C.lconst 0 at_261 rfl rfl ?_
            refine C.lcmp at_262 rfl ?_
            refine C.lif_eq_t at_263 (by decide) rfl hz0 ?_
            refine C.lload at_275 rfl rfl ?_
            refine C.lconst 0 at_277 rfl rfl ?_
            refine C.lcmp at_278 rfl ?_
            refine C.lif_eq_f at_279 rfl hz1 ?_
            refine C.aload at_282 rfl rfl rfl ?_
            refine C.iload at_284 rfl rfl ?_
            refine C.iconst 1 at_286 rfl rfl ?_
            refine C.iastore at_287 rfl F3207 g3196 (by decide) (Nat.le_of_ble_eq_true rfl) (fun h3208 W3209 F3210 => ?_)
            have F3211 := Exa.wr W3209 F3200
            have F3212 := Fld.other W3209 F3201 (Or.inl ne3197)
            have F3213 := Fld.other W3209 F3202 (Or.inl ne3197)
            have F3214 := Fld.other W3209 F3203 (Or.inl ne3197)
            have F3215 := Fld.other W3209 F3204 (Or.inl ne3197)
            have F3216 := F3205.other W3209 ne3198
            have F3217 := F3206.other W3209 ne3199
            have F3218 : Av Z h3208 a3191 .int ([.int 1, .int 0, .int 0]) := F3210
            refine C.iinc (Ls' := #[.val (.long x0), .second, .val (.long x1), .second, .val (.long x2), .second, iv x3, iv x4, iv 1, iv f9, iv f10, iv f11, iv f12, rv am, rv as, .val (.long e0), .second, .val (.long e1), .second, .val (.long e2), .second, rv a3191, iv 1]) 1 at_288 rfl rfl rfl rfl ?_
            refine C.lload at_291 rfl rfl ?_
            refine C.lconst 0 at_293 rfl rfl ?_
            refine C.lcmp at_294 rfl ?_
            refine C.lif_eq_t at_295 (by decide) rfl hz2 ?_
            refine C.aload at_307 rfl rfl rfl ?_
            refine C.callV (argsL := []) (rest := []) 0 (fun zz => au3219_12 l Z a0 hw n0 h3208 zz as ah aw e0 e1 e2 F3211 F3215 F3213 F3214 F3212 F3217 F3216 g3080 g3082 g3081 ne3084 ne3083 (Ne.symm ne3085)) F3211 at_309 rfl (tw hw 57 rfl) (tw hw 58 rfl) (tw hw 59 rfl) (tw hw 60 rfl) (tw hw 5 rfl) (tw hw 61 rfl) (by decide) pd_2 rfl rfl rfl (Nat.le_of_eq rfl) (by decide) (by decide) (by decide) (by decide) (fun v3220 h3221 r3222 => ?_)
            obtain ⟨rfl, rfl⟩ := r3222
            refine C.iload at_312 rfl rfl ?_
            refine C.icmp_eq_t at_314 (by decide) rfl (by decide) ?_
            refine C.iload at_319 rfl rfl ?_
            refine C.if_le_f at_321 rfl (by decide) ?_
            refine C.aload at_324 rfl rfl rfl ?_
            refine C.iconst 0 at_326 rfl rfl ?_
            refine C.callV (argsL := [(.int 0)]) (rest := []) 0 (fun zz => au3224_13 l Z a0 hw n0 h3208 zz as ah aw e0 e1 e2 F3211 F3215 F3213 F3214 F3212 F3217 F3216 g3080 g3082 g3081 ne3084 ne3083 (Ne.symm ne3085)) F3211 at_327 rfl (tw hw 62 rfl) (tw hw 63 rfl) (tw hw 64 rfl) (tw hw 65 rfl) (tw hw 5 rfl) (tw hw 66 rfl) (by decide) pd_3 rfl rfl rfl (Nat.le_of_eq rfl) (by decide) (by decide) (by decide) (by decide) (fun v3225 h3226 r3227 => ?_)
            obtain ⟨rfl, rfl⟩ := r3227
            refine C.aload at_330 rfl rfl rfl ?_
            refine C.iconst 0 at_332 rfl rfl ?_
            refine C.iaload (.int 1) at_333 rfl F3218 (by decide) rfl ?_
            refine C.icmp_eq_t at_334 (by decide) rfl (by decide) ?_
            refine C.iload at_339 rfl rfl ?_
            refine C.iconst 1 at_341 rfl rfl ?_
            refine C.icmp_le_t at_342 (by decide) rfl (by decide) ?_
            refine C.iload at_360 rfl rfl ?_
            refine C.iconst 2 at_362 rfl rfl ?_
            refine C.icmp_le_t at_363 (by decide) rfl (by decide) ?_
            refine C.iconst 1 at_381 rfl rfl ?_
            exact C.retZ at_382 rfl (by decide) (by decide) ⟨rfl, trivial⟩
          have J251_3229 : ∀ (hJ3230 : Heap) (hz0 : e0 = 0) (hz1 : e1 = 0) (hz2 : ¬ e2 = 0) (F3232 : Exa Z hJ3230 as kC0) (F3233 : Fld Z hJ3230 as kC0 "words" "[J" (.ref aw)) (F3234 : Fld Z hJ3230 as kC0 "held" "[I" (.ref ah)) (F3235 : Fld Z hJ3230 as kC0 "listing" "Z" (.int 1)) (F3236 : Fld Z hJ3230 as kC0 "count" "I" (.int 1)) (F3237 : Av Z hJ3230 aw .long (.long e0 :: .long e1 :: .long e2 :: zJ45)) (F3238 : Av Z hJ3230 ah .int (.int 2 :: zI47)), Go p l e room_1 s m #[(.long x0), (.long x1), (.long x2), (.int x3), (.int x4)] below meth c n0 (FinQ s n0 (Qcon0 Z n0 h0 x0 x1 x2 x3 x4) room_1.cells room_1.slots) hJ3230 4 105 251 #[.val (.long x0), .second, .val (.long x1), .second, .val (.long x2), .second, iv x3, iv x4, iv 1, iv f9, iv f10, iv f11, iv f12, rv am, rv as, .val (.long e0), .second, .val (.long e1), .second, .val (.long e2), .second, .unset, .unset] [] := by
            intro hJ3230 hz0 hz1 hz2 F3232 F3233 F3234 F3235 F3236 F3237 F3238
            refine C.iconst 3 at_251 rfl rfl ?_
            refine C.newarr 3 at_252 rfl rfl (tw hw 16 rfl) (by decide) (by decide) (by decide) (by decide) (by decide) (fun a3239 h3240 z3243 g3244 X3241 F3242 => ?_)
            have ne3245 : as ≠ a3239 := by rw [z3243]; exact Nat.ne_of_lt F3232.lt
            have ne3246 : aw ≠ a3239 := by rw [z3243]; exact Nat.ne_of_lt F3237.lt
            have ne3247 : ah ≠ a3239 := by rw [z3243]; exact Nat.ne_of_lt F3238.lt
            have F3248 := Exa.ext X3241 F3232
            have F3249 := Fld.ext X3241 F3233
            have F3250 := Fld.ext X3241 F3234
            have F3251 := Fld.ext X3241 F3235
            have F3252 := Fld.ext X3241 F3236
            have F3253 := F3237.ext X3241
            have F3254 := F3238.ext X3241
            have F3255 : Av Z h3240 a3239 .int ([.int 0, .int 0, .int 0]) := F3242
            refine C.astore (Ls' := #[.val (.long x0), .second, .val (.long x1), .second, .val (.long x2), .second, iv x3, iv x4, iv 1, iv f9, iv f10, iv f11, iv f12, rv am, rv as, .val (.long e0), .second, .val (.long e1), .second, .val (.long e2), .second, rv a3239, .unset]) at_254 rfl rfl rfl ?_
            refine C.iconst 0 at_256 rfl rfl ?_
            refine C.istore (Ls' := #[.val (.long x0), .second, .val (.long x1), .second, .val (.long x2), .second, iv x3, iv x4, iv 1, iv f9, iv f10, iv f11, iv f12, rv am, rv as, .val (.long e0), .second, .val (.long e1), .second, .val (.long e2), .second, rv a3239, iv 0]) at_257 rfl rfl ?_
            refine C.lload at_259 rfl rfl ?_
            refine C.lconst 0 at_261 rfl rfl ?_
            refine C.lcmp at_262 rfl ?_
            refine C.lif_eq_t at_263 (by decide) rfl hz0 ?_
            refine C.lload at_275 rfl rfl ?_
            refine C.lconst 0 at_277 rfl rfl ?_
            refine C.lcmp at_278 rfl ?_
            refine C.lif_eq_t at_279 (by decide) rfl hz1 ?_
            refine C.lload at_291 rfl rfl ?_
            refine C.lconst 0 at_293 rfl rfl ?_
            refine C.lcmp at_294 rfl ?_
            refine C.lif_eq_f at_295 rfl hz2 ?_
            refine C.aload at_298 rfl rfl rfl ?_
            refine C.iload at_300 rfl rfl ?_
            refine C.iconst 2 at_302 rfl rfl ?_
            refine C.iastore at_303 rfl F3255 g3244 (by decide) (Nat.le_of_ble_eq_true rfl) (fun h3256 W3257 F3258 => ?_)
            have F3259 := Exa.wr W3257 F3248
            have F3260 := Fld.other W3257 F3249 (Or.inl ne3245)
            have F3261 := Fld.other W3257 F3250 (Or.inl ne3245)
            have F3262 := Fld.other W3257 F3251 (Or.inl ne3245)
            have F3263 := Fld.other W3257 F3252 (Or.inl ne3245)
            have F3264 := F3253.other W3257 ne3246
            have F3265 := F3254.other W3257 ne3247
            have F3266 : Av Z h3256 a3239 .int ([.int 2, .int 0, .int 0]) := F3258
            refine C.iinc (Ls' := #[.val (.long x0), .second, .val (.long x1), .second, .val (.long x2), .second, iv x3, iv x4, iv 1, iv f9, iv f10, iv f11, iv f12, rv am, rv as, .val (.long e0), .second, .val (.long e1), .second, .val (.long e2), .second, rv a3239, iv 1]) 1 at_304 rfl rfl rfl rfl ?_
            refine C.aload at_307 rfl rfl rfl ?_
            refine C.callV (argsL := []) (rest := []) 0 (fun zz => au3267_12 l Z a0 hw n0 h3256 zz as ah aw e0 e1 e2 F3259 F3263 F3261 F3262 F3260 F3265 F3264 g3080 g3082 g3081 ne3084 ne3083 (Ne.symm ne3085)) F3259 at_309 rfl (tw hw 57 rfl) (tw hw 58 rfl) (tw hw 59 rfl) (tw hw 60 rfl) (tw hw 5 rfl) (tw hw 61 rfl) (by decide) pd_2 rfl rfl rfl (Nat.le_of_eq rfl) (by decide) (by decide) (by decide) (by decide) (fun v3268 h3269 r3270 => ?_)
            obtain ⟨rfl, rfl⟩ := r3270
            refine C.iload at_312 rfl rfl ?_
            refine C.icmp_eq_t at_314 (by decide) rfl (by decide) ?_
            refine C.iload at_319 rfl rfl ?_
            refine C.if_le_f at_321 rfl (by decide) ?_
            refine C.aload at_324 rfl rfl rfl ?_
            refine C.iconst 0 at_326 rfl rfl ?_
            refine C.callV (argsL := [(.int 0)]) (rest := []) 0 (fun zz => au3272_13 l Z a0 hw n0 h3256 zz as ah aw e0 e1 e2 F3259 F3263 F3261 F3262 F3260 F3265 F3264 g3080 g3082 g3081 ne3084 ne3083 (Ne.symm ne3085)) F3259 at_327 rfl (tw hw 62 rfl) (tw hw 63 rfl) (tw hw 64 rfl) (tw hw 65 rfl) (tw hw 5 rfl) (tw hw 66 rfl) (by decide) pd_3 rfl rfl rfl (Nat.le_of_eq rfl) (by decide) (by decide) (by decide) (by decide) (fun v3273 h3274 r3275 => ?_)
            obtain ⟨rfl, rfl⟩ := r3275
            refine C.aload at_330 rfl rfl rfl ?_
            refine C.iconst 0 at_332 rfl rfl ?_
            refine C.iaload (.int 2) at_333 rfl F3266 (by decide) rfl ?_
            refine C.icmp_eq_t at_334 (by decide) rfl (by decide) ?_
            refine C.iload at_339 rfl rfl ?_
            refine C.iconst 1 at_341 rfl rfl ?_
            refine C.icmp_le_t at_342 (by decide) rfl (by decide) ?_
            refine C.iload at_360 rfl rfl ?_
            refine C.iconst 2 at_362 rfl rfl ?_
            refine C.icmp_le_t at_363 (by decide) rfl (by decide) ?_
            refine C.iconst 1 at_381 rfl rfl ?_
            exact C.retZ at_382 rfl (by decide) (by decide) ⟨rfl, trivial⟩
          have J251_3277 : ∀ (hJ3278 : Heap) (hz0 : ¬ e0 = 0) (hz1 : ¬ e1 = 0) (hz2 : e2 = 0) (F3280 : Exa Z hJ3278 as kC0) (F3281 : Fld Z hJ3278 as kC0 "words" "[J" (.ref aw)) (F3282 : Fld Z hJ3278 as kC0 "held" "[I" (.ref ah)) (F3283 : Fld Z hJ3278 as kC0 "listing" "Z" (.int 1)) (F3284 : Fld Z hJ3278 as kC0 "count" "I" (.int 2)) (F3285 : Av Z hJ3278 aw .long (.long e0 :: .long e1 :: .long e2 :: zJ45)) (F3286 : Av Z hJ3278 ah .int (.int 0 :: .int 1 :: zI46)), Go p l e room_1 s m #[(.long x0), (.long x1), (.long x2), (.int x3), (.int x4)] below meth c n0 (FinQ s n0 (Qcon0 Z n0 h0 x0 x1 x2 x3 x4) room_1.cells room_1.slots) hJ3278 4 105 251 #[.val (.long x0), .second, .val (.long x1), .second, .val (.long x2), .second, iv x3, iv x4, iv 1, iv f9, iv f10, iv f11, iv f12, rv am, rv as, .val (.long e0), .second, .val (.long e1), .second, .val (.long e2), .second, .unset, .unset] [] := by
            intro hJ3278 hz0 hz1 hz2 F3280 F3281 F3282 F3283 F3284 F3285 F3286
            refine C.iconst 3 at_251 rfl rfl ?_
            refine C.newarr 3 at_252 rfl rfl (tw hw 16 rfl) (by decide) (by decide) (by decide) (by decide) (by decide) (fun a3287 h3288 z3291 g3292 X3289 F3290 => ?_)
            have ne3293 : as ≠ a3287 := by rw [z3291]; exact Nat.ne_of_lt F3280.lt
            have ne3294 : aw ≠ a3287 := by rw [z3291]; exact Nat.ne_of_lt F3285.lt
            have ne3295 : ah ≠ a3287 := by rw [z3291]; exact Nat.ne_of_lt F3286.lt
            have F3296 := Exa.ext X3289 F3280
            have F3297 := Fld.ext X3289 F3281
            have F3298 := Fld.ext X3289 F3282
            have F3299 := Fld.ext X3289 F3283
            have F3300 := Fld.ext X3289 F3284
            have F3301 := F3285.ext X3289
            have F3302 := F3286.ext X3289
            have F3303 : Av Z h3288 a3287 .int ([.int 0, .int 0, .int 0]) := F3290
            refine C.astore (Ls' := #[.val (.long x0), .second, .val (.long x1), .second, .val (.long x2), .second, iv x3, iv x4, iv 1, iv f9, iv f10, iv f11, iv f12, rv am, rv as, .val (.long e0), .second, .val (.long e1), .second, .val (.long e2), .second, rv a3287, .unset]) at_254 rfl rfl rfl ?_
            refine C.iconst 0 at_256 rfl rfl ?_
            refine C.istore (Ls' := #[.val (.long x0), .second, .val (.long x1), .second, .val (.long x2), .second, iv x3, iv x4, iv 1, iv f9, iv f10, iv f11, iv f12, rv am, rv as, .val (.long e0), .second, .val (.long e1), .second, .val (.long e2), .second, rv a3287, iv 0]) at_257 rfl rfl ?_
            refine C.lload at_259 rfl rfl ?_
            refine C.lconst 0 at_261 rfl rfl ?_
            refine C.lcmp at_262 rfl ?_
            refine C.lif_eq_f at_263 rfl hz0 ?_
            refine C.aload at_266 rfl rfl rfl ?_
            refine C.iload at_268 rfl rfl ?_
            refine C.iconst 0 at_270 rfl rfl ?_
            refine C.iastore at_271 rfl F3303 g3292 (by decide) (Nat.le_of_ble_eq_true rfl) (fun h3304 W3305 F3306 => ?_)
            have F3307 := Exa.wr W3305 F3296
            have F3308 := Fld.other W3305 F3297 (Or.inl ne3293)
            have F3309 := Fld.other W3305 F3298 (Or.inl ne3293)
            have F3310 := Fld.other W3305 F3299 (Or.inl ne3293)
            have F3311 := Fld.other W3305 F3300 (Or.inl ne3293)
            have F3312 := F3301.other W3305 ne3294
            have F3313 := F3302.other W3305 ne3295
            have F3314 : Av Z h3304 a3287 .int ([.int 0, .int 0, .int 0]) := F3306
            refine C.iinc (Ls' := #[.val (.long x0), .second, .val (.long x1), .second, .val (.long x2), .second, iv x3, iv x4, iv 1, iv f9, iv f10, iv f11, iv f12, rv am, rv as, .val (.long e0), .second, .val (.long e1), .second, .val (.long e2), .second, rv a3287, iv 1]) 1 at_272 rfl rfl rfl rfl ?_
            refine C.lload at_275 rfl rfl ?_
            refine C.lconst 0 at_277 rfl rfl ?_
            refine C.lcmp at_278 rfl ?_
            refine C.lif_eq_f at_279 rfl hz1 ?_
            refine C.aload at_282 rfl rfl rfl ?_
            refine C.iload at_284 rfl rfl ?_
            refine C.iconst 1 at_286 rfl rfl ?_
            refine C.iastore at_287 rfl F3314 g3292 (by decide) (Nat.le_of_ble_eq_true rfl) (fun h3315 W3316 F3317 => ?_)
            have F3318 := Exa.wr W3316 F3307
            have F3319 := Fld.other W3316 F3308 (Or.inl ne3293)
            have F3320 := Fld.other W3316 F3309 (Or.inl ne3293)
            have F3321 := Fld.other W3316 F3310 (Or.inl ne3293)
            have F3322 := Fld.other W3316 F3311 (Or.inl ne3293)
            have F3323 := F3312.other W3316 ne3294
            have F3324 := F3313.other W3316 ne3295
            have F3325 : Av Z h3315 a3287 .int ([.int 0, .int 1, .int 0]) := F3317
            refine C.iinc (Ls' := #[.val (.long x0), .second, .val (.long x1), .second, .val (.long x2), .second, iv x3, iv x4, iv 1, iv f9, iv f10, iv f11, iv f12, rv am, rv as, .val (.long e0), .second, .val (.long e1), .second, .val (.long e2), .second, rv a3287, iv 2]) 1 at_288 rfl rfl rfl rfl ?_
            refine C.lload at_291 rfl rfl ?_
            refine C.lconst 0 at_293 rfl rfl ?_
            refine C.lcmp at_294 rfl ?_
            refine C.lif_eq_t at_295 (by decide) rfl hz2 ?_
            refine C.aload at_307 rfl rfl rfl ?_
            refine C.callV (argsL := []) (rest := []) 0 (fun zz => au3326_12 l Z a0 hw n0 h3315 zz as ah aw e0 e1 e2 F3318 F3322 F3320 F3321 F3319 F3324 F3323 g3080 g3082 g3081 ne3084 ne3083 (Ne.symm ne3085)) F3318 at_309 rfl (tw hw 57 rfl) (tw hw 58 rfl) (tw hw 59 rfl) (tw hw 60 rfl) (tw hw 5 rfl) (tw hw 61 rfl) (by decide) pd_2 rfl rfl rfl (Nat.le_of_eq rfl) (by decide) (by decide) (by decide) (by decide) (fun v3327 h3328 r3329 => ?_)
            obtain ⟨rfl, rfl⟩ := r3329
            refine C.iload at_312 rfl rfl ?_
            refine C.icmp_eq_t at_314 (by decide) rfl (by decide) ?_
            refine C.iload at_319 rfl rfl ?_
            refine C.if_le_f at_321 rfl (by decide) ?_
            refine C.aload at_324 rfl rfl rfl ?_
            refine C.iconst 0 at_326 rfl rfl ?_
            refine C.callV (argsL := [(.int 0)]) (rest := []) 0 (fun zz => au3331_13 l Z a0 hw n0 h3315 zz as ah aw e0 e1 e2 F3318 F3322 F3320 F3321 F3319 F3324 F3323 g3080 g3082 g3081 ne3084 ne3083 (Ne.symm ne3085)) F3318 at_327 rfl (tw hw 62 rfl) (tw hw 63 rfl) (tw hw 64 rfl) (tw hw 65 rfl) (tw hw 5 rfl) (tw hw 66 rfl) (by decide) pd_3 rfl rfl rfl (Nat.le_of_eq rfl) (by decide) (by decide) (by decide) (by decide) (fun v3332 h3333 r3334 => ?_)
            obtain ⟨rfl, rfl⟩ := r3334
            refine C.aload at_330 rfl rfl rfl ?_
            refine C.iconst 0 at_332 rfl rfl ?_
            refine C.iaload (.int 0) at_333 rfl F3325 (by decide) rfl ?_
            refine C.icmp_eq_t at_334 (by decide) rfl (by decide) ?_
            refine C.iload at_339 rfl rfl ?_
            refine C.iconst 1 at_341 rfl rfl ?_
            refine C.icmp_le_f at_342 rfl (by decide) ?_
            refine C.aload at_345 rfl rfl rfl ?_
            refine C.iconst 1 at_347 rfl rfl ?_
            refine C.callV (argsL := [(.int 1)]) (rest := []) 0 (fun zz => au3336_13 l Z a0 hw n0 h3315 zz as ah aw e0 e1 e2 F3318 F3322 F3320 F3321 F3319 F3324 F3323 g3080 g3082 g3081 ne3084 ne3083 (Ne.symm ne3085)) F3318 at_348 rfl (tw hw 62 rfl) (tw hw 63 rfl) (tw hw 64 rfl) (tw hw 65 rfl) (tw hw 5 rfl) (tw hw 66 rfl) (by decide) pd_3 rfl rfl rfl (Nat.le_of_eq rfl) (by decide) (by decide) (by decide) (by decide) (fun v3337 h3338 r3339 => ?_)
            obtain ⟨rfl, rfl⟩ := r3339
            refine C.aload at_351 rfl rfl rfl ?_
            refine C.iconst 1 at_353 rfl rfl ?_
            refine C.iaload (.int 1) at_354 rfl F3325 (by decide) rfl ?_
            refine C.icmp_eq_t at_355 (by decide) rfl (by decide) ?_
            refine C.iload at_360 rfl rfl ?_
            refine C.iconst 2 at_362 rfl rfl ?_
            refine C.icmp_le_t at_363 (by decide) rfl (by decide) ?_
            refine C.iconst 1 at_381 rfl rfl ?_
            exact C.retZ at_382 rfl (by decide) (by decide) ⟨rfl, trivial⟩
          have J251_3341 : ∀ (hJ3342 : Heap) (hz0 : ¬ e0 = 0) (hz1 : e1 = 0) (hz2 : ¬ e2 = 0) (F3344 : Exa Z hJ3342 as kC0) (F3345 : Fld Z hJ3342 as kC0 "words" "[J" (.ref aw)) (F3346 : Fld Z hJ3342 as kC0 "held" "[I" (.ref ah)) (F3347 : Fld Z hJ3342 as kC0 "listing" "Z" (.int 1)) (F3348 : Fld Z hJ3342 as kC0 "count" "I" (.int 2)) (F3349 : Av Z hJ3342 aw .long (.long e0 :: .long e1 :: .long e2 :: zJ45)) (F3350 : Av Z hJ3342 ah .int (.int 0 :: .int 2 :: zI46)), Go p l e room_1 s m #[(.long x0), (.long x1), (.long x2), (.int x3), (.int x4)] below meth c n0 (FinQ s n0 (Qcon0 Z n0 h0 x0 x1 x2 x3 x4) room_1.cells room_1.slots) hJ3342 4 105 251 #[.val (.long x0), .second, .val (.long x1), .second, .val (.long x2), .second, iv x3, iv x4, iv 1, iv f9, iv f10, iv f11, iv f12, rv am, rv as, .val (.long e0), .second, .val (.long e1), .second, .val (.long e2), .second, .unset, .unset] [] := by
            intro hJ3342 hz0 hz1 hz2 F3344 F3345 F3346 F3347 F3348 F3349 F3350
            refine C.iconst 3 at_251 rfl rfl ?_
            refine C.newarr 3 at_252 rfl rfl (tw hw 16 rfl) (by decide) (by decide) (by decide) (by decide) (by decide) (fun a3351 h3352 z3355 g3356 X3353 F3354 => ?_)
            have ne3357 : as ≠ a3351 := by rw [z3355]; exact Nat.ne_of_lt F3344.lt
            have ne3358 : aw ≠ a3351 := by rw [z3355]; exact Nat.ne_of_lt F3349.lt
            have ne3359 : ah ≠ a3351 := by rw [z3355]; exact Nat.ne_of_lt F3350.lt
            have F3360 := Exa.ext X3353 F3344
            have F3361 := Fld.ext X3353 F3345
            have F3362 := Fld.ext X3353 F3346
            have F3363 := Fld.ext X3353 F3347
            have F3364 := Fld.ext X3353 F3348
            have F3365 := F3349.ext X3353
            have F3366 := F3350.ext X3353
            have F3367 : Av Z h3352 a3351 .int ([.int 0, .int 0, .int 0]) := F3354
            refine C.astore (Ls' := #[.val (.long x0), .second, .val (.long x1), .second, .val (.long x2), .second, iv x3, iv x4, iv 1, iv f9, iv f10, iv f11, iv f12, rv am, rv as, .val (.long e0), .second, .val (.long e1), .second, .val (.long e2), .second, rv a3351, .unset]) at_254 rfl rfl rfl ?_
            refine C.iconst 0 at_256 rfl rfl ?_
            refine C.istore (Ls' := #[.val (.long x0), .second, .val (.long x1), .second, .val (.long x2), .second, iv x3, iv x4, iv 1, iv f9, iv f10, iv f11, iv f12, rv am, rv as, .val (.long e0), .second, .val (.long e1), .second, .val (.long e2), .second, rv a3351, iv 0]) at_257 rfl rfl ?_
            refine C.lload at_259 rfl rfl ?_
            refine C.lconst 0 at_261 rfl rfl ?_
            refine C.lcmp at_262 rfl ?_
            refine C.lif_eq_f at_263 rfl hz0 ?_
            refine C.aload at_266 rfl rfl rfl ?_
            refine C.iload at_268 rfl rfl ?_
            refine C.iconst 0 at_270 rfl rfl ?_
            refine C.iastore at_271 rfl F3367 g3356 (by decide) (Nat.le_of_ble_eq_true rfl) (fun h3368 W3369 F3370 => ?_)
            have F3371 := Exa.wr W3369 F3360
            have F3372 := Fld.other W3369 F3361 (Or.inl ne3357)
            have F3373 := Fld.other W3369 F3362 (Or.inl ne3357)
            have F3374 := Fld.other W3369 F3363 (Or.inl ne3357)
            have F3375 := Fld.other W3369 F3364 (Or.inl ne3357)
            have F3376 := F3365.other W3369 ne3358
            have F3377 := F3366.other W3369 ne3359
            have F3378 : Av Z h3368 a3351 .int ([.int 0, .int 0, .int 0]) := F3370
            refine C.iinc (Ls' := #[.val (.long x0), .second, .val (.long x1), .second, .val (.long x2), .second, iv x3, iv x4, iv 1, iv f9, iv f10, iv f11, iv f12, rv am, rv as, .val (.long e0), .second, .val (.long e1), .second, .val (.long e2), .second, rv a3351, iv 1]) 1 at_272 rfl rfl rfl rfl ?_
            refine C.lload at_275 rfl rfl ?_
            refine C.lconst 0 at_277 rfl rfl ?_
            refine C.lcmp at_278 rfl ?_
            refine C.lif_eq_t at_279 (by decide) rfl hz1 ?_
            refine C.lload at_291 rfl rfl ?_
            refine C.lconst 0 at_293 rfl rfl ?_
            refine C.lcmp at_294 rfl ?_
            refine C.lif_eq_f at_295 rfl hz2 ?_
            refine C.aload at_298 rfl rfl rfl ?_
            refine C.iload at_300 rfl rfl ?_
            refine C.iconst 2 at_302 rfl rfl ?_
            refine C.iastore at_303 rfl F3378 g3356 (by decide) (Nat.le_of_ble_eq_true rfl) (fun h3379 W3380 F3381 => ?_)
            have F3382 := Exa.wr W3380 F3371
            have F3383 := Fld.other W3380 F3372 (Or.inl ne3357)
            have F3384 := Fld.other W3380 F3373 (Or.inl ne3357)
            have F3385 := Fld.other W3380 F3374 (Or.inl ne3357)
            have F3386 := Fld.other W3380 F3375 (Or.inl ne3357)
            have F3387 := F3376.other W3380 ne3358
            have F3388 := F3377.other W3380 ne3359
            have F3389 : Av Z h3379 a3351 .int ([.int 0, .int 2, .int 0]) := F3381
            refine C.iinc (Ls' := #[.val (.long x0), .second, .val (.long x1), .second, .val (.long x2), .second, iv x3, iv x4, iv 1, iv f9, iv f10, iv f11, iv f12, rv am, rv as, .val (.long e0), .second, .val (.long e1), .second, .val (.long e2), .second, rv a3351, iv 2]) 1 at_304 rfl rfl rfl rfl ?_
            refine C.aload at_307 rfl rfl rfl ?_
            refine C.callV (argsL := []) (rest := []) 0 (fun zz => au3390_12 l Z a0 hw n0 h3379 zz as ah aw e0 e1 e2 F3382 F3386 F3384 F3385 F3383 F3388 F3387 g3080 g3082 g3081 ne3084 ne3083 (Ne.symm ne3085)) F3382 at_309 rfl (tw hw 57 rfl) (tw hw 58 rfl) (tw hw 59 rfl) (tw hw 60 rfl) (tw hw 5 rfl) (tw hw 61 rfl) (by decide) pd_2 rfl rfl rfl (Nat.le_of_eq rfl) (by decide) (by decide) (by decide) (by decide) (fun v3391 h3392 r3393 => ?_)
            obtain ⟨rfl, rfl⟩ := r3393
            refine C.iload at_312 rfl rfl ?_
            refine C.icmp_eq_t at_314 (by decide) rfl (by decide) ?_
            refine C.iload at_319 rfl rfl ?_
            refine C.if_le_f at_321 rfl (by decide) ?_
            refine C.aload at_324 rfl rfl rfl ?_
            refine C.iconst 0 at_326 rfl rfl ?_
            refine C.callV (argsL := [(.int 0)]) (rest := []) 0 (fun zz => au3395_13 l Z a0 hw n0 h3379 zz as ah aw e0 e1 e2 F3382 F3386 F3384 F3385 F3383 F3388 F3387 g3080 g3082 g3081 ne3084 ne3083 (Ne.symm ne3085)) F3382 at_327 rfl (tw hw 62 rfl) (tw hw 63 rfl) (tw hw 64 rfl) (tw hw 65 rfl) (tw hw 5 rfl) (tw hw 66 rfl) (by decide) pd_3 rfl rfl rfl (Nat.le_of_eq rfl) (by decide) (by decide) (by decide) (by decide) (fun v3396 h3397 r3398 => ?_)
            obtain ⟨rfl, rfl⟩ := r3398
            refine C.aload at_330 rfl rfl rfl ?_
            refine C.iconst 0 at_332 rfl rfl ?_
            refine C.iaload (.int 0) at_333 rfl F3389 (by decide) rfl ?_
            refine C.icmp_eq_t at_334 (by decide) rfl (by decide) ?_
            refine C.iload at_339 rfl rfl ?_
            refine C.iconst 1 at_341 rfl rfl ?_
            refine C.icmp_le_f at_342 rfl (by decide) ?_
            refine C.aload at_345 rfl rfl rfl ?_
            refine C.iconst 1 at_347 rfl rfl ?_
            refine C.callV (argsL := [(.int 1)]) (rest := []) 0 (fun zz => au3400_13 l Z a0 hw n0 h3379 zz as ah aw e0 e1 e2 F3382 F3386 F3384 F3385 F3383 F3388 F3387 g3080 g3082 g3081 ne3084 ne3083 (Ne.symm ne3085)) F3382 at_348 rfl (tw hw 62 rfl) (tw hw 63 rfl) (tw hw 64 rfl) (tw hw 65 rfl) (tw hw 5 rfl) (tw hw 66 rfl) (by decide) pd_3 rfl rfl rfl (Nat.le_of_eq rfl) (by decide) (by decide) (by decide) (by decide) (fun v3401 h3402 r3403 => ?_)
            obtain ⟨rfl, rfl⟩ := r3403
            refine C.aload at_351 rfl rfl rfl ?_
            refine C.iconst 1 at_353 rfl rfl ?_
            refine C.iaload (.int 2) at_354 rfl F3389 (by decide) rfl ?_
            refine C.icmp_eq_t at_355 (by decide) rfl (by decide) ?_
            refine C.iload at_360 rfl rfl ?_
            refine C.iconst 2 at_362 rfl rfl ?_
            refine C.icmp_le_t at_363 (by decide) rfl (by decide) ?_
            refine C.iconst 1 at_381 rfl rfl ?_
            exact C.retZ at_382 rfl (by decide) (by decide) ⟨rfl, trivial⟩
          have J251_3405 : ∀ (hJ3406 : Heap) (hz0 : e0 = 0) (hz1 : ¬ e1 = 0) (hz2 : ¬ e2 = 0) (F3408 : Exa Z hJ3406 as kC0) (F3409 : Fld Z hJ3406 as kC0 "words" "[J" (.ref aw)) (F3410 : Fld Z hJ3406 as kC0 "held" "[I" (.ref ah)) (F3411 : Fld Z hJ3406 as kC0 "listing" "Z" (.int 1)) (F3412 : Fld Z hJ3406 as kC0 "count" "I" (.int 2)) (F3413 : Av Z hJ3406 aw .long (.long e0 :: .long e1 :: .long e2 :: zJ45)) (F3414 : Av Z hJ3406 ah .int (.int 1 :: .int 2 :: zI46)), Go p l e room_1 s m #[(.long x0), (.long x1), (.long x2), (.int x3), (.int x4)] below meth c n0 (FinQ s n0 (Qcon0 Z n0 h0 x0 x1 x2 x3 x4) room_1.cells room_1.slots) hJ3406 4 105 251 #[.val (.long x0), .second, .val (.long x1), .second, .val (.long x2), .second, iv x3, iv x4, iv 1, iv f9, iv f10, iv f11, iv f12, rv am, rv as, .val (.long e0), .second, .val (.long e1), .second, .val (.long e2), .second, .unset, .unset] [] := by
            intro hJ3406 hz0 hz1 hz2 F3408 F3409 F3410 F3411 F3412 F3413 F3414
            refine C.iconst 3 at_251 rfl rfl ?_
            refine C.newarr 3 at_252 rfl rfl (tw hw 16 rfl) (by decide) (by decide) (by decide) (by decide) (by decide) (fun a3415 h3416 z3419 g3420 X3417 F3418 => ?_)
            have ne3421 : as ≠ a3415 := by rw [z3419]; exact Nat.ne_of_lt F3408.lt
            have ne3422 : aw ≠ a3415 := by rw [z3419]; exact Nat.ne_of_lt F3413.lt
            have ne3423 : ah ≠ a3415 := by rw [z3419]; exact Nat.ne_of_lt F3414.lt
            have F3424 := Exa.ext X3417 F3408
            have F3425 := Fld.ext X3417 F3409
            have F3426 := Fld.ext X3417 F3410
            have F3427 := Fld.ext X3417 F3411
            have F3428 := Fld.ext X3417 F3412
            have F3429 := F3413.ext X3417
            have F3430 := F3414.ext X3417
            have F3431 : Av Z h3416 a3415 .int ([.int 0, .int 0, .int 0]) := F3418
            refine C.astore (Ls' := #[.val (.long x0), .second, .val (.long x1), .second, .val (.long x2), .second, iv x3, iv x4, iv 1, iv f9, iv f10, iv f11, iv f12, rv am, rv as, .val (.long e0), .second, .val (.long e1), .second, .val (.long e2), .second, rv a3415, .unset]) at_254 rfl rfl rfl ?_
            refine C.iconst 0 at_256 rfl rfl ?_
            refine C.istore (Ls' := #[.val (.long x0), .second, .val (.long x1), .second, .val (.long x2), .second, iv x3, iv x4, iv 1, iv f9, iv f10, iv f11, iv f12, rv am, rv as, .val (.long e0), .second, .val (.long e1), .second, .val (.long e2), .second, rv a3415, iv 0]) at_257 rfl rfl ?_
            refine C.lload at_259 rfl rfl ?_
            refine C.lconst 0 at_261 rfl rfl ?_
            refine C.lcmp at_262 rfl ?_
            refine C.lif_eq_t at_263 (by decide) rfl hz0 ?_
            refine C.lload at_275 rfl rfl ?_
            refine C.lconst 0 at_277 rfl rfl ?_
            refine C.lcmp at_278 rfl ?_
            refine C.lif_eq_f at_279 rfl hz1 ?_
            refine C.aload at_282 rfl rfl rfl ?_
            refine C.iload at_284 rfl rfl ?_
            refine C.iconst 1 at_286 rfl rfl ?_
            refine C.iastore at_287 rfl F3431 g3420 (by decide) (Nat.le_of_ble_eq_true rfl) (fun h3432 W3433 F3434 => ?_)
            have F3435 := Exa.wr W3433 F3424
            have F3436 := Fld.other W3433 F3425 (Or.inl ne3421)
            have F3437 := Fld.other W3433 F3426 (Or.inl ne3421)
            have F3438 := Fld.other W3433 F3427 (Or.inl ne3421)
            have F3439 := Fld.other W3433 F3428 (Or.inl ne3421)
            have F3440 := F3429.other W3433 ne3422
            have F3441 := F3430.other W3433 ne3423
            have F3442 : Av Z h3432 a3415 .int ([.int 1, .int 0, .int 0]) := F3434
            refine C.iinc (Ls' := #[.val (.long x0), .second, .val (.long x1), .second, .val (.long x2), .second, iv x3, iv x4, iv 1, iv f9, iv f10, iv f11, iv f12, rv am, rv as, .val (.long e0), .second, .val (.long e1), .second, .val (.long e2), .second, rv a3415, iv 1]) 1 at_288 rfl rfl rfl rfl ?_
            refine C.lload at_291 rfl rfl ?_
            refine C.lconst 0 at_293 rfl rfl ?_
            refine C.lcmp at_294 rfl ?_
            refine C.lif_eq_f at_295 rfl hz2 ?_
            refine C.aload at_298 rfl rfl rfl ?_
            refine C.iload at_300 rfl rfl ?_
            refine C.iconst 2 at_302 rfl rfl ?_
            refine C.iastore at_303 rfl F3442 g3420 (by decide) (Nat.le_of_ble_eq_true rfl) (fun h3443 W3444 F3445 => ?_)
            have F3446 := Exa.wr W3444 F3435
            have F3447 := Fld.other W3444 F3436 (Or.inl ne3421)
            have F3448 := Fld.other W3444 F3437 (Or.inl ne3421)
            have F3449 := Fld.other W3444 F3438 (Or.inl ne3421)
            have F3450 := Fld.other W3444 F3439 (Or.inl ne3421)
            have F3451 := F3440.other W3444 ne3422
            have F3452 := F3441.other W3444 ne3423
            have F3453 : Av Z h3443 a3415 .int ([.int 1, .int 2, .int 0]) := F3445
            refine C.iinc (Ls' := #[.val (.long x0), .second, .val (.long x1), .second, .val (.long x2), .second, iv x3, iv x4, iv 1, iv f9, iv f10, iv f11, iv f12, rv am, rv as, .val (.long e0), .second, .val (.long e1), .second, .val (.long e2), .second, rv a3415, iv 2]) 1 at_304 rfl rfl rfl rfl ?_
            refine C.aload at_307 rfl rfl rfl ?_
            refine C.callV (argsL := []) (rest := []) 0 (fun zz => au3454_12 l Z a0 hw n0 h3443 zz as ah aw e0 e1 e2 F3446 F3450 F3448 F3449 F3447 F3452 F3451 g3080 g3082 g3081 ne3084 ne3083 (Ne.symm ne3085)) F3446 at_309 rfl (tw hw 57 rfl) (tw hw 58 rfl) (tw hw 59 rfl) (tw hw 60 rfl) (tw hw 5 rfl) (tw hw 61 rfl) (by decide) pd_2 rfl rfl rfl (Nat.le_of_eq rfl) (by decide) (by decide) (by decide) (by decide) (fun v3455 h3456 r3457 => ?_)
            obtain ⟨rfl, rfl⟩ := r3457
            refine C.iload at_312 rfl rfl ?_
            refine C.icmp_eq_t at_314 (by decide) rfl (by decide) ?_
            refine C.iload at_319 rfl rfl ?_
            refine C.if_le_f at_321 rfl (by decide) ?_
            refine C.aload at_324 rfl rfl rfl ?_
            refine C.iconst 0 at_326 rfl rfl ?_
            refine C.callV (argsL := [(.int 0)]) (rest := []) 0 (fun zz => au3459_13 l Z a0 hw n0 h3443 zz as ah aw e0 e1 e2 F3446 F3450 F3448 F3449 F3447 F3452 F3451 g3080 g3082 g3081 ne3084 ne3083 (Ne.symm ne3085)) F3446 at_327 rfl (tw hw 62 rfl) (tw hw 63 rfl) (tw hw 64 rfl) (tw hw 65 rfl) (tw hw 5 rfl) (tw hw 66 rfl) (by decide) pd_3 rfl rfl rfl (Nat.le_of_eq rfl) (by decide) (by decide) (by decide) (by decide) (fun v3460 h3461 r3462 => ?_)
            obtain ⟨rfl, rfl⟩ := r3462
            refine C.aload at_330 rfl rfl rfl ?_
            refine C.iconst 0 at_332 rfl rfl ?_
            refine C.iaload (.int 1) at_333 rfl F3453 (by decide) rfl ?_
            refine C.icmp_eq_t at_334 (by decide) rfl (by decide) ?_
            refine C.iload at_339 rfl rfl ?_
            refine C.iconst 1 at_341 rfl rfl ?_
            refine C.icmp_le_f at_342 rfl (by decide) ?_
            refine C.aload at_345 rfl rfl rfl ?_
            refine C.iconst 1 at_347 rfl rfl ?_
            refine C.callV (argsL := [(.int 1)]) (rest := []) 0 (fun zz => au3464_13 l Z a0 hw n0 h3443 zz as ah aw e0 e1 e2 F3446 F3450 F3448 F3449 F3447 F3452 F3451 g3080 g3082 g3081 ne3084 ne3083 (Ne.symm ne3085)) F3446 at_348 rfl (tw hw 62 rfl) (tw hw 63 rfl) (tw hw 64 rfl) (tw hw 65 rfl) (tw hw 5 rfl) (tw hw 66 rfl) (by decide) pd_3 rfl rfl rfl (Nat.le_of_eq rfl) (by decide) (by decide) (by decide) (by decide) (fun v3465 h3466 r3467 => ?_)
            obtain ⟨rfl, rfl⟩ := r3467
            refine C.aload at_351 rfl rfl rfl ?_
            refine C.iconst 1 at_353 rfl rfl ?_
            refine C.iaload (.int 2) at_354 rfl F3453 (by decide) rfl ?_
            refine C.icmp_eq_t at_355 (by decide) rfl (by decide) ?_
            refine C.iload at_360 rfl rfl ?_
            refine C.iconst 2 at_362 rfl rfl ?_
            refine C.icmp_le_t at_363 (by decide) rfl (by decide) ?_
            refine C.iconst 1 at_381 rfl rfl ?_
            exact C.retZ at_382 rfl (by decide) (by decide) ⟨rfl, trivial⟩
          have J251_3469 : ∀ (hJ3470 : Heap) (hz0 : ¬ e0 = 0) (hz1 : ¬ e1 = 0) (hz2 : ¬ e2 = 0) (F3472 : Exa Z hJ3470 as kC0) (F3473 : Fld Z hJ3470 as kC0 "words" "[J" (.ref aw)) (F3474 : Fld Z hJ3470 as kC0 "held" "[I" (.ref ah)) (F3475 : Fld Z hJ3470 as kC0 "listing" "Z" (.int 1)) (F3476 : Fld Z hJ3470 as kC0 "count" "I" (.int 3)) (F3477 : Av Z hJ3470 aw .long (.long e0 :: .long e1 :: .long e2 :: zJ45)) (F3478 : Av Z hJ3470 ah .int (.int 0 :: .int 1 :: .int 2 :: zI45)), Go p l e room_1 s m #[(.long x0), (.long x1), (.long x2), (.int x3), (.int x4)] below meth c n0 (FinQ s n0 (Qcon0 Z n0 h0 x0 x1 x2 x3 x4) room_1.cells room_1.slots) hJ3470 4 105 251 #[.val (.long x0), .second, .val (.long x1), .second, .val (.long x2), .second, iv x3, iv x4, iv 1, iv f9, iv f10, iv f11, iv f12, rv am, rv as, .val (.long e0), .second, .val (.long e1), .second, .val (.long e2), .second, .unset, .unset] [] := by
            intro hJ3470 hz0 hz1 hz2 F3472 F3473 F3474 F3475 F3476 F3477 F3478
            refine C.iconst 3 at_251 rfl rfl ?_
            refine C.newarr 3 at_252 rfl rfl (tw hw 16 rfl) (by decide) (by decide) (by decide) (by decide) (by decide) (fun a3479 h3480 z3483 g3484 X3481 F3482 => ?_)
            have ne3485 : as ≠ a3479 := by rw [z3483]; exact Nat.ne_of_lt F3472.lt
            have ne3486 : aw ≠ a3479 := by rw [z3483]; exact Nat.ne_of_lt F3477.lt
            have ne3487 : ah ≠ a3479 := by rw [z3483]; exact Nat.ne_of_lt F3478.lt
            have F3488 := Exa.ext X3481 F3472
            have F3489 := Fld.ext X3481 F3473
            have F3490 := Fld.ext X3481 F3474
            have F3491 := Fld.ext X3481 F3475
            have F3492 := Fld.ext X3481 F3476
            have F3493 := F3477.ext X3481
            have F3494 := F3478.ext X3481
            have F3495 : Av Z h3480 a3479 .int ([.int 0, .int 0, .int 0]) := F3482
            refine C.astore (Ls' := #[.val (.long x0), .second, .val (.long x1), .second, .val (.long x2), .second, iv x3, iv x4, iv 1, iv f9, iv f10, iv f11, iv f12, rv am, rv as, .val (.long e0), .second, .val (.long e1), .second, .val (.long e2), .second, rv a3479, .unset]) at_254 rfl rfl rfl ?_
            refine C.iconst 0 at_256 rfl rfl ?_
            refine C.istore (Ls' := #[.val (.long x0), .second, .val (.long x1), .second, .val (.long x2), .second, iv x3, iv x4, iv 1, iv f9, iv f10, iv f11, iv f12, rv am, rv as, .val (.long e0), .second, .val (.long e1), .second, .val (.long e2), .second, rv a3479, iv 0]) at_257 rfl rfl ?_
            refine C.lload at_259 rfl rfl ?_
            refine C.lconst 0 at_261 rfl rfl ?_
            refine C.lcmp at_262 rfl ?_
            refine C.lif_eq_f at_263 rfl hz0 ?_
            refine C.aload at_266 rfl rfl rfl ?_
            refine C.iload at_268 rfl rfl ?_
            refine C.iconst 0 at_270 rfl rfl ?_
            refine C.iastore at_271 rfl F3495 g3484 (by decide) (Nat.le_of_ble_eq_true rfl) (fun h3496 W3497 F3498 => ?_)
            have F3499 := Exa.wr W3497 F3488
            have F3500 := Fld.other W3497 F3489 (Or.inl ne3485)
            have F3501 := Fld.other W3497 F3490 (Or.inl ne3485)
            have F3502 := Fld.other W3497 F3491 (Or.inl ne3485)
            have F3503 := Fld.other W3497 F3492 (Or.inl ne3485)
            have F3504 := F3493.other W3497 ne3486
            have F3505 := F3494.other W3497 ne3487
            have F3506 : Av Z h3496 a3479 .int ([.int 0, .int 0, .int 0]) := F3498
            refine C.iinc (Ls' := #[.val (.long x0), .second, .val (.long x1), .second, .val (.long x2), .second, iv x3, iv x4, iv 1, iv f9, iv f10, iv f11, iv f12, rv am, rv as, .val (.long e0), .second, .val (.long e1), .second, .val (.long e2), .second, rv a3479, iv 1]) 1 at_272 rfl rfl rfl rfl ?_
            refine C.lload at_275 rfl rfl ?_
            refine C.lconst 0 at_277 rfl rfl ?_
            refine C.lcmp at_278 rfl ?_
            refine C.lif_eq_f at_279 rfl hz1 ?_
            refine C.aload at_282 rfl rfl rfl ?_
            refine C.iload at_284 rfl rfl ?_
            refine C.iconst 1 at_286 rfl rfl ?_
            refine C.iastore at_287 rfl F3506 g3484 (by decide) (Nat.le_of_ble_eq_true rfl) (fun h3507 W3508 F3509 => ?_)
            have F3510 := Exa.wr W3508 F3499
            have F3511 := Fld.other W3508 F3500 (Or.inl ne3485)
            have F3512 := Fld.other W3508 F3501 (Or.inl ne3485)
            have F3513 := Fld.other W3508 F3502 (Or.inl ne3485)
            have F3514 := Fld.other W3508 F3503 (Or.inl ne3485)
            have F3515 := F3504.other W3508 ne3486
            have F3516 := F3505.other W3508 ne3487
            have F3517 : Av Z h3507 a3479 .int ([.int 0, .int 1, .int 0]) := F3509
            refine C.iinc (Ls' := #[.val (.long x0), .second, .val (.long x1), .second, .val (.long x2), .second, iv x3, iv x4, iv 1, iv f9, iv f10, iv f11, iv f12, rv am, rv as, .val (.long e0), .second, .val (.long e1), .second, .val (.long e2), .second, rv a3479, iv 2]) 1 at_288 rfl rfl rfl rfl ?_
            refine C.lload at_291 rfl rfl ?_
            refine C.lconst 0 at_293 rfl rfl ?_
            refine C.lcmp at_294 rfl ?_
            refine C.lif_eq_f at_295 rfl hz2 ?_
            refine C.aload at_298 rfl rfl rfl ?_
            refine C.iload at_300 rfl rfl ?_
            refine C.iconst 2 at_302 rfl rfl ?_
            refine C.iastore at_303 rfl F3517 g3484 (by decide) (Nat.le_of_ble_eq_true rfl) (fun h3518 W3519 F3520 => ?_)
            have F3521 := Exa.wr W3519 F3510
            have F3522 := Fld.other W3519 F3511 (Or.inl ne3485)
            have F3523 := Fld.other W3519 F3512 (Or.inl ne3485)
            have F3524 := Fld.other W3519 F3513 (Or.inl ne3485)
            have F3525 := Fld.other W3519 F3514 (Or.inl ne3485)
            have F3526 := F3515.other W3519 ne3486
            have F3527 := F3516.other W3519 ne3487
            have F3528 : Av Z h3518 a3479 .int ([.int 0, .int 1, .int 2]) := F3520
            refine C.iinc (Ls' := #[.val (.long x0), .second, .val (.long x1), .second, .val (.long x2), .second, iv x3, iv x4, iv 1, iv f9, iv f10, iv f11, iv f12, rv am, rv as, .val (.long e0), .second, .val (.long e1), .second, .val (.long e2), .second, rv a3479, iv 3]) 1 at_304 rfl rfl rfl rfl ?_
            refine C.aload at_307 rfl rfl rfl ?_
            refine C.callV (argsL := []) (rest := []) 0 (fun zz => au3529_12 l Z a0 hw n0 h3518 zz as ah aw e0 e1 e2 F3521 F3525 F3523 F3524 F3522 F3527 F3526 g3080 g3082 g3081 ne3084 ne3083 (Ne.symm ne3085)) F3521 at_309 rfl (tw hw 57 rfl) (tw hw 58 rfl) (tw hw 59 rfl) (tw hw 60 rfl) (tw hw 5 rfl) (tw hw 61 rfl) (by decide) pd_2 rfl rfl rfl (Nat.le_of_eq rfl) (by decide) (by decide) (by decide) (by decide) (fun v3530 h3531 r3532 => ?_)
            obtain ⟨rfl, rfl⟩ := r3532
            refine C.iload at_312 rfl rfl ?_
            refine C.icmp_eq_t at_314 (by decide) rfl (by decide) ?_
            refine C.iload at_319 rfl rfl ?_
            refine C.if_le_f at_321 rfl (by decide) ?_
            refine C.aload at_324 rfl rfl rfl ?_
            refine C.iconst 0 at_326 rfl rfl ?_
            refine C.callV (argsL := [(.int 0)]) (rest := []) 0 (fun zz => au3534_13 l Z a0 hw n0 h3518 zz as ah aw e0 e1 e2 F3521 F3525 F3523 F3524 F3522 F3527 F3526 g3080 g3082 g3081 ne3084 ne3083 (Ne.symm ne3085)) F3521 at_327 rfl (tw hw 62 rfl) (tw hw 63 rfl) (tw hw 64 rfl) (tw hw 65 rfl) (tw hw 5 rfl) (tw hw 66 rfl) (by decide) pd_3 rfl rfl rfl (Nat.le_of_eq rfl) (by decide) (by decide) (by decide) (by decide) (fun v3535 h3536 r3537 => ?_)
            obtain ⟨rfl, rfl⟩ := r3537
            refine C.aload at_330 rfl rfl rfl ?_
            refine C.iconst 0 at_332 rfl rfl ?_
            refine C.iaload (.int 0) at_333 rfl F3528 (by decide) rfl ?_
            refine C.icmp_eq_t at_334 (by decide) rfl (by decide) ?_
            refine C.iload at_339 rfl rfl ?_
            refine C.iconst 1 at_341 rfl rfl ?_
            refine C.icmp_le_f at_342 rfl (by decide) ?_
            refine C.aload at_345 rfl rfl rfl ?_
            refine C.iconst 1 at_347 rfl rfl ?_
            refine C.callV (argsL := [(.int 1)]) (rest := []) 0 (fun zz => au3539_13 l Z a0 hw n0 h3518 zz as ah aw e0 e1 e2 F3521 F3525 F3523 F3524 F3522 F3527 F3526 g3080 g3082 g3081 ne3084 ne3083 (Ne.symm ne3085)) F3521 at_348 rfl (tw hw 62 rfl) (tw hw 63 rfl) (tw hw 64 rfl) (tw hw 65 rfl) (tw hw 5 rfl) (tw hw 66 rfl) (by decide) pd_3 rfl rfl rfl (Nat.le_of_eq rfl) (by decide) (by decide) (by decide) (by decide) (fun v3540 h3541 r3542 => ?_)
            obtain ⟨rfl, rfl⟩ := r3542
            refine C.aload at_351 rfl rfl rfl ?_
            refine C.iconst 1 at_353 rfl rfl ?_
            refine C.iaload (.int 1) at_354 rfl F3528 (by decide) rfl ?_
            refine C.icmp_eq_t at_355 (by decide) rfl (by decide) ?_
            refine C.iload at_360 rfl rfl ?_
            refine C.iconst 2 at_362 rfl rfl ?_
            refine C.icmp_le_f at_363 rfl (by decide) ?_
            refine C.aload at_366 rfl rfl rfl ?_
            refine C.iconst 2 at_368 rfl rfl ?_
            refine C.callV (argsL := [(.int 2)]) (rest := []) 0 (fun zz => au3544_13 l Z a0 hw n0 h3518 zz as ah aw e0 e1 e2 F3521 F3525 F3523 F3524 F3522 F3527 F3526 g3080 g3082 g3081 ne3084 ne3083 (Ne.symm ne3085)) F3521 at_369 rfl (tw hw 62 rfl) (tw hw 63 rfl) (tw hw 64 rfl) (tw hw 65 rfl) (tw hw 5 rfl) (tw hw 66 rfl) (by decide) pd_3 rfl rfl rfl (Nat.le_of_eq rfl) (by decide) (by decide) (by decide) (by decide) (fun v3545 h3546 r3547 => ?_)
            obtain ⟨rfl, rfl⟩ := r3547
            refine C.aload at_372 rfl rfl rfl ?_
            refine C.iconst 2 at_374 rfl rfl ?_
            refine C.iaload (.int 2) at_375 rfl F3528 (by decide) rfl ?_
            refine C.icmp_eq_t at_376 (by decide) rfl (by decide) ?_
            refine C.iconst 1 at_381 rfl rfl ?_
            exact C.retZ at_382 rfl (by decide) (by decide) ⟨rfl, trivial⟩
          rcases hlist with ⟨hz0, hz1, hz2, rfl, rfl⟩ | ⟨hz0, hz1, hz2, rfl, rfl⟩ | ⟨hz0, hz1, hz2, rfl, rfl⟩ | ⟨hz0, hz1, hz2, rfl, rfl⟩ | ⟨hz0, hz1, hz2, rfl, rfl⟩ | ⟨hz0, hz1, hz2, rfl, rfl⟩ | ⟨hz0, hz1, hz2, rfl, rfl⟩ | ⟨hz0, hz1, hz2, rfl, rfl⟩ | ⟨hz0, hz1, hz2, rfl, rfl⟩ | ⟨hz0, hz1, hz2, rfl, rfl⟩ | ⟨hz0, hz1, hz2, rfl, rfl⟩ | ⟨hz0, hz1, hz2, rfl, rfl⟩ | ⟨hz0, hz1, hz2, rfl, rfl⟩
          · refine C.aload at_246 rfl rfl rfl ?_
            refine C.callV (argsL := []) (rest := []) 0 (fun zz => au3549_6 l Z a0 hw n0 hJ3071 zz as ah aw e0 e1 e2 F3073 F3077 F3075 F3076 F3074 F3079 F3078 g3080 g3082 g3081 ne3084 ne3083 (Ne.symm ne3085)) F3073 at_248 rfl (tw hw 33 rfl) (tw hw 34 rfl) (tw hw 35 rfl) (tw hw 36 rfl) (tw hw 5 rfl) (tw hw 37 rfl) (by decide) pd_1 rfl rfl rfl (Nat.le_of_eq rfl) (by decide) (by decide) (by decide) (by decide) (fun v3615 h3616 r3617 => ?_)
            obtain ⟨rfl, rfl⟩ := r3617
            exact (J251_3101 hJ3071 hz0 hz1 hz2 F3073 F3074 F3075 F3076 F3077 F3078 F3079).more (by decide) (by decide)
          · refine C.aload at_246 rfl rfl rfl ?_
            refine C.callV (argsL := []) (rest := []) 0 (fun zz => au3619_6 l Z a0 hw n0 hJ3071 zz as ah aw e0 e1 e2 F3073 F3077 F3075 F3076 F3074 F3079 F3078 g3080 g3082 g3081 ne3084 ne3083 (Ne.symm ne3085)) F3073 at_248 rfl (tw hw 33 rfl) (tw hw 34 rfl) (tw hw 35 rfl) (tw hw 36 rfl) (tw hw 5 rfl) (tw hw 37 rfl) (by decide) pd_1 rfl rfl rfl (Nat.le_of_eq rfl) (by decide) (by decide) (by decide) (by decide) (fun v3685 h3686 r3687 => ?_)
            obtain ⟨rfl, rfl⟩ := r3687
            exact (J251_3133 hJ3071 hz0 hz1 hz2 F3073 F3074 F3075 F3076 F3077 F3078 F3079).more (by decide) (by decide)
          · refine C.aload at_246 rfl rfl rfl ?_
            refine C.callV (argsL := []) (rest := []) 0 (fun zz => au3689_6 l Z a0 hw n0 hJ3071 zz as ah aw e0 e1 e2 F3073 F3077 F3075 F3076 F3074 F3079 F3078 g3080 g3082 g3081 ne3084 ne3083 (Ne.symm ne3085)) F3073 at_248 rfl (tw hw 33 rfl) (tw hw 34 rfl) (tw hw 35 rfl) (tw hw 36 rfl) (tw hw 5 rfl) (tw hw 37 rfl) (by decide) pd_1 rfl rfl rfl (Nat.le_of_eq rfl) (by decide) (by decide) (by decide) (by decide) (fun v3754 h3755 r3756 => ?_)
            obtain ⟨rfl, rfl⟩ := r3756
            exact (J251_3181 hJ3071 hz0 hz1 hz2 F3073 F3074 F3075 F3076 F3077 F3078 F3079).more (by decide) (by decide)
          · refine C.aload at_246 rfl rfl rfl ?_
            refine C.callV (argsL := []) (rest := []) 0 (fun zz => au3758_6 l Z a0 hw n0 hJ3071 zz as ah aw e0 e1 e2 F3073 F3077 F3075 F3076 F3074 F3079 F3078 g3080 g3082 g3081 ne3084 ne3083 (Ne.symm ne3085)) F3073 at_248 rfl (tw hw 33 rfl) (tw hw 34 rfl) (tw hw 35 rfl) (tw hw 36 rfl) (tw hw 5 rfl) (tw hw 37 rfl) (by decide) pd_1 rfl rfl rfl (Nat.le_of_eq rfl) (by decide) (by decide) (by decide) (by decide) (fun v3823 h3824 r3825 => ?_)
            obtain ⟨rfl, rfl⟩ := r3825
            exact (J251_3229 hJ3071 hz0 hz1 hz2 F3073 F3074 F3075 F3076 F3077 F3078 F3079).more (by decide) (by decide)
          · refine C.aload at_246 rfl rfl rfl ?_
            refine C.callV (argsL := []) (rest := []) 0 (fun zz => au3827_6 l Z a0 hw n0 hJ3071 zz as ah aw e0 e1 e2 F3073 F3077 F3075 F3076 F3074 F3079 F3078 g3080 g3082 g3081 ne3084 ne3083 (Ne.symm ne3085)) F3073 at_248 rfl (tw hw 33 rfl) (tw hw 34 rfl) (tw hw 35 rfl) (tw hw 36 rfl) (tw hw 5 rfl) (tw hw 37 rfl) (by decide) pd_1 rfl rfl rfl (Nat.le_of_eq rfl) (by decide) (by decide) (by decide) (by decide) (fun v3893 h3894 r3895 => ?_)
            obtain ⟨rfl, rfl⟩ := r3895
            exact (J251_3277 hJ3071 hz0 hz1 hz2 F3073 F3074 F3075 F3076 F3077 F3078 F3079).more (by decide) (by decide)
          · refine C.aload at_246 rfl rfl rfl ?_
            refine C.callV (argsL := []) (rest := []) 0 (fun zz => au3897_6 l Z a0 hw n0 hJ3071 zz as ah aw e0 e1 e2 F3073 F3077 F3075 F3076 F3074 F3079 F3078 g3080 g3082 g3081 ne3084 ne3083 (Ne.symm ne3085)) F3073 at_248 rfl (tw hw 33 rfl) (tw hw 34 rfl) (tw hw 35 rfl) (tw hw 36 rfl) (tw hw 5 rfl) (tw hw 37 rfl) (by decide) pd_1 rfl rfl rfl (Nat.le_of_eq rfl) (by decide) (by decide) (by decide) (by decide) (fun v3962 h3963 r3964 => ?_)
            obtain ⟨rfl, rfl⟩ := r3964
            exact (J251_3341 hJ3071 hz0 hz1 hz2 F3073 F3074 F3075 F3076 F3077 F3078 F3079).more (by decide) (by decide)
          · refine C.aload at_246 rfl rfl rfl ?_
            refine C.callV (argsL := []) (rest := []) 0 (fun zz => au3966_6 l Z a0 hw n0 hJ3071 zz as ah aw e0 e1 e2 F3073 F3077 F3075 F3076 F3074 F3079 F3078 g3080 g3082 g3081 ne3084 ne3083 (Ne.symm ne3085)) F3073 at_248 rfl (tw hw 33 rfl) (tw hw 34 rfl) (tw hw 35 rfl) (tw hw 36 rfl) (tw hw 5 rfl) (tw hw 37 rfl) (by decide) pd_1 rfl rfl rfl (Nat.le_of_eq rfl) (by decide) (by decide) (by decide) (by decide) (fun v4031 h4032 r4033 => ?_)
            obtain ⟨rfl, rfl⟩ := r4033
            exact (J251_3405 hJ3071 hz0 hz1 hz2 F3073 F3074 F3075 F3076 F3077 F3078 F3079).more (by decide) (by decide)
          · refine C.aload at_246 rfl rfl rfl ?_
            refine C.callV (argsL := []) (rest := []) 0 (fun zz => au4035_6 l Z a0 hw n0 hJ3071 zz as ah aw e0 e1 e2 F3073 F3077 F3075 F3076 F3074 F3079 F3078 g3080 g3082 g3081 ne3084 ne3083 (Ne.symm ne3085)) F3073 at_248 rfl (tw hw 33 rfl) (tw hw 34 rfl) (tw hw 35 rfl) (tw hw 36 rfl) (tw hw 5 rfl) (tw hw 37 rfl) (by decide) pd_1 rfl rfl rfl (Nat.le_of_eq rfl) (by decide) (by decide) (by decide) (by decide) (fun v4101 h4102 r4103 => ?_)
            obtain ⟨rfl, rfl⟩ := r4103
            exact (J251_3469 hJ3071 hz0 hz1 hz2 F3073 F3074 F3075 F3076 F3077 F3078 F3079).more (by decide) (by decide)
          · refine C.aload at_246 rfl rfl rfl ?_
            refine C.callV (argsL := []) (rest := []) 0 (fun zz => au4105_6 l Z a0 hw n0 hJ3071 zz as ah aw e0 e1 e2 F3073 F3077 F3075 F3076 F3074 F3079 F3078 g3080 g3082 g3081 ne3084 ne3083 (Ne.symm ne3085)) F3073 at_248 rfl (tw hw 33 rfl) (tw hw 34 rfl) (tw hw 35 rfl) (tw hw 36 rfl) (tw hw 5 rfl) (tw hw 37 rfl) (by decide) pd_1 rfl rfl rfl (Nat.le_of_eq rfl) (by decide) (by decide) (by decide) (by decide) (fun v4236 h4237 r4238 => ?_)
            obtain ⟨rfl, K4239, F4240⟩ := r4238
            have F4241 := F3073.keep K4239
            have F4242 := F3074.keep K4239 (ninS ne3084 nin0)
            have F4243 := F3075.keep K4239 (ninS ne3084 nin0)
            have F4244 := F3076.keep K4239 (ninS ne3084 nin0)
            have F4245 := F3077.keep K4239 (ninS ne3084 nin0)
            have F4246 := F3078.keep K4239 (ninS ne3085 nin0)
            exact (J251_3277 h4237 hz0 hz1 hz2 F4241 F4242 F4243 F4244 F4245 F4246 F4240).more (by decide) (by decide)
          · refine C.aload at_246 rfl rfl rfl ?_
            refine C.callV (argsL := []) (rest := []) 0 (fun zz => au4248_6 l Z a0 hw n0 hJ3071 zz as ah aw e0 e1 e2 F3073 F3077 F3075 F3076 F3074 F3079 F3078 g3080 g3082 g3081 ne3084 ne3083 (Ne.symm ne3085)) F3073 at_248 rfl (tw hw 33 rfl) (tw hw 34 rfl) (tw hw 35 rfl) (tw hw 36 rfl) (tw hw 5 rfl) (tw hw 37 rfl) (by decide) pd_1 rfl rfl rfl (Nat.le_of_eq rfl) (by decide) (by decide) (by decide) (by decide) (fun v4379 h4380 r4381 => ?_)
            obtain ⟨rfl, K4382, F4383⟩ := r4381
            have F4384 := F3073.keep K4382
            have F4385 := F3074.keep K4382 (ninS ne3084 nin0)
            have F4386 := F3075.keep K4382 (ninS ne3084 nin0)
            have F4387 := F3076.keep K4382 (ninS ne3084 nin0)
            have F4388 := F3077.keep K4382 (ninS ne3084 nin0)
            have F4389 := F3078.keep K4382 (ninS ne3085 nin0)
            exact (J251_3469 h4380 hz0 hz1 hz2 F4384 F4385 F4386 F4387 F4388 F4389 F4383).more (by decide) (by decide)
          · refine C.aload at_246 rfl rfl rfl ?_
            refine C.callV (argsL := []) (rest := []) 0 (fun zz => au4391_6 l Z a0 hw n0 hJ3071 zz as ah aw e0 e1 e2 F3073 F3077 F3075 F3076 F3074 F3079 F3078 g3080 g3082 g3081 ne3084 ne3083 (Ne.symm ne3085)) F3073 at_248 rfl (tw hw 33 rfl) (tw hw 34 rfl) (tw hw 35 rfl) (tw hw 36 rfl) (tw hw 5 rfl) (tw hw 37 rfl) (by decide) pd_1 rfl rfl rfl (Nat.le_of_eq rfl) (by decide) (by decide) (by decide) (by decide) (fun v4522 h4523 r4524 => ?_)
            obtain ⟨rfl, K4525, F4526⟩ := r4524
            have F4527 := F3073.keep K4525
            have F4528 := F3074.keep K4525 (ninS ne3084 nin0)
            have F4529 := F3075.keep K4525 (ninS ne3084 nin0)
            have F4530 := F3076.keep K4525 (ninS ne3084 nin0)
            have F4531 := F3077.keep K4525 (ninS ne3084 nin0)
            have F4532 := F3078.keep K4525 (ninS ne3085 nin0)
            exact (J251_3341 h4523 hz0 hz1 hz2 F4527 F4528 F4529 F4530 F4531 F4532 F4526).more (by decide) (by decide)
          · refine C.aload at_246 rfl rfl rfl ?_
            refine C.callV (argsL := []) (rest := []) 0 (fun zz => au4534_6 l Z a0 hw n0 hJ3071 zz as ah aw e0 e1 e2 F3073 F3077 F3075 F3076 F3074 F3079 F3078 g3080 g3082 g3081 ne3084 ne3083 (Ne.symm ne3085)) F3073 at_248 rfl (tw hw 33 rfl) (tw hw 34 rfl) (tw hw 35 rfl) (tw hw 36 rfl) (tw hw 5 rfl) (tw hw 37 rfl) (by decide) pd_1 rfl rfl rfl (Nat.le_of_eq rfl) (by decide) (by decide) (by decide) (by decide) (fun v4665 h4666 r4667 => ?_)
            obtain ⟨rfl, K4668, F4669⟩ := r4667
            have F4670 := F3073.keep K4668
            have F4671 := F3074.keep K4668 (ninS ne3084 nin0)
            have F4672 := F3075.keep K4668 (ninS ne3084 nin0)
            have F4673 := F3076.keep K4668 (ninS ne3084 nin0)
            have F4674 := F3077.keep K4668 (ninS ne3084 nin0)
            have F4675 := F3078.keep K4668 (ninS ne3085 nin0)
            exact (J251_3405 h4666 hz0 hz1 hz2 F4670 F4671 F4672 F4673 F4674 F4675 F4669).more (by decide) (by decide)
          refine C.aload at_246 rfl rfl rfl ?_
          refine C.callV (argsL := []) (rest := []) 0 (fun zz => au4677_6 l Z a0 hw n0 hJ3071 zz as ah aw e0 e1 e2 F3073 F3077 F3075 F3076 F3074 F3079 F3078 g3080 g3082 g3081 ne3084 ne3083 (Ne.symm ne3085)) F3073 at_248 rfl (tw hw 33 rfl) (tw hw 34 rfl) (tw hw 35 rfl) (tw hw 36 rfl) (tw hw 5 rfl) (tw hw 37 rfl) (by decide) pd_1 rfl rfl rfl (Nat.le_of_eq rfl) (by decide) (by decide) (by decide) (by decide) (fun v4832 h4833 r4834 => ?_)
          obtain ⟨rfl, K4835, F4836⟩ := r4834
          have F4837 := F3073.keep K4835
          have F4838 := F3074.keep K4835 (ninS ne3084 nin0)
          have F4839 := F3075.keep K4835 (ninS ne3084 nin0)
          have F4840 := F3076.keep K4835 (ninS ne3084 nin0)
          have F4841 := F3077.keep K4835 (ninS ne3084 nin0)
          have F4842 := F3078.keep K4835 (ninS ne3085 nin0)
          exact (J251_3469 h4833 hz0 hz1 hz2 F4837 F4838 F4839 F4840 F4841 F4842 F4836).more (by decide) (by decide)
        refine C.if_eq_f at_128 rfl (by decide) ?_
        refine C.sipush 3072 at_131 rfl rfl ?_
        refine C.goto at_134 (by decide) rfl ?_
        refine C.callN (argsL := [(.int 3072)]) (rest := [(.ref a670)]) 1 (fun zz => au4844_1 l Z a0 hw n0 h671 zz a670 E672 F682 F681 F680 F679 g676) at_140 rfl rfl (tw hw 6 rfl) (tw hw 7 rfl) (tw hw 5 rfl) (tw hw 8 rfl) (by decide) pd_4 rfl rfl rfl (Nat.le_of_eq rfl) (by decide) (by decide) (by decide) (by decide) (fun v5010 h5011 r5012 => ?_)
        obtain ⟨a5013, a5014, rfl, K5015, g5023, gz5024, g5025, gz5026, ne5016, F5017, F5018, F5019, F5020, F5021, F5022⟩ := r5012
        have ne5027 : a639 ≠ a5013 := Nat.ne_of_lt (Nat.lt_of_lt_of_le F678.lt gz5024)
        have ne5028 : a670 ≠ a5013 := Nat.ne_of_lt (Nat.lt_of_lt_of_le E672.lt gz5024)
        have ne5029 : a639 ≠ a5014 := Nat.ne_of_lt (Nat.lt_of_lt_of_le F678.lt gz5026)
        have ne5030 : a670 ≠ a5014 := Nat.ne_of_lt (Nat.lt_of_lt_of_le E672.lt gz5026)
        have F5031 := F678.keep K5015 (ninS ne677 nin0)
        have F5032 := E672.keep K5015
        refine C.astore (Ls' := #[.val (.long x0), .second, .val (.long x1), .second, .val (.long x2), .second, iv x3, iv x4, iv 1, iv f9, iv ((XT.ushr x4 3) &&& 3), iv b11, iv ((x3 &&& 2147483647) % 192), rv a639, rv a670, .unset, .unset, .unset, .unset, .unset, .unset, .unset, .unset]) at_143 rfl rfl rfl ?_
        rcases h11 with q11 | q11
        · rw [q11]
          refine C.iload at_145 rfl rfl ?_
          refine C.if_eq_t at_147 (by decide) rfl (by decide) ?_
          rcases own_four (XT.ushr x4 3) with ql | ql | ql | ql
          · rw [ql]
            refine C.aload at_157 rfl rfl rfl ?_
            refine C.aload at_159 rfl rfl rfl ?_
            refine C.iload at_161 rfl rfl ?_
            refine C.iload at_163 rfl rfl ?_
            refine C.callV (argsL := [(.ref a639), (.int f9), (.int 0)]) (rest := []) 0 (fun zz => con_aw1_0 l Z a0 hw n0 h5011 zz a670 a639 f9 a5014 a5013 0 zI48 vs9 0 0 0 x0 x1 x2 F5032 F5020 F5018 F5019 F5017 F5022 F5021 F5031 g676 g5025 g5023 ne5030 ne5028 (Ne.symm ne5016) (Ne.symm ne677) (Ne.symm ne5029) (Ne.symm ne5027) hj0 hg0 hj1 hg1 hj2 hg2 ⟨by decide, by decide, rfl⟩) F5032 at_165 rfl (tw hw 19 rfl) (tw hw 20 rfl) (tw hw 21 rfl) (tw hw 22 rfl) (tw hw 5 rfl) (tw hw 23 rfl) (by decide) pd_5 rfl rfl rfl (Nat.le_of_eq rfl) (by decide) (by decide) (by decide) (by decide) (fun v5037 h5038 r5039 => ?_)
            obtain ⟨rfl, rfl⟩ := r5039
            refine C.iconst 0 at_168 rfl rfl ?_
            refine C.iload at_169 rfl rfl ?_
            refine C.iload at_171 rfl rfl ?_
            refine C.iload at_173 rfl rfl ?_
            refine C.lloadN at_175 rfl rfl ?_
            refine C.callS (argsL := [(.int 0), (.int 0), (.int ((x3 &&& 2147483647) % 192)), (.int 0), (.long x0)]) (rest := []) 0 (fun zz => au2516_4 l Z a0 hw n0 h5011 zz ((x3 &&& 2147483647) % 192) x0 ) at_176 rfl (tw hw 24 rfl) (tw hw 25 rfl) (tw hw 26 rfl) (tw hw 27 rfl) (by decide) pd_6 rfl rfl rfl (Nat.le_of_eq rfl) (by decide) (by decide) (by decide) (by decide) (fun v5041 h5042 r5043 => ?_)
            obtain ⟨rfl, rfl⟩ := r5043
            refine C.lstore (Ls' := #[.val (.long x0), .second, .val (.long x1), .second, .val (.long x2), .second, iv x3, iv x4, iv 1, iv f9, iv 0, iv 0, iv ((x3 &&& 2147483647) % 192), rv a639, rv a670, .val (.long 0), .second, .unset, .unset, .unset, .unset, .unset, .unset]) at_179 rfl rfl ?_
            refine C.iconst 1 at_181 rfl rfl ?_
            refine C.iload at_182 rfl rfl ?_
            refine C.iload at_184 rfl rfl ?_
            refine C.iload at_186 rfl rfl ?_
            refine C.lloadN at_188 rfl rfl ?_
            refine C.callS (argsL := [(.int 1), (.int 0), (.int ((x3 &&& 2147483647) % 192)), (.int 0), (.long x1)]) (rest := []) 0 (fun zz => au2521_4 l Z a0 hw n0 h5011 zz ((x3 &&& 2147483647) % 192) x1 ) at_189 rfl (tw hw 24 rfl) (tw hw 25 rfl) (tw hw 26 rfl) (tw hw 27 rfl) (by decide) pd_6 rfl rfl rfl (Nat.le_of_eq rfl) (by decide) (by decide) (by decide) (by decide) (fun v5045 h5046 r5047 => ?_)
            obtain ⟨rfl, rfl⟩ := r5047
            refine C.lstore (Ls' := #[.val (.long x0), .second, .val (.long x1), .second, .val (.long x2), .second, iv x3, iv x4, iv 1, iv f9, iv 0, iv 0, iv ((x3 &&& 2147483647) % 192), rv a639, rv a670, .val (.long 0), .second, .val (.long 0), .second, .unset, .unset, .unset, .unset]) at_192 rfl rfl ?_
            refine C.iconst 2 at_194 rfl rfl ?_
            refine C.iload at_195 rfl rfl ?_
            refine C.iload at_197 rfl rfl ?_
            refine C.iload at_199 rfl rfl ?_
            refine C.lload at_201 rfl rfl ?_
            refine C.callS (argsL := [(.int 2), (.int 0), (.int ((x3 &&& 2147483647) % 192)), (.int 0), (.long x2)]) (rest := []) 0 (fun zz => au2526_4 l Z a0 hw n0 h5011 zz ((x3 &&& 2147483647) % 192) x2 ) at_203 rfl (tw hw 24 rfl) (tw hw 25 rfl) (tw hw 26 rfl) (tw hw 27 rfl) (by decide) pd_6 rfl rfl rfl (Nat.le_of_eq rfl) (by decide) (by decide) (by decide) (by decide) (fun v5049 h5050 r5051 => ?_)
            obtain ⟨rfl, rfl⟩ := r5051
            refine C.lstore (Ls' := #[.val (.long x0), .second, .val (.long x1), .second, .val (.long x2), .second, iv x3, iv x4, iv 1, iv f9, iv 0, iv 0, iv ((x3 &&& 2147483647) % 192), rv a639, rv a670, .val (.long 0), .second, .val (.long 0), .second, .val (.long 0), .second, .unset, .unset]) at_206 rfl rfl ?_
            exact J208_3070 h5011 f9 0 0 ((x3 &&& 2147483647) % 192) a639 a670 a5014 a5013 0 0 0 0 zI48 (own_lst_n_0 x0 x1 x2 1 (by decide)) g676 g5025 g5023 ne5030 ne5028 (Ne.symm ne5016) F5032 F5020 F5018 F5019 F5017 F5022 F5021
          · rw [ql]
            refine C.aload at_157 rfl rfl rfl ?_
            refine C.aload at_159 rfl rfl rfl ?_
            refine C.iload at_161 rfl rfl ?_
            refine C.iload at_163 rfl rfl ?_
            refine C.callV (argsL := [(.ref a639), (.int f9), (.int 1)]) (rest := []) 0 (fun zz => con_aw1_1 l Z a0 hw n0 h5011 zz a670 a639 f9 a5014 a5013 0 zI48 vs9 0 0 0 x0 x1 x2 F5032 F5020 F5018 F5019 F5017 F5022 F5021 F5031 g676 g5025 g5023 ne5030 ne5028 (Ne.symm ne5016) (Ne.symm ne677) (Ne.symm ne5029) (Ne.symm ne5027) hj0 hg0 hj1 hg1 hj2 hg2 ⟨by decide, by decide, rfl⟩) F5032 at_165 rfl (tw hw 19 rfl) (tw hw 20 rfl) (tw hw 21 rfl) (tw hw 22 rfl) (tw hw 5 rfl) (tw hw 23 rfl) (by decide) pd_5 rfl rfl rfl (Nat.le_of_eq rfl) (by decide) (by decide) (by decide) (by decide) (fun v5053 h5054 r5055 => ?_)
            obtain ⟨rfl, K5056, F5057, F5058, F5059, F5060, F5061, F5062⟩ := r5055
            have F5063 := F5031.keep K5056 (ninS ne677 (ninS ne5029 (ninS ne5027 nin0)))
            have F5064 := F5032.keep K5056
            have F5071 : Av Z h5054 a5014 .long (.long x0 :: zJ47) := by have q := F5057; simp only [Int64.zero_or] at q; exact q
            refine C.iconst 0 at_168 rfl rfl ?_
            refine C.iload at_169 rfl rfl ?_
            refine C.iload at_171 rfl rfl ?_
            refine C.iload at_173 rfl rfl ?_
            refine C.lloadN at_175 rfl rfl ?_
            refine C.callS (argsL := [(.int 0), (.int 0), (.int ((x3 &&& 2147483647) % 192)), (.int 1), (.long x0)]) (rest := []) 0 (fun zz => au2545_4 l Z a0 hw n0 h5054 zz ((x3 &&& 2147483647) % 192) x0 ) at_176 rfl (tw hw 24 rfl) (tw hw 25 rfl) (tw hw 26 rfl) (tw hw 27 rfl) (by decide) pd_6 rfl rfl rfl (Nat.le_of_eq rfl) (by decide) (by decide) (by decide) (by decide) (fun v5072 h5073 r5074 => ?_)
            obtain ⟨rfl, rfl⟩ := r5074
            refine C.lstore (Ls' := #[.val (.long x0), .second, .val (.long x1), .second, .val (.long x2), .second, iv x3, iv x4, iv 1, iv f9, iv 1, iv 0, iv ((x3 &&& 2147483647) % 192), rv a639, rv a670, .val (.long x0), .second, .unset, .unset, .unset, .unset, .unset, .unset]) at_179 rfl rfl ?_
            refine C.iconst 1 at_181 rfl rfl ?_
            refine C.iload at_182 rfl rfl ?_
            refine C.iload at_184 rfl rfl ?_
            refine C.iload at_186 rfl rfl ?_
            refine C.lloadN at_188 rfl rfl ?_
            refine C.callS (argsL := [(.int 1), (.int 0), (.int ((x3 &&& 2147483647) % 192)), (.int 1), (.long x1)]) (rest := []) 0 (fun zz => au2550_4 l Z a0 hw n0 h5054 zz ((x3 &&& 2147483647) % 192) x1 ) at_189 rfl (tw hw 24 rfl) (tw hw 25 rfl) (tw hw 26 rfl) (tw hw 27 rfl) (by decide) pd_6 rfl rfl rfl (Nat.le_of_eq rfl) (by decide) (by decide) (by decide) (by decide) (fun v5076 h5077 r5078 => ?_)
            obtain ⟨rfl, rfl⟩ := r5078
            refine C.lstore (Ls' := #[.val (.long x0), .second, .val (.long x1), .second, .val (.long x2), .second, iv x3, iv x4, iv 1, iv f9, iv 1, iv 0, iv ((x3 &&& 2147483647) % 192), rv a639, rv a670, .val (.long x0), .second, .val (.long 0), .second, .unset, .unset, .unset, .unset]) at_192 rfl rfl ?_
            refine C.iconst 2 at_194 rfl rfl ?_
            refine C.iload at_195 rfl rfl ?_
            refine C.iload at_197 rfl rfl ?_
            refine C.iload at_199 rfl rfl ?_
            refine C.lload at_201 rfl rfl ?_
            refine C.callS (argsL := [(.int 2), (.int 0), (.int ((x3 &&& 2147483647) % 192)), (.int 1), (.long x2)]) (rest := []) 0 (fun zz => au2555_4 l Z a0 hw n0 h5054 zz ((x3 &&& 2147483647) % 192) x2 ) at_203 rfl (tw hw 24 rfl) (tw hw 25 rfl) (tw hw 26 rfl) (tw hw 27 rfl) (by decide) pd_6 rfl rfl rfl (Nat.le_of_eq rfl) (by decide) (by decide) (by decide) (by decide) (fun v5080 h5081 r5082 => ?_)
            obtain ⟨rfl, rfl⟩ := r5082
            refine C.lstore (Ls' := #[.val (.long x0), .second, .val (.long x1), .second, .val (.long x2), .second, iv x3, iv x4, iv 1, iv f9, iv 1, iv 0, iv ((x3 &&& 2147483647) % 192), rv a639, rv a670, .val (.long x0), .second, .val (.long 0), .second, .val (.long 0), .second, .unset, .unset]) at_206 rfl rfl ?_
            exact J208_3070 h5054 f9 1 0 ((x3 &&& 2147483647) % 192) a639 a670 a5014 a5013 x0 0 0 ((own_pu 0 x0 0 (0, zI48)).1) ((own_pu 0 x0 0 (0, zI48)).2) (own_lst_n_1 x0 x1 x2 1 (by decide)) g676 g5025 g5023 ne5030 ne5028 (Ne.symm ne5016) F5064 F5058 F5059 F5060 F5061 F5071 F5062
          · rw [ql]
            refine C.aload at_157 rfl rfl rfl ?_
            refine C.aload at_159 rfl rfl rfl ?_
            refine C.iload at_161 rfl rfl ?_
            refine C.iload at_163 rfl rfl ?_
            refine C.callV (argsL := [(.ref a639), (.int f9), (.int 2)]) (rest := []) 0 (fun zz => con_aw1_2 l Z a0 hw n0 h5011 zz a670 a639 f9 a5014 a5013 0 zI48 vs9 0 0 0 x0 x1 x2 F5032 F5020 F5018 F5019 F5017 F5022 F5021 F5031 g676 g5025 g5023 ne5030 ne5028 (Ne.symm ne5016) (Ne.symm ne677) (Ne.symm ne5029) (Ne.symm ne5027) hj0 hg0 hj1 hg1 hj2 hg2 ⟨by decide, by decide, rfl⟩) F5032 at_165 rfl (tw hw 19 rfl) (tw hw 20 rfl) (tw hw 21 rfl) (tw hw 22 rfl) (tw hw 5 rfl) (tw hw 23 rfl) (by decide) pd_5 rfl rfl rfl (Nat.le_of_eq rfl) (by decide) (by decide) (by decide) (by decide) (fun v5084 h5085 r5086 => ?_)
            obtain ⟨rfl, K5087, F5088, F5089, F5090, F5091, F5092, F5093⟩ := r5086
            have F5094 := F5031.keep K5087 (ninS ne677 (ninS ne5029 (ninS ne5027 nin0)))
            have F5095 := F5032.keep K5087
            have F5102 : Av Z h5085 a5014 .long (.long x0 :: .long x1 :: zJ46) := by have q := F5088; simp only [Int64.zero_or] at q; exact q
            refine C.iconst 0 at_168 rfl rfl ?_
            refine C.iload at_169 rfl rfl ?_
            refine C.iload at_171 rfl rfl ?_
            refine C.iload at_173 rfl rfl ?_
            refine C.lloadN at_175 rfl rfl ?_
            refine C.callS (argsL := [(.int 0), (.int 0), (.int ((x3 &&& 2147483647) % 192)), (.int 2), (.long x0)]) (rest := []) 0 (fun zz => au2574_4 l Z a0 hw n0 h5085 zz ((x3 &&& 2147483647) % 192) x0 ) at_176 rfl (tw hw 24 rfl) (tw hw 25 rfl) (tw hw 26 rfl) (tw hw 27 rfl) (by decide) pd_6 rfl rfl rfl (Nat.le_of_eq rfl) (by decide) (by decide) (by decide) (by decide) (fun v5103 h5104 r5105 => ?_)
            obtain ⟨rfl, rfl⟩ := r5105
            refine C.lstore (Ls' := #[.val (.long x0), .second, .val (.long x1), .second, .val (.long x2), .second, iv x3, iv x4, iv 1, iv f9, iv 2, iv 0, iv ((x3 &&& 2147483647) % 192), rv a639, rv a670, .val (.long x0), .second, .unset, .unset, .unset, .unset, .unset, .unset]) at_179 rfl rfl ?_
            refine C.iconst 1 at_181 rfl rfl ?_
            refine C.iload at_182 rfl rfl ?_
            refine C.iload at_184 rfl rfl ?_
            refine C.iload at_186 rfl rfl ?_
            refine C.lloadN at_188 rfl rfl ?_
            refine C.callS (argsL := [(.int 1), (.int 0), (.int ((x3 &&& 2147483647) % 192)), (.int 2), (.long x1)]) (rest := []) 0 (fun zz => au2579_4 l Z a0 hw n0 h5085 zz ((x3 &&& 2147483647) % 192) x1 ) at_189 rfl (tw hw 24 rfl) (tw hw 25 rfl) (tw hw 26 rfl) (tw hw 27 rfl) (by decide) pd_6 rfl rfl rfl (Nat.le_of_eq rfl) (by decide) (by decide) (by decide) (by decide) (fun v5107 h5108 r5109 => ?_)
            obtain ⟨rfl, rfl⟩ := r5109
            refine C.lstore (Ls' := #[.val (.long x0), .second, .val (.long x1), .second, .val (.long x2), .second, iv x3, iv x4, iv 1, iv f9, iv 2, iv 0, iv ((x3 &&& 2147483647) % 192), rv a639, rv a670, .val (.long x0), .second, .val (.long x1), .second, .unset, .unset, .unset, .unset]) at_192 rfl rfl ?_
            refine C.iconst 2 at_194 rfl rfl ?_
            refine C.iload at_195 rfl rfl ?_
            refine C.iload at_197 rfl rfl ?_
            refine C.iload at_199 rfl rfl ?_
            refine C.lload at_201 rfl rfl ?_
            refine C.callS (argsL := [(.int 2), (.int 0), (.int ((x3 &&& 2147483647) % 192)), (.int 2), (.long x2)]) (rest := []) 0 (fun zz => au2584_4 l Z a0 hw n0 h5085 zz ((x3 &&& 2147483647) % 192) x2 ) at_203 rfl (tw hw 24 rfl) (tw hw 25 rfl) (tw hw 26 rfl) (tw hw 27 rfl) (by decide) pd_6 rfl rfl rfl (Nat.le_of_eq rfl) (by decide) (by decide) (by decide) (by decide) (fun v5111 h5112 r5113 => ?_)
            obtain ⟨rfl, rfl⟩ := r5113
            refine C.lstore (Ls' := #[.val (.long x0), .second, .val (.long x1), .second, .val (.long x2), .second, iv x3, iv x4, iv 1, iv f9, iv 2, iv 0, iv ((x3 &&& 2147483647) % 192), rv a639, rv a670, .val (.long x0), .second, .val (.long x1), .second, .val (.long 0), .second, .unset, .unset]) at_206 rfl rfl ?_
            exact J208_3070 h5085 f9 2 0 ((x3 &&& 2147483647) % 192) a639 a670 a5014 a5013 x0 x1 0 ((own_pu 1 x1 0 (own_pu 0 x0 0 (0, zI48))).1) ((own_pu 1 x1 0 (own_pu 0 x0 0 (0, zI48))).2) (own_lst_n_2 x0 x1 x2 1 (by decide)) g676 g5025 g5023 ne5030 ne5028 (Ne.symm ne5016) F5095 F5089 F5090 F5091 F5092 F5102 F5093
          rw [ql]
          refine C.aload at_157 rfl rfl rfl ?_
          refine C.aload at_159 rfl rfl rfl ?_
          refine C.iload at_161 rfl rfl ?_
          refine C.iload at_163 rfl rfl ?_
          refine C.callV (argsL := [(.ref a639), (.int f9), (.int 3)]) (rest := []) 0 (fun zz => con_aw1_3 l Z a0 hw n0 h5011 zz a670 a639 f9 a5014 a5013 0 zI48 vs9 0 0 0 x0 x1 x2 F5032 F5020 F5018 F5019 F5017 F5022 F5021 F5031 g676 g5025 g5023 ne5030 ne5028 (Ne.symm ne5016) (Ne.symm ne677) (Ne.symm ne5029) (Ne.symm ne5027) hj0 hg0 hj1 hg1 hj2 hg2 ⟨by decide, by decide, rfl⟩) F5032 at_165 rfl (tw hw 19 rfl) (tw hw 20 rfl) (tw hw 21 rfl) (tw hw 22 rfl) (tw hw 5 rfl) (tw hw 23 rfl) (by decide) pd_5 rfl rfl rfl (Nat.le_of_eq rfl) (by decide) (by decide) (by decide) (by decide) (fun v5115 h5116 r5117 => ?_)
          obtain ⟨rfl, K5118, F5119, F5120, F5121, F5122, F5123, F5124⟩ := r5117
          have F5125 := F5031.keep K5118 (ninS ne677 (ninS ne5029 (ninS ne5027 nin0)))
          have F5126 := F5032.keep K5118
          have F5133 : Av Z h5116 a5014 .long (.long x0 :: .long x1 :: .long x2 :: zJ45) := by have q := F5119; simp only [Int64.zero_or] at q; exact q
          refine C.iconst 0 at_168 rfl rfl ?_
          refine C.iload at_169 rfl rfl ?_
          refine C.iload at_171 rfl rfl ?_
          refine C.iload at_173 rfl rfl ?_
          refine C.lloadN at_175 rfl rfl ?_
          refine C.callS (argsL := [(.int 0), (.int 0), (.int ((x3 &&& 2147483647) % 192)), (.int 3), (.long x0)]) (rest := []) 0 (fun zz => au2603_4 l Z a0 hw n0 h5116 zz ((x3 &&& 2147483647) % 192) x0 ) at_176 rfl (tw hw 24 rfl) (tw hw 25 rfl) (tw hw 26 rfl) (tw hw 27 rfl) (by decide) pd_6 rfl rfl rfl (Nat.le_of_eq rfl) (by decide) (by decide) (by decide) (by decide) (fun v5134 h5135 r5136 => ?_)
          obtain ⟨rfl, rfl⟩ := r5136
          refine C.lstore (Ls' := #[.val (.long x0), .second, .val (.long x1), .second, .val (.long x2), .second, iv x3, iv x4, iv 1, iv f9, iv 3, iv 0, iv ((x3 &&& 2147483647) % 192), rv a639, rv a670, .val (.long x0), .second, .unset, .unset, .unset, .unset, .unset, .unset]) at_179 rfl rfl ?_
          refine C.iconst 1 at_181 rfl rfl ?_
          refine C.iload at_182 rfl rfl ?_
          refine C.iload at_184 rfl rfl ?_
          refine C.iload at_186 rfl rfl ?_
          refine C.lloadN at_188 rfl rfl ?_
          refine C.callS (argsL := [(.int 1), (.int 0), (.int ((x3 &&& 2147483647) % 192)), (.int 3), (.long x1)]) (rest := []) 0 (fun zz => au2608_4 l Z a0 hw n0 h5116 zz ((x3 &&& 2147483647) % 192) x1 ) at_189 rfl (tw hw 24 rfl) (tw hw 25 rfl) (tw hw 26 rfl) (tw hw 27 rfl) (by decide) pd_6 rfl rfl rfl (Nat.le_of_eq rfl) (by decide) (by decide) (by decide) (by decide) (fun v5138 h5139 r5140 => ?_)
          obtain ⟨rfl, rfl⟩ := r5140
          refine C.lstore (Ls' := #[.val (.long x0), .second, .val (.long x1), .second, .val (.long x2), .second, iv x3, iv x4, iv 1, iv f9, iv 3, iv 0, iv ((x3 &&& 2147483647) % 192), rv a639, rv a670, .val (.long x0), .second, .val (.long x1), .second, .unset, .unset, .unset, .unset]) at_192 rfl rfl ?_
          refine C.iconst 2 at_194 rfl rfl ?_
          refine C.iload at_195 rfl rfl ?_
          refine C.iload at_197 rfl rfl ?_
          refine C.iload at_199 rfl rfl ?_
          refine C.lload at_201 rfl rfl ?_
          refine C.callS (argsL := [(.int 2), (.int 0), (.int ((x3 &&& 2147483647) % 192)), (.int 3), (.long x2)]) (rest := []) 0 (fun zz => au2613_4 l Z a0 hw n0 h5116 zz ((x3 &&& 2147483647) % 192) x2 ) at_203 rfl (tw hw 24 rfl) (tw hw 25 rfl) (tw hw 26 rfl) (tw hw 27 rfl) (by decide) pd_6 rfl rfl rfl (Nat.le_of_eq rfl) (by decide) (by decide) (by decide) (by decide) (fun v5142 h5143 r5144 => ?_)
          obtain ⟨rfl, rfl⟩ := r5144
          refine C.lstore (Ls' := #[.val (.long x0), .second, .val (.long x1), .second, .val (.long x2), .second, iv x3, iv x4, iv 1, iv f9, iv 3, iv 0, iv ((x3 &&& 2147483647) % 192), rv a639, rv a670, .val (.long x0), .second, .val (.long x1), .second, .val (.long x2), .second, .unset, .unset]) at_206 rfl rfl ?_
          exact J208_3070 h5116 f9 3 0 ((x3 &&& 2147483647) % 192) a639 a670 a5014 a5013 x0 x1 x2 ((own_pu 2 x2 0 (own_pu 1 x1 0 (own_pu 0 x0 0 (0, zI48)))).1) ((own_pu 2 x2 0 (own_pu 1 x1 0 (own_pu 0 x0 0 (0, zI48)))).2) (own_lst_n_3 x0 x1 x2 1 (by decide)) g676 g5025 g5023 ne5030 ne5028 (Ne.symm ne5016) F5126 F5120 F5121 F5122 F5123 F5133 F5124
        rw [q11]
        refine C.iload at_145 rfl rfl ?_
        refine C.if_eq_f at_147 rfl (by decide) ?_
        have hp := own_p x3
        generalize ((x3 &&& 2147483647) % 192) = p9 at hp ⊢
        rcases hp with ⟨e1, e2⟩ | ⟨e1, e2⟩ | ⟨e1, e2⟩
        · obtain ⟨bb, hb1⟩ : ∃ z : Int64, (1 : Int64) <<< (Int32.toInt64 p9 &&& 63) = z := ⟨_, rfl⟩
          have hb2 : (1 : Int64) <<< (Int32.toInt64 (p9 &&& 63) &&& 63) = bb := by rw [own_sh, hb1]
          have hb0 : ¬ bb = 0 := hb1 ▸ own_bit p9
          refine C.aload at_150 rfl rfl rfl ?_
          refine C.iload at_152 rfl rfl ?_
          refine C.callV (argsL := [(.int p9)]) (rest := []) 0 (fun zz => au5146_14 l Z a0 hw n0 h5011 zz a670 p9 a5013 a5014 F5032 F5017 F5018 F5019 F5020 F5021 F5022 g676 g5023 g5025 ne5028 ne5030 ne5016 e1 e2) F5032 at_154 rfl (tw hw 67 rfl) (tw hw 68 rfl) (tw hw 69 rfl) (tw hw 70 rfl) (tw hw 5 rfl) (tw hw 71 rfl) (by decide) pd_4 rfl rfl rfl (Nat.le_of_eq rfl) (by decide) (by decide) (by decide) (by decide) (fun v5234 h5235 r5236 => ?_)
          obtain ⟨rfl, K5237, F5238, F5239, F5240, F5241, F5242, F5243⟩ := r5236
          have F5244 := F5031.keep K5237 (ninS ne677 (ninS ne5027 (ninS ne5029 nin0)))
          have F5245 := F5032.keep K5237
          have F5252 : Av Z h5235 a5014 .long (.long bb :: zJ47) := by have q := F5243; rw [hb1] at q; exact q
          rcases own_four (XT.ushr x4 3) with ql | ql | ql | ql
          · rw [ql]
            refine C.aload at_157 rfl rfl rfl ?_
            refine C.aload at_159 rfl rfl rfl ?_
            refine C.iload at_161 rfl rfl ?_
            refine C.iload at_163 rfl rfl ?_
            refine C.callV (argsL := [(.ref a639), (.int f9), (.int 0)]) (rest := []) 0 (fun zz => con_aw1_0 l Z a0 hw n0 h5235 zz a670 a639 f9 a5014 a5013 1 zI48 vs9 bb 0 0 x0 x1 x2 F5245 F5241 F5239 F5240 F5238 F5252 F5242 F5244 g676 g5025 g5023 ne5030 ne5028 (Ne.symm ne5016) (Ne.symm ne677) (Ne.symm ne5029) (Ne.symm ne5027) hj0 hg0 hj1 hg1 hj2 hg2 ⟨by decide, by decide, rfl⟩) F5245 at_165 rfl (tw hw 19 rfl) (tw hw 20 rfl) (tw hw 21 rfl) (tw hw 22 rfl) (tw hw 5 rfl) (tw hw 23 rfl) (by decide) pd_5 rfl rfl rfl (Nat.le_of_eq rfl) (by decide) (by decide) (by decide) (by decide) (fun v5253 h5254 r5255 => ?_)
            obtain ⟨rfl, rfl⟩ := r5255
            refine C.iconst 0 at_168 rfl rfl ?_
            refine C.iload at_169 rfl rfl ?_
            refine C.iload at_171 rfl rfl ?_
            refine C.iload at_173 rfl rfl ?_
            refine C.lloadN at_175 rfl rfl ?_
            refine C.callS (argsL := [(.int 0), (.int 1), (.int p9), (.int 0), (.long x0)]) (rest := []) 0 (fun zz => au2667_4 l Z a0 hw n0 h5235 zz p9 x0 e1 e2) at_176 rfl (tw hw 24 rfl) (tw hw 25 rfl) (tw hw 26 rfl) (tw hw 27 rfl) (by decide) pd_6 rfl rfl rfl (Nat.le_of_eq rfl) (by decide) (by decide) (by decide) (by decide) (fun v5257 h5258 r5259 => ?_)
            obtain ⟨rfl, rfl⟩ := r5259
            rw [hb2]
            refine C.lstore (Ls' := #[.val (.long x0), .second, .val (.long x1), .second, .val (.long x2), .second, iv x3, iv x4, iv 1, iv f9, iv 0, iv 1, iv p9, rv a639, rv a670, .val (.long bb), .second, .unset, .unset, .unset, .unset, .unset, .unset]) at_179 rfl rfl ?_
            refine C.iconst 1 at_181 rfl rfl ?_
            refine C.iload at_182 rfl rfl ?_
            refine C.iload at_184 rfl rfl ?_
            refine C.iload at_186 rfl rfl ?_
            refine C.lloadN at_188 rfl rfl ?_
            refine C.callS (argsL := [(.int 1), (.int 1), (.int p9), (.int 0), (.long x1)]) (rest := []) 0 (fun zz => au2672_4 l Z a0 hw n0 h5235 zz p9 x1 e1 e2) at_189 rfl (tw hw 24 rfl) (tw hw 25 rfl) (tw hw 26 rfl) (tw hw 27 rfl) (by decide) pd_6 rfl rfl rfl (Nat.le_of_eq rfl) (by decide) (by decide) (by decide) (by decide) (fun v5261 h5262 r5263 => ?_)
            obtain ⟨rfl, rfl⟩ := r5263
            refine C.lstore (Ls' := #[.val (.long x0), .second, .val (.long x1), .second, .val (.long x2), .second, iv x3, iv x4, iv 1, iv f9, iv 0, iv 1, iv p9, rv a639, rv a670, .val (.long bb), .second, .val (.long 0), .second, .unset, .unset, .unset, .unset]) at_192 rfl rfl ?_
            refine C.iconst 2 at_194 rfl rfl ?_
            refine C.iload at_195 rfl rfl ?_
            refine C.iload at_197 rfl rfl ?_
            refine C.iload at_199 rfl rfl ?_
            refine C.lload at_201 rfl rfl ?_
            refine C.callS (argsL := [(.int 2), (.int 1), (.int p9), (.int 0), (.long x2)]) (rest := []) 0 (fun zz => au2677_4 l Z a0 hw n0 h5235 zz p9 x2 e1 e2) at_203 rfl (tw hw 24 rfl) (tw hw 25 rfl) (tw hw 26 rfl) (tw hw 27 rfl) (by decide) pd_6 rfl rfl rfl (Nat.le_of_eq rfl) (by decide) (by decide) (by decide) (by decide) (fun v5265 h5266 r5267 => ?_)
            obtain ⟨rfl, rfl⟩ := r5267
            refine C.lstore (Ls' := #[.val (.long x0), .second, .val (.long x1), .second, .val (.long x2), .second, iv x3, iv x4, iv 1, iv f9, iv 0, iv 1, iv p9, rv a639, rv a670, .val (.long bb), .second, .val (.long 0), .second, .val (.long 0), .second, .unset, .unset]) at_206 rfl rfl ?_
            exact J208_3070 h5235 f9 0 1 p9 a639 a670 a5014 a5013 bb 0 0 1 zI48 (own_lst_0_0 x0 x1 x2 bb hb0) g676 g5025 g5023 ne5030 ne5028 (Ne.symm ne5016) F5245 F5241 F5239 F5240 F5238 F5252 F5242
          · rw [ql]
            refine C.aload at_157 rfl rfl rfl ?_
            refine C.aload at_159 rfl rfl rfl ?_
            refine C.iload at_161 rfl rfl ?_
            refine C.iload at_163 rfl rfl ?_
            refine C.callV (argsL := [(.ref a639), (.int f9), (.int 1)]) (rest := []) 0 (fun zz => con_aw1_1 l Z a0 hw n0 h5235 zz a670 a639 f9 a5014 a5013 1 zI48 vs9 bb 0 0 x0 x1 x2 F5245 F5241 F5239 F5240 F5238 F5252 F5242 F5244 g676 g5025 g5023 ne5030 ne5028 (Ne.symm ne5016) (Ne.symm ne677) (Ne.symm ne5029) (Ne.symm ne5027) hj0 hg0 hj1 hg1 hj2 hg2 ⟨by decide, by decide, rfl⟩) F5245 at_165 rfl (tw hw 19 rfl) (tw hw 20 rfl) (tw hw 21 rfl) (tw hw 22 rfl) (tw hw 5 rfl) (tw hw 23 rfl) (by decide) pd_5 rfl rfl rfl (Nat.le_of_eq rfl) (by decide) (by decide) (by decide) (by decide) (fun v5269 h5270 r5271 => ?_)
            obtain ⟨rfl, K5272, F5273, F5274, F5275, F5276, F5277, F5278⟩ := r5271
            have F5279 := F5244.keep K5272 (ninS ne677 (ninS ne5029 (ninS ne5027 nin0)))
            have F5280 := F5245.keep K5272
            refine C.iconst 0 at_168 rfl rfl ?_
            refine C.iload at_169 rfl rfl ?_
            refine C.iload at_171 rfl rfl ?_
            refine C.iload at_173 rfl rfl ?_
            refine C.lloadN at_175 rfl rfl ?_
            refine C.callS (argsL := [(.int 0), (.int 1), (.int p9), (.int 1), (.long x0)]) (rest := []) 0 (fun zz => au2695_4 l Z a0 hw n0 h5270 zz p9 x0 e1 e2) at_176 rfl (tw hw 24 rfl) (tw hw 25 rfl) (tw hw 26 rfl) (tw hw 27 rfl) (by decide) pd_6 rfl rfl rfl (Nat.le_of_eq rfl) (by decide) (by decide) (by decide) (by decide) (fun v5287 h5288 r5289 => ?_)
            obtain ⟨rfl, rfl⟩ := r5289
            rw [hb2]
            refine C.lstore (Ls' := #[.val (.long x0), .second, .val (.long x1), .second, .val (.long x2), .second, iv x3, iv x4, iv 1, iv f9, iv 1, iv 1, iv p9, rv a639, rv a670, .val (.long (bb ||| x0)), .second, .unset, .unset, .unset, .unset, .unset, .unset]) at_179 rfl rfl ?_
            refine C.iconst 1 at_181 rfl rfl ?_
            refine C.iload at_182 rfl rfl ?_
            refine C.iload at_184 rfl rfl ?_
            refine C.iload at_186 rfl rfl ?_
            refine C.lloadN at_188 rfl rfl ?_
            refine C.callS (argsL := [(.int 1), (.int 1), (.int p9), (.int 1), (.long x1)]) (rest := []) 0 (fun zz => au2700_4 l Z a0 hw n0 h5270 zz p9 x1 e1 e2) at_189 rfl (tw hw 24 rfl) (tw hw 25 rfl) (tw hw 26 rfl) (tw hw 27 rfl) (by decide) pd_6 rfl rfl rfl (Nat.le_of_eq rfl) (by decide) (by decide) (by decide) (by decide) (fun v5291 h5292 r5293 => ?_)
            obtain ⟨rfl, rfl⟩ := r5293
            refine C.lstore (Ls' := #[.val (.long x0), .second, .val (.long x1), .second, .val (.long x2), .second, iv x3, iv x4, iv 1, iv f9, iv 1, iv 1, iv p9, rv a639, rv a670, .val (.long (bb ||| x0)), .second, .val (.long 0), .second, .unset, .unset, .unset, .unset]) at_192 rfl rfl ?_
            refine C.iconst 2 at_194 rfl rfl ?_
            refine C.iload at_195 rfl rfl ?_
            refine C.iload at_197 rfl rfl ?_
            refine C.iload at_199 rfl rfl ?_
            refine C.lload at_201 rfl rfl ?_
            refine C.callS (argsL := [(.int 2), (.int 1), (.int p9), (.int 1), (.long x2)]) (rest := []) 0 (fun zz => au2705_4 l Z a0 hw n0 h5270 zz p9 x2 e1 e2) at_203 rfl (tw hw 24 rfl) (tw hw 25 rfl) (tw hw 26 rfl) (tw hw 27 rfl) (by decide) pd_6 rfl rfl rfl (Nat.le_of_eq rfl) (by decide) (by decide) (by decide) (by decide) (fun v5295 h5296 r5297 => ?_)
            obtain ⟨rfl, rfl⟩ := r5297
            refine C.lstore (Ls' := #[.val (.long x0), .second, .val (.long x1), .second, .val (.long x2), .second, iv x3, iv x4, iv 1, iv f9, iv 1, iv 1, iv p9, rv a639, rv a670, .val (.long (bb ||| x0)), .second, .val (.long 0), .second, .val (.long 0), .second, .unset, .unset]) at_206 rfl rfl ?_
            exact J208_3070 h5270 f9 1 1 p9 a639 a670 a5014 a5013 (bb ||| x0) 0 0 ((own_pu 0 x0 bb (1, zI48)).1) ((own_pu 0 x0 bb (1, zI48)).2) (own_lst_0_1 x0 x1 x2 bb hb0) g676 g5025 g5023 ne5030 ne5028 (Ne.symm ne5016) F5280 F5274 F5275 F5276 F5277 F5273 F5278
          · rw [ql]
            refine C.aload at_157 rfl rfl rfl ?_
            refine C.aload at_159 rfl rfl rfl ?_
            refine C.iload at_161 rfl rfl ?_
            refine C.iload at_163 rfl rfl ?_
            refine C.callV (argsL := [(.ref a639), (.int f9), (.int 2)]) (rest := []) 0 (fun zz => con_aw1_2 l Z a0 hw n0 h5235 zz a670 a639 f9 a5014 a5013 1 zI48 vs9 bb 0 0 x0 x1 x2 F5245 F5241 F5239 F5240 F5238 F5252 F5242 F5244 g676 g5025 g5023 ne5030 ne5028 (Ne.symm ne5016) (Ne.symm ne677) (Ne.symm ne5029) (Ne.symm ne5027) hj0 hg0 hj1 hg1 hj2 hg2 ⟨by decide, by decide, rfl⟩) F5245 at_165 rfl (tw hw 19 rfl) (tw hw 20 rfl) (tw hw 21 rfl) (tw hw 22 rfl) (tw hw 5 rfl) (tw hw 23 rfl) (by decide) pd_5 rfl rfl rfl (Nat.le_of_eq rfl) (by decide) (by decide) (by decide) (by decide) (fun v5299 h5300 r5301 => ?_)
            obtain ⟨rfl, K5302, F5303, F5304, F5305, F5306, F5307, F5308⟩ := r5301
            have F5309 := F5244.keep K5302 (ninS ne677 (ninS ne5029 (ninS ne5027 nin0)))
            have F5310 := F5245.keep K5302
            have F5317 : Av Z h5300 a5014 .long (.long (bb ||| x0) :: .long x1 :: zJ46) := by have q := F5303; simp only [Int64.zero_or] at q; exact q
            refine C.iconst 0 at_168 rfl rfl ?_
            refine C.iload at_169 rfl rfl ?_
            refine C.iload at_171 rfl rfl ?_
            refine C.iload at_173 rfl rfl ?_
            refine C.lloadN at_175 rfl rfl ?_
            refine C.callS (argsL := [(.int 0), (.int 1), (.int p9), (.int 2), (.long x0)]) (rest := []) 0 (fun zz => au2724_4 l Z a0 hw n0 h5300 zz p9 x0 e1 e2) at_176 rfl (tw hw 24 rfl) (tw hw 25 rfl) (tw hw 26 rfl) (tw hw 27 rfl) (by decide) pd_6 rfl rfl rfl (Nat.le_of_eq rfl) (by decide) (by decide) (by decide) (by decide) (fun v5318 h5319 r5320 => ?_)
            obtain ⟨rfl, rfl⟩ := r5320
            rw [hb2]
            refine C.lstore (Ls' := #[.val (.long x0), .second, .val (.long x1), .second, .val (.long x2), .second, iv x3, iv x4, iv 1, iv f9, iv 2, iv 1, iv p9, rv a639, rv a670, .val (.long (bb ||| x0)), .second, .unset, .unset, .unset, .unset, .unset, .unset]) at_179 rfl rfl ?_
            refine C.iconst 1 at_181 rfl rfl ?_
            refine C.iload at_182 rfl rfl ?_
            refine C.iload at_184 rfl rfl ?_
            refine C.iload at_186 rfl rfl ?_
            refine C.lloadN at_188 rfl rfl ?_
            refine C.callS (argsL := [(.int 1), (.int 1), (.int p9), (.int 2), (.long x1)]) (rest := []) 0 (fun zz => au2729_4 l Z a0 hw n0 h5300 zz p9 x1 e1 e2) at_189 rfl (tw hw 24 rfl) (tw hw 25 rfl) (tw hw 26 rfl) (tw hw 27 rfl) (by decide) pd_6 rfl rfl rfl (Nat.le_of_eq rfl) (by decide) (by decide) (by decide) (by decide) (fun v5322 h5323 r5324 => ?_)
            obtain ⟨rfl, rfl⟩ := r5324
            refine C.lstore (Ls' := #[.val (.long x0), .second, .val (.long x1), .second, .val (.long x2), .second, iv x3, iv x4, iv 1, iv f9, iv 2, iv 1, iv p9, rv a639, rv a670, .val (.long (bb ||| x0)), .second, .val (.long x1), .second, .unset, .unset, .unset, .unset]) at_192 rfl rfl ?_
            refine C.iconst 2 at_194 rfl rfl ?_
            refine C.iload at_195 rfl rfl ?_
            refine C.iload at_197 rfl rfl ?_
            refine C.iload at_199 rfl rfl ?_
            refine C.lload at_201 rfl rfl ?_
            refine C.callS (argsL := [(.int 2), (.int 1), (.int p9), (.int 2), (.long x2)]) (rest := []) 0 (fun zz => au2734_4 l Z a0 hw n0 h5300 zz p9 x2 e1 e2) at_203 rfl (tw hw 24 rfl) (tw hw 25 rfl) (tw hw 26 rfl) (tw hw 27 rfl) (by decide) pd_6 rfl rfl rfl (Nat.le_of_eq rfl) (by decide) (by decide) (by decide) (by decide) (fun v5326 h5327 r5328 => ?_)
            obtain ⟨rfl, rfl⟩ := r5328
            refine C.lstore (Ls' := #[.val (.long x0), .second, .val (.long x1), .second, .val (.long x2), .second, iv x3, iv x4, iv 1, iv f9, iv 2, iv 1, iv p9, rv a639, rv a670, .val (.long (bb ||| x0)), .second, .val (.long x1), .second, .val (.long 0), .second, .unset, .unset]) at_206 rfl rfl ?_
            exact J208_3070 h5300 f9 2 1 p9 a639 a670 a5014 a5013 (bb ||| x0) x1 0 ((own_pu 1 x1 0 (own_pu 0 x0 bb (1, zI48))).1) ((own_pu 1 x1 0 (own_pu 0 x0 bb (1, zI48))).2) (own_lst_0_2 x0 x1 x2 bb hb0) g676 g5025 g5023 ne5030 ne5028 (Ne.symm ne5016) F5310 F5304 F5305 F5306 F5307 F5317 F5308
          rw [ql]
          refine C.aload at_157 rfl rfl rfl ?_
          refine C.aload at_159 rfl rfl rfl ?_
          refine C.iload at_161 rfl rfl ?_
          refine C.iload at_163 rfl rfl ?_
          refine C.callV (argsL := [(.ref a639), (.int f9), (.int 3)]) (rest := []) 0 (fun zz => con_aw1_3 l Z a0 hw n0 h5235 zz a670 a639 f9 a5014 a5013 1 zI48 vs9 bb 0 0 x0 x1 x2 F5245 F5241 F5239 F5240 F5238 F5252 F5242 F5244 g676 g5025 g5023 ne5030 ne5028 (Ne.symm ne5016) (Ne.symm ne677) (Ne.symm ne5029) (Ne.symm ne5027) hj0 hg0 hj1 hg1 hj2 hg2 ⟨by decide, by decide, rfl⟩) F5245 at_165 rfl (tw hw 19 rfl) (tw hw 20 rfl) (tw hw 21 rfl) (tw hw 22 rfl) (tw hw 5 rfl) (tw hw 23 rfl) (by decide) pd_5 rfl rfl rfl (Nat.le_of_eq rfl) (by decide) (by decide) (by decide) (by decide) (fun v5330 h5331 r5332 => ?_)
          obtain ⟨rfl, K5333, F5334, F5335, F5336, F5337, F5338, F5339⟩ := r5332
          have F5340 := F5244.keep K5333 (ninS ne677 (ninS ne5029 (ninS ne5027 nin0)))
          have F5341 := F5245.keep K5333
          have F5348 : Av Z h5331 a5014 .long (.long (bb ||| x0) :: .long x1 :: .long x2 :: zJ45) := by have q := F5334; simp only [Int64.zero_or] at q; exact q
          refine C.iconst 0 at_168 rfl rfl ?_
          refine C.iload at_169 rfl rfl ?_
          refine C.iload at_171 rfl rfl ?_
          refine C.iload at_173 rfl rfl ?_
          refine C.lloadN at_175 rfl rfl ?_
          refine C.callS (argsL := [(.int 0), (.int 1), (.int p9), (.int 3), (.long x0)]) (rest := []) 0 (fun zz => au2753_4 l Z a0 hw n0 h5331 zz p9 x0 e1 e2) at_176 rfl (tw hw 24 rfl) (tw hw 25 rfl) (tw hw 26 rfl) (tw hw 27 rfl) (by decide) pd_6 rfl rfl rfl (Nat.le_of_eq rfl) (by decide) (by decide) (by decide) (by decide) (fun v5349 h5350 r5351 => ?_)
          obtain ⟨rfl, rfl⟩ := r5351
          rw [hb2]
          refine C.lstore (Ls' := #[.val (.long x0), .second, .val (.long x1), .second, .val (.long x2), .second, iv x3, iv x4, iv 1, iv f9, iv 3, iv 1, iv p9, rv a639, rv a670, .val (.long (bb ||| x0)), .second, .unset, .unset, .unset, .unset, .unset, .unset]) at_179 rfl rfl ?_
          refine C.iconst 1 at_181 rfl rfl ?_
          refine C.iload at_182 rfl rfl ?_
          refine C.iload at_184 rfl rfl ?_
          refine C.iload at_186 rfl rfl ?_
          refine C.lloadN at_188 rfl rfl ?_
          refine C.callS (argsL := [(.int 1), (.int 1), (.int p9), (.int 3), (.long x1)]) (rest := []) 0 (fun zz => au2758_4 l Z a0 hw n0 h5331 zz p9 x1 e1 e2) at_189 rfl (tw hw 24 rfl) (tw hw 25 rfl) (tw hw 26 rfl) (tw hw 27 rfl) (by decide) pd_6 rfl rfl rfl (Nat.le_of_eq rfl) (by decide) (by decide) (by decide) (by decide) (fun v5353 h5354 r5355 => ?_)
          obtain ⟨rfl, rfl⟩ := r5355
          refine C.lstore (Ls' := #[.val (.long x0), .second, .val (.long x1), .second, .val (.long x2), .second, iv x3, iv x4, iv 1, iv f9, iv 3, iv 1, iv p9, rv a639, rv a670, .val (.long (bb ||| x0)), .second, .val (.long x1), .second, .unset, .unset, .unset, .unset]) at_192 rfl rfl ?_
          refine C.iconst 2 at_194 rfl rfl ?_
          refine C.iload at_195 rfl rfl ?_
          refine C.iload at_197 rfl rfl ?_
          refine C.iload at_199 rfl rfl ?_
          refine C.lload at_201 rfl rfl ?_
          refine C.callS (argsL := [(.int 2), (.int 1), (.int p9), (.int 3), (.long x2)]) (rest := []) 0 (fun zz => au2763_4 l Z a0 hw n0 h5331 zz p9 x2 e1 e2) at_203 rfl (tw hw 24 rfl) (tw hw 25 rfl) (tw hw 26 rfl) (tw hw 27 rfl) (by decide) pd_6 rfl rfl rfl (Nat.le_of_eq rfl) (by decide) (by decide) (by decide) (by decide) (fun v5357 h5358 r5359 => ?_)
          obtain ⟨rfl, rfl⟩ := r5359
          refine C.lstore (Ls' := #[.val (.long x0), .second, .val (.long x1), .second, .val (.long x2), .second, iv x3, iv x4, iv 1, iv f9, iv 3, iv 1, iv p9, rv a639, rv a670, .val (.long (bb ||| x0)), .second, .val (.long x1), .second, .val (.long x2), .second, .unset, .unset]) at_206 rfl rfl ?_
          exact J208_3070 h5331 f9 3 1 p9 a639 a670 a5014 a5013 (bb ||| x0) x1 x2 ((own_pu 2 x2 0 (own_pu 1 x1 0 (own_pu 0 x0 bb (1, zI48)))).1) ((own_pu 2 x2 0 (own_pu 1 x1 0 (own_pu 0 x0 bb (1, zI48)))).2) (own_lst_0_3 x0 x1 x2 bb hb0) g676 g5025 g5023 ne5030 ne5028 (Ne.symm ne5016) F5341 F5335 F5336 F5337 F5338 F5348 F5339
        · obtain ⟨bb, hb1⟩ : ∃ z : Int64, (1 : Int64) <<< (Int32.toInt64 p9 &&& 63) = z := ⟨_, rfl⟩
          have hb2 : (1 : Int64) <<< (Int32.toInt64 (p9 &&& 63) &&& 63) = bb := by rw [own_sh, hb1]
          have hb0 : ¬ bb = 0 := hb1 ▸ own_bit p9
          refine C.aload at_150 rfl rfl rfl ?_
          refine C.iload at_152 rfl rfl ?_
          refine C.callV (argsL := [(.int p9)]) (rest := []) 0 (fun zz => au5361_14 l Z a0 hw n0 h5011 zz a670 p9 a5013 a5014 F5032 F5017 F5018 F5019 F5020 F5021 F5022 g676 g5023 g5025 ne5028 ne5030 ne5016 e1 e2) F5032 at_154 rfl (tw hw 67 rfl) (tw hw 68 rfl) (tw hw 69 rfl) (tw hw 70 rfl) (tw hw 5 rfl) (tw hw 71 rfl) (by decide) pd_4 rfl rfl rfl (Nat.le_of_eq rfl) (by decide) (by decide) (by decide) (by decide) (fun v5449 h5450 r5451 => ?_)
          obtain ⟨rfl, K5452, F5453, F5454, F5455, F5456, F5457, F5458⟩ := r5451
          have F5459 := F5031.keep K5452 (ninS ne677 (ninS ne5027 (ninS ne5029 nin0)))
          have F5460 := F5032.keep K5452
          have F5467 : Av Z h5450 a5014 .long (.long 0 :: .long bb :: zJ46) := by have q := F5458; rw [hb1] at q; exact q
          rcases own_four (XT.ushr x4 3) with ql | ql | ql | ql
          · rw [ql]
            refine C.aload at_157 rfl rfl rfl ?_
            refine C.aload at_159 rfl rfl rfl ?_
            refine C.iload at_161 rfl rfl ?_
            refine C.iload at_163 rfl rfl ?_
            refine C.callV (argsL := [(.ref a639), (.int f9), (.int 0)]) (rest := []) 0 (fun zz => con_aw1_0 l Z a0 hw n0 h5450 zz a670 a639 f9 a5014 a5013 1 (.int 1 :: zI47) vs9 0 bb 0 x0 x1 x2 F5460 F5456 F5454 F5455 F5453 F5467 F5457 F5459 g676 g5025 g5023 ne5030 ne5028 (Ne.symm ne5016) (Ne.symm ne677) (Ne.symm ne5029) (Ne.symm ne5027) hj0 hg0 hj1 hg1 hj2 hg2 ⟨by decide, by decide, rfl⟩) F5460 at_165 rfl (tw hw 19 rfl) (tw hw 20 rfl) (tw hw 21 rfl) (tw hw 22 rfl) (tw hw 5 rfl) (tw hw 23 rfl) (by decide) pd_5 rfl rfl rfl (Nat.le_of_eq rfl) (by decide) (by decide) (by decide) (by decide) (fun v5468 h5469 r5470 => ?_)
            obtain ⟨rfl, rfl⟩ := r5470
            refine C.iconst 0 at_168 rfl rfl ?_
            refine C.iload at_169 rfl rfl ?_
            refine C.iload at_171 rfl rfl ?_
            refine C.iload at_173 rfl rfl ?_
            refine C.lloadN at_175 rfl rfl ?_
            refine C.callS (argsL := [(.int 0), (.int 1), (.int p9), (.int 0), (.long x0)]) (rest := []) 0 (fun zz => au2817_4 l Z a0 hw n0 h5450 zz p9 x0 e1 e2) at_176 rfl (tw hw 24 rfl) (tw hw 25 rfl) (tw hw 26 rfl) (tw hw 27 rfl) (by decide) pd_6 rfl rfl rfl (Nat.le_of_eq rfl) (by decide) (by decide) (by decide) (by decide) (fun v5472 h5473 r5474 => ?_)
            obtain ⟨rfl, rfl⟩ := r5474
            refine C.lstore (Ls' := #[.val (.long x0), .second, .val (.long x1), .second, .val (.long x2), .second, iv x3, iv x4, iv 1, iv f9, iv 0, iv 1, iv p9, rv a639, rv a670, .val (.long 0), .second, .unset, .unset, .unset, .unset, .unset, .unset]) at_179 rfl rfl ?_
            refine C.iconst 1 at_181 rfl rfl ?_
            refine C.iload at_182 rfl rfl ?_
            refine C.iload at_184 rfl rfl ?_
            refine C.iload at_186 rfl rfl ?_
            refine C.lloadN at_188 rfl rfl ?_
            refine C.callS (argsL := [(.int 1), (.int 1), (.int p9), (.int 0), (.long x1)]) (rest := []) 0 (fun zz => au2822_4 l Z a0 hw n0 h5450 zz p9 x1 e1 e2) at_189 rfl (tw hw 24 rfl) (tw hw 25 rfl) (tw hw 26 rfl) (tw hw 27 rfl) (by decide) pd_6 rfl rfl rfl (Nat.le_of_eq rfl) (by decide) (by decide) (by decide) (by decide) (fun v5476 h5477 r5478 => ?_)
            obtain ⟨rfl, rfl⟩ := r5478
            rw [hb2]
            refine C.lstore (Ls' := #[.val (.long x0), .second, .val (.long x1), .second, .val (.long x2), .second, iv x3, iv x4, iv 1, iv f9, iv 0, iv 1, iv p9, rv a639, rv a670, .val (.long 0), .second, .val (.long bb), .second, .unset, .unset, .unset, .unset]) at_192 rfl rfl ?_
            refine C.iconst 2 at_194 rfl rfl ?_
            refine C.iload at_195 rfl rfl ?_
            refine C.iload at_197 rfl rfl ?_
            refine C.iload at_199 rfl rfl ?_
            refine C.lload at_201 rfl rfl ?_
            refine C.callS (argsL := [(.int 2), (.int 1), (.int p9), (.int 0), (.long x2)]) (rest := []) 0 (fun zz => au2827_4 l Z a0 hw n0 h5450 zz p9 x2 e1 e2) at_203 rfl (tw hw 24 rfl) (tw hw 25 rfl) (tw hw 26 rfl) (tw hw 27 rfl) (by decide) pd_6 rfl rfl rfl (Nat.le_of_eq rfl) (by decide) (by decide) (by decide) (by decide) (fun v5480 h5481 r5482 => ?_)
            obtain ⟨rfl, rfl⟩ := r5482
            refine C.lstore (Ls' := #[.val (.long x0), .second, .val (.long x1), .second, .val (.long x2), .second, iv x3, iv x4, iv 1, iv f9, iv 0, iv 1, iv p9, rv a639, rv a670, .val (.long 0), .second, .val (.long bb), .second, .val (.long 0), .second, .unset, .unset]) at_206 rfl rfl ?_
            exact J208_3070 h5450 f9 0 1 p9 a639 a670 a5014 a5013 0 bb 0 1 (.int 1 :: zI47) (own_lst_1_0 x0 x1 x2 bb hb0) g676 g5025 g5023 ne5030 ne5028 (Ne.symm ne5016) F5460 F5456 F5454 F5455 F5453 F5467 F5457
          · rw [ql]
            refine C.aload at_157 rfl rfl rfl ?_
            refine C.aload at_159 rfl rfl rfl ?_
            refine C.iload at_161 rfl rfl ?_
            refine C.iload at_163 rfl rfl ?_
            refine C.callV (argsL := [(.ref a639), (.int f9), (.int 1)]) (rest := []) 0 (fun zz => con_aw1_1 l Z a0 hw n0 h5450 zz a670 a639 f9 a5014 a5013 1 (.int 1 :: zI47) vs9 0 bb 0 x0 x1 x2 F5460 F5456 F5454 F5455 F5453 F5467 F5457 F5459 g676 g5025 g5023 ne5030 ne5028 (Ne.symm ne5016) (Ne.symm ne677) (Ne.symm ne5029) (Ne.symm ne5027) hj0 hg0 hj1 hg1 hj2 hg2 ⟨by decide, by decide, rfl⟩) F5460 at_165 rfl (tw hw 19 rfl) (tw hw 20 rfl) (tw hw 21 rfl) (tw hw 22 rfl) (tw hw 5 rfl) (tw hw 23 rfl) (by decide) pd_5 rfl rfl rfl (Nat.le_of_eq rfl) (by decide) (by decide) (by decide) (by decide) (fun v5484 h5485 r5486 => ?_)
            obtain ⟨rfl, K5487, F5488, F5489, F5490, F5491, F5492, F5493⟩ := r5486
            have F5494 := F5459.keep K5487 (ninS ne677 (ninS ne5029 (ninS ne5027 nin0)))
            have F5495 := F5460.keep K5487
            have F5502 : Av Z h5485 a5014 .long (.long x0 :: .long bb :: zJ46) := by have q := F5488; simp only [Int64.zero_or] at q; exact q
            refine C.iconst 0 at_168 rfl rfl ?_
            refine C.iload at_169 rfl rfl ?_
            refine C.iload at_171 rfl rfl ?_
            refine C.iload at_173 rfl rfl ?_
            refine C.lloadN at_175 rfl rfl ?_
            refine C.callS (argsL := [(.int 0), (.int 1), (.int p9), (.int 1), (.long x0)]) (rest := []) 0 (fun zz => au2846_4 l Z a0 hw n0 h5485 zz p9 x0 e1 e2) at_176 rfl (tw hw 24 rfl) (tw hw 25 rfl) (tw hw 26 rfl) (tw hw 27 rfl) (by decide) pd_6 rfl rfl rfl (Nat.le_of_eq rfl) (by decide) (by decide) (by decide) (by decide) (fun v5503 h5504 r5505 => ?_)
            obtain ⟨rfl, rfl⟩ := r5505
            refine C.lstore (Ls' := #[.val (.long x0), .second, .val (.long x1), .second, .val (.long x2), .second, iv x3, iv x4, iv 1, iv f9, iv 1, iv 1, iv p9, rv a639, rv a670, .val (.long x0), .second, .unset, .unset, .unset, .unset, .unset, .unset]) at_179 rfl rfl ?_
            refine C.iconst 1 at_181 rfl rfl ?_
            refine C.iload at_182 rfl rfl ?_
            refine C.iload at_184 rfl rfl ?_
            refine C.iload at_186 rfl rfl ?_
            refine C.lloadN at_188 rfl rfl ?_
            refine C.callS (argsL := [(.int 1), (.int 1), (.int p9), (.int 1), (.long x1)]) (rest := []) 0 (fun zz => au2851_4 l Z a0 hw n0 h5485 zz p9 x1 e1 e2) at_189 rfl (tw hw 24 rfl) (tw hw 25 rfl) (tw hw 26 rfl) (tw hw 27 rfl) (by decide) pd_6 rfl rfl rfl (Nat.le_of_eq rfl) (by decide) (by decide) (by decide) (by decide) (fun v5507 h5508 r5509 => ?_)
            obtain ⟨rfl, rfl⟩ := r5509
            rw [hb2]
            refine C.lstore (Ls' := #[.val (.long x0), .second, .val (.long x1), .second, .val (.long x2), .second, iv x3, iv x4, iv 1, iv f9, iv 1, iv 1, iv p9, rv a639, rv a670, .val (.long x0), .second, .val (.long bb), .second, .unset, .unset, .unset, .unset]) at_192 rfl rfl ?_
            refine C.iconst 2 at_194 rfl rfl ?_
            refine C.iload at_195 rfl rfl ?_
            refine C.iload at_197 rfl rfl ?_
            refine C.iload at_199 rfl rfl ?_
            refine C.lload at_201 rfl rfl ?_
            refine C.callS (argsL := [(.int 2), (.int 1), (.int p9), (.int 1), (.long x2)]) (rest := []) 0 (fun zz => au2856_4 l Z a0 hw n0 h5485 zz p9 x2 e1 e2) at_203 rfl (tw hw 24 rfl) (tw hw 25 rfl) (tw hw 26 rfl) (tw hw 27 rfl) (by decide) pd_6 rfl rfl rfl (Nat.le_of_eq rfl) (by decide) (by decide) (by decide) (by decide) (fun v5511 h5512 r5513 => ?_)
            obtain ⟨rfl, rfl⟩ := r5513
            refine C.lstore (Ls' := #[.val (.long x0), .second, .val (.long x1), .second, .val (.long x2), .second, iv x3, iv x4, iv 1, iv f9, iv 1, iv 1, iv p9, rv a639, rv a670, .val (.long x0), .second, .val (.long bb), .second, .val (.long 0), .second, .unset, .unset]) at_206 rfl rfl ?_
            exact J208_3070 h5485 f9 1 1 p9 a639 a670 a5014 a5013 x0 bb 0 ((own_pu 0 x0 0 (1, (.int 1 :: zI47))).1) ((own_pu 0 x0 0 (1, (.int 1 :: zI47))).2) (own_lst_1_1 x0 x1 x2 bb hb0) g676 g5025 g5023 ne5030 ne5028 (Ne.symm ne5016) F5495 F5489 F5490 F5491 F5492 F5502 F5493
          · rw [ql]
            refine C.aload at_157 rfl rfl rfl ?_
            refine C.aload at_159 rfl rfl rfl ?_
            refine C.iload at_161 rfl rfl ?_
            refine C.iload at_163 rfl rfl ?_
            refine C.callV (argsL := [(.ref a639), (.int f9), (.int 2)]) (rest := []) 0 (fun zz => con_aw1_2 l Z a0 hw n0 h5450 zz a670 a639 f9 a5014 a5013 1 (.int 1 :: zI47) vs9 0 bb 0 x0 x1 x2 F5460 F5456 F5454 F5455 F5453 F5467 F5457 F5459 g676 g5025 g5023 ne5030 ne5028 (Ne.symm ne5016) (Ne.symm ne677) (Ne.symm ne5029) (Ne.symm ne5027) hj0 hg0 hj1 hg1 hj2 hg2 ⟨by decide, by decide, rfl⟩) F5460 at_165 rfl (tw hw 19 rfl) (tw hw 20 rfl) (tw hw 21 rfl) (tw hw 22 rfl) (tw hw 5 rfl) (tw hw 23 rfl) (by decide) pd_5 rfl rfl rfl (Nat.le_of_eq rfl) (by decide) (by decide) (by decide) (by decide) (fun v5515 h5516 r5517 => ?_)
            obtain ⟨rfl, K5518, F5519, F5520, F5521, F5522, F5523, F5524⟩ := r5517
            have F5525 := F5459.keep K5518 (ninS ne677 (ninS ne5029 (ninS ne5027 nin0)))
            have F5526 := F5460.keep K5518
            have F5533 : Av Z h5516 a5014 .long (.long x0 :: .long (bb ||| x1) :: zJ46) := by have q := F5519; simp only [Int64.zero_or] at q; exact q
            refine C.iconst 0 at_168 rfl rfl ?_
            refine C.iload at_169 rfl rfl ?_
            refine C.iload at_171 rfl rfl ?_
            refine C.iload at_173 rfl rfl ?_
            refine C.lloadN at_175 rfl rfl ?_
            refine C.callS (argsL := [(.int 0), (.int 1), (.int p9), (.int 2), (.long x0)]) (rest := []) 0 (fun zz => au2875_4 l Z a0 hw n0 h5516 zz p9 x0 e1 e2) at_176 rfl (tw hw 24 rfl) (tw hw 25 rfl) (tw hw 26 rfl) (tw hw 27 rfl) (by decide) pd_6 rfl rfl rfl (Nat.le_of_eq rfl) (by decide) (by decide) (by decide) (by decide) (fun v5534 h5535 r5536 => ?_)
            obtain ⟨rfl, rfl⟩ := r5536
            refine C.lstore (Ls' := #[.val (.long x0), .second, .val (.long x1), .second, .val (.long x2), .second, iv x3, iv x4, iv 1, iv f9, iv 2, iv 1, iv p9, rv a639, rv a670, .val (.long x0), .second, .unset, .unset, .unset, .unset, .unset, .unset]) at_179 rfl rfl ?_
            refine C.iconst 1 at_181 rfl rfl ?_
            refine C.iload at_182 rfl rfl ?_
            refine C.iload at_184 rfl rfl ?_
            refine C.iload at_186 rfl rfl ?_
            refine C.lloadN at_188 rfl rfl ?_
            refine C.callS (argsL := [(.int 1), (.int 1), (.int p9), (.int 2), (.long x1)]) (rest := []) 0 (fun zz => au2880_4 l Z a0 hw n0 h5516 zz p9 x1 e1 e2) at_189 rfl (tw hw 24 rfl) (tw hw 25 rfl) (tw hw 26 rfl) (tw hw 27 rfl) (by decide) pd_6 rfl rfl rfl (Nat.le_of_eq rfl) (by decide) (by decide) (by decide) (by decide) (fun v5538 h5539 r5540 => ?_)
            obtain ⟨rfl, rfl⟩ := r5540
            rw [hb2]
            refine C.lstore (Ls' := #[.val (.long x0), .second, .val (.long x1), .second, .val (.long x2), .second, iv x3, iv x4, iv 1, iv f9, iv 2, iv 1, iv p9, rv a639, rv a670, .val (.long x0), .second, .val (.long (bb ||| x1)), .second, .unset, .unset, .unset, .unset]) at_192 rfl rfl ?_
            refine C.iconst 2 at_194 rfl rfl ?_
            refine C.iload at_195 rfl rfl ?_
            refine C.iload at_197 rfl rfl ?_
            refine C.iload at_199 rfl rfl ?_
            refine C.lload at_201 rfl rfl ?_
            refine C.callS (argsL := [(.int 2), (.int 1), (.int p9), (.int 2), (.long x2)]) (rest := []) 0 (fun zz => au2885_4 l Z a0 hw n0 h5516 zz p9 x2 e1 e2) at_203 rfl (tw hw 24 rfl) (tw hw 25 rfl) (tw hw 26 rfl) (tw hw 27 rfl) (by decide) pd_6 rfl rfl rfl (Nat.le_of_eq rfl) (by decide) (by decide) (by decide) (by decide) (fun v5542 h5543 r5544 => ?_)
            obtain ⟨rfl, rfl⟩ := r5544
            refine C.lstore (Ls' := #[.val (.long x0), .second, .val (.long x1), .second, .val (.long x2), .second, iv x3, iv x4, iv 1, iv f9, iv 2, iv 1, iv p9, rv a639, rv a670, .val (.long x0), .second, .val (.long (bb ||| x1)), .second, .val (.long 0), .second, .unset, .unset]) at_206 rfl rfl ?_
            exact J208_3070 h5516 f9 2 1 p9 a639 a670 a5014 a5013 x0 (bb ||| x1) 0 ((own_pu 1 x1 bb (own_pu 0 x0 0 (1, (.int 1 :: zI47)))).1) ((own_pu 1 x1 bb (own_pu 0 x0 0 (1, (.int 1 :: zI47)))).2) (own_lst_1_2 x0 x1 x2 bb hb0) g676 g5025 g5023 ne5030 ne5028 (Ne.symm ne5016) F5526 F5520 F5521 F5522 F5523 F5533 F5524
          rw [ql]
          refine C.aload at_157 rfl rfl rfl ?_
          refine C.aload at_159 rfl rfl rfl ?_
          refine C.iload at_161 rfl rfl ?_
          refine C.iload at_163 rfl rfl ?_
          refine C.callV (argsL := [(.ref a639), (.int f9), (.int 3)]) (rest := []) 0 (fun zz => con_aw1_3 l Z a0 hw n0 h5450 zz a670 a639 f9 a5014 a5013 1 (.int 1 :: zI47) vs9 0 bb 0 x0 x1 x2 F5460 F5456 F5454 F5455 F5453 F5467 F5457 F5459 g676 g5025 g5023 ne5030 ne5028 (Ne.symm ne5016) (Ne.symm ne677) (Ne.symm ne5029) (Ne.symm ne5027) hj0 hg0 hj1 hg1 hj2 hg2 ⟨by decide, by decide, rfl⟩) F5460 at_165 rfl (tw hw 19 rfl) (tw hw 20 rfl) (tw hw 21 rfl) (tw hw 22 rfl) (tw hw 5 rfl) (tw hw 23 rfl) (by decide) pd_5 rfl rfl rfl (Nat.le_of_eq rfl) (by decide) (by decide) (by decide) (by decide) (fun v5546 h5547 r5548 => ?_)
          obtain ⟨rfl, K5549, F5550, F5551, F5552, F5553, F5554, F5555⟩ := r5548
          have F5556 := F5459.keep K5549 (ninS ne677 (ninS ne5029 (ninS ne5027 nin0)))
          have F5557 := F5460.keep K5549
          have F5564 : Av Z h5547 a5014 .long (.long x0 :: .long (bb ||| x1) :: .long x2 :: zJ45) := by have q := F5550; simp only [Int64.zero_or] at q; exact q
          refine C.iconst 0 at_168 rfl rfl ?_
          refine C.iload at_169 rfl rfl ?_
          refine C.iload at_171 rfl rfl ?_
          refine C.iload at_173 rfl rfl ?_
          refine C.lloadN at_175 rfl rfl ?_
          refine C.callS (argsL := [(.int 0), (.int 1), (.int p9), (.int 3), (.long x0)]) (rest := []) 0 (fun zz => au2904_4 l Z a0 hw n0 h5547 zz p9 x0 e1 e2) at_176 rfl (tw hw 24 rfl) (tw hw 25 rfl) (tw hw 26 rfl) (tw hw 27 rfl) (by decide) pd_6 rfl rfl rfl (Nat.le_of_eq rfl) (by decide) (by decide) (by decide) (by decide) (fun v5565 h5566 r5567 => ?_)
          obtain ⟨rfl, rfl⟩ := r5567
          refine C.lstore (Ls' := #[.val (.long x0), .second, .val (.long x1), .second, .val (.long x2), .second, iv x3, iv x4, iv 1, iv f9, iv 3, iv 1, iv p9, rv a639, rv a670, .val (.long x0), .second, .unset, .unset, .unset, .unset, .unset, .unset]) at_179 rfl rfl ?_
          refine C.iconst 1 at_181 rfl rfl ?_
          refine C.iload at_182 rfl rfl ?_
          refine C.iload at_184 rfl rfl ?_
          refine C.iload at_186 rfl rfl ?_
          refine C.lloadN at_188 rfl rfl ?_
          refine C.callS (argsL := [(.int 1), (.int 1), (.int p9), (.int 3), (.long x1)]) (rest := []) 0 (fun zz => au2909_4 l Z a0 hw n0 h5547 zz p9 x1 e1 e2) at_189 rfl (tw hw 24 rfl) (tw hw 25 rfl) (tw hw 26 rfl) (tw hw 27 rfl) (by decide) pd_6 rfl rfl rfl (Nat.le_of_eq rfl) (by decide) (by decide) (by decide) (by decide) (fun v5569 h5570 r5571 => ?_)
          obtain ⟨rfl, rfl⟩ := r5571
          rw [hb2]
          refine C.lstore (Ls' := #[.val (.long x0), .second, .val (.long x1), .second, .val (.long x2), .second, iv x3, iv x4, iv 1, iv f9, iv 3, iv 1, iv p9, rv a639, rv a670, .val (.long x0), .second, .val (.long (bb ||| x1)), .second, .unset, .unset, .unset, .unset]) at_192 rfl rfl ?_
          refine C.iconst 2 at_194 rfl rfl ?_
          refine C.iload at_195 rfl rfl ?_
          refine C.iload at_197 rfl rfl ?_
          refine C.iload at_199 rfl rfl ?_
          refine C.lload at_201 rfl rfl ?_
          refine C.callS (argsL := [(.int 2), (.int 1), (.int p9), (.int 3), (.long x2)]) (rest := []) 0 (fun zz => au2914_4 l Z a0 hw n0 h5547 zz p9 x2 e1 e2) at_203 rfl (tw hw 24 rfl) (tw hw 25 rfl) (tw hw 26 rfl) (tw hw 27 rfl) (by decide) pd_6 rfl rfl rfl (Nat.le_of_eq rfl) (by decide) (by decide) (by decide) (by decide) (fun v5573 h5574 r5575 => ?_)
          obtain ⟨rfl, rfl⟩ := r5575
          refine C.lstore (Ls' := #[.val (.long x0), .second, .val (.long x1), .second, .val (.long x2), .second, iv x3, iv x4, iv 1, iv f9, iv 3, iv 1, iv p9, rv a639, rv a670, .val (.long x0), .second, .val (.long (bb ||| x1)), .second, .val (.long x2), .second, .unset, .unset]) at_206 rfl rfl ?_
          exact J208_3070 h5547 f9 3 1 p9 a639 a670 a5014 a5013 x0 (bb ||| x1) x2 ((own_pu 2 x2 0 (own_pu 1 x1 bb (own_pu 0 x0 0 (1, (.int 1 :: zI47))))).1) ((own_pu 2 x2 0 (own_pu 1 x1 bb (own_pu 0 x0 0 (1, (.int 1 :: zI47))))).2) (own_lst_1_3 x0 x1 x2 bb hb0) g676 g5025 g5023 ne5030 ne5028 (Ne.symm ne5016) F5557 F5551 F5552 F5553 F5554 F5564 F5555
        obtain ⟨bb, hb1⟩ : ∃ z : Int64, (1 : Int64) <<< (Int32.toInt64 p9 &&& 63) = z := ⟨_, rfl⟩
        have hb2 : (1 : Int64) <<< (Int32.toInt64 (p9 &&& 63) &&& 63) = bb := by rw [own_sh, hb1]
        have hb0 : ¬ bb = 0 := hb1 ▸ own_bit p9
        refine C.aload at_150 rfl rfl rfl ?_
        refine C.iload at_152 rfl rfl ?_
        refine C.callV (argsL := [(.int p9)]) (rest := []) 0 (fun zz => au5577_14 l Z a0 hw n0 h5011 zz a670 p9 a5013 a5014 F5032 F5017 F5018 F5019 F5020 F5021 F5022 g676 g5023 g5025 ne5028 ne5030 ne5016 e1 e2) F5032 at_154 rfl (tw hw 67 rfl) (tw hw 68 rfl) (tw hw 69 rfl) (tw hw 70 rfl) (tw hw 5 rfl) (tw hw 71 rfl) (by decide) pd_4 rfl rfl rfl (Nat.le_of_eq rfl) (by decide) (by decide) (by decide) (by decide) (fun v5665 h5666 r5667 => ?_)
        obtain ⟨rfl, K5668, F5669, F5670, F5671, F5672, F5673, F5674⟩ := r5667
        have F5675 := F5031.keep K5668 (ninS ne677 (ninS ne5027 (ninS ne5029 nin0)))
        have F5676 := F5032.keep K5668
        have F5683 : Av Z h5666 a5014 .long (.long 0 :: .long 0 :: .long bb :: zJ45) := by have q := F5674; rw [hb1] at q; exact q
        rcases own_four (XT.ushr x4 3) with ql | ql | ql | ql
        · rw [ql]
          refine C.aload at_157 rfl rfl rfl ?_
          refine C.aload at_159 rfl rfl rfl ?_
          refine C.iload at_161 rfl rfl ?_
          refine C.iload at_163 rfl rfl ?_
          refine C.callV (argsL := [(.ref a639), (.int f9), (.int 0)]) (rest := []) 0 (fun zz => con_aw1_0 l Z a0 hw n0 h5666 zz a670 a639 f9 a5014 a5013 1 (.int 2 :: zI47) vs9 0 0 bb x0 x1 x2 F5676 F5672 F5670 F5671 F5669 F5683 F5673 F5675 g676 g5025 g5023 ne5030 ne5028 (Ne.symm ne5016) (Ne.symm ne677) (Ne.symm ne5029) (Ne.symm ne5027) hj0 hg0 hj1 hg1 hj2 hg2 ⟨by decide, by decide, rfl⟩) F5676 at_165 rfl (tw hw 19 rfl) (tw hw 20 rfl) (tw hw 21 rfl) (tw hw 22 rfl) (tw hw 5 rfl) (tw hw 23 rfl) (by decide) pd_5 rfl rfl rfl (Nat.le_of_eq rfl) (by decide) (by decide) (by decide) (by decide) (fun v5684 h5685 r5686 => ?_)
          obtain ⟨rfl, rfl⟩ := r5686
          refine C.iconst 0 at_168 rfl rfl ?_
          refine C.iload at_169 rfl rfl ?_
          refine C.iload at_171 rfl rfl ?_
          refine C.iload at_173 rfl rfl ?_
          refine C.lloadN at_175 rfl rfl ?_
          refine C.callS (argsL := [(.int 0), (.int 1), (.int p9), (.int 0), (.long x0)]) (rest := []) 0 (fun zz => au2968_4 l Z a0 hw n0 h5666 zz p9 x0 e1 e2) at_176 rfl (tw hw 24 rfl) (tw hw 25 rfl) (tw hw 26 rfl) (tw hw 27 rfl) (by decide) pd_6 rfl rfl rfl (Nat.le_of_eq rfl) (by decide) (by decide) (by decide) (by decide) (fun v5688 h5689 r5690 => ?_)
          obtain ⟨rfl, rfl⟩ := r5690
          refine C.lstore (Ls' := #[.val (.long x0), .second, .val (.long x1), .second, .val (.long x2), .second, iv x3, iv x4, iv 1, iv f9, iv 0, iv 1, iv p9, rv a639, rv a670, .val (.long 0), .second, .unset, .unset, .unset, .unset, .unset, .unset]) at_179 rfl rfl ?_
          refine C.iconst 1 at_181 rfl rfl ?_
          refine C.iload at_182 rfl rfl ?_
          refine C.iload at_184 rfl rfl ?_
          refine C.iload at_186 rfl rfl ?_
          refine C.lloadN at_188 rfl rfl ?_
          refine C.callS (argsL := [(.int 1), (.int 1), (.int p9), (.int 0), (.long x1)]) (rest := []) 0 (fun zz => au2973_4 l Z a0 hw n0 h5666 zz p9 x1 e1 e2) at_189 rfl (tw hw 24 rfl) (tw hw 25 rfl) (tw hw 26 rfl) (tw hw 27 rfl) (by decide) pd_6 rfl rfl rfl (Nat.le_of_eq rfl) (by decide) (by decide) (by decide) (by decide) (fun v5692 h5693 r5694 => ?_)
          obtain ⟨rfl, rfl⟩ := r5694
          refine C.lstore (Ls' := #[.val (.long x0), .second, .val (.long x1), .second, .val (.long x2), .second, iv x3, iv x4, iv 1, iv f9, iv 0, iv 1, iv p9, rv a639, rv a670, .val (.long 0), .second, .val (.long 0), .second, .unset, .unset, .unset, .unset]) at_192 rfl rfl ?_
          refine C.iconst 2 at_194 rfl rfl ?_
          refine C.iload at_195 rfl rfl ?_
          refine C.iload at_197 rfl rfl ?_
          refine C.iload at_199 rfl rfl ?_
          refine C.lload at_201 rfl rfl ?_
          refine C.callS (argsL := [(.int 2), (.int 1), (.int p9), (.int 0), (.long x2)]) (rest := []) 0 (fun zz => au2978_4 l Z a0 hw n0 h5666 zz p9 x2 e1 e2) at_203 rfl (tw hw 24 rfl) (tw hw 25 rfl) (tw hw 26 rfl) (tw hw 27 rfl) (by decide) pd_6 rfl rfl rfl (Nat.le_of_eq rfl) (by decide) (by decide) (by decide) (by decide) (fun v5696 h5697 r5698 => ?_)
          obtain ⟨rfl, rfl⟩ := r5698
          rw [hb2]
          refine C.lstore (Ls' := #[.val (.long x0), .second, .val (.long x1), .second, .val (.long x2), .second, iv x3, iv x4, iv 1, iv f9, iv 0, iv 1, iv p9, rv a639, rv a670, .val (.long 0), .second, .val (.long 0), .second, .val (.long bb), .second, .unset, .unset]) at_206 rfl rfl ?_
          exact J208_3070 h5666 f9 0 1 p9 a639 a670 a5014 a5013 0 0 bb 1 (.int 2 :: zI47) (own_lst_2_0 x0 x1 x2 bb hb0) g676 g5025 g5023 ne5030 ne5028 (Ne.symm ne5016) F5676 F5672 F5670 F5671 F5669 F5683 F5673
        · rw [ql]
          refine C.aload at_157 rfl rfl rfl ?_
          refine C.aload at_159 rfl rfl rfl ?_
          refine C.iload at_161 rfl rfl ?_
          refine C.iload at_163 rfl rfl ?_
          refine C.callV (argsL := [(.ref a639), (.int f9), (.int 1)]) (rest := []) 0 (fun zz => con_aw1_1 l Z a0 hw n0 h5666 zz a670 a639 f9 a5014 a5013 1 (.int 2 :: zI47) vs9 0 0 bb x0 x1 x2 F5676 F5672 F5670 F5671 F5669 F5683 F5673 F5675 g676 g5025 g5023 ne5030 ne5028 (Ne.symm ne5016) (Ne.symm ne677) (Ne.symm ne5029) (Ne.symm ne5027) hj0 hg0 hj1 hg1 hj2 hg2 ⟨by decide, by decide, rfl⟩) F5676 at_165 rfl (tw hw 19 rfl) (tw hw 20 rfl) (tw hw 21 rfl) (tw hw 22 rfl) (tw hw 5 rfl) (tw hw 23 rfl) (by decide) pd_5 rfl rfl rfl (Nat.le_of_eq rfl) (by decide) (by decide) (by decide) (by decide) (fun v5700 h5701 r5702 => ?_)
          obtain ⟨rfl, K5703, F5704, F5705, F5706, F5707, F5708, F5709⟩ := r5702
          have F5710 := F5675.keep K5703 (ninS ne677 (ninS ne5029 (ninS ne5027 nin0)))
          have F5711 := F5676.keep K5703
          have F5718 : Av Z h5701 a5014 .long (.long x0 :: .long 0 :: .long bb :: zJ45) := by have q := F5704; simp only [Int64.zero_or] at q; exact q
          refine C.iconst 0 at_168 rfl rfl ?_
          refine C.iload at_169 rfl rfl ?_
          refine C.iload at_171 rfl rfl ?_
          refine C.iload at_173 rfl rfl ?_
          refine C.lloadN at_175 rfl rfl ?_
          refine C.callS (argsL := [(.int 0), (.int 1), (.int p9), (.int 1), (.long x0)]) (rest := []) 0 (fun zz => au2997_4 l Z a0 hw n0 h5701 zz p9 x0 e1 e2) at_176 rfl (tw hw 24 rfl) (tw hw 25 rfl) (tw hw 26 rfl) (tw hw 27 rfl) (by decide) pd_6 rfl rfl rfl (Nat.le_of_eq rfl) (by decide) (by decide) (by decide) (by decide) (fun v5719 h5720 r5721 => ?_)
          obtain ⟨rfl, rfl⟩ := r5721
          refine C.lstore (Ls' := #[.val (.long x0), .second, .val (.long x1), .second, .val (.long x2), .second, iv x3, iv x4, iv 1, iv f9, iv 1, iv 1, iv p9, rv a639, rv a670, .val (.long x0), .second, .unset, .unset, .unset, .unset, .unset, .unset]) at_179 rfl rfl ?_
          refine C.iconst 1 at_181 rfl rfl ?_
          refine C.iload at_182 rfl rfl ?_
          refine C.iload at_184 rfl rfl ?_
          refine C.iload at_186 rfl rfl ?_
          refine C.lloadN at_188 rfl rfl ?_
          refine C.callS (argsL := [(.int 1), (.int 1), (.int p9), (.int 1), (.long x1)]) (rest := []) 0 (fun zz => au3002_4 l Z a0 hw n0 h5701 zz p9 x1 e1 e2) at_189 rfl (tw hw 24 rfl) (tw hw 25 rfl) (tw hw 26 rfl) (tw hw 27 rfl) (by decide) pd_6 rfl rfl rfl (Nat.le_of_eq rfl) (by decide) (by decide) (by decide) (by decide) (fun v5723 h5724 r5725 => ?_)
          obtain ⟨rfl, rfl⟩ := r5725
          refine C.lstore (Ls' := #[.val (.long x0), .second, .val (.long x1), .second, .val (.long x2), .second, iv x3, iv x4, iv 1, iv f9, iv 1, iv 1, iv p9, rv a639, rv a670, .val (.long x0), .second, .val (.long 0), .second, .unset, .unset, .unset, .unset]) at_192 rfl rfl ?_
          refine C.iconst 2 at_194 rfl rfl ?_
          refine C.iload at_195 rfl rfl ?_
          refine C.iload at_197 rfl rfl ?_
          refine C.iload at_199 rfl rfl ?_
          refine C.lload at_201 rfl rfl ?_
          refine C.callS (argsL := [(.int 2), (.int 1), (.int p9), (.int 1), (.long x2)]) (rest := []) 0 (fun zz => au3007_4 l Z a0 hw n0 h5701 zz p9 x2 e1 e2) at_203 rfl (tw hw 24 rfl) (tw hw 25 rfl) (tw hw 26 rfl) (tw hw 27 rfl) (by decide) pd_6 rfl rfl rfl (Nat.le_of_eq rfl) (by decide) (by decide) (by decide) (by decide) (fun v5727 h5728 r5729 => ?_)
          obtain ⟨rfl, rfl⟩ := r5729
          rw [hb2]
          refine C.lstore (Ls' := #[.val (.long x0), .second, .val (.long x1), .second, .val (.long x2), .second, iv x3, iv x4, iv 1, iv f9, iv 1, iv 1, iv p9, rv a639, rv a670, .val (.long x0), .second, .val (.long 0), .second, .val (.long bb), .second, .unset, .unset]) at_206 rfl rfl ?_
          exact J208_3070 h5701 f9 1 1 p9 a639 a670 a5014 a5013 x0 0 bb ((own_pu 0 x0 0 (1, (.int 2 :: zI47))).1) ((own_pu 0 x0 0 (1, (.int 2 :: zI47))).2) (own_lst_2_1 x0 x1 x2 bb hb0) g676 g5025 g5023 ne5030 ne5028 (Ne.symm ne5016) F5711 F5705 F5706 F5707 F5708 F5718 F5709
        · rw [ql]
          refine C.aload at_157 rfl rfl rfl ?_
          refine C.aload at_159 rfl rfl rfl ?_
          refine C.iload at_161 rfl rfl ?_
          refine C.iload at_163 rfl rfl ?_
          refine C.callV (argsL := [(.ref a639), (.int f9), (.int 2)]) (rest := []) 0 (fun zz => con_aw1_2 l Z a0 hw n0 h5666 zz a670 a639 f9 a5014 a5013 1 (.int 2 :: zI47) vs9 0 0 bb x0 x1 x2 F5676 F5672 F5670 F5671 F5669 F5683 F5673 F5675 g676 g5025 g5023 ne5030 ne5028 (Ne.symm ne5016) (Ne.symm ne677) (Ne.symm ne5029) (Ne.symm ne5027) hj0 hg0 hj1 hg1 hj2 hg2 ⟨by decide, by decide, rfl⟩) F5676 at_165 rfl (tw hw 19 rfl) (tw hw 20 rfl) (tw hw 21 rfl) (tw hw 22 rfl) (tw hw 5 rfl) (tw hw 23 rfl) (by decide) pd_5 rfl rfl rfl (Nat.le_of_eq rfl) (by decide) (by decide) (by decide) (by decide) (fun v5731 h5732 r5733 => ?_)
          obtain ⟨rfl, K5734, F5735, F5736, F5737, F5738, F5739, F5740⟩ := r5733
          have F5741 := F5675.keep K5734 (ninS ne677 (ninS ne5029 (ninS ne5027 nin0)))
          have F5742 := F5676.keep K5734
          have F5749 : Av Z h5732 a5014 .long (.long x0 :: .long x1 :: .long bb :: zJ45) := by have q := F5735; simp only [Int64.zero_or] at q; exact q
          refine C.iconst 0 at_168 rfl rfl ?_
          refine C.iload at_169 rfl rfl ?_
          refine C.iload at_171 rfl rfl ?_
          refine C.iload at_173 rfl rfl ?_
          refine C.lloadN at_175 rfl rfl ?_
          refine C.callS (argsL := [(.int 0), (.int 1), (.int p9), (.int 2), (.long x0)]) (rest := []) 0 (fun zz => au3026_4 l Z a0 hw n0 h5732 zz p9 x0 e1 e2) at_176 rfl (tw hw 24 rfl) (tw hw 25 rfl) (tw hw 26 rfl) (tw hw 27 rfl) (by decide) pd_6 rfl rfl rfl (Nat.le_of_eq rfl) (by decide) (by decide) (by decide) (by decide) (fun v5750 h5751 r5752 => ?_)
          obtain ⟨rfl, rfl⟩ := r5752
          refine C.lstore (Ls' := #[.val (.long x0), .second, .val (.long x1), .second, .val (.long x2), .second, iv x3, iv x4, iv 1, iv f9, iv 2, iv 1, iv p9, rv a639, rv a670, .val (.long x0), .second, .unset, .unset, .unset, .unset, .unset, .unset]) at_179 rfl rfl ?_
          refine C.iconst 1 at_181 rfl rfl ?_
          refine C.iload at_182 rfl rfl ?_
          refine C.iload at_184 rfl rfl ?_
          refine C.iload at_186 rfl rfl ?_
          refine C.lloadN at_188 rfl rfl ?_
          refine C.callS (argsL := [(.int 1), (.int 1), (.int p9), (.int 2), (.long x1)]) (rest := []) 0 (fun zz => au3031_4 l Z a0 hw n0 h5732 zz p9 x1 e1 e2) at_189 rfl (tw hw 24 rfl) (tw hw 25 rfl) (tw hw 26 rfl) (tw hw 27 rfl) (by decide) pd_6 rfl rfl rfl (Nat.le_of_eq rfl) (by decide) (by decide) (by decide) (by decide) (fun v5754 h5755 r5756 => ?_)
          obtain ⟨rfl, rfl⟩ := r5756
          refine C.lstore (Ls' := #[.val (.long x0), .second, .val (.long x1), .second, .val (.long x2), .second, iv x3, iv x4, iv 1, iv f9, iv 2, iv 1, iv p9, rv a639, rv a670, .val (.long x0), .second, .val (.long x1), .second, .unset, .unset, .unset, .unset]) at_192 rfl rfl ?_
          refine C.iconst 2 at_194 rfl rfl ?_
          refine C.iload at_195 rfl rfl ?_
          refine C.iload at_197 rfl rfl ?_
          refine C.iload at_199 rfl rfl ?_
          refine C.lload at_201 rfl rfl ?_
          refine C.callS (argsL := [(.int 2), (.int 1), (.int p9), (.int 2), (.long x2)]) (rest := []) 0 (fun zz => au3036_4 l Z a0 hw n0 h5732 zz p9 x2 e1 e2) at_203 rfl (tw hw 24 rfl) (tw hw 25 rfl) (tw hw 26 rfl) (tw hw 27 rfl) (by decide) pd_6 rfl rfl rfl (Nat.le_of_eq rfl) (by decide) (by decide) (by decide) (by decide) (fun v5758 h5759 r5760 => ?_)
          obtain ⟨rfl, rfl⟩ := r5760
          rw [hb2]
          refine C.lstore (Ls' := #[.val (.long x0), .second, .val (.long x1), .second, .val (.long x2), .second, iv x3, iv x4, iv 1, iv f9, iv 2, iv 1, iv p9, rv a639, rv a670, .val (.long x0), .second, .val (.long x1), .second, .val (.long bb), .second, .unset, .unset]) at_206 rfl rfl ?_
          exact J208_3070 h5732 f9 2 1 p9 a639 a670 a5014 a5013 x0 x1 bb ((own_pu 1 x1 0 (own_pu 0 x0 0 (1, (.int 2 :: zI47)))).1) ((own_pu 1 x1 0 (own_pu 0 x0 0 (1, (.int 2 :: zI47)))).2) (own_lst_2_2 x0 x1 x2 bb hb0) g676 g5025 g5023 ne5030 ne5028 (Ne.symm ne5016) F5742 F5736 F5737 F5738 F5739 F5749 F5740
        rw [ql]
        refine C.aload at_157 rfl rfl rfl ?_
        refine C.aload at_159 rfl rfl rfl ?_
        refine C.iload at_161 rfl rfl ?_
        refine C.iload at_163 rfl rfl ?_
        refine C.callV (argsL := [(.ref a639), (.int f9), (.int 3)]) (rest := []) 0 (fun zz => con_aw1_3 l Z a0 hw n0 h5666 zz a670 a639 f9 a5014 a5013 1 (.int 2 :: zI47) vs9 0 0 bb x0 x1 x2 F5676 F5672 F5670 F5671 F5669 F5683 F5673 F5675 g676 g5025 g5023 ne5030 ne5028 (Ne.symm ne5016) (Ne.symm ne677) (Ne.symm ne5029) (Ne.symm ne5027) hj0 hg0 hj1 hg1 hj2 hg2 ⟨by decide, by decide, rfl⟩) F5676 at_165 rfl (tw hw 19 rfl) (tw hw 20 rfl) (tw hw 21 rfl) (tw hw 22 rfl) (tw hw 5 rfl) (tw hw 23 rfl) (by decide) pd_5 rfl rfl rfl (Nat.le_of_eq rfl) (by decide) (by decide) (by decide) (by decide) (fun v5762 h5763 r5764 => ?_)
        obtain ⟨rfl, K5765, F5766, F5767, F5768, F5769, F5770, F5771⟩ := r5764
        have F5772 := F5675.keep K5765 (ninS ne677 (ninS ne5029 (ninS ne5027 nin0)))
        have F5773 := F5676.keep K5765
        have F5780 : Av Z h5763 a5014 .long (.long x0 :: .long x1 :: .long (bb ||| x2) :: zJ45) := by have q := F5766; simp only [Int64.zero_or] at q; exact q
        refine C.iconst 0 at_168 rfl rfl ?_
        refine C.iload at_169 rfl rfl ?_
        refine C.iload at_171 rfl rfl ?_
        refine C.iload at_173 rfl rfl ?_
        refine C.lloadN at_175 rfl rfl ?_
        refine C.callS (argsL := [(.int 0), (.int 1), (.int p9), (.int 3), (.long x0)]) (rest := []) 0 (fun zz => au3055_4 l Z a0 hw n0 h5763 zz p9 x0 e1 e2) at_176 rfl (tw hw 24 rfl) (tw hw 25 rfl) (tw hw 26 rfl) (tw hw 27 rfl) (by decide) pd_6 rfl rfl rfl (Nat.le_of_eq rfl) (by decide) (by decide) (by decide) (by decide) (fun v5781 h5782 r5783 => ?_)
        obtain ⟨rfl, rfl⟩ := r5783
        refine C.lstore (Ls' := #[.val (.long x0), .second, .val (.long x1), .second, .val (.long x2), .second, iv x3, iv x4, iv 1, iv f9, iv 3, iv 1, iv p9, rv a639, rv a670, .val (.long x0), .second, .unset, .unset, .unset, .unset, .unset, .unset]) at_179 rfl rfl ?_
        refine C.iconst 1 at_181 rfl rfl ?_
        refine C.iload at_182 rfl rfl ?_
        refine C.iload at_184 rfl rfl ?_
        refine C.iload at_186 rfl rfl ?_
        refine C.lloadN at_188 rfl rfl ?_
        refine C.callS (argsL := [(.int 1), (.int 1), (.int p9), (.int 3), (.long x1)]) (rest := []) 0 (fun zz => au3060_4 l Z a0 hw n0 h5763 zz p9 x1 e1 e2) at_189 rfl (tw hw 24 rfl) (tw hw 25 rfl) (tw hw 26 rfl) (tw hw 27 rfl) (by decide) pd_6 rfl rfl rfl (Nat.le_of_eq rfl) (by decide) (by decide) (by decide) (by decide) (fun v5785 h5786 r5787 => ?_)
        obtain ⟨rfl, rfl⟩ := r5787
        refine C.lstore (Ls' := #[.val (.long x0), .second, .val (.long x1), .second, .val (.long x2), .second, iv x3, iv x4, iv 1, iv f9, iv 3, iv 1, iv p9, rv a639, rv a670, .val (.long x0), .second, .val (.long x1), .second, .unset, .unset, .unset, .unset]) at_192 rfl rfl ?_
        refine C.iconst 2 at_194 rfl rfl ?_
        refine C.iload at_195 rfl rfl ?_
        refine C.iload at_197 rfl rfl ?_
        refine C.iload at_199 rfl rfl ?_
        refine C.lload at_201 rfl rfl ?_
        refine C.callS (argsL := [(.int 2), (.int 1), (.int p9), (.int 3), (.long x2)]) (rest := []) 0 (fun zz => au3065_4 l Z a0 hw n0 h5763 zz p9 x2 e1 e2) at_203 rfl (tw hw 24 rfl) (tw hw 25 rfl) (tw hw 26 rfl) (tw hw 27 rfl) (by decide) pd_6 rfl rfl rfl (Nat.le_of_eq rfl) (by decide) (by decide) (by decide) (by decide) (fun v5789 h5790 r5791 => ?_)
        obtain ⟨rfl, rfl⟩ := r5791
        rw [hb2]
        refine C.lstore (Ls' := #[.val (.long x0), .second, .val (.long x1), .second, .val (.long x2), .second, iv x3, iv x4, iv 1, iv f9, iv 3, iv 1, iv p9, rv a639, rv a670, .val (.long x0), .second, .val (.long x1), .second, .val (.long (bb ||| x2)), .second, .unset, .unset]) at_206 rfl rfl ?_
        exact J208_3070 h5763 f9 3 1 p9 a639 a670 a5014 a5013 x0 x1 (bb ||| x2) ((own_pu 2 x2 bb (own_pu 1 x1 0 (own_pu 0 x0 0 (1, (.int 2 :: zI47))))).1) ((own_pu 2 x2 bb (own_pu 1 x1 0 (own_pu 0 x0 0 (1, (.int 2 :: zI47))))).2) (own_lst_2_3 x0 x1 x2 bb hb0) g676 g5025 g5023 ne5030 ne5028 (Ne.symm ne5016) F5773 F5767 F5768 F5769 F5770 F5780 F5771
      rcases own_three (XT.ushr x4 1) with qf | qf | qf
      · rw [qf]
        refine C.aload at_99 rfl rfl rfl ?_
        refine C.iload at_101 rfl rfl ?_
        refine C.lloadN at_103 rfl rfl ?_
        refine C.lastore at_104 rfl F665 g644 (by decide) (Nat.le_of_ble_eq_true rfl) (fun h5793 W5794 F5795 => ?_)
        have F5796 : Av Z h5793 a639 .long ([.long x0, .long (-1), .long (-1), .long (-1), .long (-1)]) := F5795
        refine C.aload at_105 rfl rfl rfl ?_
        refine C.iload at_107 rfl rfl ?_
        refine C.iconst 1 at_109 rfl rfl ?_
        refine C.iadd at_110 rfl ?_
        refine Go.cI (y := 1) rfl ?_
        refine C.lloadN at_111 rfl rfl ?_
        refine C.lastore at_112 rfl F5796 g644 (by decide) (Nat.le_of_ble_eq_true rfl) (fun h5797 W5798 F5799 => ?_)
        have F5800 : Av Z h5797 a639 .long ([.long x0, .long x1, .long (-1), .long (-1), .long (-1)]) := F5799
        refine C.aload at_113 rfl rfl rfl ?_
        refine C.iload at_115 rfl rfl ?_
        refine C.iconst 2 at_117 rfl rfl ?_
        refine C.iadd at_118 rfl ?_
        refine Go.cI (y := 2) rfl ?_
        refine C.lload at_119 rfl rfl ?_
        refine C.lastore at_121 rfl F5800 g644 (by decide) (Nat.le_of_ble_eq_true rfl) (fun h5801 W5802 F5803 => ?_)
        have F5804 : Av Z h5801 a639 .long ([.long x0, .long x1, .long x2, .long (-1), .long (-1)]) := F5803
        exact (J122_666 h5801 0 [.long x0, .long x1, .long x2, .long (-1), .long (-1)] (by decide) rfl (by decide) rfl (by decide) rfl F5804).more (by decide) (by decide)
      · rw [qf]
        refine C.aload at_99 rfl rfl rfl ?_
        refine C.iload at_101 rfl rfl ?_
        refine C.lloadN at_103 rfl rfl ?_
        refine C.lastore at_104 rfl F665 g644 (by decide) (Nat.le_of_ble_eq_true rfl) (fun h5805 W5806 F5807 => ?_)
        have F5808 : Av Z h5805 a639 .long ([.long (-1), .long x0, .long (-1), .long (-1), .long (-1)]) := F5807
        refine C.aload at_105 rfl rfl rfl ?_
        refine C.iload at_107 rfl rfl ?_
        refine C.iconst 1 at_109 rfl rfl ?_
        refine C.iadd at_110 rfl ?_
        refine Go.cI (y := 2) rfl ?_
        refine C.lloadN at_111 rfl rfl ?_
        refine C.lastore at_112 rfl F5808 g644 (by decide) (Nat.le_of_ble_eq_true rfl) (fun h5809 W5810 F5811 => ?_)
        have F5812 : Av Z h5809 a639 .long ([.long (-1), .long x0, .long x1, .long (-1), .long (-1)]) := F5811
        refine C.aload at_113 rfl rfl rfl ?_
        refine C.iload at_115 rfl rfl ?_
        refine C.iconst 2 at_117 rfl rfl ?_
        refine C.iadd at_118 rfl ?_
        refine Go.cI (y := 3) rfl ?_
        refine C.lload at_119 rfl rfl ?_
        refine C.lastore at_121 rfl F5812 g644 (by decide) (Nat.le_of_ble_eq_true rfl) (fun h5813 W5814 F5815 => ?_)
        have F5816 : Av Z h5813 a639 .long ([.long (-1), .long x0, .long x1, .long x2, .long (-1)]) := F5815
        exact (J122_666 h5813 1 [.long (-1), .long x0, .long x1, .long x2, .long (-1)] (by decide) rfl (by decide) rfl (by decide) rfl F5816).more (by decide) (by decide)
      rw [qf]
      refine C.aload at_99 rfl rfl rfl ?_
      refine C.iload at_101 rfl rfl ?_
      refine C.lloadN at_103 rfl rfl ?_
      refine C.lastore at_104 rfl F665 g644 (by decide) (Nat.le_of_ble_eq_true rfl) (fun h5817 W5818 F5819 => ?_)
      have F5820 : Av Z h5817 a639 .long ([.long (-1), .long (-1), .long x0, .long (-1), .long (-1)]) := F5819
      refine C.aload at_105 rfl rfl rfl ?_
      refine C.iload at_107 rfl rfl ?_
      refine C.iconst 1 at_109 rfl rfl ?_
      refine C.iadd at_110 rfl ?_
      refine Go.cI (y := 3) rfl ?_
      refine C.lloadN at_111 rfl rfl ?_
      refine C.lastore at_112 rfl F5820 g644 (by decide) (Nat.le_of_ble_eq_true rfl) (fun h5821 W5822 F5823 => ?_)
      have F5824 : Av Z h5821 a639 .long ([.long (-1), .long (-1), .long x0, .long x1, .long (-1)]) := F5823
      refine C.aload at_113 rfl rfl rfl ?_
      refine C.iload at_115 rfl rfl ?_
      refine C.iconst 2 at_117 rfl rfl ?_
      refine C.iadd at_118 rfl ?_
      refine Go.cI (y := 4) rfl ?_
      refine C.lload at_119 rfl rfl ?_
      refine C.lastore at_121 rfl F5824 g644 (by decide) (Nat.le_of_ble_eq_true rfl) (fun h5825 W5826 F5827 => ?_)
      have F5828 : Av Z h5825 a639 .long ([.long (-1), .long (-1), .long x0, .long x1, .long x2]) := F5827
      exact (J122_666 h5825 2 [.long (-1), .long (-1), .long x0, .long x1, .long x2] (by decide) rfl (by decide) rfl (by decide) rfl F5828).more (by decide) (by decide)
    refine C.if_eq at_38 (by decide) rfl rfl (fun q38 => ?_) (fun q38 => ?_)
    · refine C.iconst 0 at_45 rfl rfl ?_
      exact (J46_638 0 (Or.inl rfl)).more (by decide) (by decide)
    refine C.iconst 1 at_41 rfl rfl ?_
    refine C.goto at_42 (by decide) rfl ?_
    exact (J46_638 1 (Or.inr rfl)).more (by decide) (by decide)
  refine C.if_eq at_4 (by decide) rfl rfl (fun q4 => ?_) (fun q4 => ?_)
  · refine C.iconst 0 at_11 rfl rfl ?_
    exact J12_637 0 (Or.inl rfl)
  refine C.iconst 1 at_7 rfl rfl ?_
  refine C.goto at_8 (by decide) rfl ?_
  exact J12_637 1 (Or.inr rfl)
set_option maxRecDepth 65536 in
set_option maxHeartbeats 40000000 in
theorem comes_1 {Post : Tables → Env → Array Value → State → Outcome → State → Prop} (hpost : ∀ tb e args s v u, (limb_1_1.after args s (.returned v) u = true ∧ limb_1_2.after args s (.returned v) u = true ∧ True) → FrameEnd s (.returned v) u (Jvm.fieldLocs frame_1_writes args s ++ Jvm.arrayLocs frame_1_arrays args s ++ Jvm.staticLocs frame_1_statics s) 24 320 → Post tb e args s (.returned v) u) :
    ArmFor flags0 classFile x code maxLocals ret World_1 tables_1 room_1 Calls_1 rest_1 Pre_1 Post := by
  intro l hfl _ _ p e ha hc hk s m args below hf hA hF happ hP
  obtain ⟨hcalls, hrest, hpre⟩ := hP
  obtain ⟨-, -, -, hnamed, -, -, -, hat⟩ := (Spec.applies_iff hf).mp happ
  obtain ⟨hg, hn⟩ := and_e (Cond.before_iff.mp (show (Jvm.Cond.and given_1 narrow_1).before args s = true from hpre))
  obtain ⟨h1, h2⟩ := and_e hg
  obtain ⟨w0, w1, w2, w3, w4, rfl⟩ : ∃ w0 w1 w2 w3 w4 : Value, args = #[w0, w1, w2, w3, w4] := by
    have hs : args.size = 5 := by simpa [Cond.value, given_1] using h1
    obtain ⟨L⟩ := args
    match L, hs with
    | [w0, w1, w2, w3, w4], _ => exact ⟨w0, w1, w2, w3, w4, rfl⟩
  have hw := fun d (hd : d ∈ tables_1) => atoms_spec (ws := Jvm.Cond.code x code maxLocals ret :: tables_1) hat d (List.mem_cons_of_mem _ hd)
  obtain ⟨u0, t0⟩ := and_e h2
  obtain ⟨i0, e0⟩ := isL_v u0
  obtain rfl : w0 = (.long i0) := Option.some.inj e0
  obtain ⟨u1, t1⟩ := and_e t0
  obtain ⟨i1, e1⟩ := isL_v u1
  obtain rfl : w1 = (.long i1) := Option.some.inj e1
  obtain ⟨u2, t2⟩ := and_e t1
  obtain ⟨i2, e2⟩ := isL_v u2
  obtain rfl : w2 = (.long i2) := Option.some.inj e2
  obtain ⟨u3, t3⟩ := and_e t2
  obtain ⟨i3, e3⟩ := is_v u3
  obtain rfl : w3 = (.int i3) := Option.some.inj e3
  obtain ⟨i4, e4⟩ := is_v t3
  obtain rfl : w4 = (.int i4) := Option.some.inj e4
  obtain ⟨n, o, h1, h2, h3, _, L, rfl, ⟨⟨rfl, -⟩, N⟩, hq⟩ := con0 l s _ hw s.heap.size s.heap (Nat.le_refl _) i0 i1 i2 i3 i4 p e ha hc hk s m _ below hf ((Spec.applies_iff_loose hf).mp happ).1 ⟨rfl, State.Warmed39.refl s, rfl⟩ trivial
  refine ⟨n, _, h1, h2, h3, hpost _ _ _ _ _ _ ⟨Cond.after_iff.mpr rfl, Cond.after_iff.mpr (eq_i res_at (Term.int_eval (1)) rfl), trivial⟩ ⟨hq.1, hq.2.1, (hq.2.2.sift fun y hy => Or.inr (N y hy)).mono (by decide) (by decide)⟩⟩
theorem main_1_1 : Claimed_1_1 := comes_1 fun _ _ _ _ _ _ h hF => ⟨h.1, hF⟩
theorem main_1_2 : Claimed_1_2 := comes_1 fun _ _ _ _ _ _ h hF => ⟨h.2.1, hF⟩
end Jvm.Pilot.@@N@@
namespace Jvm.Pilot.@@N@@
open Jvm Jvm.ClassFile Sem Op Lib Jvm.Free Jvm.Stand Jvm.Pilot.@@N@@.Jvm.D
/-! MADE BY PROGRAM (witnessworld.py) out of the Statement's table words and the real class files: 13 classes; the members and pool entries that the words name. The judged class is class 1, her method 1. -/
namespace start1
open Jvm.ClassFile
def u (s : String) : CpInfo := .utf8 (stringToUtf16 s)
/-- a pool by its gaps: so many unusable entries, then the entry; so many at the end -/
def gap : Nat → List CpInfo → List CpInfo
  | 0, r => r
  | n + 1, r => .unusable :: gap n r
def poolList (es : List (Nat × CpInfo)) (last : Nat) : List CpInfo := es.foldr (fun e r => gap e.1 (e.2 :: r)) (gap last [])
def pool (es : List (Nat × CpInfo)) (last : Nat) : Array CpInfo := ⟨poolList es last⟩
def fileOf (pool : Array CpInfo) (this : Nat) (attrs : Array Attribute := #[]) (ms : Array MethodInfo := #[]) (fl : Nat := 33) (sup : Nat := 0) (ifs : Array Nat := #[]) (fds : Array FieldInfo := #[]) : ClassFile where
  minorVersion := 0
  majorVersion := 65
  constantPool := pool
  accessFlags := fl
  thisClass := this
  superClass := sup
  interfaces := ifs
  fields := fds
  methods := ms
  attributes := attrs
def plain (name : String) (sup : Option ClassId) : Class where
  name := name
  kind := .ordinary
  loader := none
  accessFlags := 33
  super := sup
  interfaces := #[]
  cf := none
  fields := #[]
  methods := #[]
  instanceTypes := #[]
  staticTypes := #[]
  resolved := #[]
  callSites := []
  init := .initialized
  statics := none
  mirror := none

def pool0 : Array CpInfo := pool [(5, u "<init>"), (0, u "()V"), (1, .class_ 10), (1, u "java/lang/Object")] 113

def k0c0 : Code := { maxStack := 0, maxLocals := 1, code := object_method_1_code, exceptionTable := #[], attributes := #[] }
def k0m0 : Method := { name := "<init>", desc := "()V", sig := { parameters := [], returnType := none }, accessFlags := 1, code := some k0c0 }
/-- java/lang/Object -/
def k0 : Class := { plain "java/lang/Object" none with
  accessFlags := 33
  interfaces := #[]
  cf := some (fileOf pool0 8 #[] #[{ accessFlags := 1, nameIndex := 5, descriptorIndex := 6, attributes := #[] }] 33 0 #[] #[])
  fields := #[]
  methods := #[k0m0]
  instanceTypes := #[]
  staticTypes := #[]
  resolved := Array.replicate 124 none
  statics := none }

def pool1 : Array CpInfo := pool [(2, .class_ 4), (1, u "java/lang/Object"), (0, u "<init>"), (0, u "()V"), (0, .integer 2147483647), (0, .long 18446744073709551615), (1, .class_ 11), (0, u "com/example/detra/detra/SetWords"), (0, .methodref 10 13), (0, .nameAndType 5 14), (0, u "(I)V"), (0, .methodref 10 16), (0, .nameAndType 17 14), (0, u "add"), (0, .methodref 10 19), (0, .nameAndType 20 21), (0, u "addWords"), (0, u "([JII)V"), (0, .methodref 23 24), (0, .class_ 25), (0, .nameAndType 26 27), (0, u "com/example/detra/detra/SetWordsAddWordsPinLaw"), (0, u "expect"), (0, u "(IZIIJ)J"), (0, .methodref 10 29), (0, .nameAndType 30 31), (0, u "word"), (0, u "(I)J"), (0, .methodref 10 33), (0, .nameAndType 34 6), (0, u "listHeld"), (0, .methodref 10 36), (0, .nameAndType 37 38), (0, u "heldCount"), (0, u "()I"), (0, .methodref 10 40), (0, .nameAndType 41 42), (0, u "heldIndex"), (0, u "(I)I"), (2, u "law"), (0, u "(JJJII)Z")] 7

def k1m0 : Method := { name := "<init>", desc := "()V", sig := { parameters := [], returnType := none }, accessFlags := 1, code := none }
def k1c1 : Code := { maxStack := 6, maxLocals := 23, code := code, exceptionTable := #[], attributes := #[] }
def k1m1 : Method := { name := "law", desc := "(JJJII)Z", sig := { parameters := [.long, .long, .long, .int, .int], returnType := some .boolean }, accessFlags := 9, code := some k1c1 }
def k1c2 : Code := { maxStack := 4, maxLocals := 8, code := method_3_code, exceptionTable := #[], attributes := #[] }
def k1m2 : Method := { name := "expect", desc := "(IZIIJ)J", sig := { parameters := [.int, .boolean, .int, .int, .long], returnType := some .long }, accessFlags := 10, code := some k1c2 }
/-- com/example/detra/detra/SetWordsAddWordsPinLaw -/
def k1 : Class := { plain "com/example/detra/detra/SetWordsAddWordsPinLaw" (some 0) with
  accessFlags := 49
  interfaces := #[]
  cf := some (fileOf pool1 23 #[] #[{ accessFlags := 1, nameIndex := 5, descriptorIndex := 6, attributes := #[] }, { accessFlags := 9, nameIndex := 45, descriptorIndex := 46, attributes := #[] }, { accessFlags := 10, nameIndex := 26, descriptorIndex := 27, attributes := #[] }] 49 2 #[] #[])
  fields := #[]
  methods := #[k1m0, k1m1, k1m2]
  instanceTypes := #[]
  staticTypes := #[]
  resolved := Array.replicate 54 none
  statics := none }

def pool2 : Array CpInfo := pool [(1, .methodref 2 3), (0, .class_ 4), (0, .nameAndType 5 6), (0, u "java/lang/Object"), (0, u "<init>"), (0, u "()V"), (2, .fieldref 10 11), (0, .class_ 12), (0, .nameAndType 13 14), (0, u "com/example/detra/detra/SetWords"), (0, u "words"), (0, u "[J"), (0, .fieldref 10 16), (0, .nameAndType 17 18), (0, u "listing"), (0, u "Z"), (0, .fieldref 10 20), (0, .nameAndType 21 22), (0, u "held"), (0, u "[I"), (0, .fieldref 10 24), (0, .nameAndType 25 26), (0, u "count"), (0, u "I"), (5, u "addWords"), (0, u "([JII)V"), (7, .class_ 43), (1, u "java/util/Arrays"), (5, .methodref 41 50), (0, .nameAndType 51 52), (0, u "sort"), (0, u "([III)V"), (2, u "listHeld"), (10, u "(I)V"), (0, u "FEW_WORDS"), (5, u "add"), (5, u "heldCount"), (0, u "()I"), (0, u "heldIndex"), (0, u "(I)I"), (0, u "word"), (0, u "(I)J")] 4

def k2c0 : Code := { maxStack := 3, maxLocals := 3, code := prog_21_method_1_code, exceptionTable := #[], attributes := #[] }
def k2m0 : Method := { name := "<init>", desc := "(I)V", sig := { parameters := [.int], returnType := none }, accessFlags := 0, code := some k2c0 }
def k2c1 : Code := { maxStack := 7, maxLocals := 3, code := prog_21_method_2_code, exceptionTable := #[], attributes := #[] }
def k2m1 : Method := { name := "add", desc := "(I)V", sig := { parameters := [.int], returnType := none }, accessFlags := 0, code := some k2c1 }
def k2c2 : Code := { maxStack := 7, maxLocals := 5, code := prog_21_method_4_code, exceptionTable := #[], attributes := #[] }
def k2m2 : Method := { name := "addWords", desc := "([JII)V", sig := { parameters := [(.array .long), .int, .int], returnType := none }, accessFlags := 0, code := some k2c2 }
def k2c3 : Code := { maxStack := 5, maxLocals := 2, code := prog_21_method_7_code, exceptionTable := #[], attributes := #[] }
def k2m3 : Method := { name := "listHeld", desc := "()V", sig := { parameters := [], returnType := none }, accessFlags := 0, code := some k2c3 }
def k2c4 : Code := { maxStack := 1, maxLocals := 1, code := prog_21_method_9_code, exceptionTable := #[], attributes := #[] }
def k2m4 : Method := { name := "heldCount", desc := "()I", sig := { parameters := [], returnType := some .int }, accessFlags := 0, code := some k2c4 }
def k2c5 : Code := { maxStack := 2, maxLocals := 2, code := prog_21_method_10_code, exceptionTable := #[], attributes := #[] }
def k2m5 : Method := { name := "heldIndex", desc := "(I)I", sig := { parameters := [.int], returnType := some .int }, accessFlags := 0, code := some k2c5 }
def k2c6 : Code := { maxStack := 2, maxLocals := 2, code := prog_21_method_11_code, exceptionTable := #[], attributes := #[] }
def k2m6 : Method := { name := "word", desc := "(I)J", sig := { parameters := [.int], returnType := some .long }, accessFlags := 0, code := some k2c6 }
/-- com/example/detra/detra/SetWords -/
def k2 : Class := { plain "com/example/detra/detra/SetWords" (some 0) with
  accessFlags := 48
  interfaces := #[]
  cf := some (fileOf pool2 10 #[] #[{ accessFlags := 0, nameIndex := 5, descriptorIndex := 66, attributes := #[] }, { accessFlags := 0, nameIndex := 73, descriptorIndex := 66, attributes := #[] }, { accessFlags := 0, nameIndex := 32, descriptorIndex := 33, attributes := #[] }, { accessFlags := 0, nameIndex := 55, descriptorIndex := 6, attributes := #[] }, { accessFlags := 0, nameIndex := 79, descriptorIndex := 80, attributes := #[] }, { accessFlags := 0, nameIndex := 81, descriptorIndex := 82, attributes := #[] }, { accessFlags := 0, nameIndex := 83, descriptorIndex := 84, attributes := #[] }] 48 2 #[] #[{ accessFlags := 24, nameIndex := 67, descriptorIndex := 26, attributes := #[] }, { accessFlags := 18, nameIndex := 13, descriptorIndex := 14, attributes := #[] }, { accessFlags := 18, nameIndex := 17, descriptorIndex := 18, attributes := #[] }, { accessFlags := 18, nameIndex := 21, descriptorIndex := 22, attributes := #[] }, { accessFlags := 2, nameIndex := 25, descriptorIndex := 26, attributes := #[] }])
  fields := #[{ name := "FEW_WORDS", type := .int, accessFlags := 24, slot := 0, constantValue := 0 }, { name := "words", type := (.array .long), accessFlags := 18, slot := 0, constantValue := 0 }, { name := "listing", type := .boolean, accessFlags := 18, slot := 1, constantValue := 0 }, { name := "held", type := (.array .int), accessFlags := 18, slot := 2, constantValue := 0 }, { name := "count", type := .int, accessFlags := 2, slot := 3, constantValue := 0 }]
  methods := #[k2m0, k2m1, k2m2, k2m3, k2m4, k2m5, k2m6]
  instanceTypes := #[(.array .long), .boolean, (.array .int), .int]
  staticTypes := #[.int]
  resolved := Array.replicate 89 none
  statics := none }

def pool3 : Array CpInfo := pool [(2, .class_ 4), (1, u "java/lang/Object"), (0, u "<init>"), (0, u "()V"), (0, .methodref 8 9), (0, .class_ 10), (0, .nameAndType 11 12), (0, u "java/util/DualPivotQuicksort"), (0, u "sort"), (0, u "([IIII)V"), (0, .methodref 14 15), (0, .class_ 16), (0, .nameAndType 17 18), (0, u "java/util/Arrays"), (0, u "rangeCheck"), (0, u "(III)V"), (55, .class_ 76), (1, u "java/util/Arrays$NaturalOrder"), (36, .class_ 115), (1, u "java/util/Arrays$LegacyMergeSort"), (1, u "Z"), (257, .class_ 376), (0, u "java/util/Arrays$ArrayList"), (68, u "$assertionsDisabled"), (269, u "MIN_ARRAY_SORT_GRAN"), (0, u "I"), (2, u "INSERTIONSORT_THRESHOLD"), (8, u "([III)V"), (246, .class_ 976), (0, u "java/util/Arrays$ArrayItr")] 52

def k3m0 : Method := { name := "<init>", desc := "()V", sig := { parameters := [], returnType := none }, accessFlags := 2, code := none }
def k3c1 : Code := { maxStack := 4, maxLocals := 3, code := jdk_65_method_3_code, exceptionTable := #[], attributes := #[] }
def k3m1 : Method := { name := "sort", desc := "([III)V", sig := { parameters := [(.array .int), .int, .int], returnType := none }, accessFlags := 9, code := some k3c1 }
def k3c2 : Code := { maxStack := 4, maxLocals := 3, code := jdk_65_method_30_code, exceptionTable := #[], attributes := #[] }
def k3m2 : Method := { name := "rangeCheck", desc := "(III)V", sig := { parameters := [.int, .int, .int], returnType := none }, accessFlags := 8, code := some k3c2 }
/-- java/util/Arrays -/
def k3 : Class := { plain "java/util/Arrays" (some 0) with
  accessFlags := 49
  interfaces := #[]
  cf := some (fileOf pool3 14 #[.nestMembers #[975, 375, 113, 74]] #[{ accessFlags := 2, nameIndex := 5, descriptorIndex := 6, attributes := #[] }, { accessFlags := 9, nameIndex := 11, descriptorIndex := 728, attributes := #[] }, { accessFlags := 8, nameIndex := 17, descriptorIndex := 18, attributes := #[] }] 49 2 #[] #[{ accessFlags := 26, nameIndex := 715, descriptorIndex := 716, attributes := #[] }, { accessFlags := 26, nameIndex := 719, descriptorIndex := 716, attributes := #[] }, { accessFlags := 4120, nameIndex := 445, descriptorIndex := 117, attributes := #[] }])
  fields := #[{ name := "MIN_ARRAY_SORT_GRAN", type := .int, accessFlags := 26, slot := 0, constantValue := 0 }, { name := "INSERTIONSORT_THRESHOLD", type := .int, accessFlags := 26, slot := 1, constantValue := 0 }, { name := "$assertionsDisabled", type := .boolean, accessFlags := 4120, slot := 2, constantValue := 0 }]
  methods := #[k3m0, k3m1, k3m2]
  instanceTypes := #[]
  staticTypes := #[.int, .int, .boolean]
  resolved := Array.replicate 1029 none
  statics := none }

def pool4 : Array CpInfo := pool [(1, .class_ 2), (0, u "java/util/DualPivotQuicksort"), (5, .class_ 10), (1, u "java/lang/Object"), (0, u "<init>"), (0, u "()V"), (4, .class_ 18), (0, u "java/util/DualPivotQuicksort$Sorter"), (7, .methodref 1 27), (0, .nameAndType 28 29), (0, u "sort"), (0, u "(Ljava/util/DualPivotQuicksort$Sorter;[IIII)V"), (3, u "([IIII)V"), (0, .methodref 1 35), (0, .nameAndType 36 37), (0, u "insertionSort"), (0, u "([III)V"), (30, u "I"), (4, .class_ 74), (0, u "java/util/DualPivotQuicksort$RunMerger"), (10, .class_ 86), (0, u "java/util/DualPivotQuicksort$Merger"), (127, u "MAX_MIXED_INSERTION_SORT_SIZE"), (2, u "MAX_INSERTION_SORT_SIZE"), (1, u "MIN_PARALLEL_SORT_SIZE"), (1, u "MIN_TRY_MERGE_SIZE"), (0, u "MIN_FIRST_RUN_SIZE"), (1, u "MIN_FIRST_RUNS_FACTOR"), (1, u "MAX_RUN_CAPACITY"), (1, u "MIN_RUN_COUNT"), (1, u "MIN_PARALLEL_MERGE_PARTS_SIZE"), (0, u "MIN_BYTE_COUNTING_SORT_SIZE"), (1, u "MIN_SHORT_OR_CHAR_COUNTING_SORT_SIZE"), (1, u "DELTA"), (1, u "MAX_RECURSION_DEPTH"), (1, u "NUM_BYTE_VALUES"), (1, u "MAX_BYTE_INDEX"), (0, u "NUM_CHAR_VALUES"), (0, u "NUM_SHORT_VALUES"), (0, u "MAX_SHORT_INDEX")] 86

def k4m0 : Method := { name := "<init>", desc := "()V", sig := { parameters := [], returnType := none }, accessFlags := 2, code := none }
def k4c1 : Code := { maxStack := 9, maxLocals := 7, code := jdk_2529_method_3_code, exceptionTable := #[], attributes := #[] }
def k4m1 : Method := { name := "sort", desc := "([IIII)V", sig := { parameters := [(.array .int), .int, .int, .int], returnType := none }, accessFlags := 8, code := some k4c1 }
def k4c2 : Code := { maxStack := 6, maxLocals := 21, code := jdk_2529_method_4_code, exceptionTable := #[], attributes := #[] }
def k4m2 : Method := { name := "sort", desc := "(Ljava/util/DualPivotQuicksort$Sorter;[IIII)V", sig := { parameters := [(.object "java/util/DualPivotQuicksort$Sorter"), (.array .int), .int, .int, .int], returnType := none }, accessFlags := 8, code := some k4c2 }
def k4c3 : Code := { maxStack := 4, maxLocals := 6, code := jdk_2529_method_6_code, exceptionTable := #[], attributes := #[] }
def k4m3 : Method := { name := "insertionSort", desc := "([III)V", sig := { parameters := [(.array .int), .int, .int], returnType := none }, accessFlags := 10, code := some k4c3 }
/-- java/util/DualPivotQuicksort -/
def k4 : Class := { plain "java/util/DualPivotQuicksort" (some 0) with
  accessFlags := 48
  interfaces := #[]
  cf := some (fileOf pool4 1 #[.nestMembers #[73, 85, 17]] #[{ accessFlags := 2, nameIndex := 11, descriptorIndex := 12, attributes := #[] }, { accessFlags := 8, nameIndex := 28, descriptorIndex := 33, attributes := #[] }, { accessFlags := 8, nameIndex := 28, descriptorIndex := 29, attributes := #[] }, { accessFlags := 10, nameIndex := 36, descriptorIndex := 37, attributes := #[] }] 48 8 #[] #[{ accessFlags := 26, nameIndex := 214, descriptorIndex := 68, attributes := #[] }, { accessFlags := 26, nameIndex := 217, descriptorIndex := 68, attributes := #[] }, { accessFlags := 26, nameIndex := 219, descriptorIndex := 68, attributes := #[] }, { accessFlags := 26, nameIndex := 221, descriptorIndex := 68, attributes := #[] }, { accessFlags := 26, nameIndex := 222, descriptorIndex := 68, attributes := #[] }, { accessFlags := 26, nameIndex := 224, descriptorIndex := 68, attributes := #[] }, { accessFlags := 26, nameIndex := 226, descriptorIndex := 68, attributes := #[] }, { accessFlags := 26, nameIndex := 228, descriptorIndex := 68, attributes := #[] }, { accessFlags := 26, nameIndex := 230, descriptorIndex := 68, attributes := #[] }, { accessFlags := 26, nameIndex := 231, descriptorIndex := 68, attributes := #[] }, { accessFlags := 26, nameIndex := 233, descriptorIndex := 68, attributes := #[] }, { accessFlags := 26, nameIndex := 235, descriptorIndex := 68, attributes := #[] }, { accessFlags := 26, nameIndex := 237, descriptorIndex := 68, attributes := #[] }, { accessFlags := 26, nameIndex := 239, descriptorIndex := 68, attributes := #[] }, { accessFlags := 26, nameIndex := 241, descriptorIndex := 68, attributes := #[] }, { accessFlags := 26, nameIndex := 242, descriptorIndex := 68, attributes := #[] }, { accessFlags := 26, nameIndex := 243, descriptorIndex := 68, attributes := #[] }, { accessFlags := 26, nameIndex := 244, descriptorIndex := 68, attributes := #[] }])
  fields := #[{ name := "MAX_MIXED_INSERTION_SORT_SIZE", type := .int, accessFlags := 26, slot := 0, constantValue := 0 }, { name := "MAX_INSERTION_SORT_SIZE", type := .int, accessFlags := 26, slot := 1, constantValue := 0 }, { name := "MIN_PARALLEL_SORT_SIZE", type := .int, accessFlags := 26, slot := 2, constantValue := 0 }, { name := "MIN_TRY_MERGE_SIZE", type := .int, accessFlags := 26, slot := 3, constantValue := 0 }, { name := "MIN_FIRST_RUN_SIZE", type := .int, accessFlags := 26, slot := 4, constantValue := 0 }, { name := "MIN_FIRST_RUNS_FACTOR", type := .int, accessFlags := 26, slot := 5, constantValue := 0 }, { name := "MAX_RUN_CAPACITY", type := .int, accessFlags := 26, slot := 6, constantValue := 0 }, { name := "MIN_RUN_COUNT", type := .int, accessFlags := 26, slot := 7, constantValue := 0 }, { name := "MIN_PARALLEL_MERGE_PARTS_SIZE", type := .int, accessFlags := 26, slot := 8, constantValue := 0 }, { name := "MIN_BYTE_COUNTING_SORT_SIZE", type := .int, accessFlags := 26, slot := 9, constantValue := 0 }, { name := "MIN_SHORT_OR_CHAR_COUNTING_SORT_SIZE", type := .int, accessFlags := 26, slot := 10, constantValue := 0 }, { name := "DELTA", type := .int, accessFlags := 26, slot := 11, constantValue := 0 }, { name := "MAX_RECURSION_DEPTH", type := .int, accessFlags := 26, slot := 12, constantValue := 0 }, { name := "NUM_BYTE_VALUES", type := .int, accessFlags := 26, slot := 13, constantValue := 0 }, { name := "MAX_BYTE_INDEX", type := .int, accessFlags := 26, slot := 14, constantValue := 0 }, { name := "NUM_CHAR_VALUES", type := .int, accessFlags := 26, slot := 15, constantValue := 0 }, { name := "NUM_SHORT_VALUES", type := .int, accessFlags := 26, slot := 16, constantValue := 0 }, { name := "MAX_SHORT_INDEX", type := .int, accessFlags := 26, slot := 17, constantValue := 0 }]
  methods := #[k4m0, k4m1, k4m2, k4m3]
  instanceTypes := #[]
  staticTypes := #[.int, .int, .int, .int, .int, .int, .int, .int, .int, .int, .int, .int, .int, .int, .int, .int, .int, .int]
  resolved := Array.replicate 331 none
  statics := none }

def pool5 : Array CpInfo := pool [(1, u "java/lang/Cloneable"), (0, .class_ 1), (0, u "java/lang/Object"), (0, .class_ 3)] 3

/-- java/lang/Cloneable -/
def k5 : Class := { plain "java/lang/Cloneable" (some 0) with
  accessFlags := 1537
  interfaces := #[]
  cf := some (fileOf pool5 2 #[] #[] 1537 4 #[] #[])
  fields := #[]
  methods := #[]
  instanceTypes := #[]
  staticTypes := #[]
  resolved := Array.replicate 8 none
  statics := none }

def pool6 : Array CpInfo := pool [(1, u "java/io/Serializable"), (0, .class_ 1), (0, u "java/lang/Object"), (0, .class_ 3)] 3

/-- java/io/Serializable -/
def k6 : Class := { plain "java/io/Serializable" (some 0) with
  accessFlags := 1537
  interfaces := #[]
  cf := some (fileOf pool6 2 #[] #[] 1537 4 #[] #[])
  fields := #[]
  methods := #[]
  instanceTypes := #[]
  staticTypes := #[]
  resolved := Array.replicate 8 none
  statics := none }

/-- the primitive byte -/
def k7 : Class := { plain "byte" none with kind := .primitive 'B', accessFlags := 0x411 }
/-- [B -/
def k8 : Class := { plain "[B" (some 0) with kind := .array 7 .byte, interfaces := #[5, 6], accessFlags := 1041 }

/-- the primitive int -/
def k9 : Class := { plain "int" none with kind := .primitive 'I', accessFlags := 0x411 }
/-- [I -/
def k10 : Class := { plain "[I" (some 0) with kind := .array 9 .int, interfaces := #[5, 6], accessFlags := 1041 }

/-- the primitive long -/
def k11 : Class := { plain "long" none with kind := .primitive 'J', accessFlags := 0x411 }
/-- [J -/
def k12 : Class := { plain "[J" (some 0) with kind := .array 11 .long, interfaces := #[5, 6], accessFlags := 1041 }

def heap : Heap := #[]
def classes : Array Class := #[k0, k1, k2, k3, k4, k5, k6, k7, k8, k9, k10, k11, k12]
def interned : List (Array UInt16 × Addr) := []
def slotsUsed : Nat := 0
def theMethod : MethodId := ⟨1, 1⟩
def args0 : Array Value := #[.long 1, .long 2, .long 3, .int 4, .int 5]
def aboutOver (below : List Frame) : State where
  vm := { classes := classes, interned := interned.toArray }
  heap := heap
  slotsUsed := slotsUsed
  threads := #[{ frames := .invoking theMethod args0 :: below }]
def below0 : List Frame := [.native { method := ⟨0, 0⟩, args := #[] }]
def about1 : State := aboutOver below0
def p0 : Program := .bare "" "" ""
def e0 : Env := launch0.env 0 0 0
theorem w_frames : about1.frames = Frame.invoking theMethod args0 :: below0 := rfl
set_option maxRecDepth 65536 in
theorem w_args : argsFit about1.vm theMethod args0 = true := by decide +kernel
set_option maxRecDepth 65536 in
theorem w_heap : heapFits about1 = true := by decide +kernel
set_option maxRecDepth 65536 in
theorem w_runnable : about1.curStatus? = some .runnable := by decide +kernel
set_option maxRecDepth 65536 in
theorem w_alone : about1.alone = true := by decide +kernel
set_option maxRecDepth 65536 in
theorem w_named : about1.methodNamed? x = some theMethod := by decide +kernel
set_option maxRecDepth 65536 in
theorem w_hears : about1.hears theMethod below0 = true := by decide +kernel
set_option maxRecDepth 65536 in
theorem w_ripe : about1.ripe theMethod args0 below0 = true := by decide +kernel
theorem w_running : about1.status = .running := rfl
set_option maxRecDepth 65536 in
theorem w_room : about1.hasRoom e0.platform room_1 = true :=
  launch0.hasRoom_least _ room_1 (by decide +kernel) (by decide +kernel) (by decide +kernel) (by decide +kernel) (by decide +kernel) (by decide +kernel)
theorem allAtoms_all (ts : List Jvm.Cond) (a : Array Jvm.Value) (st : Jvm.State) : (allAtoms ts).before a st = ts.all (fun c => c.before a st) := by
  induction ts with
  | nil => rfl
  | cons c t ih =>
    show (Jvm.Cond.and c (allAtoms t)).before a st = _
    rw [Jvm.Cond.before_and, ih, List.all_cons]
def words1 : List Jvm.Cond := Jvm.Cond.code x code maxLocals ret :: tables_1
/-- a 'code' word, met by the world's own term for the bytes: nothing is compared byte by byte -/
theorem code_word {y : MethodName} {bytes : ByteArray} {mx : Nat} {rt : Option FieldType} {a : Array Value} {s : State} {m : MethodId} {meth : Method} {c : Code} (h1 : s.methodNamed? y = some m) (h2 : s.vm.method? m = some meth) (h3 : meth.code = some c) (h4 : c.code = bytes)
    (h5 : (c.maxLocals == mx && c.exceptionTable.isEmpty && decide (c.maxStack ≤ mostOperands) && decide (meth.sig.returnType = rt) && !meth.locks && decide (parseMethodDescriptor y.desc = some meth.sig)) = true) : (Jvm.Cond.code y bytes mx rt).before a s = true := by
  simp only [Bool.and_eq_true, beq_iff_eq, Bool.not_eq_true', decide_eq_true_eq] at h5
  obtain ⟨⟨⟨⟨⟨g1, g2⟩, g3⟩, g4⟩, g5⟩, g6⟩ := h5
  simp [Cond.before, Cond.holds, Cond.value, h1, h2, h3, h4, g1, g2, g3, g4, g5, g6]
def isCode : Jvm.Cond → Bool
  | .code _ _ _ _ => true
  | _ => false
theorem all_split {L : List Jvm.Cond} {P : Jvm.Cond → Bool} (h1 : L.all (fun c => isCode c || P c) = true) (h2 : ∀ c ∈ L.filter isCode, P c = true) : L.all P = true := by
  refine List.all_eq_true.mpr fun c hc => ?_
  have h := List.all_eq_true.mp h1 c hc
  rcases Bool.eq_false_or_eq_true (isCode c) with hi | hi
  · exact h2 c (List.mem_filter.mpr ⟨hc, hi⟩)
  · simpa [hi] using h
set_option maxRecDepth 65536 in
theorem w_c0 : (Jvm.Cond.code x code maxLocals ret).before args0 about1 = true := code_word (m := ⟨1, 1⟩) (meth := k1m1) (c := k1c1) (by decide +kernel) rfl rfl rfl (by decide +kernel)
set_option maxRecDepth 65536 in
theorem w_c1 : (Jvm.Cond.code ({ cls := "com/example/detra/detra/SetWords", name := "<init>", desc := "(I)V" } : Jvm.MethodName) prog_21_method_1_code (3 : Nat) (Option.none : Option Jvm.ClassFile.FieldType)).before args0 about1 = true := code_word (m := ⟨2, 0⟩) (meth := k2m0) (c := k2c0) (by decide +kernel) rfl rfl rfl (by decide +kernel)
set_option maxRecDepth 65536 in
theorem w_c2 : (Jvm.Cond.code ({ cls := "java/lang/Object", name := "<init>", desc := "()V" } : Jvm.MethodName) object_method_1_code (1 : Nat) (Option.none : Option Jvm.ClassFile.FieldType)).before args0 about1 = true := code_word (m := ⟨0, 0⟩) (meth := k0m0) (c := k0c0) (by decide +kernel) rfl rfl rfl (by decide +kernel)
set_option maxRecDepth 65536 in
theorem w_c3 : (Jvm.Cond.code ({ cls := "com/example/detra/detra/SetWords", name := "addWords", desc := "([JII)V" } : Jvm.MethodName) prog_21_method_4_code (5 : Nat) (Option.none : Option Jvm.ClassFile.FieldType)).before args0 about1 = true := code_word (m := ⟨2, 2⟩) (meth := k2m2) (c := k2c2) (by decide +kernel) rfl rfl rfl (by decide +kernel)
set_option maxRecDepth 65536 in
theorem w_c4 : (Jvm.Cond.code ({ cls := "com/example/detra/detra/SetWordsAddWordsPinLaw", name := "expect", desc := "(IZIIJ)J" } : Jvm.MethodName) method_3_code (8 : Nat) (Option.some Jvm.ClassFile.FieldType.long)).before args0 about1 = true := code_word (m := ⟨1, 2⟩) (meth := k1m2) (c := k1c2) (by decide +kernel) rfl rfl rfl (by decide +kernel)
set_option maxRecDepth 65536 in
theorem w_c5 : (Jvm.Cond.code ({ cls := "com/example/detra/detra/SetWords", name := "word", desc := "(I)J" } : Jvm.MethodName) prog_21_method_11_code (2 : Nat) (Option.some Jvm.ClassFile.FieldType.long)).before args0 about1 = true := code_word (m := ⟨2, 6⟩) (meth := k2m6) (c := k2c6) (by decide +kernel) rfl rfl rfl (by decide +kernel)
set_option maxRecDepth 65536 in
theorem w_c6 : (Jvm.Cond.code ({ cls := "com/example/detra/detra/SetWords", name := "listHeld", desc := "()V" } : Jvm.MethodName) prog_21_method_7_code (2 : Nat) (Option.none : Option Jvm.ClassFile.FieldType)).before args0 about1 = true := code_word (m := ⟨2, 3⟩) (meth := k2m3) (c := k2c3) (by decide +kernel) rfl rfl rfl (by decide +kernel)
set_option maxRecDepth 65536 in
theorem w_c7 : (Jvm.Cond.code ({ cls := "java/util/Arrays", name := "sort", desc := "([III)V" } : Jvm.MethodName) jdk_65_method_3_code (3 : Nat) (Option.none : Option Jvm.ClassFile.FieldType)).before args0 about1 = true := code_word (m := ⟨3, 1⟩) (meth := k3m1) (c := k3c1) (by decide +kernel) rfl rfl rfl (by decide +kernel)
set_option maxRecDepth 65536 in
theorem w_c8 : (Jvm.Cond.code ({ cls := "java/util/Arrays", name := "rangeCheck", desc := "(III)V" } : Jvm.MethodName) jdk_65_method_30_code (3 : Nat) (Option.none : Option Jvm.ClassFile.FieldType)).before args0 about1 = true := code_word (m := ⟨3, 2⟩) (meth := k3m2) (c := k3c2) (by decide +kernel) rfl rfl rfl (by decide +kernel)
set_option maxRecDepth 65536 in
theorem w_c9 : (Jvm.Cond.code ({ cls := "java/util/DualPivotQuicksort", name := "sort", desc := "([IIII)V" } : Jvm.MethodName) jdk_2529_method_3_code (7 : Nat) (Option.none : Option Jvm.ClassFile.FieldType)).before args0 about1 = true := code_word (m := ⟨4, 1⟩) (meth := k4m1) (c := k4c1) (by decide +kernel) rfl rfl rfl (by decide +kernel)
set_option maxRecDepth 65536 in
theorem w_c10 : (Jvm.Cond.code ({ cls := "java/util/DualPivotQuicksort", name := "sort", desc := "(Ljava/util/DualPivotQuicksort$Sorter;[IIII)V" } : Jvm.MethodName) jdk_2529_method_4_code (21 : Nat) (Option.none : Option Jvm.ClassFile.FieldType)).before args0 about1 = true := code_word (m := ⟨4, 2⟩) (meth := k4m2) (c := k4c2) (by decide +kernel) rfl rfl rfl (by decide +kernel)
set_option maxRecDepth 65536 in
theorem w_c11 : (Jvm.Cond.code ({ cls := "java/util/DualPivotQuicksort", name := "insertionSort", desc := "([III)V" } : Jvm.MethodName) jdk_2529_method_6_code (6 : Nat) (Option.none : Option Jvm.ClassFile.FieldType)).before args0 about1 = true := code_word (m := ⟨4, 3⟩) (meth := k4m3) (c := k4c3) (by decide +kernel) rfl rfl rfl (by decide +kernel)
set_option maxRecDepth 65536 in
theorem w_c12 : (Jvm.Cond.code ({ cls := "com/example/detra/detra/SetWords", name := "heldCount", desc := "()I" } : Jvm.MethodName) prog_21_method_9_code (1 : Nat) (Option.some Jvm.ClassFile.FieldType.int)).before args0 about1 = true := code_word (m := ⟨2, 4⟩) (meth := k2m4) (c := k2c4) (by decide +kernel) rfl rfl rfl (by decide +kernel)
set_option maxRecDepth 65536 in
theorem w_c13 : (Jvm.Cond.code ({ cls := "com/example/detra/detra/SetWords", name := "heldIndex", desc := "(I)I" } : Jvm.MethodName) prog_21_method_10_code (2 : Nat) (Option.some Jvm.ClassFile.FieldType.int)).before args0 about1 = true := code_word (m := ⟨2, 5⟩) (meth := k2m5) (c := k2c5) (by decide +kernel) rfl rfl rfl (by decide +kernel)
set_option maxRecDepth 65536 in
theorem w_c14 : (Jvm.Cond.code ({ cls := "com/example/detra/detra/SetWords", name := "add", desc := "(I)V" } : Jvm.MethodName) prog_21_method_2_code (3 : Nat) (Option.none : Option Jvm.ClassFile.FieldType)).before args0 about1 = true := code_word (m := ⟨2, 1⟩) (meth := k2m1) (c := k2c1) (by decide +kernel) rfl rfl rfl (by decide +kernel)
def codes1 : List Jvm.Cond := [Jvm.Cond.code x code maxLocals ret, Jvm.Cond.code ({ cls := "com/example/detra/detra/SetWords", name := "<init>", desc := "(I)V" } : Jvm.MethodName) prog_21_method_1_code (3 : Nat) (Option.none : Option Jvm.ClassFile.FieldType), Jvm.Cond.code ({ cls := "java/lang/Object", name := "<init>", desc := "()V" } : Jvm.MethodName) object_method_1_code (1 : Nat) (Option.none : Option Jvm.ClassFile.FieldType), Jvm.Cond.code ({ cls := "com/example/detra/detra/SetWords", name := "addWords", desc := "([JII)V" } : Jvm.MethodName) prog_21_method_4_code (5 : Nat) (Option.none : Option Jvm.ClassFile.FieldType), Jvm.Cond.code ({ cls := "com/example/detra/detra/SetWordsAddWordsPinLaw", name := "expect", desc := "(IZIIJ)J" } : Jvm.MethodName) method_3_code (8 : Nat) (Option.some Jvm.ClassFile.FieldType.long), Jvm.Cond.code ({ cls := "com/example/detra/detra/SetWords", name := "word", desc := "(I)J" } : Jvm.MethodName) prog_21_method_11_code (2 : Nat) (Option.some Jvm.ClassFile.FieldType.long), Jvm.Cond.code ({ cls := "com/example/detra/detra/SetWords", name := "listHeld", desc := "()V" } : Jvm.MethodName) prog_21_method_7_code (2 : Nat) (Option.none : Option Jvm.ClassFile.FieldType), Jvm.Cond.code ({ cls := "java/util/Arrays", name := "sort", desc := "([III)V" } : Jvm.MethodName) jdk_65_method_3_code (3 : Nat) (Option.none : Option Jvm.ClassFile.FieldType), Jvm.Cond.code ({ cls := "java/util/Arrays", name := "rangeCheck", desc := "(III)V" } : Jvm.MethodName) jdk_65_method_30_code (3 : Nat) (Option.none : Option Jvm.ClassFile.FieldType), Jvm.Cond.code ({ cls := "java/util/DualPivotQuicksort", name := "sort", desc := "([IIII)V" } : Jvm.MethodName) jdk_2529_method_3_code (7 : Nat) (Option.none : Option Jvm.ClassFile.FieldType), Jvm.Cond.code ({ cls := "java/util/DualPivotQuicksort", name := "sort", desc := "(Ljava/util/DualPivotQuicksort$Sorter;[IIII)V" } : Jvm.MethodName) jdk_2529_method_4_code (21 : Nat) (Option.none : Option Jvm.ClassFile.FieldType), Jvm.Cond.code ({ cls := "java/util/DualPivotQuicksort", name := "insertionSort", desc := "([III)V" } : Jvm.MethodName) jdk_2529_method_6_code (6 : Nat) (Option.none : Option Jvm.ClassFile.FieldType), Jvm.Cond.code ({ cls := "com/example/detra/detra/SetWords", name := "heldCount", desc := "()I" } : Jvm.MethodName) prog_21_method_9_code (1 : Nat) (Option.some Jvm.ClassFile.FieldType.int), Jvm.Cond.code ({ cls := "com/example/detra/detra/SetWords", name := "heldIndex", desc := "(I)I" } : Jvm.MethodName) prog_21_method_10_code (2 : Nat) (Option.some Jvm.ClassFile.FieldType.int), Jvm.Cond.code ({ cls := "com/example/detra/detra/SetWords", name := "add", desc := "(I)V" } : Jvm.MethodName) prog_21_method_2_code (3 : Nat) (Option.none : Option Jvm.ClassFile.FieldType)]
set_option maxRecDepth 65536 in
theorem codes_eq : words1.filter isCode = codes1 := rfl
theorem w_codes : ∀ c ∈ words1.filter isCode, c.before args0 about1 = true := by
  rw [codes_eq]
  intro c hc
  simp only [codes1, List.mem_cons, List.not_mem_nil, or_false] at hc
  rcases hc with rfl | rfl | rfl | rfl | rfl | rfl | rfl | rfl | rfl | rfl | rfl | rfl | rfl | rfl | rfl
  · exact w_c0
  · exact w_c1
  · exact w_c2
  · exact w_c3
  · exact w_c4
  · exact w_c5
  · exact w_c6
  · exact w_c7
  · exact w_c8
  · exact w_c9
  · exact w_c10
  · exact w_c11
  · exact w_c12
  · exact w_c13
  · exact w_c14
set_option maxRecDepth 65536 in
theorem w_t1 : (words1.take 24).all (fun c => isCode c || c.before args0 about1) = true := by decide +kernel
set_option maxRecDepth 65536 in
theorem w_t2 : ((words1.drop 24).take 24).all (fun c => isCode c || c.before args0 about1) = true := by decide +kernel
set_option maxRecDepth 65536 in
theorem w_t3 : (((words1.drop 24).drop 24).take 24).all (fun c => isCode c || c.before args0 about1) = true := by decide +kernel
set_option maxRecDepth 65536 in
theorem w_t4 : (((words1.drop 24).drop 24).drop 24).all (fun c => isCode c || c.before args0 about1) = true := by decide +kernel
theorem w_tables : (allAtoms (Jvm.Cond.code x code maxLocals ret :: tables_1)).before args0 about1 = true := by
  rw [allAtoms_all]
  show words1.all (fun c => c.before args0 about1) = true
  refine all_split ?_ w_codes
  rw [← List.take_append_drop 24 words1, List.all_append, w_t1, ← List.take_append_drop 24 (words1.drop 24), List.all_append, w_t2, ← List.take_append_drop 24 ((words1.drop 24).drop 24), List.all_append, w_t3, w_t4]
  rfl
set_option maxRecDepth 65536 in
theorem w_case : (Jvm.Cond.and given_1 narrow_1).before args0 about1 = true := by decide +kernel
theorem w_applies : (headSpec (Jvm.Cond.code x code maxLocals ret :: tables_1) room_1).applies x e0.platform about1 = true :=
  (Spec.applies_iff w_frames).mpr ⟨w_running, w_runnable, w_alone, w_named, w_hears, w_ripe, w_room, w_tables⟩
theorem atStart : AtStart classFile x code maxLocals ret World_1 tables_1 room_1 Calls_1 rest_1 Pre_1 launch0 p0 e0 about1 theMethod args0 below0 :=
  ⟨lists_1, trivial, launch0.admits_env _ _ _, launch0.least_env, fairChoices_fair.cas, fairChoices_fair.clock, w_frames, w_args, w_heap, w_applies, trivial, trivial, w_case⟩
end start1
theorem witness_1 : WitnessClaimed_1 := ⟨start1.p0, start1.e0, start1.about1, start1.theMethod, start1.args0, start1.below0, start1.atStart⟩
end Jvm.Pilot.@@N@@
