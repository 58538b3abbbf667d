import JvmDerived
import JvmDerived.Pilot.@@N@@Statement
import JvmDerived.Pilot.@@N@@Code
set_option linter.unusedVariables false
set_option linter.unusedSimpArgs false
@@BLOCK:NumsL.lean.txt@@
namespace Jvm.Pilot.@@N@@
open Jvm Jvm.ClassFile Sem Op Lib Jvm.Free Jvm.Stand Jvm.LawKit Jvm.RoadKit Bundle Jvm.Pilot.@@N@@.Jvm.D
/-! ## own kit: one body's walk as a goal on the heap, the frame and the room alone -/
/-- what stays the same through one body's walk -/
def Cx (p : Program) (s : State) (m : MethodId) (meth : Method) (c : Code) (Z : State) (n0 : Nat) (own : String) (bc : ByteArray) (maxL : Nat) (ret : Option FieldType) (nm : String) : Prop :=
  p.tables.exec = Jvm.exec ∧ Z.Warmed39 s.vm ∧ s.vm.findClass own = some m.cls ∧ c.code = bc ∧ c.maxLocals = maxL ∧ meth.sig.returnType = ret ∧ meth.name = nm ∧ meth.locks = false ∧ n0 ≤ s.heap.size
/-- from every state with this heap at which the body stands: the run goes on from this frame to the end that F says -/
def Go (p : Program) (l : Launch) (e : Env) (R : Room) (s : State) (m : MethodId) (args : Array Value) (below : List Frame) (meth : Method) (c : Code) (n0 : Nat) (F : State → Outcome → Prop) (h : Heap) (k n pc : Nat) (Ls : Array Slot) (st : List Value) : Prop :=
  ∀ (T : State) (locs : List Loc), Stand p l e R s m args below meth c T locs k n → T.heap = h → Fr n0 locs →
    ∃ s₂ o, Steps p.tables e below (T.setTop (mkF m pc Ls st)) s₂ ∧ s₂.status = .running ∧ Ended s₂ below o ∧ F s₂ o
/-- the end of a body: it returned what Q says, wrote new cells alone -/
def FinQ (s : State) (n0 : Nat) (Q : Option Value → Heap → Prop) (ck cs : Nat) : State → Outcome → Prop := fun s₂ o => ∃ v L, o = .returned v ∧ (Q v s₂.heap ∧ Fr n0 L) ∧ FrameEnd s o s₂ L ck cs
/-- a body's contract at the heap h0 -/
def Con (l : Launch) (Z : State) (n0 : Nat) (ws : List Jvm.Cond) (y : MethodName) (bc : ByteArray) (maxL : Nat) (ret : Option FieldType) (R : Room) (as : Array Value) (h0 : Heap) (Q : Option Value → Heap → Prop) : Prop :=
  MetFree l y (head1 (Jvm.Cond.code y bc maxL ret :: ws) R) (fun a U => a = as ∧ Z.Warmed39 U.vm ∧ U.heap = h0) (fun _ _ _ _ _ => True) (fun _ U o U' => ∃ v L, o = .returned v ∧ (Q v U'.heap ∧ Fr n0 L) ∧ FrameEnd U o U' L R.cells R.slots)
/-- an array: its class, its values -/
def Av (Z : State) (h : Heap) (a : Addr) (ty : FieldType) (vs : List Value) : Prop := ∃ c : Cell, Arr Z h a c ty ∧ c.slots.toList = vs ∧ ∀ v ∈ vs, fits ty v = true
section Own
variable {p : Program} {l : Launch} {e : Env} {R : Room} {s : State} {m : MethodId} {args : Array Value} {below : List Frame} {meth : Method} {c : Code} {n0 : Nat} {F : State → Outcome → Prop} {h : Heap} {k n pc pc' : Nat} {Ls : Array Slot} {st : List Value} {Z : State} {own : String} {bc : ByteArray} {maxL : Nat} {ret : Option FieldType} {nm : String} {a0 : Array Value}
theorem tw {ws : List Jvm.Cond} (hw : ∀ d ∈ ws, d.before a0 Z = true) (i : Nat) {d : Jvm.Cond} (q : ws[i]? = some d) : d.before a0 Z = true := hw _ (List.mem_of_getElem? q)
theorem Av.lt {a : Addr} {ty : FieldType} {vs : List Value} (A : Av Z h a ty vs) : a < h.size := by obtain ⟨c, A, -⟩ := A; exact A.lt
theorem Av.ext {a : Addr} {ty : FieldType} {vs : List Value} {h' : Heap} (A : Av Z h a ty vs) (E : Ext h h') : Av Z h' a ty vs := by obtain ⟨c, A, q⟩ := A; exact ⟨c, A.ext E, q⟩
theorem Av.other {a b : Addr} {ty : FieldType} {vs : List Value} {h' : Heap} {sl : Nat} {v : Value} (A : Av Z h b ty vs) (W : Wr h h' a sl v) (q : b ≠ a) : Av Z h' b ty vs := by obtain ⟨c, A, r⟩ := A; exact ⟨c, A.other W q, r⟩
theorem Av.keep {a : Addr} {ty : FieldType} {vs : List Value} {h' : Heap} {ws : List Addr} (A : Av Z h a ty vs) (K : Keep h h' ws) (q : a ∉ ws) : Av Z h' a ty vs := by obtain ⟨c, A, r⟩ := A; exact ⟨c, ⟨K.2.1 a c A.1 q, A.2⟩, r⟩
theorem Av.same {a : Addr} {ty : FieldType} {vs : List Value} {h' : Heap} {j : Nat} {v : Value} (A : Av Z h a ty vs) (W : Wr h h' a j v) (hf : fits ty v = true) : Av Z h' a ty (vs.set j v) := by
  obtain ⟨c, A, rfl, r⟩ := A
  refine ⟨_, A.same W, by simp [Cell.setSlot], fun w hw => ?_⟩
  rcases List.mem_or_eq_of_mem_set hw with q | rfl
  · exact r w q
  · exact hf
theorem Av.fit {a : Addr} {ty : FieldType} {vs : List Value} {i : Nat} {v : Value} (A : Av Z h a ty vs) (q : vs[i]? = some v) : fits ty v = true := by obtain ⟨c, A, -, r⟩ := A; exact r v (List.mem_of_getElem? q)
theorem Av.new {a : Addr} {kc : ClassId} {ty : FieldType} {z : Int32} (A : Arr Z h a (newA kc ty z) ty) : Av Z h a ty (List.replicate z.toNatClampNeg (defaultValue ty)) :=
  ⟨_, A, by simp [newA], fun v hv => by rw [List.eq_of_mem_replicate hv]; cases ty <;> rfl⟩
theorem own_in {j : Int32} {cl : Cell} {v : Value} (hj : ¬ j < 0) (hv : cl.slots[j.toNatClampNeg]? = some v) : ¬ (j < 0 ∨ cl.slots.size ≤ j.toNatClampNeg) := fun q => q.elim hj fun q => absurd (Array.getElem?_eq_some_iff.mp hv).1 (Nat.not_lt.mpr q)
theorem own_in2 {j : Int32} {cl : Cell} (hj : ¬ j < 0) (hl : j.toNatClampNeg < cl.slots.size) : ¬ (j < 0 ∨ cl.slots.size ≤ j.toNatClampNeg) := fun q => q.elim hj fun q => absurd hl (Nat.not_lt.mpr q)
theorem Go.pl {Ls' : Array Slot} {st' : List Value} (q : ∀ (T : State) (locs : List Loc), Stand p l e R s m args below meth c T locs k n → T.heap = h → ∀ t, Steps p.tables e below (T.setTop (mkF m pc' Ls' st')) t → Steps p.tables e below (T.setTop (mkF m pc Ls st)) t) (hr : Go p l e R s m args below meth c n0 F h k n pc' Ls' st') : Go p l e R s m args below meth c n0 F h k n pc Ls st := fun T locs X eT N => by
  obtain ⟨s₂, o, h1, h2⟩ := hr T locs X eT N
  exact ⟨s₂, o, q T locs X eT _ h1, h2⟩
theorem Go.more {k' n' : Nat} (hr : Go p l e R s m args below meth c n0 F h k' n' pc Ls st) (h1 : k ≤ k') (h2 : n ≤ n') : Go p l e R s m args below meth c n0 F h k n pc Ls st := fun T locs X eT N => hr T locs (X.more h1 h2) eT N
theorem Cx.size (C : Cx p s m meth c Z n0 own bc maxL ret nm) {T : State} {locs : List Loc} (X : Stand p l e R s m args below meth c T locs k n) : n0 ≤ T.heap.size := Nat.le_trans C.2.2.2.2.2.2.2.2 X.same.2.1
theorem Cx.iloadN (C : Cx p s m meth c Z n0 own bc maxL ret nm) {j : Fin 4} {v : Int32} (hd : decode bc pc = .ok (.iload_n j, 1)) (hp : pc + 1 = pc') (hl : Ls[j.val]? = some (.val (.int v))) (hr : Go p l e R s m args below meth c n0 F h k n pc' Ls (.int v :: st)) : Go p l e R s m args below meth c n0 F h k n pc Ls (st) := by
  subst hp; exact Go.pl (fun T locs X eT t q => XS.iloadN X.here C.1 rfl (hb C.2.2.2.1 hd) hl q) hr
theorem Cx.iload (C : Cx p s m meth c Z n0 own bc maxL ret nm) {j : Nat} {v : Int32} (hd : decode bc pc = .ok (.iload j, 2)) (hp : pc + 2 = pc') (hl : Ls[j]? = some (.val (.int v))) (hr : Go p l e R s m args below meth c n0 F h k n pc' Ls (.int v :: st)) : Go p l e R s m args below meth c n0 F h k n pc Ls (st) := by
  subst hp; exact Go.pl (fun T locs X eT t q => XS.iload X.here C.1 rfl (hb C.2.2.2.1 hd) hl q) hr
theorem Cx.lloadN (C : Cx p s m meth c Z n0 own bc maxL ret nm) {j : Fin 4} {v : Int64} (hd : decode bc pc = .ok (.lload_n j, 1)) (hp : pc + 1 = pc') (hl : Ls[j.val]? = some (.val (.long v))) (hr : Go p l e R s m args below meth c n0 F h k n pc' Ls (.long v :: st)) : Go p l e R s m args below meth c n0 F h k n pc Ls (st) := by
  subst hp; exact Go.pl (fun T locs X eT t q => XT.lloadN X.here C.1 rfl (hb C.2.2.2.1 hd) hl q) hr
theorem Cx.lload (C : Cx p s m meth c Z n0 own bc maxL ret nm) {j : Nat} {v : Int64} (hd : decode bc pc = .ok (.lload j, 2)) (hp : pc + 2 = pc') (hl : Ls[j]? = some (.val (.long v))) (hr : Go p l e R s m args below meth c n0 F h k n pc' Ls (.long v :: st)) : Go p l e R s m args below meth c n0 F h k n pc Ls (st) := by
  subst hp; exact Go.pl (fun T locs X eT t q => XT.lload X.here C.1 rfl (hb C.2.2.2.1 hd) hl q) hr
theorem Cx.aloadN (C : Cx p s m meth c Z n0 own bc maxL ret nm) {j : Fin 4} {v : Value} (hd : decode bc pc = .ok (.aload_n j, 1)) (hp : pc + 1 = pc') (hl : Ls[j.val]? = some (.val v)) (hv : v.isRef = true) (hr : Go p l e R s m args below meth c n0 F h k n pc' Ls (v :: st)) : Go p l e R s m args below meth c n0 F h k n pc Ls (st) := by
  subst hp; exact Go.pl (fun T locs X eT t q => XS.aloadN X.here C.1 rfl (hb C.2.2.2.1 hd) hl hv q) hr
theorem Cx.aload (C : Cx p s m meth c Z n0 own bc maxL ret nm) {j : Nat} {v : Value} (hd : decode bc pc = .ok (.aload j, 2)) (hp : pc + 2 = pc') (hl : Ls[j]? = some (.val v)) (hv : v.isRef = true) (hr : Go p l e R s m args below meth c n0 F h k n pc' Ls (v :: st)) : Go p l e R s m args below meth c n0 F h k n pc Ls (st) := by
  subst hp; exact Go.pl (fun T locs X eT t q => XS.aload X.here C.1 rfl (hb C.2.2.2.1 hd) hl hv q) hr
theorem Cx.istoreN (C : Cx p s m meth c Z n0 own bc maxL ret nm) {j : Fin 4} {v : Int32} {Ls' : Array Slot} (hd : decode bc pc = .ok (.istore_n j, 1)) (hp : pc + 1 = pc') (hl : storeLocals Ls j.val (.int v) = some Ls') (hr : Go p l e R s m args below meth c n0 F h k n pc' Ls' (st)) : Go p l e R s m args below meth c n0 F h k n pc Ls (.int v :: st) := by
  subst hp; exact Go.pl (fun T locs X eT t q => XS.istoreN X.here C.1 rfl (hb C.2.2.2.1 hd) rfl hl q) hr
theorem Cx.istore (C : Cx p s m meth c Z n0 own bc maxL ret nm) {j : Nat} {v : Int32} {Ls' : Array Slot} (hd : decode bc pc = .ok (.istore j, 2)) (hp : pc + 2 = pc') (hl : storeLocals Ls j (.int v) = some Ls') (hr : Go p l e R s m args below meth c n0 F h k n pc' Ls' (st)) : Go p l e R s m args below meth c n0 F h k n pc Ls (.int v :: st) := by
  subst hp; exact Go.pl (fun T locs X eT t q => XS.istore X.here C.1 rfl (hb C.2.2.2.1 hd) rfl hl q) hr
theorem Cx.lstoreN (C : Cx p s m meth c Z n0 own bc maxL ret nm) {j : Fin 4} {v : Int64} {Ls' : Array Slot} (hd : decode bc pc = .ok (.lstore_n j, 1)) (hp : pc + 1 = pc') (hl : storeLocals Ls j.val (.long v) = some Ls') (hr : Go p l e R s m args below meth c n0 F h k n pc' Ls' (st)) : Go p l e R s m args below meth c n0 F h k n pc Ls (.long v :: st) := by
  subst hp; exact Go.pl (fun T locs X eT t q => XT.lstoreN X.here C.1 rfl (hb C.2.2.2.1 hd) rfl hl q) hr
theorem Cx.lstore (C : Cx p s m meth c Z n0 own bc maxL ret nm) {j : Nat} {v : Int64} {Ls' : Array Slot} (hd : decode bc pc = .ok (.lstore j, 2)) (hp : pc + 2 = pc') (hl : storeLocals Ls j (.long v) = some Ls') (hr : Go p l e R s m args below meth c n0 F h k n pc' Ls' (st)) : Go p l e R s m args below meth c n0 F h k n pc Ls (.long v :: st) := by
  subst hp; exact Go.pl (fun T locs X eT t q => XT.lstore X.here C.1 rfl (hb C.2.2.2.1 hd) rfl hl q) hr
theorem Cx.astoreN (C : Cx p s m meth c Z n0 own bc maxL ret nm) {j : Fin 4} {v : Value} {Ls' : Array Slot} (hd : decode bc pc = .ok (.astore_n j, 1)) (hp : pc + 1 = pc') (hv : v.isRef = true) (hl : storeLocals Ls j.val v = some Ls') (hr : Go p l e R s m args below meth c n0 F h k n pc' Ls' (st)) : Go p l e R s m args below meth c n0 F h k n pc Ls (v :: st) := by
  subst hp; exact Go.pl (fun T locs X eT t q => XS.astoreN X.here C.1 rfl (hb C.2.2.2.1 hd) rfl hv hl q) hr
theorem Cx.astore (C : Cx p s m meth c Z n0 own bc maxL ret nm) {j : Nat} {v : Value} {Ls' : Array Slot} (hd : decode bc pc = .ok (.astore j, 2)) (hp : pc + 2 = pc') (hv : v.isRef = true) (hl : storeLocals Ls j v = some Ls') (hr : Go p l e R s m args below meth c n0 F h k n pc' Ls' (st)) : Go p l e R s m args below meth c n0 F h k n pc Ls (v :: st) := by
  subst hp; exact Go.pl (fun T locs X eT t q => XS.astore X.here C.1 rfl (hb C.2.2.2.1 hd) rfl hv hl q) hr
theorem Cx.iconst (C : Cx p s m meth c Z n0 own bc maxL ret nm) {i : Int} (v : Int32) (hd : decode bc pc = .ok (.iconst i, 1)) (hp : pc + 1 = pc') (hv : Int32.ofInt i = v) (hr : Go p l e R s m args below meth c n0 F h k n pc' Ls (.int v :: st)) : Go p l e R s m args below meth c n0 F h k n pc Ls st := by
  subst hp hv; exact Go.pl (fun T locs X eT t q => XS.iconst X.here C.1 rfl (hb C.2.2.2.1 hd) q) hr
theorem Cx.bipush (C : Cx p s m meth c Z n0 own bc maxL ret nm) {i : Int} (v : Int32) (hd : decode bc pc = .ok (.bipush i, 2)) (hp : pc + 2 = pc') (hv : (Int8.ofInt i).toInt32 = v) (hr : Go p l e R s m args below meth c n0 F h k n pc' Ls (.int v :: st)) : Go p l e R s m args below meth c n0 F h k n pc Ls st := by
  subst hp hv; exact Go.pl (fun T locs X eT t q => XS.bipush X.here C.1 rfl (hb C.2.2.2.1 hd) q) hr
theorem Cx.sipush (C : Cx p s m meth c Z n0 own bc maxL ret nm) {i : Int} (v : Int32) (hd : decode bc pc = .ok (.sipush i, 3)) (hp : pc + 3 = pc') (hv : (Int16.ofInt i).toInt32 = v) (hr : Go p l e R s m args below meth c n0 F h k n pc' Ls (.int v :: st)) : Go p l e R s m args below meth c n0 F h k n pc Ls st := by
  subst hp hv; exact Go.pl (fun T locs X eT t q => XS.sipush X.here C.1 rfl (hb C.2.2.2.1 hd) q) hr
theorem Cx.lconst (C : Cx p s m meth c Z n0 own bc maxL ret nm) {i : Fin 2} (v : Int64) (hd : decode bc pc = .ok (.lconst i, 1)) (hp : pc + 1 = pc') (hv : Int64.ofNat i = v) (hr : Go p l e R s m args below meth c n0 F h k n pc' Ls (.long v :: st)) : Go p l e R s m args below meth c n0 F h k n pc Ls st := by
  subst hp hv; exact Go.pl (fun T locs X eT t q => XT.lconst X.here C.1 rfl (hb C.2.2.2.1 hd) q) hr
theorem Cx.aconst_null (C : Cx p s m meth c Z n0 own bc maxL ret nm)  (hd : decode bc pc = .ok (.aconst_null, 1)) (hp : pc + 1 = pc')  (hr : Go p l e R s m args below meth c n0 F h k n pc' Ls (.null :: st)) : Go p l e R s m args below meth c n0 F h k n pc Ls (st) := by
  subst hp; exact Go.pl (fun T locs X eT t q => XS.aconstNull X.here C.1 rfl (hb C.2.2.2.1 hd)  q) hr
theorem Cx.iadd (C : Cx p s m meth c Z n0 own bc maxL ret nm) {x y : Int32} (hd : decode bc pc = .ok (.iadd, 1)) (hp : pc + 1 = pc')  (hr : Go p l e R s m args below meth c n0 F h k n pc' Ls (.int (x + y) :: st)) : Go p l e R s m args below meth c n0 F h k n pc Ls (.int y :: .int x :: st) := by
  subst hp; exact Go.pl (fun T locs X eT t q => XS.iadd X.here C.1 rfl (hb C.2.2.2.1 hd) rfl q) hr
theorem Cx.isub (C : Cx p s m meth c Z n0 own bc maxL ret nm) {x y : Int32} (hd : decode bc pc = .ok (.isub, 1)) (hp : pc + 1 = pc')  (hr : Go p l e R s m args below meth c n0 F h k n pc' Ls (.int (x - y) :: st)) : Go p l e R s m args below meth c n0 F h k n pc Ls (.int y :: .int x :: st) := by
  subst hp; exact Go.pl (fun T locs X eT t q => XS.isub X.here C.1 rfl (hb C.2.2.2.1 hd) rfl q) hr
theorem Cx.imul (C : Cx p s m meth c Z n0 own bc maxL ret nm) {x y : Int32} (hd : decode bc pc = .ok (.imul, 1)) (hp : pc + 1 = pc')  (hr : Go p l e R s m args below meth c n0 F h k n pc' Ls (.int (x * y) :: st)) : Go p l e R s m args below meth c n0 F h k n pc Ls (.int y :: .int x :: st) := by
  subst hp; exact Go.pl (fun T locs X eT t q => XS.imul X.here C.1 rfl (hb C.2.2.2.1 hd) rfl q) hr
theorem Cx.iand (C : Cx p s m meth c Z n0 own bc maxL ret nm) {x y : Int32} (hd : decode bc pc = .ok (.iand, 1)) (hp : pc + 1 = pc')  (hr : Go p l e R s m args below meth c n0 F h k n pc' Ls (.int (x &&& y) :: st)) : Go p l e R s m args below meth c n0 F h k n pc Ls (.int y :: .int x :: st) := by
  subst hp; exact Go.pl (fun T locs X eT t q => XS.iand X.here C.1 rfl (hb C.2.2.2.1 hd) rfl q) hr
theorem Cx.ixor (C : Cx p s m meth c Z n0 own bc maxL ret nm) {x y : Int32} (hd : decode bc pc = .ok (.ixor, 1)) (hp : pc + 1 = pc')  (hr : Go p l e R s m args below meth c n0 F h k n pc' Ls (.int (x ^^^ y) :: st)) : Go p l e R s m args below meth c n0 F h k n pc Ls (.int y :: .int x :: st) := by
  subst hp; exact Go.pl (fun T locs X eT t q => XT.ixor X.here C.1 rfl (hb C.2.2.2.1 hd) rfl q) hr
theorem Cx.ior (C : Cx p s m meth c Z n0 own bc maxL ret nm) {x y : Int32} (hd : decode bc pc = .ok (.ior, 1)) (hp : pc + 1 = pc')  (hr : Go p l e R s m args below meth c n0 F h k n pc' Ls (.int (x ||| y) :: st)) : Go p l e R s m args below meth c n0 F h k n pc Ls (.int y :: .int x :: st) := by
  subst hp; exact Go.pl (fun T locs X eT t q => XT.ior X.here C.1 rfl (hb C.2.2.2.1 hd) rfl q) hr
theorem Cx.ishl (C : Cx p s m meth c Z n0 own bc maxL ret nm) {x y : Int32} (hd : decode bc pc = .ok (.ishl, 1)) (hp : pc + 1 = pc')  (hr : Go p l e R s m args below meth c n0 F h k n pc' Ls (.int (x <<< (y &&& 31)) :: st)) : Go p l e R s m args below meth c n0 F h k n pc Ls (.int y :: .int x :: st) := by
  subst hp; exact Go.pl (fun T locs X eT t q => XT.ishl X.here C.1 rfl (hb C.2.2.2.1 hd) rfl q) hr
theorem Cx.ishr (C : Cx p s m meth c Z n0 own bc maxL ret nm) {x y : Int32} (hd : decode bc pc = .ok (.ishr, 1)) (hp : pc + 1 = pc')  (hr : Go p l e R s m args below meth c n0 F h k n pc' Ls (.int (x >>> (y &&& 31)) :: st)) : Go p l e R s m args below meth c n0 F h k n pc Ls (.int y :: .int x :: st) := by
  subst hp; exact Go.pl (fun T locs X eT t q => XT.ishr X.here C.1 rfl (hb C.2.2.2.1 hd) rfl q) hr
theorem Cx.iushr (C : Cx p s m meth c Z n0 own bc maxL ret nm) {x y : Int32} (hd : decode bc pc = .ok (.iushr, 1)) (hp : pc + 1 = pc')  (hr : Go p l e R s m args below meth c n0 F h k n pc' Ls (.int (XT.ushr x y) :: st)) : Go p l e R s m args below meth c n0 F h k n pc Ls (.int y :: .int x :: st) := by
  subst hp; exact Go.pl (fun T locs X eT t q => XT.iushr X.here C.1 rfl (hb C.2.2.2.1 hd) rfl q) hr
theorem Cx.idiv (C : Cx p s m meth c Z n0 own bc maxL ret nm) {x y : Int32} (hd : decode bc pc = .ok (.idiv, 1)) (hp : pc + 1 = pc') (hy : y ≠ 0) (hr : Go p l e R s m args below meth c n0 F h k n pc' Ls (.int (x / y) :: st)) : Go p l e R s m args below meth c n0 F h k n pc Ls (.int y :: .int x :: st) := by
  subst hp; exact Go.pl (fun T locs X eT t q => XS.idiv X.here C.1 rfl (hb C.2.2.2.1 hd) rfl hy q) hr
theorem Cx.irem (C : Cx p s m meth c Z n0 own bc maxL ret nm) {x y : Int32} (hd : decode bc pc = .ok (.irem, 1)) (hp : pc + 1 = pc') (hy : y ≠ 0) (hr : Go p l e R s m args below meth c n0 F h k n pc' Ls (.int (x % y) :: st)) : Go p l e R s m args below meth c n0 F h k n pc Ls (.int y :: .int x :: st) := by
  subst hp; exact Go.pl (fun T locs X eT t q => iremM X C.1 rfl (hb C.2.2.2.1 hd) rfl hy q) hr
theorem Cx.ineg (C : Cx p s m meth c Z n0 own bc maxL ret nm) {x : Int32} (hd : decode bc pc = .ok (.ineg, 1)) (hp : pc + 1 = pc')  (hr : Go p l e R s m args below meth c n0 F h k n pc' Ls (.int (-x) :: st)) : Go p l e R s m args below meth c n0 F h k n pc Ls (.int x :: st) := by
  subst hp; exact Go.pl (fun T locs X eT t q => XS.ineg X.here C.1 rfl (hb C.2.2.2.1 hd) rfl q) hr
theorem Cx.ladd (C : Cx p s m meth c Z n0 own bc maxL ret nm) {x y : Int64} (hd : decode bc pc = .ok (.ladd, 1)) (hp : pc + 1 = pc')  (hr : Go p l e R s m args below meth c n0 F h k n pc' Ls (.long (x + y) :: st)) : Go p l e R s m args below meth c n0 F h k n pc Ls (.long y :: .long x :: st) := by
  subst hp; exact Go.pl (fun T locs X eT t q => XT.ladd X.here C.1 rfl (hb C.2.2.2.1 hd) rfl q) hr
theorem Cx.lsub (C : Cx p s m meth c Z n0 own bc maxL ret nm) {x y : Int64} (hd : decode bc pc = .ok (.lsub, 1)) (hp : pc + 1 = pc')  (hr : Go p l e R s m args below meth c n0 F h k n pc' Ls (.long (x - y) :: st)) : Go p l e R s m args below meth c n0 F h k n pc Ls (.long y :: .long x :: st) := by
  subst hp; exact Go.pl (fun T locs X eT t q => XT.lsub X.here C.1 rfl (hb C.2.2.2.1 hd) rfl q) hr
theorem Cx.lmul (C : Cx p s m meth c Z n0 own bc maxL ret nm) {x y : Int64} (hd : decode bc pc = .ok (.lmul, 1)) (hp : pc + 1 = pc')  (hr : Go p l e R s m args below meth c n0 F h k n pc' Ls (.long (x * y) :: st)) : Go p l e R s m args below meth c n0 F h k n pc Ls (.long y :: .long x :: st) := by
  subst hp; exact Go.pl (fun T locs X eT t q => XT.lmul X.here C.1 rfl (hb C.2.2.2.1 hd) rfl q) hr
theorem Cx.land (C : Cx p s m meth c Z n0 own bc maxL ret nm) {x y : Int64} (hd : decode bc pc = .ok (.land, 1)) (hp : pc + 1 = pc')  (hr : Go p l e R s m args below meth c n0 F h k n pc' Ls (.long (x &&& y) :: st)) : Go p l e R s m args below meth c n0 F h k n pc Ls (.long y :: .long x :: st) := by
  subst hp; exact Go.pl (fun T locs X eT t q => XT.land X.here C.1 rfl (hb C.2.2.2.1 hd) rfl q) hr
theorem Cx.lor (C : Cx p s m meth c Z n0 own bc maxL ret nm) {x y : Int64} (hd : decode bc pc = .ok (.lor, 1)) (hp : pc + 1 = pc')  (hr : Go p l e R s m args below meth c n0 F h k n pc' Ls (.long (x ||| y) :: st)) : Go p l e R s m args below meth c n0 F h k n pc Ls (.long y :: .long x :: st) := by
  subst hp; exact Go.pl (fun T locs X eT t q => XT.lor X.here C.1 rfl (hb C.2.2.2.1 hd) rfl q) hr
theorem Cx.lxor (C : Cx p s m meth c Z n0 own bc maxL ret nm) {x y : Int64} (hd : decode bc pc = .ok (.lxor, 1)) (hp : pc + 1 = pc')  (hr : Go p l e R s m args below meth c n0 F h k n pc' Ls (.long (x ^^^ y) :: st)) : Go p l e R s m args below meth c n0 F h k n pc Ls (.long y :: .long x :: st) := by
  subst hp; exact Go.pl (fun T locs X eT t q => XT.lxor X.here C.1 rfl (hb C.2.2.2.1 hd) rfl q) hr
theorem Cx.ldiv (C : Cx p s m meth c Z n0 own bc maxL ret nm) {x y : Int64} (hd : decode bc pc = .ok (.ldiv, 1)) (hp : pc + 1 = pc') (hy : y ≠ 0) (hr : Go p l e R s m args below meth c n0 F h k n pc' Ls (.long (x / y) :: st)) : Go p l e R s m args below meth c n0 F h k n pc Ls (.long y :: .long x :: st) := by
  subst hp; exact Go.pl (fun T locs X eT t q => XT.ldiv X.here C.1 rfl (hb C.2.2.2.1 hd) rfl hy q) hr
theorem Cx.lrem (C : Cx p s m meth c Z n0 own bc maxL ret nm) {x y : Int64} (hd : decode bc pc = .ok (.lrem, 1)) (hp : pc + 1 = pc') (hy : y ≠ 0) (hr : Go p l e R s m args below meth c n0 F h k n pc' Ls (.long (x - (x / y) * y) :: st)) : Go p l e R s m args below meth c n0 F h k n pc Ls (.long y :: .long x :: st) := by
  subst hp; exact Go.pl (fun T locs X eT t q => XT.lrem X.here C.1 rfl (hb C.2.2.2.1 hd) rfl hy q) hr
theorem Cx.lshl (C : Cx p s m meth c Z n0 own bc maxL ret nm) {x : Int64} {y : Int32} (hd : decode bc pc = .ok (.lshl, 1)) (hp : pc + 1 = pc')  (hr : Go p l e R s m args below meth c n0 F h k n pc' Ls (.long (x <<< (y.toInt64 &&& 63)) :: st)) : Go p l e R s m args below meth c n0 F h k n pc Ls (.int y :: .long x :: st) := by
  subst hp; exact Go.pl (fun T locs X eT t q => XT.lshl X.here C.1 rfl (hb C.2.2.2.1 hd) rfl q) hr
theorem Cx.lshr (C : Cx p s m meth c Z n0 own bc maxL ret nm) {x : Int64} {y : Int32} (hd : decode bc pc = .ok (.lshr, 1)) (hp : pc + 1 = pc')  (hr : Go p l e R s m args below meth c n0 F h k n pc' Ls (.long (x >>> (y.toInt64 &&& 63)) :: st)) : Go p l e R s m args below meth c n0 F h k n pc Ls (.int y :: .long x :: st) := by
  subst hp; exact Go.pl (fun T locs X eT t q => XT.lshr X.here C.1 rfl (hb C.2.2.2.1 hd) rfl q) hr
theorem Cx.lushr (C : Cx p s m meth c Z n0 own bc maxL ret nm) {x : Int64} {y : Int32} (hd : decode bc pc = .ok (.lushr, 1)) (hp : pc + 1 = pc')  (hr : Go p l e R s m args below meth c n0 F h k n pc' Ls (.long (XT.ushrL x y) :: st)) : Go p l e R s m args below meth c n0 F h k n pc Ls (.int y :: .long x :: st) := by
  subst hp; exact Go.pl (fun T locs X eT t q => XT.lushr X.here C.1 rfl (hb C.2.2.2.1 hd) rfl q) hr
theorem Cx.lneg (C : Cx p s m meth c Z n0 own bc maxL ret nm) {x : Int64} (hd : decode bc pc = .ok (.lneg, 1)) (hp : pc + 1 = pc')  (hr : Go p l e R s m args below meth c n0 F h k n pc' Ls (.long (-x) :: st)) : Go p l e R s m args below meth c n0 F h k n pc Ls (.long x :: st) := by
  subst hp; exact Go.pl (fun T locs X eT t q => XT.lneg X.here C.1 rfl (hb C.2.2.2.1 hd) rfl q) hr
theorem Cx.i2l (C : Cx p s m meth c Z n0 own bc maxL ret nm) {x : Int32} (hd : decode bc pc = .ok (.i2l, 1)) (hp : pc + 1 = pc')  (hr : Go p l e R s m args below meth c n0 F h k n pc' Ls (.long x.toInt64 :: st)) : Go p l e R s m args below meth c n0 F h k n pc Ls (.int x :: st) := by
  subst hp; exact Go.pl (fun T locs X eT t q => XT.i2l X.here C.1 rfl (hb C.2.2.2.1 hd) rfl q) hr
theorem Cx.l2i (C : Cx p s m meth c Z n0 own bc maxL ret nm) {x : Int64} (hd : decode bc pc = .ok (.l2i, 1)) (hp : pc + 1 = pc')  (hr : Go p l e R s m args below meth c n0 F h k n pc' Ls (.int x.toInt32 :: st)) : Go p l e R s m args below meth c n0 F h k n pc Ls (.long x :: st) := by
  subst hp; exact Go.pl (fun T locs X eT t q => XT.l2i X.here C.1 rfl (hb C.2.2.2.1 hd) rfl q) hr
theorem Cx.i2b (C : Cx p s m meth c Z n0 own bc maxL ret nm) {x : Int32} (hd : decode bc pc = .ok (.i2b, 1)) (hp : pc + 1 = pc')  (hr : Go p l e R s m args below meth c n0 F h k n pc' Ls (.int x.toInt8.toInt32 :: st)) : Go p l e R s m args below meth c n0 F h k n pc Ls (.int x :: st) := by
  subst hp; exact Go.pl (fun T locs X eT t q => XT.i2b X.here C.1 rfl (hb C.2.2.2.1 hd) rfl q) hr
theorem Cx.i2c (C : Cx p s m meth c Z n0 own bc maxL ret nm) {x : Int32} (hd : decode bc pc = .ok (.i2c, 1)) (hp : pc + 1 = pc')  (hr : Go p l e R s m args below meth c n0 F h k n pc' Ls (.int x.toUInt32.toUInt16.toUInt32.toInt32 :: st)) : Go p l e R s m args below meth c n0 F h k n pc Ls (.int x :: st) := by
  subst hp; exact Go.pl (fun T locs X eT t q => XT.i2c X.here C.1 rfl (hb C.2.2.2.1 hd) rfl q) hr
theorem Cx.lcmp (C : Cx p s m meth c Z n0 own bc maxL ret nm) {x y : Int64} (hd : decode bc pc = .ok (.lcmp, 1)) (hp : pc + 1 = pc')  (hr : Go p l e R s m args below meth c n0 F h k n pc' Ls (.int (XT.cmpL x y) :: st)) : Go p l e R s m args below meth c n0 F h k n pc Ls (.long y :: .long x :: st) := by
  subst hp; exact Go.pl (fun T locs X eT t q => XT.lcmp X.here C.1 rfl (hb C.2.2.2.1 hd) rfl q) hr
theorem Cx.iinc (C : Cx p s m meth c Z n0 own bc maxL ret nm) {j : Nat} {i : Int} {x : Int32} {Ls' : Array Slot} (v : Int32) (hd : decode bc pc = .ok (.iinc j i, 3)) (hp : pc + 3 = pc') (hv : Int32.ofInt i = v) (hl : Ls[j]? = some (.val (.int x))) (hl' : storeLocals Ls j (.int (x + v)) = some Ls') (hr : Go p l e R s m args below meth c n0 F h k n pc' Ls' st) : Go p l e R s m args below meth c n0 F h k n pc Ls st := by
  subst hp hv; exact Go.pl (fun T locs X eT t q => XS.iinc X.here C.1 rfl (hb C.2.2.2.1 hd) hl hl' q) hr
theorem Cx.dup (C : Cx p s m meth c Z n0 own bc maxL ret nm) {x : Value} (hd : decode bc pc = .ok (.dup, 1)) (hp : pc + 1 = pc') (hc : x.category = 1) (hr : Go p l e R s m args below meth c n0 F h k n pc' Ls (x :: x :: st)) : Go p l e R s m args below meth c n0 F h k n pc Ls (x :: st) := by
  subst hp; exact Go.pl (fun T locs X eT t q => XS.dup X.here C.1 rfl (hb C.2.2.2.1 hd) rfl hc q) hr
theorem Cx.pop (C : Cx p s m meth c Z n0 own bc maxL ret nm) {x : Value} (hd : decode bc pc = .ok (.pop, 1)) (hp : pc + 1 = pc') (hc : x.category = 1) (hr : Go p l e R s m args below meth c n0 F h k n pc' Ls (st)) : Go p l e R s m args below meth c n0 F h k n pc Ls (x :: st) := by
  subst hp; exact Go.pl (fun T locs X eT t q => XT.pop X.here C.1 rfl (hb C.2.2.2.1 hd) rfl hc q) hr
theorem Cx.dupX1 (C : Cx p s m meth c Z n0 own bc maxL ret nm) {x y : Value} (hd : decode bc pc = .ok (.dup_x1, 1)) (hp : pc + 1 = pc') (hc : x.category = 1) (hc' : y.category = 1) (hr : Go p l e R s m args below meth c n0 F h k n pc' Ls (x :: y :: x :: st)) : Go p l e R s m args below meth c n0 F h k n pc Ls (x :: y :: st) := by
  subst hp; exact Go.pl (fun T locs X eT t q => XT.dupX1 X.here C.1 rfl (hb C.2.2.2.1 hd) rfl hc hc' q) hr
theorem Cx.dup2 (C : Cx p s m meth c Z n0 own bc maxL ret nm) {x y : Value} (hd : decode bc pc = .ok (.dup2, 1)) (hp : pc + 1 = pc') (hc : x.category = 1) (hc' : y.category = 1) (hr : Go p l e R s m args below meth c n0 F h k n pc' Ls (x :: y :: x :: y :: st)) : Go p l e R s m args below meth c n0 F h k n pc Ls (x :: y :: st) := by
  subst hp; exact Go.pl (fun T locs X eT t q => XT.dup2 X.here C.1 rfl (hb C.2.2.2.1 hd) rfl hc hc' q) hr
theorem Cx.dup2L (C : Cx p s m meth c Z n0 own bc maxL ret nm) {x : Int64} (hd : decode bc pc = .ok (.dup2, 1)) (hp : pc + 1 = pc')  (hr : Go p l e R s m args below meth c n0 F h k n pc' Ls (.long x :: .long x :: st)) : Go p l e R s m args below meth c n0 F h k n pc Ls (.long x :: st) := by
  subst hp; exact Go.pl (fun T locs X eT t q => XT.dup2L X.here C.1 rfl (hb C.2.2.2.1 hd) rfl q) hr
theorem Cx.goto (C : Cx p s m meth c Z n0 own bc maxL ret nm) {o : Int} (hd : decode bc pc = .ok (.goto o, 3)) (ho : 0 ≤ (pc : Int) + o) (hp : ((pc : Int) + o).toNat = pc') (hr : Go p l e R s m args below meth c n0 F h k n pc' Ls st) : Go p l e R s m args below meth c n0 F h k n pc Ls st := by
  exact Go.pl (fun T locs X eT t q => XS.goto X.here C.1 rfl rfl (hb C.2.2.2.1 hd) ho hp q) hr
theorem Cx.if_eq_t (C : Cx p s m meth c Z n0 own bc maxL ret nm) {x : Int32} {o : Int} (hd : decode bc pc = .ok (.ifCond .eq o, 3)) (ho : 0 ≤ (pc : Int) + o) (hp : ((pc : Int) + o).toNat = pc') (hq : x = 0) (hr : Go p l e R s m args below meth c n0 F h k n pc' Ls st) : Go p l e R s m args below meth c n0 F h k n pc Ls (.int x :: st) :=
  Go.pl (fun T locs X eT t q => XS.ifYes X.here C.1 rfl rfl (hb C.2.2.2.1 hd) rfl (XT.i0_eq_t hq) ho hp q) hr
theorem Cx.if_eq_f (C : Cx p s m meth c Z n0 own bc maxL ret nm) {x : Int32} {o : Int} (hd : decode bc pc = .ok (.ifCond .eq o, 3)) (hp : pc + 3 = pc') (hq : ¬ x = 0) (hr : Go p l e R s m args below meth c n0 F h k n pc' Ls st) : Go p l e R s m args below meth c n0 F h k n pc Ls (.int x :: st) := by
  subst hp; exact Go.pl (fun T locs X eT t q => XS.ifNo X.here C.1 rfl (hb C.2.2.2.1 hd) rfl (XT.i0_eq_f hq) q) hr
theorem Cx.if_eq (C : Cx p s m meth c Z n0 own bc maxL ret nm) {x : Int32} {o : Int} {pc'' : Nat} (hd : decode bc pc = .ok (.ifCond .eq o, 3)) (ho : 0 ≤ (pc : Int) + o) (hp : ((pc : Int) + o).toNat = pc') (hp' : pc + 3 = pc'') (hy : x = 0 → Go p l e R s m args below meth c n0 F h k n pc' Ls st) (hn : ¬ x = 0 → Go p l e R s m args below meth c n0 F h k n pc'' Ls st) : Go p l e R s m args below meth c n0 F h k n pc Ls (.int x :: st) := by
  by_cases q : x = 0
  · exact C.if_eq_t hd ho hp q (hy q)
  · exact C.if_eq_f hd hp' q (hn q)
theorem Cx.icmp_eq_t (C : Cx p s m meth c Z n0 own bc maxL ret nm) {x y : Int32} {o : Int} (hd : decode bc pc = .ok (.if_icmp .eq o, 3)) (ho : 0 ≤ (pc : Int) + o) (hp : ((pc : Int) + o).toNat = pc') (hq : x = y) (hr : Go p l e R s m args below meth c n0 F h k n pc' Ls st) : Go p l e R s m args below meth c n0 F h k n pc Ls (.int y :: .int x :: st) :=
  Go.pl (fun T locs X eT t q => XS.icmpYes X.here C.1 rfl rfl (hb C.2.2.2.1 hd) rfl (XT.ii_eq_t hq) ho hp q) hr
theorem Cx.icmp_eq_f (C : Cx p s m meth c Z n0 own bc maxL ret nm) {x y : Int32} {o : Int} (hd : decode bc pc = .ok (.if_icmp .eq o, 3)) (hp : pc + 3 = pc') (hq : ¬ x = y) (hr : Go p l e R s m args below meth c n0 F h k n pc' Ls st) : Go p l e R s m args below meth c n0 F h k n pc Ls (.int y :: .int x :: st) := by
  subst hp; exact Go.pl (fun T locs X eT t q => XS.icmpNo X.here C.1 rfl (hb C.2.2.2.1 hd) rfl (XT.ii_eq_f hq) q) hr
theorem Cx.icmp_eq (C : Cx p s m meth c Z n0 own bc maxL ret nm) {x y : Int32} {o : Int} {pc'' : Nat} (hd : decode bc pc = .ok (.if_icmp .eq o, 3)) (ho : 0 ≤ (pc : Int) + o) (hp : ((pc : Int) + o).toNat = pc') (hp' : pc + 3 = pc'') (hy : x = y → Go p l e R s m args below meth c n0 F h k n pc' Ls st) (hn : ¬ x = y → Go p l e R s m args below meth c n0 F h k n pc'' Ls st) : Go p l e R s m args below meth c n0 F h k n pc Ls (.int y :: .int x :: st) := by
  by_cases q : x = y
  · exact C.icmp_eq_t hd ho hp q (hy q)
  · exact C.icmp_eq_f hd hp' q (hn q)
theorem Cx.lif_eq_t (C : Cx p s m meth c Z n0 own bc maxL ret nm) {x y : Int64} {o : Int} (hd : decode bc pc = .ok (.ifCond .eq o, 3)) (ho : 0 ≤ (pc : Int) + o) (hp : ((pc : Int) + o).toNat = pc') (hq : x = y) (hr : Go p l e R s m args below meth c n0 F h k n pc' Ls st) : Go p l e R s m args below meth c n0 F h k n pc Ls (.int (XT.cmpL x y) :: st) :=
  Go.pl (fun T locs X eT t q => XS.ifYes X.here C.1 rfl rfl (hb C.2.2.2.1 hd) rfl (XT.ll_eq_t hq) ho hp q) hr
theorem Cx.lif_eq_f (C : Cx p s m meth c Z n0 own bc maxL ret nm) {x y : Int64} {o : Int} (hd : decode bc pc = .ok (.ifCond .eq o, 3)) (hp : pc + 3 = pc') (hq : ¬ x = y) (hr : Go p l e R s m args below meth c n0 F h k n pc' Ls st) : Go p l e R s m args below meth c n0 F h k n pc Ls (.int (XT.cmpL x y) :: st) := by
  subst hp; exact Go.pl (fun T locs X eT t q => XS.ifNo X.here C.1 rfl (hb C.2.2.2.1 hd) rfl (XT.ll_eq_f hq) q) hr
theorem Cx.lif_eq (C : Cx p s m meth c Z n0 own bc maxL ret nm) {x y : Int64} {o : Int} {pc'' : Nat} (hd : decode bc pc = .ok (.ifCond .eq o, 3)) (ho : 0 ≤ (pc : Int) + o) (hp : ((pc : Int) + o).toNat = pc') (hp' : pc + 3 = pc'') (hy : x = y → Go p l e R s m args below meth c n0 F h k n pc' Ls st) (hn : ¬ x = y → Go p l e R s m args below meth c n0 F h k n pc'' Ls st) : Go p l e R s m args below meth c n0 F h k n pc Ls (.int (XT.cmpL x y) :: st) := by
  by_cases q : x = y
  · exact C.lif_eq_t hd ho hp q (hy q)
  · exact C.lif_eq_f hd hp' q (hn q)
theorem Cx.if_ne_t (C : Cx p s m meth c Z n0 own bc maxL ret nm) {x : Int32} {o : Int} (hd : decode bc pc = .ok (.ifCond .ne o, 3)) (ho : 0 ≤ (pc : Int) + o) (hp : ((pc : Int) + o).toNat = pc') (hq : ¬ x = 0) (hr : Go p l e R s m args below meth c n0 F h k n pc' Ls st) : Go p l e R s m args below meth c n0 F h k n pc Ls (.int x :: st) :=
  Go.pl (fun T locs X eT t q => XS.ifYes X.here C.1 rfl rfl (hb C.2.2.2.1 hd) rfl (XT.i0_ne_t hq) ho hp q) hr
theorem Cx.if_ne_f (C : Cx p s m meth c Z n0 own bc maxL ret nm) {x : Int32} {o : Int} (hd : decode bc pc = .ok (.ifCond .ne o, 3)) (hp : pc + 3 = pc') (hq : x = 0) (hr : Go p l e R s m args below meth c n0 F h k n pc' Ls st) : Go p l e R s m args below meth c n0 F h k n pc Ls (.int x :: st) := by
  subst hp; exact Go.pl (fun T locs X eT t q => XS.ifNo X.here C.1 rfl (hb C.2.2.2.1 hd) rfl (XT.i0_ne_f hq) q) hr
theorem Cx.if_ne (C : Cx p s m meth c Z n0 own bc maxL ret nm) {x : Int32} {o : Int} {pc'' : Nat} (hd : decode bc pc = .ok (.ifCond .ne o, 3)) (ho : 0 ≤ (pc : Int) + o) (hp : ((pc : Int) + o).toNat = pc') (hp' : pc + 3 = pc'') (hy : ¬ x = 0 → Go p l e R s m args below meth c n0 F h k n pc' Ls st) (hn : x = 0 → Go p l e R s m args below meth c n0 F h k n pc'' Ls st) : Go p l e R s m args below meth c n0 F h k n pc Ls (.int x :: st) := by
  by_cases q : x = 0
  · exact C.if_ne_f hd hp' q (hn q)
  · exact C.if_ne_t hd ho hp q (hy q)
theorem Cx.icmp_ne_t (C : Cx p s m meth c Z n0 own bc maxL ret nm) {x y : Int32} {o : Int} (hd : decode bc pc = .ok (.if_icmp .ne o, 3)) (ho : 0 ≤ (pc : Int) + o) (hp : ((pc : Int) + o).toNat = pc') (hq : ¬ x = y) (hr : Go p l e R s m args below meth c n0 F h k n pc' Ls st) : Go p l e R s m args below meth c n0 F h k n pc Ls (.int y :: .int x :: st) :=
  Go.pl (fun T locs X eT t q => XS.icmpYes X.here C.1 rfl rfl (hb C.2.2.2.1 hd) rfl (XT.ii_ne_t hq) ho hp q) hr
theorem Cx.icmp_ne_f (C : Cx p s m meth c Z n0 own bc maxL ret nm) {x y : Int32} {o : Int} (hd : decode bc pc = .ok (.if_icmp .ne o, 3)) (hp : pc + 3 = pc') (hq : x = y) (hr : Go p l e R s m args below meth c n0 F h k n pc' Ls st) : Go p l e R s m args below meth c n0 F h k n pc Ls (.int y :: .int x :: st) := by
  subst hp; exact Go.pl (fun T locs X eT t q => XS.icmpNo X.here C.1 rfl (hb C.2.2.2.1 hd) rfl (XT.ii_ne_f hq) q) hr
theorem Cx.icmp_ne (C : Cx p s m meth c Z n0 own bc maxL ret nm) {x y : Int32} {o : Int} {pc'' : Nat} (hd : decode bc pc = .ok (.if_icmp .ne o, 3)) (ho : 0 ≤ (pc : Int) + o) (hp : ((pc : Int) + o).toNat = pc') (hp' : pc + 3 = pc'') (hy : ¬ x = y → Go p l e R s m args below meth c n0 F h k n pc' Ls st) (hn : x = y → Go p l e R s m args below meth c n0 F h k n pc'' Ls st) : Go p l e R s m args below meth c n0 F h k n pc Ls (.int y :: .int x :: st) := by
  by_cases q : x = y
  · exact C.icmp_ne_f hd hp' q (hn q)
  · exact C.icmp_ne_t hd ho hp q (hy q)
theorem Cx.lif_ne_t (C : Cx p s m meth c Z n0 own bc maxL ret nm) {x y : Int64} {o : Int} (hd : decode bc pc = .ok (.ifCond .ne o, 3)) (ho : 0 ≤ (pc : Int) + o) (hp : ((pc : Int) + o).toNat = pc') (hq : ¬ x = y) (hr : Go p l e R s m args below meth c n0 F h k n pc' Ls st) : Go p l e R s m args below meth c n0 F h k n pc Ls (.int (XT.cmpL x y) :: st) :=
  Go.pl (fun T locs X eT t q => XS.ifYes X.here C.1 rfl rfl (hb C.2.2.2.1 hd) rfl (XT.ll_ne_t hq) ho hp q) hr
theorem Cx.lif_ne_f (C : Cx p s m meth c Z n0 own bc maxL ret nm) {x y : Int64} {o : Int} (hd : decode bc pc = .ok (.ifCond .ne o, 3)) (hp : pc + 3 = pc') (hq : x = y) (hr : Go p l e R s m args below meth c n0 F h k n pc' Ls st) : Go p l e R s m args below meth c n0 F h k n pc Ls (.int (XT.cmpL x y) :: st) := by
  subst hp; exact Go.pl (fun T locs X eT t q => XS.ifNo X.here C.1 rfl (hb C.2.2.2.1 hd) rfl (XT.ll_ne_f hq) q) hr
theorem Cx.lif_ne (C : Cx p s m meth c Z n0 own bc maxL ret nm) {x y : Int64} {o : Int} {pc'' : Nat} (hd : decode bc pc = .ok (.ifCond .ne o, 3)) (ho : 0 ≤ (pc : Int) + o) (hp : ((pc : Int) + o).toNat = pc') (hp' : pc + 3 = pc'') (hy : ¬ x = y → Go p l e R s m args below meth c n0 F h k n pc' Ls st) (hn : x = y → Go p l e R s m args below meth c n0 F h k n pc'' Ls st) : Go p l e R s m args below meth c n0 F h k n pc Ls (.int (XT.cmpL x y) :: st) := by
  by_cases q : x = y
  · exact C.lif_ne_f hd hp' q (hn q)
  · exact C.lif_ne_t hd ho hp q (hy q)
theorem Cx.if_lt_t (C : Cx p s m meth c Z n0 own bc maxL ret nm) {x : Int32} {o : Int} (hd : decode bc pc = .ok (.ifCond .lt o, 3)) (ho : 0 ≤ (pc : Int) + o) (hp : ((pc : Int) + o).toNat = pc') (hq : x < 0) (hr : Go p l e R s m args below meth c n0 F h k n pc' Ls st) : Go p l e R s m args below meth c n0 F h k n pc Ls (.int x :: st) :=
  Go.pl (fun T locs X eT t q => XS.ifYes X.here C.1 rfl rfl (hb C.2.2.2.1 hd) rfl (XT.i0_lt_t hq) ho hp q) hr
theorem Cx.if_lt_f (C : Cx p s m meth c Z n0 own bc maxL ret nm) {x : Int32} {o : Int} (hd : decode bc pc = .ok (.ifCond .lt o, 3)) (hp : pc + 3 = pc') (hq : ¬ x < 0) (hr : Go p l e R s m args below meth c n0 F h k n pc' Ls st) : Go p l e R s m args below meth c n0 F h k n pc Ls (.int x :: st) := by
  subst hp; exact Go.pl (fun T locs X eT t q => XS.ifNo X.here C.1 rfl (hb C.2.2.2.1 hd) rfl (XT.i0_lt_f hq) q) hr
theorem Cx.if_lt (C : Cx p s m meth c Z n0 own bc maxL ret nm) {x : Int32} {o : Int} {pc'' : Nat} (hd : decode bc pc = .ok (.ifCond .lt o, 3)) (ho : 0 ≤ (pc : Int) + o) (hp : ((pc : Int) + o).toNat = pc') (hp' : pc + 3 = pc'') (hy : x < 0 → Go p l e R s m args below meth c n0 F h k n pc' Ls st) (hn : ¬ x < 0 → Go p l e R s m args below meth c n0 F h k n pc'' Ls st) : Go p l e R s m args below meth c n0 F h k n pc Ls (.int x :: st) := by
  by_cases q : x < 0
  · exact C.if_lt_t hd ho hp q (hy q)
  · exact C.if_lt_f hd hp' q (hn q)
theorem Cx.icmp_lt_t (C : Cx p s m meth c Z n0 own bc maxL ret nm) {x y : Int32} {o : Int} (hd : decode bc pc = .ok (.if_icmp .lt o, 3)) (ho : 0 ≤ (pc : Int) + o) (hp : ((pc : Int) + o).toNat = pc') (hq : x < y) (hr : Go p l e R s m args below meth c n0 F h k n pc' Ls st) : Go p l e R s m args below meth c n0 F h k n pc Ls (.int y :: .int x :: st) :=
  Go.pl (fun T locs X eT t q => XS.icmpYes X.here C.1 rfl rfl (hb C.2.2.2.1 hd) rfl (XT.ii_lt_t hq) ho hp q) hr
theorem Cx.icmp_lt_f (C : Cx p s m meth c Z n0 own bc maxL ret nm) {x y : Int32} {o : Int} (hd : decode bc pc = .ok (.if_icmp .lt o, 3)) (hp : pc + 3 = pc') (hq : ¬ x < y) (hr : Go p l e R s m args below meth c n0 F h k n pc' Ls st) : Go p l e R s m args below meth c n0 F h k n pc Ls (.int y :: .int x :: st) := by
  subst hp; exact Go.pl (fun T locs X eT t q => XS.icmpNo X.here C.1 rfl (hb C.2.2.2.1 hd) rfl (XT.ii_lt_f hq) q) hr
theorem Cx.icmp_lt (C : Cx p s m meth c Z n0 own bc maxL ret nm) {x y : Int32} {o : Int} {pc'' : Nat} (hd : decode bc pc = .ok (.if_icmp .lt o, 3)) (ho : 0 ≤ (pc : Int) + o) (hp : ((pc : Int) + o).toNat = pc') (hp' : pc + 3 = pc'') (hy : x < y → Go p l e R s m args below meth c n0 F h k n pc' Ls st) (hn : ¬ x < y → Go p l e R s m args below meth c n0 F h k n pc'' Ls st) : Go p l e R s m args below meth c n0 F h k n pc Ls (.int y :: .int x :: st) := by
  by_cases q : x < y
  · exact C.icmp_lt_t hd ho hp q (hy q)
  · exact C.icmp_lt_f hd hp' q (hn q)
theorem Cx.lif_lt_t (C : Cx p s m meth c Z n0 own bc maxL ret nm) {x y : Int64} {o : Int} (hd : decode bc pc = .ok (.ifCond .lt o, 3)) (ho : 0 ≤ (pc : Int) + o) (hp : ((pc : Int) + o).toNat = pc') (hq : x < y) (hr : Go p l e R s m args below meth c n0 F h k n pc' Ls st) : Go p l e R s m args below meth c n0 F h k n pc Ls (.int (XT.cmpL x y) :: st) :=
  Go.pl (fun T locs X eT t q => XS.ifYes X.here C.1 rfl rfl (hb C.2.2.2.1 hd) rfl (XT.ll_lt_t hq) ho hp q) hr
theorem Cx.lif_lt_f (C : Cx p s m meth c Z n0 own bc maxL ret nm) {x y : Int64} {o : Int} (hd : decode bc pc = .ok (.ifCond .lt o, 3)) (hp : pc + 3 = pc') (hq : ¬ x < y) (hr : Go p l e R s m args below meth c n0 F h k n pc' Ls st) : Go p l e R s m args below meth c n0 F h k n pc Ls (.int (XT.cmpL x y) :: st) := by
  subst hp; exact Go.pl (fun T locs X eT t q => XS.ifNo X.here C.1 rfl (hb C.2.2.2.1 hd) rfl (XT.ll_lt_f hq) q) hr
theorem Cx.lif_lt (C : Cx p s m meth c Z n0 own bc maxL ret nm) {x y : Int64} {o : Int} {pc'' : Nat} (hd : decode bc pc = .ok (.ifCond .lt o, 3)) (ho : 0 ≤ (pc : Int) + o) (hp : ((pc : Int) + o).toNat = pc') (hp' : pc + 3 = pc'') (hy : x < y → Go p l e R s m args below meth c n0 F h k n pc' Ls st) (hn : ¬ x < y → Go p l e R s m args below meth c n0 F h k n pc'' Ls st) : Go p l e R s m args below meth c n0 F h k n pc Ls (.int (XT.cmpL x y) :: st) := by
  by_cases q : x < y
  · exact C.lif_lt_t hd ho hp q (hy q)
  · exact C.lif_lt_f hd hp' q (hn q)
theorem Cx.if_ge_t (C : Cx p s m meth c Z n0 own bc maxL ret nm) {x : Int32} {o : Int} (hd : decode bc pc = .ok (.ifCond .ge o, 3)) (ho : 0 ≤ (pc : Int) + o) (hp : ((pc : Int) + o).toNat = pc') (hq : ¬ x < 0) (hr : Go p l e R s m args below meth c n0 F h k n pc' Ls st) : Go p l e R s m args below meth c n0 F h k n pc Ls (.int x :: st) :=
  Go.pl (fun T locs X eT t q => XS.ifYes X.here C.1 rfl rfl (hb C.2.2.2.1 hd) rfl (XT.i0_ge_t hq) ho hp q) hr
theorem Cx.if_ge_f (C : Cx p s m meth c Z n0 own bc maxL ret nm) {x : Int32} {o : Int} (hd : decode bc pc = .ok (.ifCond .ge o, 3)) (hp : pc + 3 = pc') (hq : x < 0) (hr : Go p l e R s m args below meth c n0 F h k n pc' Ls st) : Go p l e R s m args below meth c n0 F h k n pc Ls (.int x :: st) := by
  subst hp; exact Go.pl (fun T locs X eT t q => XS.ifNo X.here C.1 rfl (hb C.2.2.2.1 hd) rfl (XT.i0_ge_f hq) q) hr
theorem Cx.if_ge (C : Cx p s m meth c Z n0 own bc maxL ret nm) {x : Int32} {o : Int} {pc'' : Nat} (hd : decode bc pc = .ok (.ifCond .ge o, 3)) (ho : 0 ≤ (pc : Int) + o) (hp : ((pc : Int) + o).toNat = pc') (hp' : pc + 3 = pc'') (hy : ¬ x < 0 → Go p l e R s m args below meth c n0 F h k n pc' Ls st) (hn : x < 0 → Go p l e R s m args below meth c n0 F h k n pc'' Ls st) : Go p l e R s m args below meth c n0 F h k n pc Ls (.int x :: st) := by
  by_cases q : x < 0
  · exact C.if_ge_f hd hp' q (hn q)
  · exact C.if_ge_t hd ho hp q (hy q)
theorem Cx.icmp_ge_t (C : Cx p s m meth c Z n0 own bc maxL ret nm) {x y : Int32} {o : Int} (hd : decode bc pc = .ok (.if_icmp .ge o, 3)) (ho : 0 ≤ (pc : Int) + o) (hp : ((pc : Int) + o).toNat = pc') (hq : ¬ x < y) (hr : Go p l e R s m args below meth c n0 F h k n pc' Ls st) : Go p l e R s m args below meth c n0 F h k n pc Ls (.int y :: .int x :: st) :=
  Go.pl (fun T locs X eT t q => XS.icmpYes X.here C.1 rfl rfl (hb C.2.2.2.1 hd) rfl (XT.ii_ge_t hq) ho hp q) hr
theorem Cx.icmp_ge_f (C : Cx p s m meth c Z n0 own bc maxL ret nm) {x y : Int32} {o : Int} (hd : decode bc pc = .ok (.if_icmp .ge o, 3)) (hp : pc + 3 = pc') (hq : x < y) (hr : Go p l e R s m args below meth c n0 F h k n pc' Ls st) : Go p l e R s m args below meth c n0 F h k n pc Ls (.int y :: .int x :: st) := by
  subst hp; exact Go.pl (fun T locs X eT t q => XS.icmpNo X.here C.1 rfl (hb C.2.2.2.1 hd) rfl (XT.ii_ge_f hq) q) hr
theorem Cx.icmp_ge (C : Cx p s m meth c Z n0 own bc maxL ret nm) {x y : Int32} {o : Int} {pc'' : Nat} (hd : decode bc pc = .ok (.if_icmp .ge o, 3)) (ho : 0 ≤ (pc : Int) + o) (hp : ((pc : Int) + o).toNat = pc') (hp' : pc + 3 = pc'') (hy : ¬ x < y → Go p l e R s m args below meth c n0 F h k n pc' Ls st) (hn : x < y → Go p l e R s m args below meth c n0 F h k n pc'' Ls st) : Go p l e R s m args below meth c n0 F h k n pc Ls (.int y :: .int x :: st) := by
  by_cases q : x < y
  · exact C.icmp_ge_f hd hp' q (hn q)
  · exact C.icmp_ge_t hd ho hp q (hy q)
theorem Cx.lif_ge_t (C : Cx p s m meth c Z n0 own bc maxL ret nm) {x y : Int64} {o : Int} (hd : decode bc pc = .ok (.ifCond .ge o, 3)) (ho : 0 ≤ (pc : Int) + o) (hp : ((pc : Int) + o).toNat = pc') (hq : ¬ x < y) (hr : Go p l e R s m args below meth c n0 F h k n pc' Ls st) : Go p l e R s m args below meth c n0 F h k n pc Ls (.int (XT.cmpL x y) :: st) :=
  Go.pl (fun T locs X eT t q => XS.ifYes X.here C.1 rfl rfl (hb C.2.2.2.1 hd) rfl (XT.ll_ge_t hq) ho hp q) hr
theorem Cx.lif_ge_f (C : Cx p s m meth c Z n0 own bc maxL ret nm) {x y : Int64} {o : Int} (hd : decode bc pc = .ok (.ifCond .ge o, 3)) (hp : pc + 3 = pc') (hq : x < y) (hr : Go p l e R s m args below meth c n0 F h k n pc' Ls st) : Go p l e R s m args below meth c n0 F h k n pc Ls (.int (XT.cmpL x y) :: st) := by
  subst hp; exact Go.pl (fun T locs X eT t q => XS.ifNo X.here C.1 rfl (hb C.2.2.2.1 hd) rfl (XT.ll_ge_f hq) q) hr
theorem Cx.lif_ge (C : Cx p s m meth c Z n0 own bc maxL ret nm) {x y : Int64} {o : Int} {pc'' : Nat} (hd : decode bc pc = .ok (.ifCond .ge o, 3)) (ho : 0 ≤ (pc : Int) + o) (hp : ((pc : Int) + o).toNat = pc') (hp' : pc + 3 = pc'') (hy : ¬ x < y → Go p l e R s m args below meth c n0 F h k n pc' Ls st) (hn : x < y → Go p l e R s m args below meth c n0 F h k n pc'' Ls st) : Go p l e R s m args below meth c n0 F h k n pc Ls (.int (XT.cmpL x y) :: st) := by
  by_cases q : x < y
  · exact C.lif_ge_f hd hp' q (hn q)
  · exact C.lif_ge_t hd ho hp q (hy q)
theorem Cx.if_gt_t (C : Cx p s m meth c Z n0 own bc maxL ret nm) {x : Int32} {o : Int} (hd : decode bc pc = .ok (.ifCond .gt o, 3)) (ho : 0 ≤ (pc : Int) + o) (hp : ((pc : Int) + o).toNat = pc') (hq : 0 < x) (hr : Go p l e R s m args below meth c n0 F h k n pc' Ls st) : Go p l e R s m args below meth c n0 F h k n pc Ls (.int x :: st) :=
  Go.pl (fun T locs X eT t q => XS.ifYes X.here C.1 rfl rfl (hb C.2.2.2.1 hd) rfl (XT.i0_gt_t hq) ho hp q) hr
theorem Cx.if_gt_f (C : Cx p s m meth c Z n0 own bc maxL ret nm) {x : Int32} {o : Int} (hd : decode bc pc = .ok (.ifCond .gt o, 3)) (hp : pc + 3 = pc') (hq : ¬ 0 < x) (hr : Go p l e R s m args below meth c n0 F h k n pc' Ls st) : Go p l e R s m args below meth c n0 F h k n pc Ls (.int x :: st) := by
  subst hp; exact Go.pl (fun T locs X eT t q => XS.ifNo X.here C.1 rfl (hb C.2.2.2.1 hd) rfl (XT.i0_gt_f hq) q) hr
theorem Cx.if_gt (C : Cx p s m meth c Z n0 own bc maxL ret nm) {x : Int32} {o : Int} {pc'' : Nat} (hd : decode bc pc = .ok (.ifCond .gt o, 3)) (ho : 0 ≤ (pc : Int) + o) (hp : ((pc : Int) + o).toNat = pc') (hp' : pc + 3 = pc'') (hy : 0 < x → Go p l e R s m args below meth c n0 F h k n pc' Ls st) (hn : ¬ 0 < x → Go p l e R s m args below meth c n0 F h k n pc'' Ls st) : Go p l e R s m args below meth c n0 F h k n pc Ls (.int x :: st) := by
  by_cases q : 0 < x
  · exact C.if_gt_t hd ho hp q (hy q)
  · exact C.if_gt_f hd hp' q (hn q)
theorem Cx.icmp_gt_t (C : Cx p s m meth c Z n0 own bc maxL ret nm) {x y : Int32} {o : Int} (hd : decode bc pc = .ok (.if_icmp .gt o, 3)) (ho : 0 ≤ (pc : Int) + o) (hp : ((pc : Int) + o).toNat = pc') (hq : y < x) (hr : Go p l e R s m args below meth c n0 F h k n pc' Ls st) : Go p l e R s m args below meth c n0 F h k n pc Ls (.int y :: .int x :: st) :=
  Go.pl (fun T locs X eT t q => XS.icmpYes X.here C.1 rfl rfl (hb C.2.2.2.1 hd) rfl (XT.ii_gt_t hq) ho hp q) hr
theorem Cx.icmp_gt_f (C : Cx p s m meth c Z n0 own bc maxL ret nm) {x y : Int32} {o : Int} (hd : decode bc pc = .ok (.if_icmp .gt o, 3)) (hp : pc + 3 = pc') (hq : ¬ y < x) (hr : Go p l e R s m args below meth c n0 F h k n pc' Ls st) : Go p l e R s m args below meth c n0 F h k n pc Ls (.int y :: .int x :: st) := by
  subst hp; exact Go.pl (fun T locs X eT t q => XS.icmpNo X.here C.1 rfl (hb C.2.2.2.1 hd) rfl (XT.ii_gt_f hq) q) hr
theorem Cx.icmp_gt (C : Cx p s m meth c Z n0 own bc maxL ret nm) {x y : Int32} {o : Int} {pc'' : Nat} (hd : decode bc pc = .ok (.if_icmp .gt o, 3)) (ho : 0 ≤ (pc : Int) + o) (hp : ((pc : Int) + o).toNat = pc') (hp' : pc + 3 = pc'') (hy : y < x → Go p l e R s m args below meth c n0 F h k n pc' Ls st) (hn : ¬ y < x → Go p l e R s m args below meth c n0 F h k n pc'' Ls st) : Go p l e R s m args below meth c n0 F h k n pc Ls (.int y :: .int x :: st) := by
  by_cases q : y < x
  · exact C.icmp_gt_t hd ho hp q (hy q)
  · exact C.icmp_gt_f hd hp' q (hn q)
theorem Cx.lif_gt_t (C : Cx p s m meth c Z n0 own bc maxL ret nm) {x y : Int64} {o : Int} (hd : decode bc pc = .ok (.ifCond .gt o, 3)) (ho : 0 ≤ (pc : Int) + o) (hp : ((pc : Int) + o).toNat = pc') (hq : y < x) (hr : Go p l e R s m args below meth c n0 F h k n pc' Ls st) : Go p l e R s m args below meth c n0 F h k n pc Ls (.int (XT.cmpL x y) :: st) :=
  Go.pl (fun T locs X eT t q => XS.ifYes X.here C.1 rfl rfl (hb C.2.2.2.1 hd) rfl (XT.ll_gt_t hq) ho hp q) hr
theorem Cx.lif_gt_f (C : Cx p s m meth c Z n0 own bc maxL ret nm) {x y : Int64} {o : Int} (hd : decode bc pc = .ok (.ifCond .gt o, 3)) (hp : pc + 3 = pc') (hq : ¬ y < x) (hr : Go p l e R s m args below meth c n0 F h k n pc' Ls st) : Go p l e R s m args below meth c n0 F h k n pc Ls (.int (XT.cmpL x y) :: st) := by
  subst hp; exact Go.pl (fun T locs X eT t q => XS.ifNo X.here C.1 rfl (hb C.2.2.2.1 hd) rfl (XT.ll_gt_f hq) q) hr
theorem Cx.lif_gt (C : Cx p s m meth c Z n0 own bc maxL ret nm) {x y : Int64} {o : Int} {pc'' : Nat} (hd : decode bc pc = .ok (.ifCond .gt o, 3)) (ho : 0 ≤ (pc : Int) + o) (hp : ((pc : Int) + o).toNat = pc') (hp' : pc + 3 = pc'') (hy : y < x → Go p l e R s m args below meth c n0 F h k n pc' Ls st) (hn : ¬ y < x → Go p l e R s m args below meth c n0 F h k n pc'' Ls st) : Go p l e R s m args below meth c n0 F h k n pc Ls (.int (XT.cmpL x y) :: st) := by
  by_cases q : y < x
  · exact C.lif_gt_t hd ho hp q (hy q)
  · exact C.lif_gt_f hd hp' q (hn q)
theorem Cx.if_le_t (C : Cx p s m meth c Z n0 own bc maxL ret nm) {x : Int32} {o : Int} (hd : decode bc pc = .ok (.ifCond .le o, 3)) (ho : 0 ≤ (pc : Int) + o) (hp : ((pc : Int) + o).toNat = pc') (hq : ¬ 0 < x) (hr : Go p l e R s m args below meth c n0 F h k n pc' Ls st) : Go p l e R s m args below meth c n0 F h k n pc Ls (.int x :: st) :=
  Go.pl (fun T locs X eT t q => XS.ifYes X.here C.1 rfl rfl (hb C.2.2.2.1 hd) rfl (XT.i0_le_t hq) ho hp q) hr
theorem Cx.if_le_f (C : Cx p s m meth c Z n0 own bc maxL ret nm) {x : Int32} {o : Int} (hd : decode bc pc = .ok (.ifCond .le o, 3)) (hp : pc + 3 = pc') (hq : 0 < x) (hr : Go p l e R s m args below meth c n0 F h k n pc' Ls st) : Go p l e R s m args below meth c n0 F h k n pc Ls (.int x :: st) := by
  subst hp; exact Go.pl (fun T locs X eT t q => XS.ifNo X.here C.1 rfl (hb C.2.2.2.1 hd) rfl (XT.i0_le_f hq) q) hr
theorem Cx.if_le (C : Cx p s m meth c Z n0 own bc maxL ret nm) {x : Int32} {o : Int} {pc'' : Nat} (hd : decode bc pc = .ok (.ifCond .le o, 3)) (ho : 0 ≤ (pc : Int) + o) (hp : ((pc : Int) + o).toNat = pc') (hp' : pc + 3 = pc'') (hy : ¬ 0 < x → Go p l e R s m args below meth c n0 F h k n pc' Ls st) (hn : 0 < x → Go p l e R s m args below meth c n0 F h k n pc'' Ls st) : Go p l e R s m args below meth c n0 F h k n pc Ls (.int x :: st) := by
  by_cases q : 0 < x
  · exact C.if_le_f hd hp' q (hn q)
  · exact C.if_le_t hd ho hp q (hy q)
theorem Cx.icmp_le_t (C : Cx p s m meth c Z n0 own bc maxL ret nm) {x y : Int32} {o : Int} (hd : decode bc pc = .ok (.if_icmp .le o, 3)) (ho : 0 ≤ (pc : Int) + o) (hp : ((pc : Int) + o).toNat = pc') (hq : ¬ y < x) (hr : Go p l e R s m args below meth c n0 F h k n pc' Ls st) : Go p l e R s m args below meth c n0 F h k n pc Ls (.int y :: .int x :: st) :=
  Go.pl (fun T locs X eT t q => XS.icmpYes X.here C.1 rfl rfl (hb C.2.2.2.1 hd) rfl (XT.ii_le_t hq) ho hp q) hr
theorem Cx.icmp_le_f (C : Cx p s m meth c Z n0 own bc maxL ret nm) {x y : Int32} {o : Int} (hd : decode bc pc = .ok (.if_icmp .le o, 3)) (hp : pc + 3 = pc') (hq : y < x) (hr : Go p l e R s m args below meth c n0 F h k n pc' Ls st) : Go p l e R s m args below meth c n0 F h k n pc Ls (.int y :: .int x :: st) := by
  subst hp; exact Go.pl (fun T locs X eT t q => XS.icmpNo X.here C.1 rfl (hb C.2.2.2.1 hd) rfl (XT.ii_le_f hq) q) hr
theorem Cx.icmp_le (C : Cx p s m meth c Z n0 own bc maxL ret nm) {x y : Int32} {o : Int} {pc'' : Nat} (hd : decode bc pc = .ok (.if_icmp .le o, 3)) (ho : 0 ≤ (pc : Int) + o) (hp : ((pc : Int) + o).toNat = pc') (hp' : pc + 3 = pc'') (hy : ¬ y < x → Go p l e R s m args below meth c n0 F h k n pc' Ls st) (hn : y < x → Go p l e R s m args below meth c n0 F h k n pc'' Ls st) : Go p l e R s m args below meth c n0 F h k n pc Ls (.int y :: .int x :: st) := by
  by_cases q : y < x
  · exact C.icmp_le_f hd hp' q (hn q)
  · exact C.icmp_le_t hd ho hp q (hy q)
theorem Cx.lif_le_t (C : Cx p s m meth c Z n0 own bc maxL ret nm) {x y : Int64} {o : Int} (hd : decode bc pc = .ok (.ifCond .le o, 3)) (ho : 0 ≤ (pc : Int) + o) (hp : ((pc : Int) + o).toNat = pc') (hq : ¬ y < x) (hr : Go p l e R s m args below meth c n0 F h k n pc' Ls st) : Go p l e R s m args below meth c n0 F h k n pc Ls (.int (XT.cmpL x y) :: st) :=
  Go.pl (fun T locs X eT t q => XS.ifYes X.here C.1 rfl rfl (hb C.2.2.2.1 hd) rfl (XT.ll_le_t hq) ho hp q) hr
theorem Cx.lif_le_f (C : Cx p s m meth c Z n0 own bc maxL ret nm) {x y : Int64} {o : Int} (hd : decode bc pc = .ok (.ifCond .le o, 3)) (hp : pc + 3 = pc') (hq : y < x) (hr : Go p l e R s m args below meth c n0 F h k n pc' Ls st) : Go p l e R s m args below meth c n0 F h k n pc Ls (.int (XT.cmpL x y) :: st) := by
  subst hp; exact Go.pl (fun T locs X eT t q => XS.ifNo X.here C.1 rfl (hb C.2.2.2.1 hd) rfl (XT.ll_le_f hq) q) hr
theorem Cx.lif_le (C : Cx p s m meth c Z n0 own bc maxL ret nm) {x y : Int64} {o : Int} {pc'' : Nat} (hd : decode bc pc = .ok (.ifCond .le o, 3)) (ho : 0 ≤ (pc : Int) + o) (hp : ((pc : Int) + o).toNat = pc') (hp' : pc + 3 = pc'') (hy : ¬ y < x → Go p l e R s m args below meth c n0 F h k n pc' Ls st) (hn : y < x → Go p l e R s m args below meth c n0 F h k n pc'' Ls st) : Go p l e R s m args below meth c n0 F h k n pc Ls (.int (XT.cmpL x y) :: st) := by
  by_cases q : y < x
  · exact C.lif_le_f hd hp' q (hn q)
  · exact C.lif_le_t hd ho hp q (hy q)
theorem Cx.ifnull_ref (C : Cx p s m meth c Z n0 own bc maxL ret nm) {o : Int} {b : Addr} (hd : decode bc pc = .ok (.ifnull o, 3)) (hp : pc + 3 = pc')  (hr : Go p l e R s m args below meth c n0 F h k n pc' Ls (st)) : Go p l e R s m args below meth c n0 F h k n pc Ls (.ref b :: st) := by
  subst hp; exact Go.pl (fun T locs X eT t q => XS.ifnullNo X.here C.1 rfl (hb C.2.2.2.1 hd) rfl q) hr
theorem Cx.ifnonnull_null (C : Cx p s m meth c Z n0 own bc maxL ret nm) {o : Int} (hd : decode bc pc = .ok (.ifnonnull o, 3)) (hp : pc + 3 = pc')  (hr : Go p l e R s m args below meth c n0 F h k n pc' Ls (st)) : Go p l e R s m args below meth c n0 F h k n pc Ls (.null :: st) := by
  subst hp; exact Go.pl (fun T locs X eT t q => XT.ifnonnullNo X.here C.1 rfl (hb C.2.2.2.1 hd) rfl q) hr
theorem Cx.ifnull_null (C : Cx p s m meth c Z n0 own bc maxL ret nm) {b : Addr} {o : Int} (hd : decode bc pc = .ok (.ifnull o, 3)) (ho : 0 ≤ (pc : Int) + o) (hp : ((pc : Int) + o).toNat = pc') (hr : Go p l e R s m args below meth c n0 F h k n pc' Ls st) : Go p l e R s m args below meth c n0 F h k n pc Ls (.null :: st) := by
  exact Go.pl (fun T locs X eT t q => XS.ifnullYes X.here C.1 rfl rfl (hb C.2.2.2.1 hd) rfl ho hp q) hr
theorem Cx.ifnonnull_ref (C : Cx p s m meth c Z n0 own bc maxL ret nm) {b : Addr} {o : Int} (hd : decode bc pc = .ok (.ifnonnull o, 3)) (ho : 0 ≤ (pc : Int) + o) (hp : ((pc : Int) + o).toNat = pc') (hr : Go p l e R s m args below meth c n0 F h k n pc' Ls st) : Go p l e R s m args below meth c n0 F h k n pc Ls (.ref b :: st) := by
  exact Go.pl (fun T locs X eT t q => XT.ifnonnullYes X.here C.1 rfl rfl (hb C.2.2.2.1 hd) rfl ho hp q) hr
theorem Cx.ldcI (C : Cx p s m meth c Z n0 own bc maxL ret nm) {j : Nat} {v : Int32} (hd : decode bc pc = .ok (.ldc j, 2)) (hp : pc + 2 = pc') (w : (Jvm.Cond.constant own j v).before a0 Z = true) (hr : Go p l e R s m args below meth c n0 F h k n pc' Ls (.int v :: st)) : Go p l e R s m args below meth c n0 F h k n pc Ls st := by
  subst hp; exact Go.pl (fun T locs X eT t q => X.ldcI C.1 C.2.2.1 (mv C.2.1 w) rfl (hb C.2.2.2.1 hd) q) hr
theorem Cx.ldcWI (C : Cx p s m meth c Z n0 own bc maxL ret nm) {j : Nat} {v : Int32} (hd : decode bc pc = .ok (.ldc_w j, 3)) (hp : pc + 3 = pc') (w : (Jvm.Cond.constant own j v).before a0 Z = true) (hr : Go p l e R s m args below meth c n0 F h k n pc' Ls (.int v :: st)) : Go p l e R s m args below meth c n0 F h k n pc Ls st := by
  subst hp; exact Go.pl (fun T locs X eT t q => X.ldcWI C.1 C.2.2.1 (mv C.2.1 w) rfl (hb C.2.2.2.1 hd) q) hr
theorem Cx.ldc2J (C : Cx p s m meth c Z n0 own bc maxL ret nm) {j : Nat} {v : Int64} (hd : decode bc pc = .ok (.ldc2_w j, 3)) (hp : pc + 3 = pc') (w : (Jvm.Cond.constantLong own j v).before a0 Z = true) (hr : Go p l e R s m args below meth c n0 F h k n pc' Ls (.long v :: st)) : Go p l e R s m args below meth c n0 F h k n pc Ls st := by
  subst hp; exact Go.pl (fun T locs X eT t q => X.ldc2J C.1 C.2.2.1 (mv C.2.1 w) rfl (hb C.2.2.2.1 hd) q) hr
theorem Cx.alen (C : Cx p s m meth c Z n0 own bc maxL ret nm) {a : Addr} {ty : FieldType} {vs : List Value} (hd : decode bc pc = .ok (.arraylength, 1)) (hp : pc + 1 = pc') (A : Av Z h a ty vs) (hr : Go p l e R s m args below meth c n0 F h k n pc' Ls (.int vs.length.toInt32 :: st)) : Go p l e R s m args below meth c n0 F h k n pc Ls (.ref a :: st) := by
  obtain ⟨cl, A, rfl, -⟩ := A; subst hp; refine Go.pl (fun T locs X eT t q => X.arraylength C.1 (cell := cl) (by rw [eT]; exact A.1) (State.isArrayOf_alike C.2.1.alike A.2.1) (g := mkF m pc Ls (.ref a :: st)) rfl rfl (hb C.2.2.2.1 hd) t q) (by simpa using hr)
theorem Cx.iaload (C : Cx p s m meth c Z n0 own bc maxL ret nm) {a : Addr} {vs : List Value} {j : Int32} (v : Value) (hd : decode bc pc = .ok (.iaload, 1)) (hp : pc + 1 = pc') (A : Av Z h a .int vs) (hj : ¬ j < 0) (hv : vs[j.toNatClampNeg]? = some v) (hr : Go p l e R s m args below meth c n0 F h k n pc' Ls (v :: st)) : Go p l e R s m args below meth c n0 F h k n pc Ls (.int j :: .ref a :: st) := by
  obtain ⟨cl, A, rfl, -⟩ := A; subst hp; rw [Array.getElem?_toList] at hv; exact Go.pl (fun T locs X eT t q => X.iaload C.1 (by rw [eT]; exact A.1) (State.isArrayOf_alike C.2.1.alike A.2.1) A.2.2 (own_in hj hv) hv (g := mkF m pc Ls (.int j :: .ref a :: st)) rfl rfl (hb C.2.2.2.1 hd) t q) hr
theorem Cx.laload (C : Cx p s m meth c Z n0 own bc maxL ret nm) {a : Addr} {vs : List Value} {j : Int32} (v : Value) (hd : decode bc pc = .ok (.laload, 1)) (hp : pc + 1 = pc') (A : Av Z h a .long vs) (hj : ¬ j < 0) (hv : vs[j.toNatClampNeg]? = some v) (hr : Go p l e R s m args below meth c n0 F h k n pc' Ls (v :: st)) : Go p l e R s m args below meth c n0 F h k n pc Ls (.int j :: .ref a :: st) := by
  obtain ⟨cl, A, rfl, -⟩ := A; subst hp; rw [Array.getElem?_toList] at hv; exact Go.pl (fun T locs X eT t q => X.laload C.1 (by rw [eT]; exact A.1) (State.isArrayOf_alike C.2.1.alike A.2.1) A.2.2 (own_in hj hv) hv (g := mkF m pc Ls (.int j :: .ref a :: st)) rfl rfl (hb C.2.2.2.1 hd) t q) hr
theorem Cx.caload (C : Cx p s m meth c Z n0 own bc maxL ret nm) {a : Addr} {vs : List Value} {j : Int32} (v : Value) (hd : decode bc pc = .ok (.caload, 1)) (hp : pc + 1 = pc') (A : Av Z h a .char vs) (hj : ¬ j < 0) (hv : vs[j.toNatClampNeg]? = some v) (hr : Go p l e R s m args below meth c n0 F h k n pc' Ls (v :: st)) : Go p l e R s m args below meth c n0 F h k n pc Ls (.int j :: .ref a :: st) := by
  obtain ⟨cl, A, rfl, -⟩ := A; subst hp; rw [Array.getElem?_toList] at hv; exact Go.pl (fun T locs X eT t q => X.caload C.1 (by rw [eT]; exact A.1) (State.isArrayOf_alike C.2.1.alike A.2.1) A.2.2 (own_in hj hv) hv (g := mkF m pc Ls (.int j :: .ref a :: st)) rfl rfl (hb C.2.2.2.1 hd) t q) hr
theorem Cx.baload (C : Cx p s m meth c Z n0 own bc maxL ret nm) {a : Addr} {vs : List Value} {j : Int32} (v : Value) (hd : decode bc pc = .ok (.baload, 1)) (hp : pc + 1 = pc') (A : Av Z h a .byte vs) (hj : ¬ j < 0) (hv : vs[j.toNatClampNeg]? = some v) (hr : Go p l e R s m args below meth c n0 F h k n pc' Ls (v :: st)) : Go p l e R s m args below meth c n0 F h k n pc Ls (.int j :: .ref a :: st) := by
  obtain ⟨cl, A, rfl, -⟩ := A; subst hp; rw [Array.getElem?_toList] at hv; exact Go.pl (fun T locs X eT t q => X.baloadBytes C.1 (by rw [eT]; exact A.1) (State.isArrayOf_alike C.2.1.alike A.2.1) A.2.2 (own_in hj hv) hv (g := mkF m pc Ls (.int j :: .ref a :: st)) rfl rfl (hb C.2.2.2.1 hd) t q) hr
theorem Cx.zaload (C : Cx p s m meth c Z n0 own bc maxL ret nm) {a : Addr} {vs : List Value} {j : Int32} (v : Value) (hd : decode bc pc = .ok (.baload, 1)) (hp : pc + 1 = pc') (A : Av Z h a .boolean vs) (hj : ¬ j < 0) (hv : vs[j.toNatClampNeg]? = some v) (hr : Go p l e R s m args below meth c n0 F h k n pc' Ls (v :: st)) : Go p l e R s m args below meth c n0 F h k n pc Ls (.int j :: .ref a :: st) := by
  obtain ⟨cl, A, rfl, -⟩ := A; subst hp; rw [Array.getElem?_toList] at hv; exact Go.pl (fun T locs X eT t q => X.baloadBooleans C.1 (by rw [eT]; exact A.1) (State.isArrayOf_alike C.2.1.alike A.2.1) A.2.2 (own_in hj hv) hv (g := mkF m pc Ls (.int j :: .ref a :: st)) rfl rfl (hb C.2.2.2.1 hd) t q) hr
theorem Cx.iastore (C : Cx p s m meth c Z n0 own bc maxL ret nm) {a : Addr} {vs : List Value} {j : Int32} {x : Int32} (hd : decode bc pc = .ok (.iastore, 1)) (hp : pc + 1 = pc') (A : Av Z h a .int vs) (ha : n0 ≤ a) (hj : ¬ j < 0) (hl : j.toNatClampNeg < vs.length) (hr : ∀ h', Wr h h' a j.toNatClampNeg (.int x) → Av Z h' a .int (vs.set j.toNatClampNeg (.int x)) → Go p l e R s m args below meth c n0 F h' k n pc' Ls st) : Go p l e R s m args below meth c n0 F h k n pc Ls (.int x :: .int j :: .ref a :: st) := by
  intro T locs X eT N; have A0 := A; obtain ⟨cl, A, rfl, -⟩ := A; subst hp; rw [Array.length_toList] at hl
  obtain ⟨T', h', X', e', W, stp⟩ := stI X C.1 C.2.1 eT A (own_in2 hj hl) (g := mkF m pc Ls (.int x :: .int j :: .ref a :: st)) rfl rfl (hb C.2.2.2.1 hd)
  obtain ⟨s₂, o, q1, q2⟩ := hr h' W (A0.same W rfl) T' _ X' e' (Fr.snoc X' N ha)
  exact ⟨s₂, o, stp _ q1, q2⟩
theorem Cx.lastore (C : Cx p s m meth c Z n0 own bc maxL ret nm) {a : Addr} {vs : List Value} {j : Int32} {x : Int64} (hd : decode bc pc = .ok (.lastore, 1)) (hp : pc + 1 = pc') (A : Av Z h a .long vs) (ha : n0 ≤ a) (hj : ¬ j < 0) (hl : j.toNatClampNeg < vs.length) (hr : ∀ h', Wr h h' a j.toNatClampNeg (.long x) → Av Z h' a .long (vs.set j.toNatClampNeg (.long x)) → Go p l e R s m args below meth c n0 F h' k n pc' Ls st) : Go p l e R s m args below meth c n0 F h k n pc Ls (.long x :: .int j :: .ref a :: st) := by
  intro T locs X eT N; have A0 := A; obtain ⟨cl, A, rfl, -⟩ := A; subst hp; rw [Array.length_toList] at hl
  obtain ⟨T', h', X', e', W, stp⟩ := stJ X C.1 C.2.1 eT A (own_in2 hj hl) (g := mkF m pc Ls (.long x :: .int j :: .ref a :: st)) rfl rfl (hb C.2.2.2.1 hd)
  obtain ⟨s₂, o, q1, q2⟩ := hr h' W (A0.same W rfl) T' _ X' e' (Fr.snoc X' N ha)
  exact ⟨s₂, o, stp _ q1, q2⟩
theorem Cx.castore (C : Cx p s m meth c Z n0 own bc maxL ret nm) {a : Addr} {vs : List Value} {j : Int32} {x : Int32} (hd : decode bc pc = .ok (.castore, 1)) (hp : pc + 1 = pc') (A : Av Z h a .char vs) (ha : n0 ≤ a) (hj : ¬ j < 0) (hl : j.toNatClampNeg < vs.length) (hr : ∀ h', Wr h h' a j.toNatClampNeg (.int (nar .char x)) → Av Z h' a .char (vs.set j.toNatClampNeg (.int (nar .char x))) → Go p l e R s m args below meth c n0 F h' k n pc' Ls st) : Go p l e R s m args below meth c n0 F h k n pc Ls (.int x :: .int j :: .ref a :: st) := by
  intro T locs X eT N; have A0 := A; obtain ⟨cl, A, rfl, -⟩ := A; subst hp; rw [Array.length_toList] at hl
  obtain ⟨T', h', X', e', W, stp⟩ := stC X C.1 C.2.1 eT A (own_in2 hj hl) (g := mkF m pc Ls (.int x :: .int j :: .ref a :: st)) rfl rfl (hb C.2.2.2.1 hd)
  obtain ⟨s₂, o, q1, q2⟩ := hr h' W (A0.same W (fits_nar_char x)) T' _ X' e' (Fr.snoc X' N ha)
  exact ⟨s₂, o, stp _ q1, q2⟩
theorem Cx.bastore (C : Cx p s m meth c Z n0 own bc maxL ret nm) {a : Addr} {vs : List Value} {j : Int32} {x : Int32} (hd : decode bc pc = .ok (.bastore, 1)) (hp : pc + 1 = pc') (A : Av Z h a .byte vs) (ha : n0 ≤ a) (hj : ¬ j < 0) (hl : j.toNatClampNeg < vs.length) (hr : ∀ h', Wr h h' a j.toNatClampNeg (.int (nar .byte x)) → Av Z h' a .byte (vs.set j.toNatClampNeg (.int (nar .byte x))) → Go p l e R s m args below meth c n0 F h' k n pc' Ls st) : Go p l e R s m args below meth c n0 F h k n pc Ls (.int x :: .int j :: .ref a :: st) := by
  intro T locs X eT N; have A0 := A; obtain ⟨cl, A, rfl, -⟩ := A; subst hp; rw [Array.length_toList] at hl
  obtain ⟨T', h', X', e', W, stp⟩ := stB X C.1 C.2.1 eT A (own_in2 hj hl) (g := mkF m pc Ls (.int x :: .int j :: .ref a :: st)) rfl rfl (hb C.2.2.2.1 hd)
  obtain ⟨s₂, o, q1, q2⟩ := hr h' W (A0.same W (fits_nar_byte x)) T' _ X' e' (Fr.snoc X' N ha)
  exact ⟨s₂, o, stp _ q1, q2⟩
theorem Cx.zastore (C : Cx p s m meth c Z n0 own bc maxL ret nm) {a : Addr} {vs : List Value} {j : Int32} {x : Int32} (hd : decode bc pc = .ok (.bastore, 1)) (hp : pc + 1 = pc') (A : Av Z h a .boolean vs) (ha : n0 ≤ a) (hj : ¬ j < 0) (hl : j.toNatClampNeg < vs.length) (hr : ∀ h', Wr h h' a j.toNatClampNeg (.int (nar .boolean x)) → Av Z h' a .boolean (vs.set j.toNatClampNeg (.int (nar .boolean x))) → Go p l e R s m args below meth c n0 F h' k n pc' Ls st) : Go p l e R s m args below meth c n0 F h k n pc Ls (.int x :: .int j :: .ref a :: st) := by
  intro T locs X eT N; have A0 := A; obtain ⟨cl, A, rfl, -⟩ := A; subst hp; rw [Array.length_toList] at hl
  obtain ⟨T', h', X', e', W, stp⟩ := stZ X C.1 C.2.1 eT A (own_in2 hj hl) (g := mkF m pc Ls (.int x :: .int j :: .ref a :: st)) rfl rfl (hb C.2.2.2.1 hd)
  obtain ⟨s₂, o, q1, q2⟩ := hr h' W (A0.same W (fits_nar_bool x)) T' _ X' e' (Fr.snoc X' N ha)
  exact ⟨s₂, o, stp _ q1, q2⟩
theorem Cx.new (C : Cx p s m meth c Z n0 own bc maxL ret nm) {cls : String} {j nn : Nat} (hd : decode bc pc = .ok (.new j, 3)) (hp : pc + 3 = pc') (w1 : (Jvm.Cond.classLink own j cls).before a0 Z = true) (w2 : (Jvm.Cond.instantiable cls nn).before a0 Z = true) (w3 : (Jvm.Cond.initialized cls).before a0 Z = true) (hk : k + 1 ≤ R.cells) (hn : n + nn ≤ R.slots)
    (hr : ∀ (a : Addr) (h' : Heap), a = h.size → n0 ≤ a → Ext h h' → Exa Z h' a cls → (∀ {O f d : String} {ty : FieldType}, Laid Z a0 cls O f d → parseFieldDescriptor d = some ty → Fld Z h' a O f d (defaultValue ty)) → Go p l e R s m args below meth c n0 F h' (k + 1) (n + nn) pc' Ls (.ref a :: st)) : Go p l e R s m args below meth c n0 F h k n pc Ls st := by
  intro T locs X eT N
  subst hp
  obtain ⟨T', h', X', e', E', A', D', -, stp⟩ := newO X C.1 C.2.1 C.2.2.1 w1 w2 w3 eT (g := mkF m pc Ls st) rfl (hb C.2.2.2.1 hd) hk hn
  obtain ⟨s₂, o, q1, q2⟩ := hr h.size h' rfl (by rw [← eT]; exact C.size X) E' A' D' T' _ X' e' N
  exact ⟨s₂, o, stp _ q1, q2⟩
theorem Cx.newarr (C : Cx p s m meth c Z n0 own bc maxL ret nm) {aty : ArrayType} {ty : FieldType} {z : Int32} (cap : Nat) (hd : decode bc pc = .ok (.newarray aty, 2)) (hp : pc + 2 = pc') (hty : newarray.typeOf aty = ty) (w : (Jvm.Cond.arrayClass ty).before a0 Z = true) (hz : ¬ z < 0) (hcap : z.toNatClampNeg ≤ cap) (hb8 : cap * 8 ≤ 536870912) (hk : k + 1 ≤ R.cells) (hn : n + cap ≤ R.slots)
    (hr : ∀ (a : Addr) (h' : Heap), a = h.size → n0 ≤ a → Ext h h' → Av Z h' a ty (List.replicate z.toNatClampNeg (defaultValue ty)) → Go p l e R s m args below meth c n0 F h' (k + 1) (n + cap) pc' Ls (.ref a :: st)) : Go p l e R s m args below meth c n0 F h k n pc Ls (.int z :: st) := by
  intro T locs X eT N
  subst hp hty
  obtain ⟨T', h', cA, X', e', E', A', stp⟩ := newP X C.1 C.2.1 w eT (g := mkF m pc Ls (.int z :: st)) rfl (hb C.2.2.2.1 hd) rfl hz hcap hb8 hk hn
  obtain ⟨s₂, o, q1, q2⟩ := hr h.size h' rfl (by rw [← eT]; exact C.size X) E' (Av.new A') T' _ X' e' N
  exact ⟨s₂, o, stp _ q1, q2⟩
theorem Cx.initO (C : Cx p s m meth c Z n0 own bc maxL ret nm) {j : Nat} {a : Addr} (W : Nat) (hd : decode bc pc = .ok (.invokespecial j, 3)) (hp : pc + 3 = pc') (w1 : (Jvm.Cond.methodLink own j Lib.objectInit).before a0 Z = true) (w2 : (Jvm.Cond.instanceMethod Lib.objectInit).before a0 Z = true) (w3 : (Jvm.Cond.code Lib.objectInit ⟨#[0xb1]⟩ 1 none).before a0 Z = true) (hsz : Ls.size = maxL) (hf : 1 ≤ R.frames) (hW : (st.map fun v => v.category).sum ≤ W) (hl : W + 12 ≤ R.locals)
    (hr : Go p l e R s m args below meth c n0 F h k n pc' Ls st) : Go p l e R s m args below meth c n0 F h k n pc Ls (.ref a :: st) := by
  intro T locs X eT N
  subst hp
  obtain ⟨T', X', e', stp⟩ := RoadKit.initO X C.1 C.2.1 C.2.2.1 w1 w2 w3 eT (g := mkF m pc Ls (.ref a :: st)) rfl (hsz.trans C.2.2.2.2.1.symm) rfl (hb C.2.2.2.1 hd) hf (W := W) (by show 2 * 0 + _ ≤ W; omega) hl
  obtain ⟨s₂, o, q1, q2⟩ := hr T' _ X' e' N
  exact ⟨s₂, o, stp _ q1, q2⟩
theorem Cx.getF (C : Cx p s m meth c Z n0 own bc maxL ret nm) {O f d : String} {j : Nat} {a : Addr} {v : Value} (hd : decode bc pc = .ok (.getfield j, 3)) (hp : pc + 3 = pc') (w : (Jvm.Cond.fieldLink own j O f d).before a0 Z = true) (F' : Fld Z h a O f d v)
    (hr : Go p l e R s m args below meth c n0 F h k n pc' Ls (v :: st)) : Go p l e R s m args below meth c n0 F h k n pc Ls (.ref a :: st) := by
  intro T locs X eT N
  subst hp
  obtain ⟨T', X', e', stp⟩ := RoadKit.getF X C.1 C.2.1 C.2.2.1 (host := "") (Or.inl w) Via.refl eT F' (g := mkF m pc Ls (.ref a :: st)) rfl rfl (hb C.2.2.2.1 hd)
  obtain ⟨s₂, o, q1, q2⟩ := hr T' _ X' e' N
  exact ⟨s₂, o, stp _ q1, q2⟩
theorem Cx.putF (C : Cx p s m meth c Z n0 own bc maxL ret nm) {O f d cls : String} {j kk : Nat} {ty : FieldType} {a : Addr} {v old : Value} (hd : decode bc pc = .ok (.putfield j, 3)) (hp : pc + 3 = pc') (w : (Jvm.Cond.fieldLink own j O f d).before a0 Z = true) (F' : Fld Z h a O f d old) (E : Exa Z h a cls)
    (L : (Jvm.Cond.lays cls O f d).before a0 Z = true ∨ ((Jvm.Cond.laysFinal cls O f d).before a0 Z = true ∧ own = O ∧ nm = "<init>")) (wi : (Jvm.Cond.instantiable cls kk).before a0 Z = true) (hty : parseFieldDescriptor d = some ty) (hnr : narrow ty v = v) (hf : fits ty v = true) (ha : n0 ≤ a)
    (hr : ∀ h', Wr h h' a (Jvm.RoadKit.slotOf Z O f d) v → Fld Z h' a O f d v → Go p l e R s m args below meth c n0 F h' k n pc' Ls st) : Go p l e R s m args below meth c n0 F h k n pc Ls (v :: .ref a :: st) := by
  intro T locs X eT N
  subst hp
  obtain ⟨T', h', X', e', W, stp⟩ := RoadKit.putF X C.1 C.2.1 C.2.2.1 (host := "") (Or.inl w) Via.refl eT F' E (L.imp id fun q => ⟨q.1, q.2.1, C.2.2.2.2.2.2.1.trans q.2.2⟩) wi hty hnr hf (g := mkF m pc Ls (v :: .ref a :: st)) rfl rfl (hb C.2.2.2.1 hd)
  obtain ⟨s₂, o, q1, q2⟩ := hr h' W (F'.same W) T' _ X' e' (Fr.snoc X' N ha)
  exact ⟨s₂, o, stp _ q1, q2⟩
/-! the end of a body -/
theorem Cx.ret0 {Q : Option Value → Heap → Prop} {ck cs : Nat} (C : Cx p s m meth c Z n0 own bc maxL none nm) (hd : decode bc pc = .ok (.return_, 1)) (hk : k ≤ ck) (hn : n ≤ cs) (hq : Q none h) : Go p l e R s m args below meth c n0 (FinQ s n0 Q ck cs) h k n pc Ls [] := by
  intro T locs X eT N
  have hlk := C.2.2.2.2.2.2.2.1
  obtain ⟨fs, hr, hrun, hended, hW, hsame⟩ := X.leave (v := none) (fun _ => rfl) hlk
  exact ⟨_, _, X.returnOut C.1 C.2.2.2.2.2.1 (hb C.2.2.2.1 hd) hr, hrun, hended, _, _, rfl, ⟨by show Q none T.heap; rw [eT]; exact hq, N⟩, ⟨_, rfl⟩, hW, hsame.mono hk hn⟩
theorem Cx.retW {Q : Option Value → Heap → Prop} {ck cs : Nat} {t : FieldType} {w : Value} {i : Instr} (C : Cx p s m meth c Z n0 own bc maxL (some t) nm) (hd : decode bc pc = .ok (i, 1)) (hnr : narrow t w = w)
    (hi : (i = .ireturn ∧ (t = .int ∨ t = .boolean ∨ t = .byte ∨ t = .char ∨ t = .short) ∧ ∃ z, w = .int z) ∨ (i = .lreturn ∧ t = .long ∧ ∃ z, w = .long z) ∨ (i = .dreturn ∧ t = .double ∧ ∃ z, w = .double z) ∨ (i = .freturn ∧ t = .float ∧ ∃ z, w = .float z) ∨ (i = .areturn ∧ t.isReference = true ∧ w.isRef = true))
    (hk : k ≤ ck) (hn : n ≤ cs) (hq : Q (some w) h) : Go p l e R s m args below meth c n0 (FinQ s n0 Q ck cs) h k n pc Ls (w :: st) := by
  intro T locs X eT N
  have hlk := C.2.2.2.2.2.2.2.1
  have hrt := C.2.2.2.2.2.1
  obtain ⟨fs, hr, hrun, hended, hW, hsame⟩ := X.leave (v := some w) (fun q => by rw [hrt] at q; cases q) hlk
  exact ⟨_, _, retOut X C.1 hrt hnr hi (hb C.2.2.2.1 hd) hr, hrun, hended, _, _, rfl, ⟨by show Q (some w) T.heap; rw [eT]; exact hq, N⟩, ⟨_, rfl⟩, hW, hsame.mono hk hn⟩
theorem Cx.retI {Q : Option Value → Heap → Prop} {ck cs : Nat} {z : Int32} (C : Cx p s m meth c Z n0 own bc maxL (some .int) nm) (hd : decode bc pc = .ok (.ireturn, 1)) (hk : k ≤ ck) (hn : n ≤ cs) (hq : Q (some (.int z)) h) : Go p l e R s m args below meth c n0 (FinQ s n0 Q ck cs) h k n pc Ls (.int z :: st) :=
  C.retW hd rfl (Or.inl ⟨rfl, Or.inl rfl, z, rfl⟩) hk hn hq
theorem Cx.retZ {Q : Option Value → Heap → Prop} {ck cs : Nat} {z : Int32} (C : Cx p s m meth c Z n0 own bc maxL (some .boolean) nm) (hd : decode bc pc = .ok (.ireturn, 1)) (hz : narrow .boolean (.int z) = .int z) (hk : k ≤ ck) (hn : n ≤ cs) (hq : Q (some (.int z)) h) : Go p l e R s m args below meth c n0 (FinQ s n0 Q ck cs) h k n pc Ls (.int z :: st) :=
  C.retW hd hz (Or.inl ⟨rfl, Or.inr (Or.inl rfl), z, rfl⟩) hk hn hq
theorem Cx.retC {Q : Option Value → Heap → Prop} {ck cs : Nat} {z : Int32} (C : Cx p s m meth c Z n0 own bc maxL (some .char) nm) (hd : decode bc pc = .ok (.ireturn, 1)) (hz : narrow .char (.int z) = .int z) (hk : k ≤ ck) (hn : n ≤ cs) (hq : Q (some (.int z)) h) : Go p l e R s m args below meth c n0 (FinQ s n0 Q ck cs) h k n pc Ls (.int z :: st) :=
  C.retW hd hz (Or.inl ⟨rfl, Or.inr (Or.inr (Or.inr (Or.inl rfl))), z, rfl⟩) hk hn hq
theorem Cx.retJ {Q : Option Value → Heap → Prop} {ck cs : Nat} {z : Int64} (C : Cx p s m meth c Z n0 own bc maxL (some .long) nm) (hd : decode bc pc = .ok (.lreturn, 1)) (hk : k ≤ ck) (hn : n ≤ cs) (hq : Q (some (.long z)) h) : Go p l e R s m args below meth c n0 (FinQ s n0 Q ck cs) h k n pc Ls (.long z :: st) :=
  C.retW hd rfl (Or.inr (Or.inl ⟨rfl, rfl, z, rfl⟩)) hk hn hq
theorem Cx.retA {Q : Option Value → Heap → Prop} {ck cs : Nat} {t : FieldType} {a : Addr} (C : Cx p s m meth c Z n0 own bc maxL (some t) nm) (hd : decode bc pc = .ok (.areturn, 1)) (ht : t.isReference = true) (hnr : narrow t (.ref a) = .ref a) (hk : k ≤ ck) (hn : n ≤ cs) (hq : Q (some (.ref a)) h) : Go p l e R s m args below meth c n0 (FinQ s n0 Q ck cs) h k n pc Ls (.ref a :: st) :=
  C.retW hd hnr (Or.inr (Or.inr (Or.inr (Or.inr ⟨rfl, ht, rfl⟩)))) hk hn hq
/-! a body's contract out of its walk -/
theorem Con.of {ws : List Jvm.Cond} {y : MethodName} {as : Array Value} {h0 : Heap} {Q : Option Value → Heap → Prop} (hn : plainFor y = true) (ef : ∀ m, entryFrame m as maxL = mkF m 0 Ls []) (hn0 : n0 ≤ h0.size)
    (body : ∀ p e s m below meth c, Cx p s m meth c Z n0 y.cls bc maxL ret y.name → Go p l e R s m as below meth c n0 (FinQ s n0 Q R.cells R.slots) h0 0 0 0 Ls []) : Con l Z n0 ws y bc maxL ret R as h0 Q := by
  refine MetFree.of_bodySF hn hisR ?_
  intro p e s m args below meth c s₁ Bd hml0 hP hK
  obtain ⟨rfl, hZ, hh⟩ := hP
  have e0 : s₁.heap = h0 := by rw [← hh, Bd.state]; rfl
  have X0 : Stand p l e R s m args below meth c s₁ [] 0 0 := Stand.of_body Bd
  obtain ⟨s₂, o, q1, q2, q3, q4⟩ := body p e s m below meth c ⟨Bd.exec, hZ, findClass_of_methodNamed Bd.named, Bd.bytes, hml0, Bd.returns, (name_of_methodNamed Bd.named Bd.method).1, Bd.notSynchronized, by rw [hh]; exact hn0⟩ s₁ [] X0 e0 (Fr.nil n0)
  exact ⟨s₂, o, castTop (ef m) q1, q2, q3, q4⟩
theorem Con.imp {ws : List Jvm.Cond} {y : MethodName} {as : Array Value} {h0 : Heap} {Q Q' : Option Value → Heap → Prop} (H : Con l Z n0 ws y bc maxL ret R as h0 Q) (q : ∀ v h, Q v h → Q' v h) : Con l Z n0 ws y bc maxL ret R as h0 Q' := by
  intro p e ha hc hk s m args below hf happ hP hK
  obtain ⟨n, o, h1, h2, h3, v, L, r1, ⟨r2, r3⟩, r4⟩ := H p e ha hc hk s m args below hf happ hP hK
  exact ⟨n, o, h1, h2, h3, v, L, r1, ⟨q _ _ r2, r3⟩, r4⟩
/-! calls by contract -/
theorem Cx.callS (C : Cx p s m meth c Z n0 own bc maxL ret nm) {y : MethodName} {bc' : ByteArray} {maxL' j : Nat} {ret' : Option FieldType} {R' : Room} {argsL rest : List Value} {Q : Option Value → Heap → Prop} (W : Nat) (hC : n0 ≤ h.size → Con l Z n0 [] y bc' maxL' ret' R' argsL.toArray h Q) (hd : decode bc pc = .ok (.invokestatic j, 3)) (hp : pc + 3 = pc')
    (w1 : (Jvm.Cond.methodLink own j y).before a0 Z = true) (w2 : (Jvm.Cond.static y).before a0 Z = true) (w3 : (Jvm.Cond.initialized y.cls).before a0 Z = true) (w4 : (Jvm.Cond.code y bc' maxL' ret').before a0 Z = true) (hy : y.cls ≠ "java/lang/invoke/MethodHandle" ∧ y.cls ≠ "java/lang/invoke/VarHandle") {ps : List FieldType} {r : Option FieldType} (hpd : parseMethodDescriptor y.desc = some ⟨ps, r⟩) (hlen : argsL.length = ps.length)
    (hst : st = argsL.reverse ++ rest) (hsz : Ls.size = maxL) (hW : (rest.map fun v => v.category).sum ≤ W) (hf : R'.frames + 1 ≤ R.frames) (hl : W + (maxL' + 11) + R'.locals ≤ R.locals) (hk : k + R'.cells ≤ R.cells) (hn : n + R'.slots ≤ R.slots)
    (hr : ∀ v h', Q v h' → Go p l e R s m args below meth c n0 F h' (k + R'.cells) (n + R'.slots) pc' Ls (v.toList ++ rest)) : Go p l e R s m args below meth c n0 F h k n pc Ls st := by
  intro T locs X eT N
  subst hp hst
  obtain ⟨v, _, ⟨T', L', k', n'⟩, -, X', ⟨Lc, hQ, l1, y1, z1⟩, stp⟩ := Jvm.LawKit.callS X C.1 (y := y) C.2.2.1 (mvT C.2.1 w1) (mvT C.2.1 w2) (mvT C.2.1 w3) (mvT C.2.1 w4) hy (backOf (Z := Z) (h := h) (bytes := bc') (maxL := maxL') (ret := ret') (rm := R') (as' := argsL.toArray) (Q := fun v h' L => Q v h' ∧ Fr n0 L) (W := W) (hC (by rw [← eT]; exact C.size X)) C.2.1 w4 w3 hf hl) (g := mkF m pc Ls (argsL.reverse ++ rest)) rfl (hsz.trans C.2.2.2.2.1.symm) (argsL := argsL) (rest := rest) (lenOf hpd hlen) rfl (by show 2 * 0 + _ ≤ W; omega) (hb C.2.2.2.1 hd) (fun _ _ => ⟨rfl, eT, hk, hn⟩)
  dsimp only [Pt.U, Pt.locs, Pt.cells, Pt.slots] at X' l1 y1 z1 stp hQ
  subst l1 y1 z1
  obtain ⟨s₂, o, q1, q2⟩ := hr v T'.heap hQ.1 T' _ X' rfl (Fr.app N hQ.2)
  exact ⟨s₂, o, stp _ q1, q2⟩
theorem Cx.callN (C : Cx p s m meth c Z n0 own bc maxL ret nm) {y : MethodName} {bc' : ByteArray} {maxL' j : Nat} {R' : Room} {a : Addr} {argsL rest : List Value} {Q : Option Value → Heap → Prop} (W : Nat) (hC : n0 ≤ h.size → Con l Z n0 [] y bc' maxL' none R' (.ref a :: argsL).toArray h Q) (hd : decode bc pc = .ok (.invokespecial j, 3)) (hp : pc + 3 = pc') (hy1 : y.name = "<init>")
    (w1 : (Jvm.Cond.methodLink own j y).before a0 Z = true) (w2 : (Jvm.Cond.instanceMethod y).before a0 Z = true) (w3 : (Jvm.Cond.initialized y.cls).before a0 Z = true) (w4 : (Jvm.Cond.code y bc' maxL' none).before a0 Z = true) (hy : y.cls ≠ "java/lang/invoke/MethodHandle" ∧ y.cls ≠ "java/lang/invoke/VarHandle") {ps : List FieldType} {r : Option FieldType} (hpd : parseMethodDescriptor y.desc = some ⟨ps, r⟩) (hlen : argsL.length = ps.length)
    (hst : st = argsL.reverse ++ .ref a :: rest) (hsz : Ls.size = maxL) (hW : (rest.map fun v => v.category).sum ≤ W) (hf : R'.frames + 1 ≤ R.frames) (hl : W + (maxL' + 11) + R'.locals ≤ R.locals) (hk : k + R'.cells ≤ R.cells) (hn : n + R'.slots ≤ R.slots)
    (hr : ∀ v h', Q v h' → Go p l e R s m args below meth c n0 F h' (k + R'.cells) (n + R'.slots) pc' Ls (v.toList ++ rest)) : Go p l e R s m args below meth c n0 F h k n pc Ls st := by
  intro T locs X eT N
  subst hp hst
  obtain ⟨v, _, ⟨T', L', k', n'⟩, -, X', ⟨Lc, hQ, l1, y1, z1⟩, stp⟩ := X.specialBack C.1 (y := y) hy1 C.2.2.1 (mvT C.2.1 w1) (mvT C.2.1 w2) (mvT C.2.1 w4) hy (backOf (Z := Z) (h := h) (bytes := bc') (maxL := maxL') (ret := none) (rm := R') (as' := (Value.ref a :: argsL).toArray) (Q := fun v h' L => Q v h' ∧ Fr n0 L) (W := W) (hC (by rw [← eT]; exact C.size X)) C.2.1 w4 w3 hf hl) (g := mkF m pc Ls (argsL.reverse ++ .ref a :: rest)) rfl (hsz.trans C.2.2.2.2.1.symm) (Steps.refl _) (a := a) (argsL := argsL) (rest := rest) (lenOf hpd hlen) rfl (by show 2 * 0 + _ ≤ W; omega) (hb C.2.2.2.1 hd) (fun _ _ => ⟨rfl, eT, hk, hn⟩)
  dsimp only [Pt.U, Pt.locs, Pt.cells, Pt.slots] at X' l1 y1 z1 stp hQ
  subst l1 y1 z1
  obtain ⟨s₂, o, q1, q2⟩ := hr v T'.heap hQ.1 T' _ X' rfl (Fr.app N hQ.2)
  exact ⟨s₂, o, stp.trans q1, q2⟩
theorem Cx.callV (C : Cx p s m meth c Z n0 own bc maxL ret nm) {y : MethodName} {cls : String} {bc' : ByteArray} {maxL' j : Nat} {ret' : Option FieldType} {R' : Room} {a : Addr} {argsL rest : List Value} {Q : Option Value → Heap → Prop} (W : Nat) (hC : n0 ≤ h.size → Con l Z n0 [] y bc' maxL' ret' R' (.ref a :: argsL).toArray h Q) (E : Exa Z h a cls) (hd : decode bc pc = .ok (.invokevirtual j, 3)) (hp : pc + 3 = pc')
    (w1 : (Jvm.Cond.methodLink own j y).before a0 Z = true) (w2 : (Jvm.Cond.declares y).before a0 Z = true) (w3 : (Jvm.Cond.instanceMethod y).before a0 Z = true) (w4 : (Jvm.Cond.selects cls y y).before a0 Z = true) (w5 : (Jvm.Cond.initialized y.cls).before a0 Z = true) (w6 : (Jvm.Cond.code y bc' maxL' ret').before a0 Z = true) (hy : y.cls ≠ "java/lang/invoke/MethodHandle" ∧ y.cls ≠ "java/lang/invoke/VarHandle") {ps : List FieldType} {r : Option FieldType} (hpd : parseMethodDescriptor y.desc = some ⟨ps, r⟩) (hlen : argsL.length = ps.length)
    (hst : st = argsL.reverse ++ .ref a :: rest) (hsz : Ls.size = maxL) (hW : (rest.map fun v => v.category).sum ≤ W) (hf : R'.frames + 1 ≤ R.frames) (hl : W + (maxL' + 11) + R'.locals ≤ R.locals) (hk : k + R'.cells ≤ R.cells) (hn : n + R'.slots ≤ R.slots)
    (hr : ∀ v h', Q v h' → Go p l e R s m args below meth c n0 F h' (k + R'.cells) (n + R'.slots) pc' Ls (v.toList ++ rest)) : Go p l e R s m args below meth c n0 F h k n pc Ls st := by
  intro T locs X eT N
  subst hp hst
  obtain ⟨cq, kq, qa, qb, qc⟩ := isOf (T := T) C.2.1 eT E
  obtain ⟨v, _, ⟨T', L', k', n'⟩, -, X', ⟨Lc, hQ, l1, y1, z1⟩, stp⟩ := X.virtualBack C.1 (y := y) (z := y) C.2.2.1 (mvT C.2.1 w1) (mvT C.2.1 w2) (notFace_of_selects (args := #[]) (mvT C.2.1 w4)) (mvT C.2.1 w4) (mvT C.2.1 w3) hy (backOf (Z := Z) (h := h) (bytes := bc') (maxL := maxL') (ret := ret') (rm := R') (as' := (Value.ref a :: argsL).toArray) (Q := fun v h' L => Q v h' ∧ Fr n0 L) (W := W) (hC (by rw [← eT]; exact C.size X)) C.2.1 w6 w5 hf hl) qa qc (g := mkF m pc Ls (argsL.reverse ++ .ref a :: rest)) rfl (hsz.trans C.2.2.2.2.1.symm) (Steps.refl _) (argsL := argsL) (rest := rest) (lenOf hpd hlen) rfl (by show 2 * 0 + _ ≤ W; omega) (hb C.2.2.2.1 hd) (fun _ _ => ⟨rfl, eT, hk, hn⟩)
  dsimp only [Pt.U, Pt.locs, Pt.cells, Pt.slots] at X' l1 y1 z1 stp hQ
  subst l1 y1 z1
  obtain ⟨s₂, o, q1, q2⟩ := hr v T'.heap hQ.1 T' _ X' rfl (Fr.app N hQ.2)
  exact ⟨s₂, o, stp.trans q1, q2⟩
end Own
theorem own_or_l {a b : Int64} (q : ¬ a = 0) : ¬ a ||| b = 0 := fun e => q (by
  have f := congrArg Int64.toBitVec e
  rw [Int64.toBitVec_or] at f
  exact Int64.toBitVec_inj.1 (BitVec.or_eq_zero_iff.mp f).1)
theorem own_or_r {a b : Int64} (q : ¬ b = 0) : ¬ a ||| b = 0 := fun e => q (by
  have f := congrArg Int64.toBitVec e
  rw [Int64.toBitVec_or] at f
  exact Int64.toBitVec_inj.1 (BitVec.or_eq_zero_iff.mp f).2)
section OwnArr
variable {p : Program} {l : Launch} {e : Env} {R : Room} {s : State} {m : MethodId} {args : Array Value} {below : List Frame} {meth : Method} {c : Code} {n0 : Nat} {F : State → Outcome → Prop} {h : Heap} {k n pc pc' : Nat} {Ls : Array Slot} {st : List Value} {Z : State} {own : String} {bc : ByteArray} {maxL : Nat} {ret : Option FieldType} {nm : String} {a0 : Array Value}
theorem own_clamp {j : Nat} (q : j < 2 ^ 31) : j.toInt32.toNatClampNeg = j ∧ ¬ j.toInt32 < 0 := by
  have e := len_toInt q
  constructor
  · simp only [Int32.toNatClampNeg, e]; omega
  · rw [Int32.lt_iff_toInt_lt, e]; simp only [Int32.reduceToInt]; omega
theorem Av.arv {a : Addr} {ty : FieldType} {vs : List Value} (A : Av Z h a ty vs) (q : vs.length < 2 ^ 31) (dv : Value) : ∃ kc, Arv Z h a kc ty vs.length.toInt32 vs dv := by
  obtain ⟨cl, A, rfl, r⟩ := A
  obtain ⟨e1, e2⟩ := own_clamp q
  rw [Array.length_toList] at q e1 e2 ⊢
  refine ⟨cl.cls, cl, A, rfl, e1.symm, e2, fun i hi => ?_, fun i hi => ?_⟩
  · simp [List.getD_eq_getElem?_getD, hi]
  · have : cl.slots.toList.getD i dv = cl.slots[i] := by simp [List.getD_eq_getElem?_getD, hi]
    rw [this]; exact r _ (by simp)
theorem Arv.av {a : Addr} {kc : ClassId} {ty : FieldType} {z : Int32} {vs : List Value} {dv : Value} (A : Arv Z h a kc ty z vs dv) (q : z.toNatClampNeg = vs.length) : Av Z h a ty vs := by
  obtain ⟨cl, A, -, S, -, H, G⟩ := A
  have e : cl.slots.toList = vs := by
    apply List.ext_getElem?
    intro i
    by_cases hi : i < cl.slots.size
    · have := H i hi
      rw [Array.getElem?_toList, this]
      have h2 : i < vs.length := by omega
      simp [List.getD_eq_getElem?_getD, h2]
    · rw [List.getElem?_eq_none (by simpa using hi), List.getElem?_eq_none (by omega)]
  refine ⟨cl, A, e, fun v hv => ?_⟩
  obtain ⟨i, hi, rfl⟩ := List.getElem_of_mem hv
  have := G i (by omega)
  simpa [List.getD_eq_getElem?_getD, hi] using this
theorem own_range (vs : List Value) (sp nn : Nat) (q : sp + nn ≤ vs.length) (d : Value) : (List.range nn).map (fun i => vs.getD (sp + i) d) = (vs.drop sp).take nn := by
  apply List.ext_getElem?
  intro i
  by_cases hi : i < nn
  · simp [hi, List.getElem?_take, List.getD_eq_getElem?_getD, show sp + i < vs.length by omega]
  · rw [List.getElem?_eq_none (by simpa using hi), List.getElem?_eq_none (by simp; omega)]
theorem Cx.acopy (C : Cx p s m meth c Z n0 own bc maxL ret nm) {j : Nat} {a b : Addr} {ty : FieldType} {sp dp nn : Int32} {vs vd : List Value} (W : Nat) (hd : decode bc pc = .ok (.invokestatic j, 3)) (hp : pc + 3 = pc') (w1 : (Jvm.Cond.methodLink own j Jvm.Stand.acN).before a0 Z = true) (w2 : (Jvm.Cond.native Jvm.Stand.acN).before a0 Z = true) (w3 : (Jvm.Cond.static Jvm.Stand.acN).before a0 Z = true) (w4 : (Jvm.Cond.initialized "java/lang/System").before a0 Z = true)
    (A : Av Z h a ty vs) (B : Av Z h b ty vd) (hty : refKind ty = false) (l1 : vs.length < 2 ^ 31) (l2 : vd.length < 2 ^ 31) (h1 : ¬ sp < 0) (h2 : ¬ dp < 0) (h3 : ¬ nn < 0) (h4 : sp.toNatClampNeg + nn.toNatClampNeg ≤ vs.length) (h5 : dp.toNatClampNeg + nn.toNatClampNeg ≤ vd.length) (ge : n0 ≤ b) (hsz : Ls.size = maxL) (hf : 1 ≤ R.frames) (hW : (st.map fun v => v.category).sum ≤ W) (hlo : W + (nativeFrameWords "java/lang/System" "arraycopy" 5 + 11) ≤ R.locals)
    (hr : ∀ h', Keep h h' [b] → Av Z h' b ty (vd.take dp.toNatClampNeg ++ (vs.drop sp.toNatClampNeg).take nn.toNatClampNeg ++ vd.drop (dp.toNatClampNeg + nn.toNatClampNeg)) → Go p l e R s m args below meth c n0 F h' k n pc' Ls st) : Go p l e R s m args below meth c n0 F h k n pc Ls (.int nn :: .int dp :: .ref b :: .int sp :: .ref a :: st) := by
  intro T locs X eT N
  subst hp
  obtain ⟨ka, A'⟩ := A.arv l1 (.int 0)
  obtain ⟨kb, B'⟩ := B.arv l2 (.int 0)
  have c1 := (own_clamp l1).1
  have c2 := (own_clamp l2).1
  obtain ⟨T', h', L', X', e', N', K', V', stp⟩ := cpA X C.1 C.2.1 C.2.2.1 w1 w2 w3 w4 eT A' B' (Or.inl ⟨rfl, hty⟩) h1 h2 h3 (by rw [c1]; exact h4) (by rw [c2]; exact h5) rfl h5 N ge (g := mkF m pc Ls (.int nn :: .int dp :: .ref b :: .int sp :: .ref a :: st)) rfl (hsz.trans C.2.2.2.2.1.symm) rfl (hb C.2.2.2.1 hd) hf (W := W) (by show 2 * 0 + _ ≤ W; omega) hlo
  rw [own_range vs _ _ h4] at V'
  have V2 := Arv.av V' (by rw [c2]; simp; omega)
  obtain ⟨s₂, o, q1, q2⟩ := hr h' K' V2 T' _ X' e' N'
  exact ⟨s₂, o, stp _ q1, q2⟩
end OwnArr
section OwnCalls
variable {p : Program} {l : Launch} {e : Env} {R : Room} {s : State} {m : MethodId} {args : Array Value} {below : List Frame} {meth : Method} {c : Code} {n0 : Nat} {F : State → Outcome → Prop} {h : Heap} {k n pc pc' : Nat} {Ls : Array Slot} {st : List Value} {Z : State} {own : String} {bc : ByteArray} {maxL : Nat} {ret : Option FieldType} {nm : String} {a0 : Array Value}
theorem Cx.callNN (C : Cx p s m meth c Z n0 own bc maxL ret nm) {y : MethodName} {host : String} {bc' : ByteArray} {maxL' j : Nat} {R' : Room} {a : Addr} {argsL rest : List Value} {Q : Option Value → Heap → Prop} (W : Nat) (hC : n0 ≤ h.size → Con l Z n0 [] y bc' maxL' none R' (.ref a :: argsL).toArray h Q) (hd : decode bc pc = .ok (.invokespecial j, 3)) (hp : pc + 3 = pc') (hy1 : y.name = "<init>")
    (w1 : (Jvm.Cond.methodLinkNest own j y host).before a0 Z = true) (w2 : (Jvm.Cond.instanceMethod y).before a0 Z = true) (w3 : (Jvm.Cond.initialized y.cls).before a0 Z = true) (w4 : (Jvm.Cond.code y bc' maxL' none).before a0 Z = true) (hy : y.cls ≠ "java/lang/invoke/MethodHandle" ∧ y.cls ≠ "java/lang/invoke/VarHandle") {ps : List FieldType} {r : Option FieldType} (hpd : parseMethodDescriptor y.desc = some ⟨ps, r⟩) (hlen : argsL.length = ps.length)
    (hst : st = argsL.reverse ++ .ref a :: rest) (hsz : Ls.size = maxL) (hW : (rest.map fun v => v.category).sum ≤ W) (hf : R'.frames + 1 ≤ R.frames) (hl : W + (maxL' + 11) + R'.locals ≤ R.locals) (hk : k + R'.cells ≤ R.cells) (hn : n + R'.slots ≤ R.slots)
    (hr : ∀ v h', Q v h' → Go p l e R s m args below meth c n0 F h' (k + R'.cells) (n + R'.slots) pc' Ls (v.toList ++ rest)) : Go p l e R s m args below meth c n0 F h k n pc Ls st := by
  intro T locs X eT N
  subst hp hst
  obtain ⟨v, _, ⟨T', L', k', n'⟩, -, X', ⟨Lc, hQ, l1, y1, z1⟩, stp⟩ := X.specialBackNest C.1 (y := y) hy1 C.2.2.1 (Cond.methodLinkNest_wide C.2.1 w1 :) (mvT C.2.1 w2) (mvT C.2.1 w4) hy (backOf (Z := Z) (h := h) (bytes := bc') (maxL := maxL') (ret := none) (rm := R') (as' := (Value.ref a :: argsL).toArray) (Q := fun v h' L => Q v h' ∧ Fr n0 L) (W := W) (hC (by rw [← eT]; exact C.size X)) C.2.1 w4 w3 hf hl) (g := mkF m pc Ls (argsL.reverse ++ .ref a :: rest)) rfl (hsz.trans C.2.2.2.2.1.symm) (Steps.refl _) (a := a) (argsL := argsL) (rest := rest) (lenOf hpd hlen) rfl (by show 2 * 0 + _ ≤ W; omega) (hb C.2.2.2.1 hd) (fun _ _ => ⟨rfl, eT, hk, hn⟩)
  dsimp only [Pt.U, Pt.locs, Pt.cells, Pt.slots] at X' l1 y1 z1 stp hQ
  subst l1 y1 z1
  obtain ⟨s₂, o, q1, q2⟩ := hr v T'.heap hQ.1 T' _ X' rfl (Fr.app N hQ.2)
  exact ⟨s₂, o, stp.trans q1, q2⟩
end OwnCalls
section OwnPriv
variable {p : Program} {l : Launch} {e : Env} {R : Room} {s : State} {m : MethodId} {args : Array Value} {below : List Frame} {meth : Method} {c : Code} {n0 : Nat} {F : State → Outcome → Prop} {h : Heap} {k n pc pc' : Nat} {Ls : Array Slot} {st : List Value} {Z : State} {own : String} {bc : ByteArray} {maxL : Nat} {ret : Option FieldType} {nm : String} {a0 : Array Value}
theorem Cx.callP (C : Cx p s m meth c Z n0 own bc maxL ret nm) {y : MethodName} {cls : String} {bc' : ByteArray} {maxL' j : Nat} {ret' : Option FieldType} {R' : Room} {a : Addr} {argsL rest : List Value} {Q : Option Value → Heap → Prop} (W : Nat) (hC : n0 ≤ h.size → Con l Z n0 [] y bc' maxL' ret' R' (.ref a :: argsL).toArray h Q) (E : Exa Z h a cls) (hd : decode bc pc = .ok (.invokevirtual j, 3)) (hp : pc + 3 = pc')
    (w1 : (Jvm.Cond.methodLink own j y).before a0 Z = true) (w2 : (Jvm.Cond.privateMethod y).before a0 Z = true) (w3 : (Jvm.Cond.instanceMethod y).before a0 Z = true) (w4 : (Jvm.Cond.selects y.cls y y).before a0 Z = true) (w5 : (Jvm.Cond.initialized y.cls).before a0 Z = true) (w6 : (Jvm.Cond.code y bc' maxL' ret').before a0 Z = true) (hy : y.cls ≠ "java/lang/invoke/MethodHandle" ∧ y.cls ≠ "java/lang/invoke/VarHandle") {ps : List FieldType} {r : Option FieldType} (hpd : parseMethodDescriptor y.desc = some ⟨ps, r⟩) (hlen : argsL.length = ps.length)
    (hst : st = argsL.reverse ++ .ref a :: rest) (hsz : Ls.size = maxL) (hW : (rest.map fun v => v.category).sum ≤ W) (hf : R'.frames + 1 ≤ R.frames) (hl : W + (maxL' + 11) + R'.locals ≤ R.locals) (hk : k + R'.cells ≤ R.cells) (hn : n + R'.slots ≤ R.slots)
    (hr : ∀ v h', Q v h' → Go p l e R s m args below meth c n0 F h' (k + R'.cells) (n + R'.slots) pc' Ls (v.toList ++ rest)) : Go p l e R s m args below meth c n0 F h k n pc Ls st := by
  intro T locs X eT N
  subst hp hst
  obtain ⟨cell, hc1, hc2⟩ := E.cell
  obtain ⟨v, _, ⟨T', L', k', n'⟩, -, X', ⟨Lc, hQ, l1, y1, z1⟩, stp⟩ := X.privateBack C.1 (y := y) C.2.2.1 (mvT C.2.1 w1) (mvT C.2.1 w3) (mvT C.2.1 w4) (Cond.privateMethod_at (args := #[]) (mvP C.2.1 w2)) (mvT C.2.1 w6) hy (backOf (Z := Z) (h := h) (bytes := bc') (maxL := maxL') (ret := ret') (rm := R') (as' := (Value.ref a :: argsL).toArray) (Q := fun v h' L => Q v h' ∧ Fr n0 L) (W := W) (hC (by rw [← eT]; exact C.size X)) C.2.1 w6 w5 hf hl) (g := mkF m pc Ls (argsL.reverse ++ .ref a :: rest)) rfl (hsz.trans C.2.2.2.2.1.symm) (Steps.refl _) (by rw [eT]; exact hc1) hc2 (argsL := argsL) (rest := rest) (lenOf hpd hlen) rfl (by show 2 * 0 + _ ≤ W; omega) (hb C.2.2.2.1 hd) (fun _ _ => ⟨rfl, eT, hk, hn⟩)
  dsimp only [Pt.U, Pt.locs, Pt.cells, Pt.slots] at X' l1 y1 z1 stp hQ
  subst l1 y1 z1
  obtain ⟨s₂, o, q1, q2⟩ := hr v T'.heap hQ.1 T' _ X' rfl (Fr.app N hQ.2)
  exact ⟨s₂, o, stp.trans q1, q2⟩
end OwnPriv
def own_st (c0 : Int32) : Int32 := if ¬ c0 < 65 ∧ ¬ 90 < c0 then 1 else if c0 = 95 then 1 else if ¬ c0 < 97 ∧ ¬ 122 < c0 then 1 else if ¬ c0 < 192 ∧ ¬ 214 < c0 then 1 else if ¬ c0 < 216 ∧ ¬ 246 < c0 then 1 else if ¬ c0 < 248 ∧ ¬ 767 < c0 then 1 else if ¬ c0 < 880 ∧ ¬ 893 < c0 then 1 else if ¬ c0 < 895 ∧ ¬ 8191 < c0 then 1 else if ¬ c0 < 8204 ∧ ¬ 8205 < c0 then 1 else if ¬ c0 < 8304 ∧ ¬ 8591 < c0 then 1 else if ¬ c0 < 11264 ∧ ¬ 12271 < c0 then 1 else if ¬ c0 < 12289 ∧ ¬ 55295 < c0 then 1 else if ¬ c0 < 63744 ∧ ¬ 64975 < c0 then 1 else if ¬ c0 < 65008 ∧ ¬ 65533 < c0 then 1 else if ¬ c0 < 65536 ∧ ¬ 983039 < c0 then 1 else 0
def own_exc (c0 : Int32) : Int32 := if c0 < 65 then 1 else if ¬ c0 < 91 ∧ ¬ 94 < c0 then 1 else if c0 = 96 then 1 else if ¬ c0 < 123 ∧ ¬ 191 < c0 then 1 else if c0 = 215 then 1 else if c0 = 247 then 1 else if ¬ c0 < 768 ∧ ¬ 879 < c0 then 1 else if c0 = 894 then 1 else if ¬ c0 < 8192 ∧ ¬ 8203 < c0 then 1 else if ¬ c0 < 8206 ∧ ¬ 8303 < c0 then 1 else if ¬ c0 < 8592 ∧ ¬ 11263 < c0 then 1 else if ¬ c0 < 12272 ∧ ¬ 12288 < c0 then 1 else if ¬ c0 < 55296 ∧ ¬ 63743 < c0 then 1 else if ¬ c0 < 64976 ∧ ¬ 65007 < c0 then 1 else if c0 = 65534 then 1 else if c0 = 65535 then 1 else if 983039 < c0 then 1 else 0
def own_stI (i : Int) : Int32 := if ¬ i < 65 ∧ ¬ 90 < i then 1 else if i = 95 then 1 else if ¬ i < 97 ∧ ¬ 122 < i then 1 else if ¬ i < 192 ∧ ¬ 214 < i then 1 else if ¬ i < 216 ∧ ¬ 246 < i then 1 else if ¬ i < 248 ∧ ¬ 767 < i then 1 else if ¬ i < 880 ∧ ¬ 893 < i then 1 else if ¬ i < 895 ∧ ¬ 8191 < i then 1 else if ¬ i < 8204 ∧ ¬ 8205 < i then 1 else if ¬ i < 8304 ∧ ¬ 8591 < i then 1 else if ¬ i < 11264 ∧ ¬ 12271 < i then 1 else if ¬ i < 12289 ∧ ¬ 55295 < i then 1 else if ¬ i < 63744 ∧ ¬ 64975 < i then 1 else if ¬ i < 65008 ∧ ¬ 65533 < i then 1 else if ¬ i < 65536 ∧ ¬ 983039 < i then 1 else 0
def own_excI (i : Int) : Int32 := if i < 65 then 1 else if ¬ i < 91 ∧ ¬ 94 < i then 1 else if i = 96 then 1 else if ¬ i < 123 ∧ ¬ 191 < i then 1 else if i = 215 then 1 else if i = 247 then 1 else if ¬ i < 768 ∧ ¬ 879 < i then 1 else if i = 894 then 1 else if ¬ i < 8192 ∧ ¬ 8203 < i then 1 else if ¬ i < 8206 ∧ ¬ 8303 < i then 1 else if ¬ i < 8592 ∧ ¬ 11263 < i then 1 else if ¬ i < 12272 ∧ ¬ 12288 < i then 1 else if ¬ i < 55296 ∧ ¬ 63743 < i then 1 else if ¬ i < 64976 ∧ ¬ 65007 < i then 1 else if i = 65534 then 1 else if i = 65535 then 1 else if 983039 < i then 1 else 0
theorem own_stE (c0 : Int32) : own_st c0 = own_stI c0.toInt := by simp only [own_st, own_stI, Int32.lt_iff_toInt_lt, ← Int32.toInt_inj, Int32.reduceToInt]
theorem own_excE (c0 : Int32) : own_exc c0 = own_excI c0.toInt := by simp only [own_exc, own_excI, Int32.lt_iff_toInt_lt, ← Int32.toInt_inj, Int32.reduceToInt]
set_option maxHeartbeats 40000000 in
theorem own_lawI (i : Int) : own_stI i = if own_excI i = 0 then 1 else 0 := by
  by_cases i0 : i < 65
  · simp only [own_stI, own_excI, (show i < 65 by omega), (show ¬ (90 < i) by omega), (show ¬ (i = 95) by omega), (show i < 97 by omega), (show ¬ (122 < i) by omega), (show i < 192 by omega), (show ¬ (214 < i) by omega), (show i < 216 by omega), (show ¬ (246 < i) by omega), (show i < 248 by omega), (show ¬ (767 < i) by omega), (show i < 880 by omega), (show ¬ (893 < i) by omega), (show i < 895 by omega), (show ¬ (8191 < i) by omega), (show i < 8204 by omega), (show ¬ (8205 < i) by omega), (show i < 8304 by omega), (show ¬ (8591 < i) by omega), (show i < 11264 by omega), (show ¬ (12271 < i) by omega), (show i < 12289 by omega), (show ¬ (55295 < i) by omega), (show i < 63744 by omega), (show ¬ (64975 < i) by omega), (show i < 65008 by omega), (show ¬ (65533 < i) by omega), (show i < 65536 by omega), (show ¬ (983039 < i) by omega), (show i < 91 by omega), (show ¬ (94 < i) by omega), (show ¬ (i = 96) by omega), (show i < 123 by omega), (show ¬ (191 < i) by omega), (show ¬ (i = 215) by omega), (show ¬ (i = 247) by omega), (show i < 768 by omega), (show ¬ (879 < i) by omega), (show ¬ (i = 894) by omega), (show i < 8192 by omega), (show ¬ (8203 < i) by omega), (show i < 8206 by omega), (show ¬ (8303 < i) by omega), (show i < 8592 by omega), (show ¬ (11263 < i) by omega), (show i < 12272 by omega), (show ¬ (12288 < i) by omega), (show i < 55296 by omega), (show ¬ (63743 < i) by omega), (show i < 64976 by omega), (show ¬ (65007 < i) by omega), (show ¬ (i = 65534) by omega), (show ¬ (i = 65535) by omega), not_true_eq_false, not_false_eq_true, and_true, true_and, and_false, false_and, and_self, if_true, if_false, eq_self] <;> decide
  by_cases i1 : i < 66
  · simp only [own_stI, own_excI, (show ¬ (i < 65) by omega), (show ¬ (90 < i) by omega), (show ¬ (i = 95) by omega), (show i < 97 by omega), (show ¬ (122 < i) by omega), (show i < 192 by omega), (show ¬ (214 < i) by omega), (show i < 216 by omega), (show ¬ (246 < i) by omega), (show i < 248 by omega), (show ¬ (767 < i) by omega), (show i < 880 by omega), (show ¬ (893 < i) by omega), (show i < 895 by omega), (show ¬ (8191 < i) by omega), (show i < 8204 by omega), (show ¬ (8205 < i) by omega), (show i < 8304 by omega), (show ¬ (8591 < i) by omega), (show i < 11264 by omega), (show ¬ (12271 < i) by omega), (show i < 12289 by omega), (show ¬ (55295 < i) by omega), (show i < 63744 by omega), (show ¬ (64975 < i) by omega), (show i < 65008 by omega), (show ¬ (65533 < i) by omega), (show i < 65536 by omega), (show ¬ (983039 < i) by omega), (show i < 91 by omega), (show ¬ (94 < i) by omega), (show ¬ (i = 96) by omega), (show i < 123 by omega), (show ¬ (191 < i) by omega), (show ¬ (i = 215) by omega), (show ¬ (i = 247) by omega), (show i < 768 by omega), (show ¬ (879 < i) by omega), (show ¬ (i = 894) by omega), (show i < 8192 by omega), (show ¬ (8203 < i) by omega), (show i < 8206 by omega), (show ¬ (8303 < i) by omega), (show i < 8592 by omega), (show ¬ (11263 < i) by omega), (show i < 12272 by omega), (show ¬ (12288 < i) by omega), (show i < 55296 by omega), (show ¬ (63743 < i) by omega), (show i < 64976 by omega), (show ¬ (65007 < i) by omega), (show ¬ (i = 65534) by omega), (show ¬ (i = 65535) by omega), not_true_eq_false, not_false_eq_true, and_true, true_and, and_false, false_and, and_self, if_true, if_false, eq_self] <;> decide
  by_cases i2 : i < 90
  · simp only [own_stI, own_excI, (show ¬ (i < 65) by omega), (show ¬ (90 < i) by omega), (show ¬ (i = 95) by omega), (show i < 97 by omega), (show ¬ (122 < i) by omega), (show i < 192 by omega), (show ¬ (214 < i) by omega), (show i < 216 by omega), (show ¬ (246 < i) by omega), (show i < 248 by omega), (show ¬ (767 < i) by omega), (show i < 880 by omega), (show ¬ (893 < i) by omega), (show i < 895 by omega), (show ¬ (8191 < i) by omega), (show i < 8204 by omega), (show ¬ (8205 < i) by omega), (show i < 8304 by omega), (show ¬ (8591 < i) by omega), (show i < 11264 by omega), (show ¬ (12271 < i) by omega), (show i < 12289 by omega), (show ¬ (55295 < i) by omega), (show i < 63744 by omega), (show ¬ (64975 < i) by omega), (show i < 65008 by omega), (show ¬ (65533 < i) by omega), (show i < 65536 by omega), (show ¬ (983039 < i) by omega), (show i < 91 by omega), (show ¬ (94 < i) by omega), (show ¬ (i = 96) by omega), (show i < 123 by omega), (show ¬ (191 < i) by omega), (show ¬ (i = 215) by omega), (show ¬ (i = 247) by omega), (show i < 768 by omega), (show ¬ (879 < i) by omega), (show ¬ (i = 894) by omega), (show i < 8192 by omega), (show ¬ (8203 < i) by omega), (show i < 8206 by omega), (show ¬ (8303 < i) by omega), (show i < 8592 by omega), (show ¬ (11263 < i) by omega), (show i < 12272 by omega), (show ¬ (12288 < i) by omega), (show i < 55296 by omega), (show ¬ (63743 < i) by omega), (show i < 64976 by omega), (show ¬ (65007 < i) by omega), (show ¬ (i = 65534) by omega), (show ¬ (i = 65535) by omega), not_true_eq_false, not_false_eq_true, and_true, true_and, and_false, false_and, and_self, if_true, if_false, eq_self] <;> decide
  by_cases i3 : i < 91
  · simp only [own_stI, own_excI, (show ¬ (i < 65) by omega), (show ¬ (90 < i) by omega), (show ¬ (i = 95) by omega), (show i < 97 by omega), (show ¬ (122 < i) by omega), (show i < 192 by omega), (show ¬ (214 < i) by omega), (show i < 216 by omega), (show ¬ (246 < i) by omega), (show i < 248 by omega), (show ¬ (767 < i) by omega), (show i < 880 by omega), (show ¬ (893 < i) by omega), (show i < 895 by omega), (show ¬ (8191 < i) by omega), (show i < 8204 by omega), (show ¬ (8205 < i) by omega), (show i < 8304 by omega), (show ¬ (8591 < i) by omega), (show i < 11264 by omega), (show ¬ (12271 < i) by omega), (show i < 12289 by omega), (show ¬ (55295 < i) by omega), (show i < 63744 by omega), (show ¬ (64975 < i) by omega), (show i < 65008 by omega), (show ¬ (65533 < i) by omega), (show i < 65536 by omega), (show ¬ (983039 < i) by omega), (show i < 91 by omega), (show ¬ (94 < i) by omega), (show ¬ (i = 96) by omega), (show i < 123 by omega), (show ¬ (191 < i) by omega), (show ¬ (i = 215) by omega), (show ¬ (i = 247) by omega), (show i < 768 by omega), (show ¬ (879 < i) by omega), (show ¬ (i = 894) by omega), (show i < 8192 by omega), (show ¬ (8203 < i) by omega), (show i < 8206 by omega), (show ¬ (8303 < i) by omega), (show i < 8592 by omega), (show ¬ (11263 < i) by omega), (show i < 12272 by omega), (show ¬ (12288 < i) by omega), (show i < 55296 by omega), (show ¬ (63743 < i) by omega), (show i < 64976 by omega), (show ¬ (65007 < i) by omega), (show ¬ (i = 65534) by omega), (show ¬ (i = 65535) by omega), not_true_eq_false, not_false_eq_true, and_true, true_and, and_false, false_and, and_self, if_true, if_false, eq_self] <;> decide
  by_cases i4 : i < 92
  · simp only [own_stI, own_excI, (show ¬ (i < 65) by omega), (show 90 < i by omega), (show ¬ (i = 95) by omega), (show i < 97 by omega), (show ¬ (122 < i) by omega), (show i < 192 by omega), (show ¬ (214 < i) by omega), (show i < 216 by omega), (show ¬ (246 < i) by omega), (show i < 248 by omega), (show ¬ (767 < i) by omega), (show i < 880 by omega), (show ¬ (893 < i) by omega), (show i < 895 by omega), (show ¬ (8191 < i) by omega), (show i < 8204 by omega), (show ¬ (8205 < i) by omega), (show i < 8304 by omega), (show ¬ (8591 < i) by omega), (show i < 11264 by omega), (show ¬ (12271 < i) by omega), (show i < 12289 by omega), (show ¬ (55295 < i) by omega), (show i < 63744 by omega), (show ¬ (64975 < i) by omega), (show i < 65008 by omega), (show ¬ (65533 < i) by omega), (show i < 65536 by omega), (show ¬ (983039 < i) by omega), (show ¬ (i < 91) by omega), (show ¬ (94 < i) by omega), (show ¬ (i = 96) by omega), (show i < 123 by omega), (show ¬ (191 < i) by omega), (show ¬ (i = 215) by omega), (show ¬ (i = 247) by omega), (show i < 768 by omega), (show ¬ (879 < i) by omega), (show ¬ (i = 894) by omega), (show i < 8192 by omega), (show ¬ (8203 < i) by omega), (show i < 8206 by omega), (show ¬ (8303 < i) by omega), (show i < 8592 by omega), (show ¬ (11263 < i) by omega), (show i < 12272 by omega), (show ¬ (12288 < i) by omega), (show i < 55296 by omega), (show ¬ (63743 < i) by omega), (show i < 64976 by omega), (show ¬ (65007 < i) by omega), (show ¬ (i = 65534) by omega), (show ¬ (i = 65535) by omega), not_true_eq_false, not_false_eq_true, and_true, true_and, and_false, false_and, and_self, if_true, if_false, eq_self] <;> decide
  by_cases i5 : i < 94
  · simp only [own_stI, own_excI, (show ¬ (i < 65) by omega), (show 90 < i by omega), (show ¬ (i = 95) by omega), (show i < 97 by omega), (show ¬ (122 < i) by omega), (show i < 192 by omega), (show ¬ (214 < i) by omega), (show i < 216 by omega), (show ¬ (246 < i) by omega), (show i < 248 by omega), (show ¬ (767 < i) by omega), (show i < 880 by omega), (show ¬ (893 < i) by omega), (show i < 895 by omega), (show ¬ (8191 < i) by omega), (show i < 8204 by omega), (show ¬ (8205 < i) by omega), (show i < 8304 by omega), (show ¬ (8591 < i) by omega), (show i < 11264 by omega), (show ¬ (12271 < i) by omega), (show i < 12289 by omega), (show ¬ (55295 < i) by omega), (show i < 63744 by omega), (show ¬ (64975 < i) by omega), (show i < 65008 by omega), (show ¬ (65533 < i) by omega), (show i < 65536 by omega), (show ¬ (983039 < i) by omega), (show ¬ (i < 91) by omega), (show ¬ (94 < i) by omega), (show ¬ (i = 96) by omega), (show i < 123 by omega), (show ¬ (191 < i) by omega), (show ¬ (i = 215) by omega), (show ¬ (i = 247) by omega), (show i < 768 by omega), (show ¬ (879 < i) by omega), (show ¬ (i = 894) by omega), (show i < 8192 by omega), (show ¬ (8203 < i) by omega), (show i < 8206 by omega), (show ¬ (8303 < i) by omega), (show i < 8592 by omega), (show ¬ (11263 < i) by omega), (show i < 12272 by omega), (show ¬ (12288 < i) by omega), (show i < 55296 by omega), (show ¬ (63743 < i) by omega), (show i < 64976 by omega), (show ¬ (65007 < i) by omega), (show ¬ (i = 65534) by omega), (show ¬ (i = 65535) by omega), not_true_eq_false, not_false_eq_true, and_true, true_and, and_false, false_and, and_self, if_true, if_false, eq_self] <;> decide
  by_cases i6 : i < 95
  · simp only [own_stI, own_excI, (show ¬ (i < 65) by omega), (show 90 < i by omega), (show ¬ (i = 95) by omega), (show i < 97 by omega), (show ¬ (122 < i) by omega), (show i < 192 by omega), (show ¬ (214 < i) by omega), (show i < 216 by omega), (show ¬ (246 < i) by omega), (show i < 248 by omega), (show ¬ (767 < i) by omega), (show i < 880 by omega), (show ¬ (893 < i) by omega), (show i < 895 by omega), (show ¬ (8191 < i) by omega), (show i < 8204 by omega), (show ¬ (8205 < i) by omega), (show i < 8304 by omega), (show ¬ (8591 < i) by omega), (show i < 11264 by omega), (show ¬ (12271 < i) by omega), (show i < 12289 by omega), (show ¬ (55295 < i) by omega), (show i < 63744 by omega), (show ¬ (64975 < i) by omega), (show i < 65008 by omega), (show ¬ (65533 < i) by omega), (show i < 65536 by omega), (show ¬ (983039 < i) by omega), (show ¬ (i < 91) by omega), (show ¬ (94 < i) by omega), (show ¬ (i = 96) by omega), (show i < 123 by omega), (show ¬ (191 < i) by omega), (show ¬ (i = 215) by omega), (show ¬ (i = 247) by omega), (show i < 768 by omega), (show ¬ (879 < i) by omega), (show ¬ (i = 894) by omega), (show i < 8192 by omega), (show ¬ (8203 < i) by omega), (show i < 8206 by omega), (show ¬ (8303 < i) by omega), (show i < 8592 by omega), (show ¬ (11263 < i) by omega), (show i < 12272 by omega), (show ¬ (12288 < i) by omega), (show i < 55296 by omega), (show ¬ (63743 < i) by omega), (show i < 64976 by omega), (show ¬ (65007 < i) by omega), (show ¬ (i = 65534) by omega), (show ¬ (i = 65535) by omega), not_true_eq_false, not_false_eq_true, and_true, true_and, and_false, false_and, and_self, if_true, if_false, eq_self] <;> decide
  by_cases i7 : i < 96
  · simp only [own_stI, own_excI, (show ¬ (i < 65) by omega), (show 90 < i by omega), (show i = 95 by omega), (show i < 97 by omega), (show ¬ (122 < i) by omega), (show i < 192 by omega), (show ¬ (214 < i) by omega), (show i < 216 by omega), (show ¬ (246 < i) by omega), (show i < 248 by omega), (show ¬ (767 < i) by omega), (show i < 880 by omega), (show ¬ (893 < i) by omega), (show i < 895 by omega), (show ¬ (8191 < i) by omega), (show i < 8204 by omega), (show ¬ (8205 < i) by omega), (show i < 8304 by omega), (show ¬ (8591 < i) by omega), (show i < 11264 by omega), (show ¬ (12271 < i) by omega), (show i < 12289 by omega), (show ¬ (55295 < i) by omega), (show i < 63744 by omega), (show ¬ (64975 < i) by omega), (show i < 65008 by omega), (show ¬ (65533 < i) by omega), (show i < 65536 by omega), (show ¬ (983039 < i) by omega), (show ¬ (i < 91) by omega), (show 94 < i by omega), (show ¬ (i = 96) by omega), (show i < 123 by omega), (show ¬ (191 < i) by omega), (show ¬ (i = 215) by omega), (show ¬ (i = 247) by omega), (show i < 768 by omega), (show ¬ (879 < i) by omega), (show ¬ (i = 894) by omega), (show i < 8192 by omega), (show ¬ (8203 < i) by omega), (show i < 8206 by omega), (show ¬ (8303 < i) by omega), (show i < 8592 by omega), (show ¬ (11263 < i) by omega), (show i < 12272 by omega), (show ¬ (12288 < i) by omega), (show i < 55296 by omega), (show ¬ (63743 < i) by omega), (show i < 64976 by omega), (show ¬ (65007 < i) by omega), (show ¬ (i = 65534) by omega), (show ¬ (i = 65535) by omega), not_true_eq_false, not_false_eq_true, and_true, true_and, and_false, false_and, and_self, if_true, if_false, eq_self] <;> decide
  by_cases i8 : i < 97
  · simp only [own_stI, own_excI, (show ¬ (i < 65) by omega), (show 90 < i by omega), (show ¬ (i = 95) by omega), (show i < 97 by omega), (show ¬ (122 < i) by omega), (show i < 192 by omega), (show ¬ (214 < i) by omega), (show i < 216 by omega), (show ¬ (246 < i) by omega), (show i < 248 by omega), (show ¬ (767 < i) by omega), (show i < 880 by omega), (show ¬ (893 < i) by omega), (show i < 895 by omega), (show ¬ (8191 < i) by omega), (show i < 8204 by omega), (show ¬ (8205 < i) by omega), (show i < 8304 by omega), (show ¬ (8591 < i) by omega), (show i < 11264 by omega), (show ¬ (12271 < i) by omega), (show i < 12289 by omega), (show ¬ (55295 < i) by omega), (show i < 63744 by omega), (show ¬ (64975 < i) by omega), (show i < 65008 by omega), (show ¬ (65533 < i) by omega), (show i < 65536 by omega), (show ¬ (983039 < i) by omega), (show ¬ (i < 91) by omega), (show 94 < i by omega), (show i = 96 by omega), (show i < 123 by omega), (show ¬ (191 < i) by omega), (show ¬ (i = 215) by omega), (show ¬ (i = 247) by omega), (show i < 768 by omega), (show ¬ (879 < i) by omega), (show ¬ (i = 894) by omega), (show i < 8192 by omega), (show ¬ (8203 < i) by omega), (show i < 8206 by omega), (show ¬ (8303 < i) by omega), (show i < 8592 by omega), (show ¬ (11263 < i) by omega), (show i < 12272 by omega), (show ¬ (12288 < i) by omega), (show i < 55296 by omega), (show ¬ (63743 < i) by omega), (show i < 64976 by omega), (show ¬ (65007 < i) by omega), (show ¬ (i = 65534) by omega), (show ¬ (i = 65535) by omega), not_true_eq_false, not_false_eq_true, and_true, true_and, and_false, false_and, and_self, if_true, if_false, eq_self] <;> decide
  by_cases i9 : i < 98
  · simp only [own_stI, own_excI, (show ¬ (i < 65) by omega), (show 90 < i by omega), (show ¬ (i = 95) by omega), (show ¬ (i < 97) by omega), (show ¬ (122 < i) by omega), (show i < 192 by omega), (show ¬ (214 < i) by omega), (show i < 216 by omega), (show ¬ (246 < i) by omega), (show i < 248 by omega), (show ¬ (767 < i) by omega), (show i < 880 by omega), (show ¬ (893 < i) by omega), (show i < 895 by omega), (show ¬ (8191 < i) by omega), (show i < 8204 by omega), (show ¬ (8205 < i) by omega), (show i < 8304 by omega), (show ¬ (8591 < i) by omega), (show i < 11264 by omega), (show ¬ (12271 < i) by omega), (show i < 12289 by omega), (show ¬ (55295 < i) by omega), (show i < 63744 by omega), (show ¬ (64975 < i) by omega), (show i < 65008 by omega), (show ¬ (65533 < i) by omega), (show i < 65536 by omega), (show ¬ (983039 < i) by omega), (show ¬ (i < 91) by omega), (show 94 < i by omega), (show ¬ (i = 96) by omega), (show i < 123 by omega), (show ¬ (191 < i) by omega), (show ¬ (i = 215) by omega), (show ¬ (i = 247) by omega), (show i < 768 by omega), (show ¬ (879 < i) by omega), (show ¬ (i = 894) by omega), (show i < 8192 by omega), (show ¬ (8203 < i) by omega), (show i < 8206 by omega), (show ¬ (8303 < i) by omega), (show i < 8592 by omega), (show ¬ (11263 < i) by omega), (show i < 12272 by omega), (show ¬ (12288 < i) by omega), (show i < 55296 by omega), (show ¬ (63743 < i) by omega), (show i < 64976 by omega), (show ¬ (65007 < i) by omega), (show ¬ (i = 65534) by omega), (show ¬ (i = 65535) by omega), not_true_eq_false, not_false_eq_true, and_true, true_and, and_false, false_and, and_self, if_true, if_false, eq_self] <;> decide
  by_cases i10 : i < 122
  · simp only [own_stI, own_excI, (show ¬ (i < 65) by omega), (show 90 < i by omega), (show ¬ (i = 95) by omega), (show ¬ (i < 97) by omega), (show ¬ (122 < i) by omega), (show i < 192 by omega), (show ¬ (214 < i) by omega), (show i < 216 by omega), (show ¬ (246 < i) by omega), (show i < 248 by omega), (show ¬ (767 < i) by omega), (show i < 880 by omega), (show ¬ (893 < i) by omega), (show i < 895 by omega), (show ¬ (8191 < i) by omega), (show i < 8204 by omega), (show ¬ (8205 < i) by omega), (show i < 8304 by omega), (show ¬ (8591 < i) by omega), (show i < 11264 by omega), (show ¬ (12271 < i) by omega), (show i < 12289 by omega), (show ¬ (55295 < i) by omega), (show i < 63744 by omega), (show ¬ (64975 < i) by omega), (show i < 65008 by omega), (show ¬ (65533 < i) by omega), (show i < 65536 by omega), (show ¬ (983039 < i) by omega), (show ¬ (i < 91) by omega), (show 94 < i by omega), (show ¬ (i = 96) by omega), (show i < 123 by omega), (show ¬ (191 < i) by omega), (show ¬ (i = 215) by omega), (show ¬ (i = 247) by omega), (show i < 768 by omega), (show ¬ (879 < i) by omega), (show ¬ (i = 894) by omega), (show i < 8192 by omega), (show ¬ (8203 < i) by omega), (show i < 8206 by omega), (show ¬ (8303 < i) by omega), (show i < 8592 by omega), (show ¬ (11263 < i) by omega), (show i < 12272 by omega), (show ¬ (12288 < i) by omega), (show i < 55296 by omega), (show ¬ (63743 < i) by omega), (show i < 64976 by omega), (show ¬ (65007 < i) by omega), (show ¬ (i = 65534) by omega), (show ¬ (i = 65535) by omega), not_true_eq_false, not_false_eq_true, and_true, true_and, and_false, false_and, and_self, if_true, if_false, eq_self] <;> decide
  by_cases i11 : i < 123
  · simp only [own_stI, own_excI, (show ¬ (i < 65) by omega), (show 90 < i by omega), (show ¬ (i = 95) by omega), (show ¬ (i < 97) by omega), (show ¬ (122 < i) by omega), (show i < 192 by omega), (show ¬ (214 < i) by omega), (show i < 216 by omega), (show ¬ (246 < i) by omega), (show i < 248 by omega), (show ¬ (767 < i) by omega), (show i < 880 by omega), (show ¬ (893 < i) by omega), (show i < 895 by omega), (show ¬ (8191 < i) by omega), (show i < 8204 by omega), (show ¬ (8205 < i) by omega), (show i < 8304 by omega), (show ¬ (8591 < i) by omega), (show i < 11264 by omega), (show ¬ (12271 < i) by omega), (show i < 12289 by omega), (show ¬ (55295 < i) by omega), (show i < 63744 by omega), (show ¬ (64975 < i) by omega), (show i < 65008 by omega), (show ¬ (65533 < i) by omega), (show i < 65536 by omega), (show ¬ (983039 < i) by omega), (show ¬ (i < 91) by omega), (show 94 < i by omega), (show ¬ (i = 96) by omega), (show i < 123 by omega), (show ¬ (191 < i) by omega), (show ¬ (i = 215) by omega), (show ¬ (i = 247) by omega), (show i < 768 by omega), (show ¬ (879 < i) by omega), (show ¬ (i = 894) by omega), (show i < 8192 by omega), (show ¬ (8203 < i) by omega), (show i < 8206 by omega), (show ¬ (8303 < i) by omega), (show i < 8592 by omega), (show ¬ (11263 < i) by omega), (show i < 12272 by omega), (show ¬ (12288 < i) by omega), (show i < 55296 by omega), (show ¬ (63743 < i) by omega), (show i < 64976 by omega), (show ¬ (65007 < i) by omega), (show ¬ (i = 65534) by omega), (show ¬ (i = 65535) by omega), not_true_eq_false, not_false_eq_true, and_true, true_and, and_false, false_and, and_self, if_true, if_false, eq_self] <;> decide
  by_cases i12 : i < 124
  · simp only [own_stI, own_excI, (show ¬ (i < 65) by omega), (show 90 < i by omega), (show ¬ (i = 95) by omega), (show ¬ (i < 97) by omega), (show 122 < i by omega), (show i < 192 by omega), (show ¬ (214 < i) by omega), (show i < 216 by omega), (show ¬ (246 < i) by omega), (show i < 248 by omega), (show ¬ (767 < i) by omega), (show i < 880 by omega), (show ¬ (893 < i) by omega), (show i < 895 by omega), (show ¬ (8191 < i) by omega), (show i < 8204 by omega), (show ¬ (8205 < i) by omega), (show i < 8304 by omega), (show ¬ (8591 < i) by omega), (show i < 11264 by omega), (show ¬ (12271 < i) by omega), (show i < 12289 by omega), (show ¬ (55295 < i) by omega), (show i < 63744 by omega), (show ¬ (64975 < i) by omega), (show i < 65008 by omega), (show ¬ (65533 < i) by omega), (show i < 65536 by omega), (show ¬ (983039 < i) by omega), (show ¬ (i < 91) by omega), (show 94 < i by omega), (show ¬ (i = 96) by omega), (show ¬ (i < 123) by omega), (show ¬ (191 < i) by omega), (show ¬ (i = 215) by omega), (show ¬ (i = 247) by omega), (show i < 768 by omega), (show ¬ (879 < i) by omega), (show ¬ (i = 894) by omega), (show i < 8192 by omega), (show ¬ (8203 < i) by omega), (show i < 8206 by omega), (show ¬ (8303 < i) by omega), (show i < 8592 by omega), (show ¬ (11263 < i) by omega), (show i < 12272 by omega), (show ¬ (12288 < i) by omega), (show i < 55296 by omega), (show ¬ (63743 < i) by omega), (show i < 64976 by omega), (show ¬ (65007 < i) by omega), (show ¬ (i = 65534) by omega), (show ¬ (i = 65535) by omega), not_true_eq_false, not_false_eq_true, and_true, true_and, and_false, false_and, and_self, if_true, if_false, eq_self] <;> decide
  by_cases i13 : i < 191
  · simp only [own_stI, own_excI, (show ¬ (i < 65) by omega), (show 90 < i by omega), (show ¬ (i = 95) by omega), (show ¬ (i < 97) by omega), (show 122 < i by omega), (show i < 192 by omega), (show ¬ (214 < i) by omega), (show i < 216 by omega), (show ¬ (246 < i) by omega), (show i < 248 by omega), (show ¬ (767 < i) by omega), (show i < 880 by omega), (show ¬ (893 < i) by omega), (show i < 895 by omega), (show ¬ (8191 < i) by omega), (show i < 8204 by omega), (show ¬ (8205 < i) by omega), (show i < 8304 by omega), (show ¬ (8591 < i) by omega), (show i < 11264 by omega), (show ¬ (12271 < i) by omega), (show i < 12289 by omega), (show ¬ (55295 < i) by omega), (show i < 63744 by omega), (show ¬ (64975 < i) by omega), (show i < 65008 by omega), (show ¬ (65533 < i) by omega), (show i < 65536 by omega), (show ¬ (983039 < i) by omega), (show ¬ (i < 91) by omega), (show 94 < i by omega), (show ¬ (i = 96) by omega), (show ¬ (i < 123) by omega), (show ¬ (191 < i) by omega), (show ¬ (i = 215) by omega), (show ¬ (i = 247) by omega), (show i < 768 by omega), (show ¬ (879 < i) by omega), (show ¬ (i = 894) by omega), (show i < 8192 by omega), (show ¬ (8203 < i) by omega), (show i < 8206 by omega), (show ¬ (8303 < i) by omega), (show i < 8592 by omega), (show ¬ (11263 < i) by omega), (show i < 12272 by omega), (show ¬ (12288 < i) by omega), (show i < 55296 by omega), (show ¬ (63743 < i) by omega), (show i < 64976 by omega), (show ¬ (65007 < i) by omega), (show ¬ (i = 65534) by omega), (show ¬ (i = 65535) by omega), not_true_eq_false, not_false_eq_true, and_true, true_and, and_false, false_and, and_self, if_true, if_false, eq_self] <;> decide
  by_cases i14 : i < 192
  · simp only [own_stI, own_excI, (show ¬ (i < 65) by omega), (show 90 < i by omega), (show ¬ (i = 95) by omega), (show ¬ (i < 97) by omega), (show 122 < i by omega), (show i < 192 by omega), (show ¬ (214 < i) by omega), (show i < 216 by omega), (show ¬ (246 < i) by omega), (show i < 248 by omega), (show ¬ (767 < i) by omega), (show i < 880 by omega), (show ¬ (893 < i) by omega), (show i < 895 by omega), (show ¬ (8191 < i) by omega), (show i < 8204 by omega), (show ¬ (8205 < i) by omega), (show i < 8304 by omega), (show ¬ (8591 < i) by omega), (show i < 11264 by omega), (show ¬ (12271 < i) by omega), (show i < 12289 by omega), (show ¬ (55295 < i) by omega), (show i < 63744 by omega), (show ¬ (64975 < i) by omega), (show i < 65008 by omega), (show ¬ (65533 < i) by omega), (show i < 65536 by omega), (show ¬ (983039 < i) by omega), (show ¬ (i < 91) by omega), (show 94 < i by omega), (show ¬ (i = 96) by omega), (show ¬ (i < 123) by omega), (show ¬ (191 < i) by omega), (show ¬ (i = 215) by omega), (show ¬ (i = 247) by omega), (show i < 768 by omega), (show ¬ (879 < i) by omega), (show ¬ (i = 894) by omega), (show i < 8192 by omega), (show ¬ (8203 < i) by omega), (show i < 8206 by omega), (show ¬ (8303 < i) by omega), (show i < 8592 by omega), (show ¬ (11263 < i) by omega), (show i < 12272 by omega), (show ¬ (12288 < i) by omega), (show i < 55296 by omega), (show ¬ (63743 < i) by omega), (show i < 64976 by omega), (show ¬ (65007 < i) by omega), (show ¬ (i = 65534) by omega), (show ¬ (i = 65535) by omega), not_true_eq_false, not_false_eq_true, and_true, true_and, and_false, false_and, and_self, if_true, if_false, eq_self] <;> decide
  by_cases i15 : i < 193
  · simp only [own_stI, own_excI, (show ¬ (i < 65) by omega), (show 90 < i by omega), (show ¬ (i = 95) by omega), (show ¬ (i < 97) by omega), (show 122 < i by omega), (show ¬ (i < 192) by omega), (show ¬ (214 < i) by omega), (show i < 216 by omega), (show ¬ (246 < i) by omega), (show i < 248 by omega), (show ¬ (767 < i) by omega), (show i < 880 by omega), (show ¬ (893 < i) by omega), (show i < 895 by omega), (show ¬ (8191 < i) by omega), (show i < 8204 by omega), (show ¬ (8205 < i) by omega), (show i < 8304 by omega), (show ¬ (8591 < i) by omega), (show i < 11264 by omega), (show ¬ (12271 < i) by omega), (show i < 12289 by omega), (show ¬ (55295 < i) by omega), (show i < 63744 by omega), (show ¬ (64975 < i) by omega), (show i < 65008 by omega), (show ¬ (65533 < i) by omega), (show i < 65536 by omega), (show ¬ (983039 < i) by omega), (show ¬ (i < 91) by omega), (show 94 < i by omega), (show ¬ (i = 96) by omega), (show ¬ (i < 123) by omega), (show 191 < i by omega), (show ¬ (i = 215) by omega), (show ¬ (i = 247) by omega), (show i < 768 by omega), (show ¬ (879 < i) by omega), (show ¬ (i = 894) by omega), (show i < 8192 by omega), (show ¬ (8203 < i) by omega), (show i < 8206 by omega), (show ¬ (8303 < i) by omega), (show i < 8592 by omega), (show ¬ (11263 < i) by omega), (show i < 12272 by omega), (show ¬ (12288 < i) by omega), (show i < 55296 by omega), (show ¬ (63743 < i) by omega), (show i < 64976 by omega), (show ¬ (65007 < i) by omega), (show ¬ (i = 65534) by omega), (show ¬ (i = 65535) by omega), not_true_eq_false, not_false_eq_true, and_true, true_and, and_false, false_and, and_self, if_true, if_false, eq_self] <;> decide
  by_cases i16 : i < 214
  · simp only [own_stI, own_excI, (show ¬ (i < 65) by omega), (show 90 < i by omega), (show ¬ (i = 95) by omega), (show ¬ (i < 97) by omega), (show 122 < i by omega), (show ¬ (i < 192) by omega), (show ¬ (214 < i) by omega), (show i < 216 by omega), (show ¬ (246 < i) by omega), (show i < 248 by omega), (show ¬ (767 < i) by omega), (show i < 880 by omega), (show ¬ (893 < i) by omega), (show i < 895 by omega), (show ¬ (8191 < i) by omega), (show i < 8204 by omega), (show ¬ (8205 < i) by omega), (show i < 8304 by omega), (show ¬ (8591 < i) by omega), (show i < 11264 by omega), (show ¬ (12271 < i) by omega), (show i < 12289 by omega), (show ¬ (55295 < i) by omega), (show i < 63744 by omega), (show ¬ (64975 < i) by omega), (show i < 65008 by omega), (show ¬ (65533 < i) by omega), (show i < 65536 by omega), (show ¬ (983039 < i) by omega), (show ¬ (i < 91) by omega), (show 94 < i by omega), (show ¬ (i = 96) by omega), (show ¬ (i < 123) by omega), (show 191 < i by omega), (show ¬ (i = 215) by omega), (show ¬ (i = 247) by omega), (show i < 768 by omega), (show ¬ (879 < i) by omega), (show ¬ (i = 894) by omega), (show i < 8192 by omega), (show ¬ (8203 < i) by omega), (show i < 8206 by omega), (show ¬ (8303 < i) by omega), (show i < 8592 by omega), (show ¬ (11263 < i) by omega), (show i < 12272 by omega), (show ¬ (12288 < i) by omega), (show i < 55296 by omega), (show ¬ (63743 < i) by omega), (show i < 64976 by omega), (show ¬ (65007 < i) by omega), (show ¬ (i = 65534) by omega), (show ¬ (i = 65535) by omega), not_true_eq_false, not_false_eq_true, and_true, true_and, and_false, false_and, and_self, if_true, if_false, eq_self] <;> decide
  by_cases i17 : i < 215
  · simp only [own_stI, own_excI, (show ¬ (i < 65) by omega), (show 90 < i by omega), (show ¬ (i = 95) by omega), (show ¬ (i < 97) by omega), (show 122 < i by omega), (show ¬ (i < 192) by omega), (show ¬ (214 < i) by omega), (show i < 216 by omega), (show ¬ (246 < i) by omega), (show i < 248 by omega), (show ¬ (767 < i) by omega), (show i < 880 by omega), (show ¬ (893 < i) by omega), (show i < 895 by omega), (show ¬ (8191 < i) by omega), (show i < 8204 by omega), (show ¬ (8205 < i) by omega), (show i < 8304 by omega), (show ¬ (8591 < i) by omega), (show i < 11264 by omega), (show ¬ (12271 < i) by omega), (show i < 12289 by omega), (show ¬ (55295 < i) by omega), (show i < 63744 by omega), (show ¬ (64975 < i) by omega), (show i < 65008 by omega), (show ¬ (65533 < i) by omega), (show i < 65536 by omega), (show ¬ (983039 < i) by omega), (show ¬ (i < 91) by omega), (show 94 < i by omega), (show ¬ (i = 96) by omega), (show ¬ (i < 123) by omega), (show 191 < i by omega), (show ¬ (i = 215) by omega), (show ¬ (i = 247) by omega), (show i < 768 by omega), (show ¬ (879 < i) by omega), (show ¬ (i = 894) by omega), (show i < 8192 by omega), (show ¬ (8203 < i) by omega), (show i < 8206 by omega), (show ¬ (8303 < i) by omega), (show i < 8592 by omega), (show ¬ (11263 < i) by omega), (show i < 12272 by omega), (show ¬ (12288 < i) by omega), (show i < 55296 by omega), (show ¬ (63743 < i) by omega), (show i < 64976 by omega), (show ¬ (65007 < i) by omega), (show ¬ (i = 65534) by omega), (show ¬ (i = 65535) by omega), not_true_eq_false, not_false_eq_true, and_true, true_and, and_false, false_and, and_self, if_true, if_false, eq_self] <;> decide
  by_cases i18 : i < 216
  · simp only [own_stI, own_excI, (show ¬ (i < 65) by omega), (show 90 < i by omega), (show ¬ (i = 95) by omega), (show ¬ (i < 97) by omega), (show 122 < i by omega), (show ¬ (i < 192) by omega), (show 214 < i by omega), (show i < 216 by omega), (show ¬ (246 < i) by omega), (show i < 248 by omega), (show ¬ (767 < i) by omega), (show i < 880 by omega), (show ¬ (893 < i) by omega), (show i < 895 by omega), (show ¬ (8191 < i) by omega), (show i < 8204 by omega), (show ¬ (8205 < i) by omega), (show i < 8304 by omega), (show ¬ (8591 < i) by omega), (show i < 11264 by omega), (show ¬ (12271 < i) by omega), (show i < 12289 by omega), (show ¬ (55295 < i) by omega), (show i < 63744 by omega), (show ¬ (64975 < i) by omega), (show i < 65008 by omega), (show ¬ (65533 < i) by omega), (show i < 65536 by omega), (show ¬ (983039 < i) by omega), (show ¬ (i < 91) by omega), (show 94 < i by omega), (show ¬ (i = 96) by omega), (show ¬ (i < 123) by omega), (show 191 < i by omega), (show i = 215 by omega), (show ¬ (i = 247) by omega), (show i < 768 by omega), (show ¬ (879 < i) by omega), (show ¬ (i = 894) by omega), (show i < 8192 by omega), (show ¬ (8203 < i) by omega), (show i < 8206 by omega), (show ¬ (8303 < i) by omega), (show i < 8592 by omega), (show ¬ (11263 < i) by omega), (show i < 12272 by omega), (show ¬ (12288 < i) by omega), (show i < 55296 by omega), (show ¬ (63743 < i) by omega), (show i < 64976 by omega), (show ¬ (65007 < i) by omega), (show ¬ (i = 65534) by omega), (show ¬ (i = 65535) by omega), not_true_eq_false, not_false_eq_true, and_true, true_and, and_false, false_and, and_self, if_true, if_false, eq_self] <;> decide
  by_cases i19 : i < 217
  · simp only [own_stI, own_excI, (show ¬ (i < 65) by omega), (show 90 < i by omega), (show ¬ (i = 95) by omega), (show ¬ (i < 97) by omega), (show 122 < i by omega), (show ¬ (i < 192) by omega), (show 214 < i by omega), (show ¬ (i < 216) by omega), (show ¬ (246 < i) by omega), (show i < 248 by omega), (show ¬ (767 < i) by omega), (show i < 880 by omega), (show ¬ (893 < i) by omega), (show i < 895 by omega), (show ¬ (8191 < i) by omega), (show i < 8204 by omega), (show ¬ (8205 < i) by omega), (show i < 8304 by omega), (show ¬ (8591 < i) by omega), (show i < 11264 by omega), (show ¬ (12271 < i) by omega), (show i < 12289 by omega), (show ¬ (55295 < i) by omega), (show i < 63744 by omega), (show ¬ (64975 < i) by omega), (show i < 65008 by omega), (show ¬ (65533 < i) by omega), (show i < 65536 by omega), (show ¬ (983039 < i) by omega), (show ¬ (i < 91) by omega), (show 94 < i by omega), (show ¬ (i = 96) by omega), (show ¬ (i < 123) by omega), (show 191 < i by omega), (show ¬ (i = 215) by omega), (show ¬ (i = 247) by omega), (show i < 768 by omega), (show ¬ (879 < i) by omega), (show ¬ (i = 894) by omega), (show i < 8192 by omega), (show ¬ (8203 < i) by omega), (show i < 8206 by omega), (show ¬ (8303 < i) by omega), (show i < 8592 by omega), (show ¬ (11263 < i) by omega), (show i < 12272 by omega), (show ¬ (12288 < i) by omega), (show i < 55296 by omega), (show ¬ (63743 < i) by omega), (show i < 64976 by omega), (show ¬ (65007 < i) by omega), (show ¬ (i = 65534) by omega), (show ¬ (i = 65535) by omega), not_true_eq_false, not_false_eq_true, and_true, true_and, and_false, false_and, and_self, if_true, if_false, eq_self] <;> decide
  by_cases i20 : i < 246
  · simp only [own_stI, own_excI, (show ¬ (i < 65) by omega), (show 90 < i by omega), (show ¬ (i = 95) by omega), (show ¬ (i < 97) by omega), (show 122 < i by omega), (show ¬ (i < 192) by omega), (show 214 < i by omega), (show ¬ (i < 216) by omega), (show ¬ (246 < i) by omega), (show i < 248 by omega), (show ¬ (767 < i) by omega), (show i < 880 by omega), (show ¬ (893 < i) by omega), (show i < 895 by omega), (show ¬ (8191 < i) by omega), (show i < 8204 by omega), (show ¬ (8205 < i) by omega), (show i < 8304 by omega), (show ¬ (8591 < i) by omega), (show i < 11264 by omega), (show ¬ (12271 < i) by omega), (show i < 12289 by omega), (show ¬ (55295 < i) by omega), (show i < 63744 by omega), (show ¬ (64975 < i) by omega), (show i < 65008 by omega), (show ¬ (65533 < i) by omega), (show i < 65536 by omega), (show ¬ (983039 < i) by omega), (show ¬ (i < 91) by omega), (show 94 < i by omega), (show ¬ (i = 96) by omega), (show ¬ (i < 123) by omega), (show 191 < i by omega), (show ¬ (i = 215) by omega), (show ¬ (i = 247) by omega), (show i < 768 by omega), (show ¬ (879 < i) by omega), (show ¬ (i = 894) by omega), (show i < 8192 by omega), (show ¬ (8203 < i) by omega), (show i < 8206 by omega), (show ¬ (8303 < i) by omega), (show i < 8592 by omega), (show ¬ (11263 < i) by omega), (show i < 12272 by omega), (show ¬ (12288 < i) by omega), (show i < 55296 by omega), (show ¬ (63743 < i) by omega), (show i < 64976 by omega), (show ¬ (65007 < i) by omega), (show ¬ (i = 65534) by omega), (show ¬ (i = 65535) by omega), not_true_eq_false, not_false_eq_true, and_true, true_and, and_false, false_and, and_self, if_true, if_false, eq_self] <;> decide
  by_cases i21 : i < 247
  · simp only [own_stI, own_excI, (show ¬ (i < 65) by omega), (show 90 < i by omega), (show ¬ (i = 95) by omega), (show ¬ (i < 97) by omega), (show 122 < i by omega), (show ¬ (i < 192) by omega), (show 214 < i by omega), (show ¬ (i < 216) by omega), (show ¬ (246 < i) by omega), (show i < 248 by omega), (show ¬ (767 < i) by omega), (show i < 880 by omega), (show ¬ (893 < i) by omega), (show i < 895 by omega), (show ¬ (8191 < i) by omega), (show i < 8204 by omega), (show ¬ (8205 < i) by omega), (show i < 8304 by omega), (show ¬ (8591 < i) by omega), (show i < 11264 by omega), (show ¬ (12271 < i) by omega), (show i < 12289 by omega), (show ¬ (55295 < i) by omega), (show i < 63744 by omega), (show ¬ (64975 < i) by omega), (show i < 65008 by omega), (show ¬ (65533 < i) by omega), (show i < 65536 by omega), (show ¬ (983039 < i) by omega), (show ¬ (i < 91) by omega), (show 94 < i by omega), (show ¬ (i = 96) by omega), (show ¬ (i < 123) by omega), (show 191 < i by omega), (show ¬ (i = 215) by omega), (show ¬ (i = 247) by omega), (show i < 768 by omega), (show ¬ (879 < i) by omega), (show ¬ (i = 894) by omega), (show i < 8192 by omega), (show ¬ (8203 < i) by omega), (show i < 8206 by omega), (show ¬ (8303 < i) by omega), (show i < 8592 by omega), (show ¬ (11263 < i) by omega), (show i < 12272 by omega), (show ¬ (12288 < i) by omega), (show i < 55296 by omega), (show ¬ (63743 < i) by omega), (show i < 64976 by omega), (show ¬ (65007 < i) by omega), (show ¬ (i = 65534) by omega), (show ¬ (i = 65535) by omega), not_true_eq_false, not_false_eq_true, and_true, true_and, and_false, false_and, and_self, if_true, if_false, eq_self] <;> decide
  by_cases i22 : i < 248
  · simp only [own_stI, own_excI, (show ¬ (i < 65) by omega), (show 90 < i by omega), (show ¬ (i = 95) by omega), (show ¬ (i < 97) by omega), (show 122 < i by omega), (show ¬ (i < 192) by omega), (show 214 < i by omega), (show ¬ (i < 216) by omega), (show 246 < i by omega), (show i < 248 by omega), (show ¬ (767 < i) by omega), (show i < 880 by omega), (show ¬ (893 < i) by omega), (show i < 895 by omega), (show ¬ (8191 < i) by omega), (show i < 8204 by omega), (show ¬ (8205 < i) by omega), (show i < 8304 by omega), (show ¬ (8591 < i) by omega), (show i < 11264 by omega), (show ¬ (12271 < i) by omega), (show i < 12289 by omega), (show ¬ (55295 < i) by omega), (show i < 63744 by omega), (show ¬ (64975 < i) by omega), (show i < 65008 by omega), (show ¬ (65533 < i) by omega), (show i < 65536 by omega), (show ¬ (983039 < i) by omega), (show ¬ (i < 91) by omega), (show 94 < i by omega), (show ¬ (i = 96) by omega), (show ¬ (i < 123) by omega), (show 191 < i by omega), (show ¬ (i = 215) by omega), (show i = 247 by omega), (show i < 768 by omega), (show ¬ (879 < i) by omega), (show ¬ (i = 894) by omega), (show i < 8192 by omega), (show ¬ (8203 < i) by omega), (show i < 8206 by omega), (show ¬ (8303 < i) by omega), (show i < 8592 by omega), (show ¬ (11263 < i) by omega), (show i < 12272 by omega), (show ¬ (12288 < i) by omega), (show i < 55296 by omega), (show ¬ (63743 < i) by omega), (show i < 64976 by omega), (show ¬ (65007 < i) by omega), (show ¬ (i = 65534) by omega), (show ¬ (i = 65535) by omega), not_true_eq_false, not_false_eq_true, and_true, true_and, and_false, false_and, and_self, if_true, if_false, eq_self] <;> decide
  by_cases i23 : i < 249
  · simp only [own_stI, own_excI, (show ¬ (i < 65) by omega), (show 90 < i by omega), (show ¬ (i = 95) by omega), (show ¬ (i < 97) by omega), (show 122 < i by omega), (show ¬ (i < 192) by omega), (show 214 < i by omega), (show ¬ (i < 216) by omega), (show 246 < i by omega), (show ¬ (i < 248) by omega), (show ¬ (767 < i) by omega), (show i < 880 by omega), (show ¬ (893 < i) by omega), (show i < 895 by omega), (show ¬ (8191 < i) by omega), (show i < 8204 by omega), (show ¬ (8205 < i) by omega), (show i < 8304 by omega), (show ¬ (8591 < i) by omega), (show i < 11264 by omega), (show ¬ (12271 < i) by omega), (show i < 12289 by omega), (show ¬ (55295 < i) by omega), (show i < 63744 by omega), (show ¬ (64975 < i) by omega), (show i < 65008 by omega), (show ¬ (65533 < i) by omega), (show i < 65536 by omega), (show ¬ (983039 < i) by omega), (show ¬ (i < 91) by omega), (show 94 < i by omega), (show ¬ (i = 96) by omega), (show ¬ (i < 123) by omega), (show 191 < i by omega), (show ¬ (i = 215) by omega), (show ¬ (i = 247) by omega), (show i < 768 by omega), (show ¬ (879 < i) by omega), (show ¬ (i = 894) by omega), (show i < 8192 by omega), (show ¬ (8203 < i) by omega), (show i < 8206 by omega), (show ¬ (8303 < i) by omega), (show i < 8592 by omega), (show ¬ (11263 < i) by omega), (show i < 12272 by omega), (show ¬ (12288 < i) by omega), (show i < 55296 by omega), (show ¬ (63743 < i) by omega), (show i < 64976 by omega), (show ¬ (65007 < i) by omega), (show ¬ (i = 65534) by omega), (show ¬ (i = 65535) by omega), not_true_eq_false, not_false_eq_true, and_true, true_and, and_false, false_and, and_self, if_true, if_false, eq_self] <;> decide
  by_cases i24 : i < 767
  · simp only [own_stI, own_excI, (show ¬ (i < 65) by omega), (show 90 < i by omega), (show ¬ (i = 95) by omega), (show ¬ (i < 97) by omega), (show 122 < i by omega), (show ¬ (i < 192) by omega), (show 214 < i by omega), (show ¬ (i < 216) by omega), (show 246 < i by omega), (show ¬ (i < 248) by omega), (show ¬ (767 < i) by omega), (show i < 880 by omega), (show ¬ (893 < i) by omega), (show i < 895 by omega), (show ¬ (8191 < i) by omega), (show i < 8204 by omega), (show ¬ (8205 < i) by omega), (show i < 8304 by omega), (show ¬ (8591 < i) by omega), (show i < 11264 by omega), (show ¬ (12271 < i) by omega), (show i < 12289 by omega), (show ¬ (55295 < i) by omega), (show i < 63744 by omega), (show ¬ (64975 < i) by omega), (show i < 65008 by omega), (show ¬ (65533 < i) by omega), (show i < 65536 by omega), (show ¬ (983039 < i) by omega), (show ¬ (i < 91) by omega), (show 94 < i by omega), (show ¬ (i = 96) by omega), (show ¬ (i < 123) by omega), (show 191 < i by omega), (show ¬ (i = 215) by omega), (show ¬ (i = 247) by omega), (show i < 768 by omega), (show ¬ (879 < i) by omega), (show ¬ (i = 894) by omega), (show i < 8192 by omega), (show ¬ (8203 < i) by omega), (show i < 8206 by omega), (show ¬ (8303 < i) by omega), (show i < 8592 by omega), (show ¬ (11263 < i) by omega), (show i < 12272 by omega), (show ¬ (12288 < i) by omega), (show i < 55296 by omega), (show ¬ (63743 < i) by omega), (show i < 64976 by omega), (show ¬ (65007 < i) by omega), (show ¬ (i = 65534) by omega), (show ¬ (i = 65535) by omega), not_true_eq_false, not_false_eq_true, and_true, true_and, and_false, false_and, and_self, if_true, if_false, eq_self] <;> decide
  by_cases i25 : i < 768
  · simp only [own_stI, own_excI, (show ¬ (i < 65) by omega), (show 90 < i by omega), (show ¬ (i = 95) by omega), (show ¬ (i < 97) by omega), (show 122 < i by omega), (show ¬ (i < 192) by omega), (show 214 < i by omega), (show ¬ (i < 216) by omega), (show 246 < i by omega), (show ¬ (i < 248) by omega), (show ¬ (767 < i) by omega), (show i < 880 by omega), (show ¬ (893 < i) by omega), (show i < 895 by omega), (show ¬ (8191 < i) by omega), (show i < 8204 by omega), (show ¬ (8205 < i) by omega), (show i < 8304 by omega), (show ¬ (8591 < i) by omega), (show i < 11264 by omega), (show ¬ (12271 < i) by omega), (show i < 12289 by omega), (show ¬ (55295 < i) by omega), (show i < 63744 by omega), (show ¬ (64975 < i) by omega), (show i < 65008 by omega), (show ¬ (65533 < i) by omega), (show i < 65536 by omega), (show ¬ (983039 < i) by omega), (show ¬ (i < 91) by omega), (show 94 < i by omega), (show ¬ (i = 96) by omega), (show ¬ (i < 123) by omega), (show 191 < i by omega), (show ¬ (i = 215) by omega), (show ¬ (i = 247) by omega), (show i < 768 by omega), (show ¬ (879 < i) by omega), (show ¬ (i = 894) by omega), (show i < 8192 by omega), (show ¬ (8203 < i) by omega), (show i < 8206 by omega), (show ¬ (8303 < i) by omega), (show i < 8592 by omega), (show ¬ (11263 < i) by omega), (show i < 12272 by omega), (show ¬ (12288 < i) by omega), (show i < 55296 by omega), (show ¬ (63743 < i) by omega), (show i < 64976 by omega), (show ¬ (65007 < i) by omega), (show ¬ (i = 65534) by omega), (show ¬ (i = 65535) by omega), not_true_eq_false, not_false_eq_true, and_true, true_and, and_false, false_and, and_self, if_true, if_false, eq_self] <;> decide
  by_cases i26 : i < 769
  · simp only [own_stI, own_excI, (show ¬ (i < 65) by omega), (show 90 < i by omega), (show ¬ (i = 95) by omega), (show ¬ (i < 97) by omega), (show 122 < i by omega), (show ¬ (i < 192) by omega), (show 214 < i by omega), (show ¬ (i < 216) by omega), (show 246 < i by omega), (show ¬ (i < 248) by omega), (show 767 < i by omega), (show i < 880 by omega), (show ¬ (893 < i) by omega), (show i < 895 by omega), (show ¬ (8191 < i) by omega), (show i < 8204 by omega), (show ¬ (8205 < i) by omega), (show i < 8304 by omega), (show ¬ (8591 < i) by omega), (show i < 11264 by omega), (show ¬ (12271 < i) by omega), (show i < 12289 by omega), (show ¬ (55295 < i) by omega), (show i < 63744 by omega), (show ¬ (64975 < i) by omega), (show i < 65008 by omega), (show ¬ (65533 < i) by omega), (show i < 65536 by omega), (show ¬ (983039 < i) by omega), (show ¬ (i < 91) by omega), (show 94 < i by omega), (show ¬ (i = 96) by omega), (show ¬ (i < 123) by omega), (show 191 < i by omega), (show ¬ (i = 215) by omega), (show ¬ (i = 247) by omega), (show ¬ (i < 768) by omega), (show ¬ (879 < i) by omega), (show ¬ (i = 894) by omega), (show i < 8192 by omega), (show ¬ (8203 < i) by omega), (show i < 8206 by omega), (show ¬ (8303 < i) by omega), (show i < 8592 by omega), (show ¬ (11263 < i) by omega), (show i < 12272 by omega), (show ¬ (12288 < i) by omega), (show i < 55296 by omega), (show ¬ (63743 < i) by omega), (show i < 64976 by omega), (show ¬ (65007 < i) by omega), (show ¬ (i = 65534) by omega), (show ¬ (i = 65535) by omega), not_true_eq_false, not_false_eq_true, and_true, true_and, and_false, false_and, and_self, if_true, if_false, eq_self] <;> decide
  by_cases i27 : i < 879
  · simp only [own_stI, own_excI, (show ¬ (i < 65) by omega), (show 90 < i by omega), (show ¬ (i = 95) by omega), (show ¬ (i < 97) by omega), (show 122 < i by omega), (show ¬ (i < 192) by omega), (show 214 < i by omega), (show ¬ (i < 216) by omega), (show 246 < i by omega), (show ¬ (i < 248) by omega), (show 767 < i by omega), (show i < 880 by omega), (show ¬ (893 < i) by omega), (show i < 895 by omega), (show ¬ (8191 < i) by omega), (show i < 8204 by omega), (show ¬ (8205 < i) by omega), (show i < 8304 by omega), (show ¬ (8591 < i) by omega), (show i < 11264 by omega), (show ¬ (12271 < i) by omega), (show i < 12289 by omega), (show ¬ (55295 < i) by omega), (show i < 63744 by omega), (show ¬ (64975 < i) by omega), (show i < 65008 by omega), (show ¬ (65533 < i) by omega), (show i < 65536 by omega), (show ¬ (983039 < i) by omega), (show ¬ (i < 91) by omega), (show 94 < i by omega), (show ¬ (i = 96) by omega), (show ¬ (i < 123) by omega), (show 191 < i by omega), (show ¬ (i = 215) by omega), (show ¬ (i = 247) by omega), (show ¬ (i < 768) by omega), (show ¬ (879 < i) by omega), (show ¬ (i = 894) by omega), (show i < 8192 by omega), (show ¬ (8203 < i) by omega), (show i < 8206 by omega), (show ¬ (8303 < i) by omega), (show i < 8592 by omega), (show ¬ (11263 < i) by omega), (show i < 12272 by omega), (show ¬ (12288 < i) by omega), (show i < 55296 by omega), (show ¬ (63743 < i) by omega), (show i < 64976 by omega), (show ¬ (65007 < i) by omega), (show ¬ (i = 65534) by omega), (show ¬ (i = 65535) by omega), not_true_eq_false, not_false_eq_true, and_true, true_and, and_false, false_and, and_self, if_true, if_false, eq_self] <;> decide
  by_cases i28 : i < 880
  · simp only [own_stI, own_excI, (show ¬ (i < 65) by omega), (show 90 < i by omega), (show ¬ (i = 95) by omega), (show ¬ (i < 97) by omega), (show 122 < i by omega), (show ¬ (i < 192) by omega), (show 214 < i by omega), (show ¬ (i < 216) by omega), (show 246 < i by omega), (show ¬ (i < 248) by omega), (show 767 < i by omega), (show i < 880 by omega), (show ¬ (893 < i) by omega), (show i < 895 by omega), (show ¬ (8191 < i) by omega), (show i < 8204 by omega), (show ¬ (8205 < i) by omega), (show i < 8304 by omega), (show ¬ (8591 < i) by omega), (show i < 11264 by omega), (show ¬ (12271 < i) by omega), (show i < 12289 by omega), (show ¬ (55295 < i) by omega), (show i < 63744 by omega), (show ¬ (64975 < i) by omega), (show i < 65008 by omega), (show ¬ (65533 < i) by omega), (show i < 65536 by omega), (show ¬ (983039 < i) by omega), (show ¬ (i < 91) by omega), (show 94 < i by omega), (show ¬ (i = 96) by omega), (show ¬ (i < 123) by omega), (show 191 < i by omega), (show ¬ (i = 215) by omega), (show ¬ (i = 247) by omega), (show ¬ (i < 768) by omega), (show ¬ (879 < i) by omega), (show ¬ (i = 894) by omega), (show i < 8192 by omega), (show ¬ (8203 < i) by omega), (show i < 8206 by omega), (show ¬ (8303 < i) by omega), (show i < 8592 by omega), (show ¬ (11263 < i) by omega), (show i < 12272 by omega), (show ¬ (12288 < i) by omega), (show i < 55296 by omega), (show ¬ (63743 < i) by omega), (show i < 64976 by omega), (show ¬ (65007 < i) by omega), (show ¬ (i = 65534) by omega), (show ¬ (i = 65535) by omega), not_true_eq_false, not_false_eq_true, and_true, true_and, and_false, false_and, and_self, if_true, if_false, eq_self] <;> decide
  by_cases i29 : i < 881
  · simp only [own_stI, own_excI, (show ¬ (i < 65) by omega), (show 90 < i by omega), (show ¬ (i = 95) by omega), (show ¬ (i < 97) by omega), (show 122 < i by omega), (show ¬ (i < 192) by omega), (show 214 < i by omega), (show ¬ (i < 216) by omega), (show 246 < i by omega), (show ¬ (i < 248) by omega), (show 767 < i by omega), (show ¬ (i < 880) by omega), (show ¬ (893 < i) by omega), (show i < 895 by omega), (show ¬ (8191 < i) by omega), (show i < 8204 by omega), (show ¬ (8205 < i) by omega), (show i < 8304 by omega), (show ¬ (8591 < i) by omega), (show i < 11264 by omega), (show ¬ (12271 < i) by omega), (show i < 12289 by omega), (show ¬ (55295 < i) by omega), (show i < 63744 by omega), (show ¬ (64975 < i) by omega), (show i < 65008 by omega), (show ¬ (65533 < i) by omega), (show i < 65536 by omega), (show ¬ (983039 < i) by omega), (show ¬ (i < 91) by omega), (show 94 < i by omega), (show ¬ (i = 96) by omega), (show ¬ (i < 123) by omega), (show 191 < i by omega), (show ¬ (i = 215) by omega), (show ¬ (i = 247) by omega), (show ¬ (i < 768) by omega), (show 879 < i by omega), (show ¬ (i = 894) by omega), (show i < 8192 by omega), (show ¬ (8203 < i) by omega), (show i < 8206 by omega), (show ¬ (8303 < i) by omega), (show i < 8592 by omega), (show ¬ (11263 < i) by omega), (show i < 12272 by omega), (show ¬ (12288 < i) by omega), (show i < 55296 by omega), (show ¬ (63743 < i) by omega), (show i < 64976 by omega), (show ¬ (65007 < i) by omega), (show ¬ (i = 65534) by omega), (show ¬ (i = 65535) by omega), not_true_eq_false, not_false_eq_true, and_true, true_and, and_false, false_and, and_self, if_true, if_false, eq_self] <;> decide
  by_cases i30 : i < 893
  · simp only [own_stI, own_excI, (show ¬ (i < 65) by omega), (show 90 < i by omega), (show ¬ (i = 95) by omega), (show ¬ (i < 97) by omega), (show 122 < i by omega), (show ¬ (i < 192) by omega), (show 214 < i by omega), (show ¬ (i < 216) by omega), (show 246 < i by omega), (show ¬ (i < 248) by omega), (show 767 < i by omega), (show ¬ (i < 880) by omega), (show ¬ (893 < i) by omega), (show i < 895 by omega), (show ¬ (8191 < i) by omega), (show i < 8204 by omega), (show ¬ (8205 < i) by omega), (show i < 8304 by omega), (show ¬ (8591 < i) by omega), (show i < 11264 by omega), (show ¬ (12271 < i) by omega), (show i < 12289 by omega), (show ¬ (55295 < i) by omega), (show i < 63744 by omega), (show ¬ (64975 < i) by omega), (show i < 65008 by omega), (show ¬ (65533 < i) by omega), (show i < 65536 by omega), (show ¬ (983039 < i) by omega), (show ¬ (i < 91) by omega), (show 94 < i by omega), (show ¬ (i = 96) by omega), (show ¬ (i < 123) by omega), (show 191 < i by omega), (show ¬ (i = 215) by omega), (show ¬ (i = 247) by omega), (show ¬ (i < 768) by omega), (show 879 < i by omega), (show ¬ (i = 894) by omega), (show i < 8192 by omega), (show ¬ (8203 < i) by omega), (show i < 8206 by omega), (show ¬ (8303 < i) by omega), (show i < 8592 by omega), (show ¬ (11263 < i) by omega), (show i < 12272 by omega), (show ¬ (12288 < i) by omega), (show i < 55296 by omega), (show ¬ (63743 < i) by omega), (show i < 64976 by omega), (show ¬ (65007 < i) by omega), (show ¬ (i = 65534) by omega), (show ¬ (i = 65535) by omega), not_true_eq_false, not_false_eq_true, and_true, true_and, and_false, false_and, and_self, if_true, if_false, eq_self] <;> decide
  by_cases i31 : i < 894
  · simp only [own_stI, own_excI, (show ¬ (i < 65) by omega), (show 90 < i by omega), (show ¬ (i = 95) by omega), (show ¬ (i < 97) by omega), (show 122 < i by omega), (show ¬ (i < 192) by omega), (show 214 < i by omega), (show ¬ (i < 216) by omega), (show 246 < i by omega), (show ¬ (i < 248) by omega), (show 767 < i by omega), (show ¬ (i < 880) by omega), (show ¬ (893 < i) by omega), (show i < 895 by omega), (show ¬ (8191 < i) by omega), (show i < 8204 by omega), (show ¬ (8205 < i) by omega), (show i < 8304 by omega), (show ¬ (8591 < i) by omega), (show i < 11264 by omega), (show ¬ (12271 < i) by omega), (show i < 12289 by omega), (show ¬ (55295 < i) by omega), (show i < 63744 by omega), (show ¬ (64975 < i) by omega), (show i < 65008 by omega), (show ¬ (65533 < i) by omega), (show i < 65536 by omega), (show ¬ (983039 < i) by omega), (show ¬ (i < 91) by omega), (show 94 < i by omega), (show ¬ (i = 96) by omega), (show ¬ (i < 123) by omega), (show 191 < i by omega), (show ¬ (i = 215) by omega), (show ¬ (i = 247) by omega), (show ¬ (i < 768) by omega), (show 879 < i by omega), (show ¬ (i = 894) by omega), (show i < 8192 by omega), (show ¬ (8203 < i) by omega), (show i < 8206 by omega), (show ¬ (8303 < i) by omega), (show i < 8592 by omega), (show ¬ (11263 < i) by omega), (show i < 12272 by omega), (show ¬ (12288 < i) by omega), (show i < 55296 by omega), (show ¬ (63743 < i) by omega), (show i < 64976 by omega), (show ¬ (65007 < i) by omega), (show ¬ (i = 65534) by omega), (show ¬ (i = 65535) by omega), not_true_eq_false, not_false_eq_true, and_true, true_and, and_false, false_and, and_self, if_true, if_false, eq_self] <;> decide
  by_cases i32 : i < 895
  · simp only [own_stI, own_excI, (show ¬ (i < 65) by omega), (show 90 < i by omega), (show ¬ (i = 95) by omega), (show ¬ (i < 97) by omega), (show 122 < i by omega), (show ¬ (i < 192) by omega), (show 214 < i by omega), (show ¬ (i < 216) by omega), (show 246 < i by omega), (show ¬ (i < 248) by omega), (show 767 < i by omega), (show ¬ (i < 880) by omega), (show 893 < i by omega), (show i < 895 by omega), (show ¬ (8191 < i) by omega), (show i < 8204 by omega), (show ¬ (8205 < i) by omega), (show i < 8304 by omega), (show ¬ (8591 < i) by omega), (show i < 11264 by omega), (show ¬ (12271 < i) by omega), (show i < 12289 by omega), (show ¬ (55295 < i) by omega), (show i < 63744 by omega), (show ¬ (64975 < i) by omega), (show i < 65008 by omega), (show ¬ (65533 < i) by omega), (show i < 65536 by omega), (show ¬ (983039 < i) by omega), (show ¬ (i < 91) by omega), (show 94 < i by omega), (show ¬ (i = 96) by omega), (show ¬ (i < 123) by omega), (show 191 < i by omega), (show ¬ (i = 215) by omega), (show ¬ (i = 247) by omega), (show ¬ (i < 768) by omega), (show 879 < i by omega), (show i = 894 by omega), (show i < 8192 by omega), (show ¬ (8203 < i) by omega), (show i < 8206 by omega), (show ¬ (8303 < i) by omega), (show i < 8592 by omega), (show ¬ (11263 < i) by omega), (show i < 12272 by omega), (show ¬ (12288 < i) by omega), (show i < 55296 by omega), (show ¬ (63743 < i) by omega), (show i < 64976 by omega), (show ¬ (65007 < i) by omega), (show ¬ (i = 65534) by omega), (show ¬ (i = 65535) by omega), not_true_eq_false, not_false_eq_true, and_true, true_and, and_false, false_and, and_self, if_true, if_false, eq_self] <;> decide
  by_cases i33 : i < 896
  · simp only [own_stI, own_excI, (show ¬ (i < 65) by omega), (show 90 < i by omega), (show ¬ (i = 95) by omega), (show ¬ (i < 97) by omega), (show 122 < i by omega), (show ¬ (i < 192) by omega), (show 214 < i by omega), (show ¬ (i < 216) by omega), (show 246 < i by omega), (show ¬ (i < 248) by omega), (show 767 < i by omega), (show ¬ (i < 880) by omega), (show 893 < i by omega), (show ¬ (i < 895) by omega), (show ¬ (8191 < i) by omega), (show i < 8204 by omega), (show ¬ (8205 < i) by omega), (show i < 8304 by omega), (show ¬ (8591 < i) by omega), (show i < 11264 by omega), (show ¬ (12271 < i) by omega), (show i < 12289 by omega), (show ¬ (55295 < i) by omega), (show i < 63744 by omega), (show ¬ (64975 < i) by omega), (show i < 65008 by omega), (show ¬ (65533 < i) by omega), (show i < 65536 by omega), (show ¬ (983039 < i) by omega), (show ¬ (i < 91) by omega), (show 94 < i by omega), (show ¬ (i = 96) by omega), (show ¬ (i < 123) by omega), (show 191 < i by omega), (show ¬ (i = 215) by omega), (show ¬ (i = 247) by omega), (show ¬ (i < 768) by omega), (show 879 < i by omega), (show ¬ (i = 894) by omega), (show i < 8192 by omega), (show ¬ (8203 < i) by omega), (show i < 8206 by omega), (show ¬ (8303 < i) by omega), (show i < 8592 by omega), (show ¬ (11263 < i) by omega), (show i < 12272 by omega), (show ¬ (12288 < i) by omega), (show i < 55296 by omega), (show ¬ (63743 < i) by omega), (show i < 64976 by omega), (show ¬ (65007 < i) by omega), (show ¬ (i = 65534) by omega), (show ¬ (i = 65535) by omega), not_true_eq_false, not_false_eq_true, and_true, true_and, and_false, false_and, and_self, if_true, if_false, eq_self] <;> decide
  by_cases i34 : i < 8191
  · simp only [own_stI, own_excI, (show ¬ (i < 65) by omega), (show 90 < i by omega), (show ¬ (i = 95) by omega), (show ¬ (i < 97) by omega), (show 122 < i by omega), (show ¬ (i < 192) by omega), (show 214 < i by omega), (show ¬ (i < 216) by omega), (show 246 < i by omega), (show ¬ (i < 248) by omega), (show 767 < i by omega), (show ¬ (i < 880) by omega), (show 893 < i by omega), (show ¬ (i < 895) by omega), (show ¬ (8191 < i) by omega), (show i < 8204 by omega), (show ¬ (8205 < i) by omega), (show i < 8304 by omega), (show ¬ (8591 < i) by omega), (show i < 11264 by omega), (show ¬ (12271 < i) by omega), (show i < 12289 by omega), (show ¬ (55295 < i) by omega), (show i < 63744 by omega), (show ¬ (64975 < i) by omega), (show i < 65008 by omega), (show ¬ (65533 < i) by omega), (show i < 65536 by omega), (show ¬ (983039 < i) by omega), (show ¬ (i < 91) by omega), (show 94 < i by omega), (show ¬ (i = 96) by omega), (show ¬ (i < 123) by omega), (show 191 < i by omega), (show ¬ (i = 215) by omega), (show ¬ (i = 247) by omega), (show ¬ (i < 768) by omega), (show 879 < i by omega), (show ¬ (i = 894) by omega), (show i < 8192 by omega), (show ¬ (8203 < i) by omega), (show i < 8206 by omega), (show ¬ (8303 < i) by omega), (show i < 8592 by omega), (show ¬ (11263 < i) by omega), (show i < 12272 by omega), (show ¬ (12288 < i) by omega), (show i < 55296 by omega), (show ¬ (63743 < i) by omega), (show i < 64976 by omega), (show ¬ (65007 < i) by omega), (show ¬ (i = 65534) by omega), (show ¬ (i = 65535) by omega), not_true_eq_false, not_false_eq_true, and_true, true_and, and_false, false_and, and_self, if_true, if_false, eq_self] <;> decide
  by_cases i35 : i < 8192
  · simp only [own_stI, own_excI, (show ¬ (i < 65) by omega), (show 90 < i by omega), (show ¬ (i = 95) by omega), (show ¬ (i < 97) by omega), (show 122 < i by omega), (show ¬ (i < 192) by omega), (show 214 < i by omega), (show ¬ (i < 216) by omega), (show 246 < i by omega), (show ¬ (i < 248) by omega), (show 767 < i by omega), (show ¬ (i < 880) by omega), (show 893 < i by omega), (show ¬ (i < 895) by omega), (show ¬ (8191 < i) by omega), (show i < 8204 by omega), (show ¬ (8205 < i) by omega), (show i < 8304 by omega), (show ¬ (8591 < i) by omega), (show i < 11264 by omega), (show ¬ (12271 < i) by omega), (show i < 12289 by omega), (show ¬ (55295 < i) by omega), (show i < 63744 by omega), (show ¬ (64975 < i) by omega), (show i < 65008 by omega), (show ¬ (65533 < i) by omega), (show i < 65536 by omega), (show ¬ (983039 < i) by omega), (show ¬ (i < 91) by omega), (show 94 < i by omega), (show ¬ (i = 96) by omega), (show ¬ (i < 123) by omega), (show 191 < i by omega), (show ¬ (i = 215) by omega), (show ¬ (i = 247) by omega), (show ¬ (i < 768) by omega), (show 879 < i by omega), (show ¬ (i = 894) by omega), (show i < 8192 by omega), (show ¬ (8203 < i) by omega), (show i < 8206 by omega), (show ¬ (8303 < i) by omega), (show i < 8592 by omega), (show ¬ (11263 < i) by omega), (show i < 12272 by omega), (show ¬ (12288 < i) by omega), (show i < 55296 by omega), (show ¬ (63743 < i) by omega), (show i < 64976 by omega), (show ¬ (65007 < i) by omega), (show ¬ (i = 65534) by omega), (show ¬ (i = 65535) by omega), not_true_eq_false, not_false_eq_true, and_true, true_and, and_false, false_and, and_self, if_true, if_false, eq_self] <;> decide
  by_cases i36 : i < 8193
  · simp only [own_stI, own_excI, (show ¬ (i < 65) by omega), (show 90 < i by omega), (show ¬ (i = 95) by omega), (show ¬ (i < 97) by omega), (show 122 < i by omega), (show ¬ (i < 192) by omega), (show 214 < i by omega), (show ¬ (i < 216) by omega), (show 246 < i by omega), (show ¬ (i < 248) by omega), (show 767 < i by omega), (show ¬ (i < 880) by omega), (show 893 < i by omega), (show ¬ (i < 895) by omega), (show 8191 < i by omega), (show i < 8204 by omega), (show ¬ (8205 < i) by omega), (show i < 8304 by omega), (show ¬ (8591 < i) by omega), (show i < 11264 by omega), (show ¬ (12271 < i) by omega), (show i < 12289 by omega), (show ¬ (55295 < i) by omega), (show i < 63744 by omega), (show ¬ (64975 < i) by omega), (show i < 65008 by omega), (show ¬ (65533 < i) by omega), (show i < 65536 by omega), (show ¬ (983039 < i) by omega), (show ¬ (i < 91) by omega), (show 94 < i by omega), (show ¬ (i = 96) by omega), (show ¬ (i < 123) by omega), (show 191 < i by omega), (show ¬ (i = 215) by omega), (show ¬ (i = 247) by omega), (show ¬ (i < 768) by omega), (show 879 < i by omega), (show ¬ (i = 894) by omega), (show ¬ (i < 8192) by omega), (show ¬ (8203 < i) by omega), (show i < 8206 by omega), (show ¬ (8303 < i) by omega), (show i < 8592 by omega), (show ¬ (11263 < i) by omega), (show i < 12272 by omega), (show ¬ (12288 < i) by omega), (show i < 55296 by omega), (show ¬ (63743 < i) by omega), (show i < 64976 by omega), (show ¬ (65007 < i) by omega), (show ¬ (i = 65534) by omega), (show ¬ (i = 65535) by omega), not_true_eq_false, not_false_eq_true, and_true, true_and, and_false, false_and, and_self, if_true, if_false, eq_self] <;> decide
  by_cases i37 : i < 8203
  · simp only [own_stI, own_excI, (show ¬ (i < 65) by omega), (show 90 < i by omega), (show ¬ (i = 95) by omega), (show ¬ (i < 97) by omega), (show 122 < i by omega), (show ¬ (i < 192) by omega), (show 214 < i by omega), (show ¬ (i < 216) by omega), (show 246 < i by omega), (show ¬ (i < 248) by omega), (show 767 < i by omega), (show ¬ (i < 880) by omega), (show 893 < i by omega), (show ¬ (i < 895) by omega), (show 8191 < i by omega), (show i < 8204 by omega), (show ¬ (8205 < i) by omega), (show i < 8304 by omega), (show ¬ (8591 < i) by omega), (show i < 11264 by omega), (show ¬ (12271 < i) by omega), (show i < 12289 by omega), (show ¬ (55295 < i) by omega), (show i < 63744 by omega), (show ¬ (64975 < i) by omega), (show i < 65008 by omega), (show ¬ (65533 < i) by omega), (show i < 65536 by omega), (show ¬ (983039 < i) by omega), (show ¬ (i < 91) by omega), (show 94 < i by omega), (show ¬ (i = 96) by omega), (show ¬ (i < 123) by omega), (show 191 < i by omega), (show ¬ (i = 215) by omega), (show ¬ (i = 247) by omega), (show ¬ (i < 768) by omega), (show 879 < i by omega), (show ¬ (i = 894) by omega), (show ¬ (i < 8192) by omega), (show ¬ (8203 < i) by omega), (show i < 8206 by omega), (show ¬ (8303 < i) by omega), (show i < 8592 by omega), (show ¬ (11263 < i) by omega), (show i < 12272 by omega), (show ¬ (12288 < i) by omega), (show i < 55296 by omega), (show ¬ (63743 < i) by omega), (show i < 64976 by omega), (show ¬ (65007 < i) by omega), (show ¬ (i = 65534) by omega), (show ¬ (i = 65535) by omega), not_true_eq_false, not_false_eq_true, and_true, true_and, and_false, false_and, and_self, if_true, if_false, eq_self] <;> decide
  by_cases i38 : i < 8204
  · simp only [own_stI, own_excI, (show ¬ (i < 65) by omega), (show 90 < i by omega), (show ¬ (i = 95) by omega), (show ¬ (i < 97) by omega), (show 122 < i by omega), (show ¬ (i < 192) by omega), (show 214 < i by omega), (show ¬ (i < 216) by omega), (show 246 < i by omega), (show ¬ (i < 248) by omega), (show 767 < i by omega), (show ¬ (i < 880) by omega), (show 893 < i by omega), (show ¬ (i < 895) by omega), (show 8191 < i by omega), (show i < 8204 by omega), (show ¬ (8205 < i) by omega), (show i < 8304 by omega), (show ¬ (8591 < i) by omega), (show i < 11264 by omega), (show ¬ (12271 < i) by omega), (show i < 12289 by omega), (show ¬ (55295 < i) by omega), (show i < 63744 by omega), (show ¬ (64975 < i) by omega), (show i < 65008 by omega), (show ¬ (65533 < i) by omega), (show i < 65536 by omega), (show ¬ (983039 < i) by omega), (show ¬ (i < 91) by omega), (show 94 < i by omega), (show ¬ (i = 96) by omega), (show ¬ (i < 123) by omega), (show 191 < i by omega), (show ¬ (i = 215) by omega), (show ¬ (i = 247) by omega), (show ¬ (i < 768) by omega), (show 879 < i by omega), (show ¬ (i = 894) by omega), (show ¬ (i < 8192) by omega), (show ¬ (8203 < i) by omega), (show i < 8206 by omega), (show ¬ (8303 < i) by omega), (show i < 8592 by omega), (show ¬ (11263 < i) by omega), (show i < 12272 by omega), (show ¬ (12288 < i) by omega), (show i < 55296 by omega), (show ¬ (63743 < i) by omega), (show i < 64976 by omega), (show ¬ (65007 < i) by omega), (show ¬ (i = 65534) by omega), (show ¬ (i = 65535) by omega), not_true_eq_false, not_false_eq_true, and_true, true_and, and_false, false_and, and_self, if_true, if_false, eq_self] <;> decide
  by_cases i39 : i < 8205
  · simp only [own_stI, own_excI, (show ¬ (i < 65) by omega), (show 90 < i by omega), (show ¬ (i = 95) by omega), (show ¬ (i < 97) by omega), (show 122 < i by omega), (show ¬ (i < 192) by omega), (show 214 < i by omega), (show ¬ (i < 216) by omega), (show 246 < i by omega), (show ¬ (i < 248) by omega), (show 767 < i by omega), (show ¬ (i < 880) by omega), (show 893 < i by omega), (show ¬ (i < 895) by omega), (show 8191 < i by omega), (show ¬ (i < 8204) by omega), (show ¬ (8205 < i) by omega), (show i < 8304 by omega), (show ¬ (8591 < i) by omega), (show i < 11264 by omega), (show ¬ (12271 < i) by omega), (show i < 12289 by omega), (show ¬ (55295 < i) by omega), (show i < 63744 by omega), (show ¬ (64975 < i) by omega), (show i < 65008 by omega), (show ¬ (65533 < i) by omega), (show i < 65536 by omega), (show ¬ (983039 < i) by omega), (show ¬ (i < 91) by omega), (show 94 < i by omega), (show ¬ (i = 96) by omega), (show ¬ (i < 123) by omega), (show 191 < i by omega), (show ¬ (i = 215) by omega), (show ¬ (i = 247) by omega), (show ¬ (i < 768) by omega), (show 879 < i by omega), (show ¬ (i = 894) by omega), (show ¬ (i < 8192) by omega), (show 8203 < i by omega), (show i < 8206 by omega), (show ¬ (8303 < i) by omega), (show i < 8592 by omega), (show ¬ (11263 < i) by omega), (show i < 12272 by omega), (show ¬ (12288 < i) by omega), (show i < 55296 by omega), (show ¬ (63743 < i) by omega), (show i < 64976 by omega), (show ¬ (65007 < i) by omega), (show ¬ (i = 65534) by omega), (show ¬ (i = 65535) by omega), not_true_eq_false, not_false_eq_true, and_true, true_and, and_false, false_and, and_self, if_true, if_false, eq_self] <;> decide
  by_cases i40 : i < 8206
  · simp only [own_stI, own_excI, (show ¬ (i < 65) by omega), (show 90 < i by omega), (show ¬ (i = 95) by omega), (show ¬ (i < 97) by omega), (show 122 < i by omega), (show ¬ (i < 192) by omega), (show 214 < i by omega), (show ¬ (i < 216) by omega), (show 246 < i by omega), (show ¬ (i < 248) by omega), (show 767 < i by omega), (show ¬ (i < 880) by omega), (show 893 < i by omega), (show ¬ (i < 895) by omega), (show 8191 < i by omega), (show ¬ (i < 8204) by omega), (show ¬ (8205 < i) by omega), (show i < 8304 by omega), (show ¬ (8591 < i) by omega), (show i < 11264 by omega), (show ¬ (12271 < i) by omega), (show i < 12289 by omega), (show ¬ (55295 < i) by omega), (show i < 63744 by omega), (show ¬ (64975 < i) by omega), (show i < 65008 by omega), (show ¬ (65533 < i) by omega), (show i < 65536 by omega), (show ¬ (983039 < i) by omega), (show ¬ (i < 91) by omega), (show 94 < i by omega), (show ¬ (i = 96) by omega), (show ¬ (i < 123) by omega), (show 191 < i by omega), (show ¬ (i = 215) by omega), (show ¬ (i = 247) by omega), (show ¬ (i < 768) by omega), (show 879 < i by omega), (show ¬ (i = 894) by omega), (show ¬ (i < 8192) by omega), (show 8203 < i by omega), (show i < 8206 by omega), (show ¬ (8303 < i) by omega), (show i < 8592 by omega), (show ¬ (11263 < i) by omega), (show i < 12272 by omega), (show ¬ (12288 < i) by omega), (show i < 55296 by omega), (show ¬ (63743 < i) by omega), (show i < 64976 by omega), (show ¬ (65007 < i) by omega), (show ¬ (i = 65534) by omega), (show ¬ (i = 65535) by omega), not_true_eq_false, not_false_eq_true, and_true, true_and, and_false, false_and, and_self, if_true, if_false, eq_self] <;> decide
  by_cases i41 : i < 8207
  · simp only [own_stI, own_excI, (show ¬ (i < 65) by omega), (show 90 < i by omega), (show ¬ (i = 95) by omega), (show ¬ (i < 97) by omega), (show 122 < i by omega), (show ¬ (i < 192) by omega), (show 214 < i by omega), (show ¬ (i < 216) by omega), (show 246 < i by omega), (show ¬ (i < 248) by omega), (show 767 < i by omega), (show ¬ (i < 880) by omega), (show 893 < i by omega), (show ¬ (i < 895) by omega), (show 8191 < i by omega), (show ¬ (i < 8204) by omega), (show 8205 < i by omega), (show i < 8304 by omega), (show ¬ (8591 < i) by omega), (show i < 11264 by omega), (show ¬ (12271 < i) by omega), (show i < 12289 by omega), (show ¬ (55295 < i) by omega), (show i < 63744 by omega), (show ¬ (64975 < i) by omega), (show i < 65008 by omega), (show ¬ (65533 < i) by omega), (show i < 65536 by omega), (show ¬ (983039 < i) by omega), (show ¬ (i < 91) by omega), (show 94 < i by omega), (show ¬ (i = 96) by omega), (show ¬ (i < 123) by omega), (show 191 < i by omega), (show ¬ (i = 215) by omega), (show ¬ (i = 247) by omega), (show ¬ (i < 768) by omega), (show 879 < i by omega), (show ¬ (i = 894) by omega), (show ¬ (i < 8192) by omega), (show 8203 < i by omega), (show ¬ (i < 8206) by omega), (show ¬ (8303 < i) by omega), (show i < 8592 by omega), (show ¬ (11263 < i) by omega), (show i < 12272 by omega), (show ¬ (12288 < i) by omega), (show i < 55296 by omega), (show ¬ (63743 < i) by omega), (show i < 64976 by omega), (show ¬ (65007 < i) by omega), (show ¬ (i = 65534) by omega), (show ¬ (i = 65535) by omega), not_true_eq_false, not_false_eq_true, and_true, true_and, and_false, false_and, and_self, if_true, if_false, eq_self] <;> decide
  by_cases i42 : i < 8303
  · simp only [own_stI, own_excI, (show ¬ (i < 65) by omega), (show 90 < i by omega), (show ¬ (i = 95) by omega), (show ¬ (i < 97) by omega), (show 122 < i by omega), (show ¬ (i < 192) by omega), (show 214 < i by omega), (show ¬ (i < 216) by omega), (show 246 < i by omega), (show ¬ (i < 248) by omega), (show 767 < i by omega), (show ¬ (i < 880) by omega), (show 893 < i by omega), (show ¬ (i < 895) by omega), (show 8191 < i by omega), (show ¬ (i < 8204) by omega), (show 8205 < i by omega), (show i < 8304 by omega), (show ¬ (8591 < i) by omega), (show i < 11264 by omega), (show ¬ (12271 < i) by omega), (show i < 12289 by omega), (show ¬ (55295 < i) by omega), (show i < 63744 by omega), (show ¬ (64975 < i) by omega), (show i < 65008 by omega), (show ¬ (65533 < i) by omega), (show i < 65536 by omega), (show ¬ (983039 < i) by omega), (show ¬ (i < 91) by omega), (show 94 < i by omega), (show ¬ (i = 96) by omega), (show ¬ (i < 123) by omega), (show 191 < i by omega), (show ¬ (i = 215) by omega), (show ¬ (i = 247) by omega), (show ¬ (i < 768) by omega), (show 879 < i by omega), (show ¬ (i = 894) by omega), (show ¬ (i < 8192) by omega), (show 8203 < i by omega), (show ¬ (i < 8206) by omega), (show ¬ (8303 < i) by omega), (show i < 8592 by omega), (show ¬ (11263 < i) by omega), (show i < 12272 by omega), (show ¬ (12288 < i) by omega), (show i < 55296 by omega), (show ¬ (63743 < i) by omega), (show i < 64976 by omega), (show ¬ (65007 < i) by omega), (show ¬ (i = 65534) by omega), (show ¬ (i = 65535) by omega), not_true_eq_false, not_false_eq_true, and_true, true_and, and_false, false_and, and_self, if_true, if_false, eq_self] <;> decide
  by_cases i43 : i < 8304
  · simp only [own_stI, own_excI, (show ¬ (i < 65) by omega), (show 90 < i by omega), (show ¬ (i = 95) by omega), (show ¬ (i < 97) by omega), (show 122 < i by omega), (show ¬ (i < 192) by omega), (show 214 < i by omega), (show ¬ (i < 216) by omega), (show 246 < i by omega), (show ¬ (i < 248) by omega), (show 767 < i by omega), (show ¬ (i < 880) by omega), (show 893 < i by omega), (show ¬ (i < 895) by omega), (show 8191 < i by omega), (show ¬ (i < 8204) by omega), (show 8205 < i by omega), (show i < 8304 by omega), (show ¬ (8591 < i) by omega), (show i < 11264 by omega), (show ¬ (12271 < i) by omega), (show i < 12289 by omega), (show ¬ (55295 < i) by omega), (show i < 63744 by omega), (show ¬ (64975 < i) by omega), (show i < 65008 by omega), (show ¬ (65533 < i) by omega), (show i < 65536 by omega), (show ¬ (983039 < i) by omega), (show ¬ (i < 91) by omega), (show 94 < i by omega), (show ¬ (i = 96) by omega), (show ¬ (i < 123) by omega), (show 191 < i by omega), (show ¬ (i = 215) by omega), (show ¬ (i = 247) by omega), (show ¬ (i < 768) by omega), (show 879 < i by omega), (show ¬ (i = 894) by omega), (show ¬ (i < 8192) by omega), (show 8203 < i by omega), (show ¬ (i < 8206) by omega), (show ¬ (8303 < i) by omega), (show i < 8592 by omega), (show ¬ (11263 < i) by omega), (show i < 12272 by omega), (show ¬ (12288 < i) by omega), (show i < 55296 by omega), (show ¬ (63743 < i) by omega), (show i < 64976 by omega), (show ¬ (65007 < i) by omega), (show ¬ (i = 65534) by omega), (show ¬ (i = 65535) by omega), not_true_eq_false, not_false_eq_true, and_true, true_and, and_false, false_and, and_self, if_true, if_false, eq_self] <;> decide
  by_cases i44 : i < 8305
  · simp only [own_stI, own_excI, (show ¬ (i < 65) by omega), (show 90 < i by omega), (show ¬ (i = 95) by omega), (show ¬ (i < 97) by omega), (show 122 < i by omega), (show ¬ (i < 192) by omega), (show 214 < i by omega), (show ¬ (i < 216) by omega), (show 246 < i by omega), (show ¬ (i < 248) by omega), (show 767 < i by omega), (show ¬ (i < 880) by omega), (show 893 < i by omega), (show ¬ (i < 895) by omega), (show 8191 < i by omega), (show ¬ (i < 8204) by omega), (show 8205 < i by omega), (show ¬ (i < 8304) by omega), (show ¬ (8591 < i) by omega), (show i < 11264 by omega), (show ¬ (12271 < i) by omega), (show i < 12289 by omega), (show ¬ (55295 < i) by omega), (show i < 63744 by omega), (show ¬ (64975 < i) by omega), (show i < 65008 by omega), (show ¬ (65533 < i) by omega), (show i < 65536 by omega), (show ¬ (983039 < i) by omega), (show ¬ (i < 91) by omega), (show 94 < i by omega), (show ¬ (i = 96) by omega), (show ¬ (i < 123) by omega), (show 191 < i by omega), (show ¬ (i = 215) by omega), (show ¬ (i = 247) by omega), (show ¬ (i < 768) by omega), (show 879 < i by omega), (show ¬ (i = 894) by omega), (show ¬ (i < 8192) by omega), (show 8203 < i by omega), (show ¬ (i < 8206) by omega), (show 8303 < i by omega), (show i < 8592 by omega), (show ¬ (11263 < i) by omega), (show i < 12272 by omega), (show ¬ (12288 < i) by omega), (show i < 55296 by omega), (show ¬ (63743 < i) by omega), (show i < 64976 by omega), (show ¬ (65007 < i) by omega), (show ¬ (i = 65534) by omega), (show ¬ (i = 65535) by omega), not_true_eq_false, not_false_eq_true, and_true, true_and, and_false, false_and, and_self, if_true, if_false, eq_self] <;> decide
  by_cases i45 : i < 8591
  · simp only [own_stI, own_excI, (show ¬ (i < 65) by omega), (show 90 < i by omega), (show ¬ (i = 95) by omega), (show ¬ (i < 97) by omega), (show 122 < i by omega), (show ¬ (i < 192) by omega), (show 214 < i by omega), (show ¬ (i < 216) by omega), (show 246 < i by omega), (show ¬ (i < 248) by omega), (show 767 < i by omega), (show ¬ (i < 880) by omega), (show 893 < i by omega), (show ¬ (i < 895) by omega), (show 8191 < i by omega), (show ¬ (i < 8204) by omega), (show 8205 < i by omega), (show ¬ (i < 8304) by omega), (show ¬ (8591 < i) by omega), (show i < 11264 by omega), (show ¬ (12271 < i) by omega), (show i < 12289 by omega), (show ¬ (55295 < i) by omega), (show i < 63744 by omega), (show ¬ (64975 < i) by omega), (show i < 65008 by omega), (show ¬ (65533 < i) by omega), (show i < 65536 by omega), (show ¬ (983039 < i) by omega), (show ¬ (i < 91) by omega), (show 94 < i by omega), (show ¬ (i = 96) by omega), (show ¬ (i < 123) by omega), (show 191 < i by omega), (show ¬ (i = 215) by omega), (show ¬ (i = 247) by omega), (show ¬ (i < 768) by omega), (show 879 < i by omega), (show ¬ (i = 894) by omega), (show ¬ (i < 8192) by omega), (show 8203 < i by omega), (show ¬ (i < 8206) by omega), (show 8303 < i by omega), (show i < 8592 by omega), (show ¬ (11263 < i) by omega), (show i < 12272 by omega), (show ¬ (12288 < i) by omega), (show i < 55296 by omega), (show ¬ (63743 < i) by omega), (show i < 64976 by omega), (show ¬ (65007 < i) by omega), (show ¬ (i = 65534) by omega), (show ¬ (i = 65535) by omega), not_true_eq_false, not_false_eq_true, and_true, true_and, and_false, false_and, and_self, if_true, if_false, eq_self] <;> decide
  by_cases i46 : i < 8592
  · simp only [own_stI, own_excI, (show ¬ (i < 65) by omega), (show 90 < i by omega), (show ¬ (i = 95) by omega), (show ¬ (i < 97) by omega), (show 122 < i by omega), (show ¬ (i < 192) by omega), (show 214 < i by omega), (show ¬ (i < 216) by omega), (show 246 < i by omega), (show ¬ (i < 248) by omega), (show 767 < i by omega), (show ¬ (i < 880) by omega), (show 893 < i by omega), (show ¬ (i < 895) by omega), (show 8191 < i by omega), (show ¬ (i < 8204) by omega), (show 8205 < i by omega), (show ¬ (i < 8304) by omega), (show ¬ (8591 < i) by omega), (show i < 11264 by omega), (show ¬ (12271 < i) by omega), (show i < 12289 by omega), (show ¬ (55295 < i) by omega), (show i < 63744 by omega), (show ¬ (64975 < i) by omega), (show i < 65008 by omega), (show ¬ (65533 < i) by omega), (show i < 65536 by omega), (show ¬ (983039 < i) by omega), (show ¬ (i < 91) by omega), (show 94 < i by omega), (show ¬ (i = 96) by omega), (show ¬ (i < 123) by omega), (show 191 < i by omega), (show ¬ (i = 215) by omega), (show ¬ (i = 247) by omega), (show ¬ (i < 768) by omega), (show 879 < i by omega), (show ¬ (i = 894) by omega), (show ¬ (i < 8192) by omega), (show 8203 < i by omega), (show ¬ (i < 8206) by omega), (show 8303 < i by omega), (show i < 8592 by omega), (show ¬ (11263 < i) by omega), (show i < 12272 by omega), (show ¬ (12288 < i) by omega), (show i < 55296 by omega), (show ¬ (63743 < i) by omega), (show i < 64976 by omega), (show ¬ (65007 < i) by omega), (show ¬ (i = 65534) by omega), (show ¬ (i = 65535) by omega), not_true_eq_false, not_false_eq_true, and_true, true_and, and_false, false_and, and_self, if_true, if_false, eq_self] <;> decide
  by_cases i47 : i < 8593
  · simp only [own_stI, own_excI, (show ¬ (i < 65) by omega), (show 90 < i by omega), (show ¬ (i = 95) by omega), (show ¬ (i < 97) by omega), (show 122 < i by omega), (show ¬ (i < 192) by omega), (show 214 < i by omega), (show ¬ (i < 216) by omega), (show 246 < i by omega), (show ¬ (i < 248) by omega), (show 767 < i by omega), (show ¬ (i < 880) by omega), (show 893 < i by omega), (show ¬ (i < 895) by omega), (show 8191 < i by omega), (show ¬ (i < 8204) by omega), (show 8205 < i by omega), (show ¬ (i < 8304) by omega), (show 8591 < i by omega), (show i < 11264 by omega), (show ¬ (12271 < i) by omega), (show i < 12289 by omega), (show ¬ (55295 < i) by omega), (show i < 63744 by omega), (show ¬ (64975 < i) by omega), (show i < 65008 by omega), (show ¬ (65533 < i) by omega), (show i < 65536 by omega), (show ¬ (983039 < i) by omega), (show ¬ (i < 91) by omega), (show 94 < i by omega), (show ¬ (i = 96) by omega), (show ¬ (i < 123) by omega), (show 191 < i by omega), (show ¬ (i = 215) by omega), (show ¬ (i = 247) by omega), (show ¬ (i < 768) by omega), (show 879 < i by omega), (show ¬ (i = 894) by omega), (show ¬ (i < 8192) by omega), (show 8203 < i by omega), (show ¬ (i < 8206) by omega), (show 8303 < i by omega), (show ¬ (i < 8592) by omega), (show ¬ (11263 < i) by omega), (show i < 12272 by omega), (show ¬ (12288 < i) by omega), (show i < 55296 by omega), (show ¬ (63743 < i) by omega), (show i < 64976 by omega), (show ¬ (65007 < i) by omega), (show ¬ (i = 65534) by omega), (show ¬ (i = 65535) by omega), not_true_eq_false, not_false_eq_true, and_true, true_and, and_false, false_and, and_self, if_true, if_false, eq_self] <;> decide
  by_cases i48 : i < 11263
  · simp only [own_stI, own_excI, (show ¬ (i < 65) by omega), (show 90 < i by omega), (show ¬ (i = 95) by omega), (show ¬ (i < 97) by omega), (show 122 < i by omega), (show ¬ (i < 192) by omega), (show 214 < i by omega), (show ¬ (i < 216) by omega), (show 246 < i by omega), (show ¬ (i < 248) by omega), (show 767 < i by omega), (show ¬ (i < 880) by omega), (show 893 < i by omega), (show ¬ (i < 895) by omega), (show 8191 < i by omega), (show ¬ (i < 8204) by omega), (show 8205 < i by omega), (show ¬ (i < 8304) by omega), (show 8591 < i by omega), (show i < 11264 by omega), (show ¬ (12271 < i) by omega), (show i < 12289 by omega), (show ¬ (55295 < i) by omega), (show i < 63744 by omega), (show ¬ (64975 < i) by omega), (show i < 65008 by omega), (show ¬ (65533 < i) by omega), (show i < 65536 by omega), (show ¬ (983039 < i) by omega), (show ¬ (i < 91) by omega), (show 94 < i by omega), (show ¬ (i = 96) by omega), (show ¬ (i < 123) by omega), (show 191 < i by omega), (show ¬ (i = 215) by omega), (show ¬ (i = 247) by omega), (show ¬ (i < 768) by omega), (show 879 < i by omega), (show ¬ (i = 894) by omega), (show ¬ (i < 8192) by omega), (show 8203 < i by omega), (show ¬ (i < 8206) by omega), (show 8303 < i by omega), (show ¬ (i < 8592) by omega), (show ¬ (11263 < i) by omega), (show i < 12272 by omega), (show ¬ (12288 < i) by omega), (show i < 55296 by omega), (show ¬ (63743 < i) by omega), (show i < 64976 by omega), (show ¬ (65007 < i) by omega), (show ¬ (i = 65534) by omega), (show ¬ (i = 65535) by omega), not_true_eq_false, not_false_eq_true, and_true, true_and, and_false, false_and, and_self, if_true, if_false, eq_self] <;> decide
  by_cases i49 : i < 11264
  · simp only [own_stI, own_excI, (show ¬ (i < 65) by omega), (show 90 < i by omega), (show ¬ (i = 95) by omega), (show ¬ (i < 97) by omega), (show 122 < i by omega), (show ¬ (i < 192) by omega), (show 214 < i by omega), (show ¬ (i < 216) by omega), (show 246 < i by omega), (show ¬ (i < 248) by omega), (show 767 < i by omega), (show ¬ (i < 880) by omega), (show 893 < i by omega), (show ¬ (i < 895) by omega), (show 8191 < i by omega), (show ¬ (i < 8204) by omega), (show 8205 < i by omega), (show ¬ (i < 8304) by omega), (show 8591 < i by omega), (show i < 11264 by omega), (show ¬ (12271 < i) by omega), (show i < 12289 by omega), (show ¬ (55295 < i) by omega), (show i < 63744 by omega), (show ¬ (64975 < i) by omega), (show i < 65008 by omega), (show ¬ (65533 < i) by omega), (show i < 65536 by omega), (show ¬ (983039 < i) by omega), (show ¬ (i < 91) by omega), (show 94 < i by omega), (show ¬ (i = 96) by omega), (show ¬ (i < 123) by omega), (show 191 < i by omega), (show ¬ (i = 215) by omega), (show ¬ (i = 247) by omega), (show ¬ (i < 768) by omega), (show 879 < i by omega), (show ¬ (i = 894) by omega), (show ¬ (i < 8192) by omega), (show 8203 < i by omega), (show ¬ (i < 8206) by omega), (show 8303 < i by omega), (show ¬ (i < 8592) by omega), (show ¬ (11263 < i) by omega), (show i < 12272 by omega), (show ¬ (12288 < i) by omega), (show i < 55296 by omega), (show ¬ (63743 < i) by omega), (show i < 64976 by omega), (show ¬ (65007 < i) by omega), (show ¬ (i = 65534) by omega), (show ¬ (i = 65535) by omega), not_true_eq_false, not_false_eq_true, and_true, true_and, and_false, false_and, and_self, if_true, if_false, eq_self] <;> decide
  by_cases i50 : i < 11265
  · simp only [own_stI, own_excI, (show ¬ (i < 65) by omega), (show 90 < i by omega), (show ¬ (i = 95) by omega), (show ¬ (i < 97) by omega), (show 122 < i by omega), (show ¬ (i < 192) by omega), (show 214 < i by omega), (show ¬ (i < 216) by omega), (show 246 < i by omega), (show ¬ (i < 248) by omega), (show 767 < i by omega), (show ¬ (i < 880) by omega), (show 893 < i by omega), (show ¬ (i < 895) by omega), (show 8191 < i by omega), (show ¬ (i < 8204) by omega), (show 8205 < i by omega), (show ¬ (i < 8304) by omega), (show 8591 < i by omega), (show ¬ (i < 11264) by omega), (show ¬ (12271 < i) by omega), (show i < 12289 by omega), (show ¬ (55295 < i) by omega), (show i < 63744 by omega), (show ¬ (64975 < i) by omega), (show i < 65008 by omega), (show ¬ (65533 < i) by omega), (show i < 65536 by omega), (show ¬ (983039 < i) by omega), (show ¬ (i < 91) by omega), (show 94 < i by omega), (show ¬ (i = 96) by omega), (show ¬ (i < 123) by omega), (show 191 < i by omega), (show ¬ (i = 215) by omega), (show ¬ (i = 247) by omega), (show ¬ (i < 768) by omega), (show 879 < i by omega), (show ¬ (i = 894) by omega), (show ¬ (i < 8192) by omega), (show 8203 < i by omega), (show ¬ (i < 8206) by omega), (show 8303 < i by omega), (show ¬ (i < 8592) by omega), (show 11263 < i by omega), (show i < 12272 by omega), (show ¬ (12288 < i) by omega), (show i < 55296 by omega), (show ¬ (63743 < i) by omega), (show i < 64976 by omega), (show ¬ (65007 < i) by omega), (show ¬ (i = 65534) by omega), (show ¬ (i = 65535) by omega), not_true_eq_false, not_false_eq_true, and_true, true_and, and_false, false_and, and_self, if_true, if_false, eq_self] <;> decide
  by_cases i51 : i < 12271
  · simp only [own_stI, own_excI, (show ¬ (i < 65) by omega), (show 90 < i by omega), (show ¬ (i = 95) by omega), (show ¬ (i < 97) by omega), (show 122 < i by omega), (show ¬ (i < 192) by omega), (show 214 < i by omega), (show ¬ (i < 216) by omega), (show 246 < i by omega), (show ¬ (i < 248) by omega), (show 767 < i by omega), (show ¬ (i < 880) by omega), (show 893 < i by omega), (show ¬ (i < 895) by omega), (show 8191 < i by omega), (show ¬ (i < 8204) by omega), (show 8205 < i by omega), (show ¬ (i < 8304) by omega), (show 8591 < i by omega), (show ¬ (i < 11264) by omega), (show ¬ (12271 < i) by omega), (show i < 12289 by omega), (show ¬ (55295 < i) by omega), (show i < 63744 by omega), (show ¬ (64975 < i) by omega), (show i < 65008 by omega), (show ¬ (65533 < i) by omega), (show i < 65536 by omega), (show ¬ (983039 < i) by omega), (show ¬ (i < 91) by omega), (show 94 < i by omega), (show ¬ (i = 96) by omega), (show ¬ (i < 123) by omega), (show 191 < i by omega), (show ¬ (i = 215) by omega), (show ¬ (i = 247) by omega), (show ¬ (i < 768) by omega), (show 879 < i by omega), (show ¬ (i = 894) by omega), (show ¬ (i < 8192) by omega), (show 8203 < i by omega), (show ¬ (i < 8206) by omega), (show 8303 < i by omega), (show ¬ (i < 8592) by omega), (show 11263 < i by omega), (show i < 12272 by omega), (show ¬ (12288 < i) by omega), (show i < 55296 by omega), (show ¬ (63743 < i) by omega), (show i < 64976 by omega), (show ¬ (65007 < i) by omega), (show ¬ (i = 65534) by omega), (show ¬ (i = 65535) by omega), not_true_eq_false, not_false_eq_true, and_true, true_and, and_false, false_and, and_self, if_true, if_false, eq_self] <;> decide
  by_cases i52 : i < 12272
  · simp only [own_stI, own_excI, (show ¬ (i < 65) by omega), (show 90 < i by omega), (show ¬ (i = 95) by omega), (show ¬ (i < 97) by omega), (show 122 < i by omega), (show ¬ (i < 192) by omega), (show 214 < i by omega), (show ¬ (i < 216) by omega), (show 246 < i by omega), (show ¬ (i < 248) by omega), (show 767 < i by omega), (show ¬ (i < 880) by omega), (show 893 < i by omega), (show ¬ (i < 895) by omega), (show 8191 < i by omega), (show ¬ (i < 8204) by omega), (show 8205 < i by omega), (show ¬ (i < 8304) by omega), (show 8591 < i by omega), (show ¬ (i < 11264) by omega), (show ¬ (12271 < i) by omega), (show i < 12289 by omega), (show ¬ (55295 < i) by omega), (show i < 63744 by omega), (show ¬ (64975 < i) by omega), (show i < 65008 by omega), (show ¬ (65533 < i) by omega), (show i < 65536 by omega), (show ¬ (983039 < i) by omega), (show ¬ (i < 91) by omega), (show 94 < i by omega), (show ¬ (i = 96) by omega), (show ¬ (i < 123) by omega), (show 191 < i by omega), (show ¬ (i = 215) by omega), (show ¬ (i = 247) by omega), (show ¬ (i < 768) by omega), (show 879 < i by omega), (show ¬ (i = 894) by omega), (show ¬ (i < 8192) by omega), (show 8203 < i by omega), (show ¬ (i < 8206) by omega), (show 8303 < i by omega), (show ¬ (i < 8592) by omega), (show 11263 < i by omega), (show i < 12272 by omega), (show ¬ (12288 < i) by omega), (show i < 55296 by omega), (show ¬ (63743 < i) by omega), (show i < 64976 by omega), (show ¬ (65007 < i) by omega), (show ¬ (i = 65534) by omega), (show ¬ (i = 65535) by omega), not_true_eq_false, not_false_eq_true, and_true, true_and, and_false, false_and, and_self, if_true, if_false, eq_self] <;> decide
  by_cases i53 : i < 12273
  · simp only [own_stI, own_excI, (show ¬ (i < 65) by omega), (show 90 < i by omega), (show ¬ (i = 95) by omega), (show ¬ (i < 97) by omega), (show 122 < i by omega), (show ¬ (i < 192) by omega), (show 214 < i by omega), (show ¬ (i < 216) by omega), (show 246 < i by omega), (show ¬ (i < 248) by omega), (show 767 < i by omega), (show ¬ (i < 880) by omega), (show 893 < i by omega), (show ¬ (i < 895) by omega), (show 8191 < i by omega), (show ¬ (i < 8204) by omega), (show 8205 < i by omega), (show ¬ (i < 8304) by omega), (show 8591 < i by omega), (show ¬ (i < 11264) by omega), (show 12271 < i by omega), (show i < 12289 by omega), (show ¬ (55295 < i) by omega), (show i < 63744 by omega), (show ¬ (64975 < i) by omega), (show i < 65008 by omega), (show ¬ (65533 < i) by omega), (show i < 65536 by omega), (show ¬ (983039 < i) by omega), (show ¬ (i < 91) by omega), (show 94 < i by omega), (show ¬ (i = 96) by omega), (show ¬ (i < 123) by omega), (show 191 < i by omega), (show ¬ (i = 215) by omega), (show ¬ (i = 247) by omega), (show ¬ (i < 768) by omega), (show 879 < i by omega), (show ¬ (i = 894) by omega), (show ¬ (i < 8192) by omega), (show 8203 < i by omega), (show ¬ (i < 8206) by omega), (show 8303 < i by omega), (show ¬ (i < 8592) by omega), (show 11263 < i by omega), (show ¬ (i < 12272) by omega), (show ¬ (12288 < i) by omega), (show i < 55296 by omega), (show ¬ (63743 < i) by omega), (show i < 64976 by omega), (show ¬ (65007 < i) by omega), (show ¬ (i = 65534) by omega), (show ¬ (i = 65535) by omega), not_true_eq_false, not_false_eq_true, and_true, true_and, and_false, false_and, and_self, if_true, if_false, eq_self] <;> decide
  by_cases i54 : i < 12288
  · simp only [own_stI, own_excI, (show ¬ (i < 65) by omega), (show 90 < i by omega), (show ¬ (i = 95) by omega), (show ¬ (i < 97) by omega), (show 122 < i by omega), (show ¬ (i < 192) by omega), (show 214 < i by omega), (show ¬ (i < 216) by omega), (show 246 < i by omega), (show ¬ (i < 248) by omega), (show 767 < i by omega), (show ¬ (i < 880) by omega), (show 893 < i by omega), (show ¬ (i < 895) by omega), (show 8191 < i by omega), (show ¬ (i < 8204) by omega), (show 8205 < i by omega), (show ¬ (i < 8304) by omega), (show 8591 < i by omega), (show ¬ (i < 11264) by omega), (show 12271 < i by omega), (show i < 12289 by omega), (show ¬ (55295 < i) by omega), (show i < 63744 by omega), (show ¬ (64975 < i) by omega), (show i < 65008 by omega), (show ¬ (65533 < i) by omega), (show i < 65536 by omega), (show ¬ (983039 < i) by omega), (show ¬ (i < 91) by omega), (show 94 < i by omega), (show ¬ (i = 96) by omega), (show ¬ (i < 123) by omega), (show 191 < i by omega), (show ¬ (i = 215) by omega), (show ¬ (i = 247) by omega), (show ¬ (i < 768) by omega), (show 879 < i by omega), (show ¬ (i = 894) by omega), (show ¬ (i < 8192) by omega), (show 8203 < i by omega), (show ¬ (i < 8206) by omega), (show 8303 < i by omega), (show ¬ (i < 8592) by omega), (show 11263 < i by omega), (show ¬ (i < 12272) by omega), (show ¬ (12288 < i) by omega), (show i < 55296 by omega), (show ¬ (63743 < i) by omega), (show i < 64976 by omega), (show ¬ (65007 < i) by omega), (show ¬ (i = 65534) by omega), (show ¬ (i = 65535) by omega), not_true_eq_false, not_false_eq_true, and_true, true_and, and_false, false_and, and_self, if_true, if_false, eq_self] <;> decide
  by_cases i55 : i < 12289
  · simp only [own_stI, own_excI, (show ¬ (i < 65) by omega), (show 90 < i by omega), (show ¬ (i = 95) by omega), (show ¬ (i < 97) by omega), (show 122 < i by omega), (show ¬ (i < 192) by omega), (show 214 < i by omega), (show ¬ (i < 216) by omega), (show 246 < i by omega), (show ¬ (i < 248) by omega), (show 767 < i by omega), (show ¬ (i < 880) by omega), (show 893 < i by omega), (show ¬ (i < 895) by omega), (show 8191 < i by omega), (show ¬ (i < 8204) by omega), (show 8205 < i by omega), (show ¬ (i < 8304) by omega), (show 8591 < i by omega), (show ¬ (i < 11264) by omega), (show 12271 < i by omega), (show i < 12289 by omega), (show ¬ (55295 < i) by omega), (show i < 63744 by omega), (show ¬ (64975 < i) by omega), (show i < 65008 by omega), (show ¬ (65533 < i) by omega), (show i < 65536 by omega), (show ¬ (983039 < i) by omega), (show ¬ (i < 91) by omega), (show 94 < i by omega), (show ¬ (i = 96) by omega), (show ¬ (i < 123) by omega), (show 191 < i by omega), (show ¬ (i = 215) by omega), (show ¬ (i = 247) by omega), (show ¬ (i < 768) by omega), (show 879 < i by omega), (show ¬ (i = 894) by omega), (show ¬ (i < 8192) by omega), (show 8203 < i by omega), (show ¬ (i < 8206) by omega), (show 8303 < i by omega), (show ¬ (i < 8592) by omega), (show 11263 < i by omega), (show ¬ (i < 12272) by omega), (show ¬ (12288 < i) by omega), (show i < 55296 by omega), (show ¬ (63743 < i) by omega), (show i < 64976 by omega), (show ¬ (65007 < i) by omega), (show ¬ (i = 65534) by omega), (show ¬ (i = 65535) by omega), not_true_eq_false, not_false_eq_true, and_true, true_and, and_false, false_and, and_self, if_true, if_false, eq_self] <;> decide
  by_cases i56 : i < 12290
  · simp only [own_stI, own_excI, (show ¬ (i < 65) by omega), (show 90 < i by omega), (show ¬ (i = 95) by omega), (show ¬ (i < 97) by omega), (show 122 < i by omega), (show ¬ (i < 192) by omega), (show 214 < i by omega), (show ¬ (i < 216) by omega), (show 246 < i by omega), (show ¬ (i < 248) by omega), (show 767 < i by omega), (show ¬ (i < 880) by omega), (show 893 < i by omega), (show ¬ (i < 895) by omega), (show 8191 < i by omega), (show ¬ (i < 8204) by omega), (show 8205 < i by omega), (show ¬ (i < 8304) by omega), (show 8591 < i by omega), (show ¬ (i < 11264) by omega), (show 12271 < i by omega), (show ¬ (i < 12289) by omega), (show ¬ (55295 < i) by omega), (show i < 63744 by omega), (show ¬ (64975 < i) by omega), (show i < 65008 by omega), (show ¬ (65533 < i) by omega), (show i < 65536 by omega), (show ¬ (983039 < i) by omega), (show ¬ (i < 91) by omega), (show 94 < i by omega), (show ¬ (i = 96) by omega), (show ¬ (i < 123) by omega), (show 191 < i by omega), (show ¬ (i = 215) by omega), (show ¬ (i = 247) by omega), (show ¬ (i < 768) by omega), (show 879 < i by omega), (show ¬ (i = 894) by omega), (show ¬ (i < 8192) by omega), (show 8203 < i by omega), (show ¬ (i < 8206) by omega), (show 8303 < i by omega), (show ¬ (i < 8592) by omega), (show 11263 < i by omega), (show ¬ (i < 12272) by omega), (show 12288 < i by omega), (show i < 55296 by omega), (show ¬ (63743 < i) by omega), (show i < 64976 by omega), (show ¬ (65007 < i) by omega), (show ¬ (i = 65534) by omega), (show ¬ (i = 65535) by omega), not_true_eq_false, not_false_eq_true, and_true, true_and, and_false, false_and, and_self, if_true, if_false, eq_self] <;> decide
  by_cases i57 : i < 55295
  · simp only [own_stI, own_excI, (show ¬ (i < 65) by omega), (show 90 < i by omega), (show ¬ (i = 95) by omega), (show ¬ (i < 97) by omega), (show 122 < i by omega), (show ¬ (i < 192) by omega), (show 214 < i by omega), (show ¬ (i < 216) by omega), (show 246 < i by omega), (show ¬ (i < 248) by omega), (show 767 < i by omega), (show ¬ (i < 880) by omega), (show 893 < i by omega), (show ¬ (i < 895) by omega), (show 8191 < i by omega), (show ¬ (i < 8204) by omega), (show 8205 < i by omega), (show ¬ (i < 8304) by omega), (show 8591 < i by omega), (show ¬ (i < 11264) by omega), (show 12271 < i by omega), (show ¬ (i < 12289) by omega), (show ¬ (55295 < i) by omega), (show i < 63744 by omega), (show ¬ (64975 < i) by omega), (show i < 65008 by omega), (show ¬ (65533 < i) by omega), (show i < 65536 by omega), (show ¬ (983039 < i) by omega), (show ¬ (i < 91) by omega), (show 94 < i by omega), (show ¬ (i = 96) by omega), (show ¬ (i < 123) by omega), (show 191 < i by omega), (show ¬ (i = 215) by omega), (show ¬ (i = 247) by omega), (show ¬ (i < 768) by omega), (show 879 < i by omega), (show ¬ (i = 894) by omega), (show ¬ (i < 8192) by omega), (show 8203 < i by omega), (show ¬ (i < 8206) by omega), (show 8303 < i by omega), (show ¬ (i < 8592) by omega), (show 11263 < i by omega), (show ¬ (i < 12272) by omega), (show 12288 < i by omega), (show i < 55296 by omega), (show ¬ (63743 < i) by omega), (show i < 64976 by omega), (show ¬ (65007 < i) by omega), (show ¬ (i = 65534) by omega), (show ¬ (i = 65535) by omega), not_true_eq_false, not_false_eq_true, and_true, true_and, and_false, false_and, and_self, if_true, if_false, eq_self] <;> decide
  by_cases i58 : i < 55296
  · simp only [own_stI, own_excI, (show ¬ (i < 65) by omega), (show 90 < i by omega), (show ¬ (i = 95) by omega), (show ¬ (i < 97) by omega), (show 122 < i by omega), (show ¬ (i < 192) by omega), (show 214 < i by omega), (show ¬ (i < 216) by omega), (show 246 < i by omega), (show ¬ (i < 248) by omega), (show 767 < i by omega), (show ¬ (i < 880) by omega), (show 893 < i by omega), (show ¬ (i < 895) by omega), (show 8191 < i by omega), (show ¬ (i < 8204) by omega), (show 8205 < i by omega), (show ¬ (i < 8304) by omega), (show 8591 < i by omega), (show ¬ (i < 11264) by omega), (show 12271 < i by omega), (show ¬ (i < 12289) by omega), (show ¬ (55295 < i) by omega), (show i < 63744 by omega), (show ¬ (64975 < i) by omega), (show i < 65008 by omega), (show ¬ (65533 < i) by omega), (show i < 65536 by omega), (show ¬ (983039 < i) by omega), (show ¬ (i < 91) by omega), (show 94 < i by omega), (show ¬ (i = 96) by omega), (show ¬ (i < 123) by omega), (show 191 < i by omega), (show ¬ (i = 215) by omega), (show ¬ (i = 247) by omega), (show ¬ (i < 768) by omega), (show 879 < i by omega), (show ¬ (i = 894) by omega), (show ¬ (i < 8192) by omega), (show 8203 < i by omega), (show ¬ (i < 8206) by omega), (show 8303 < i by omega), (show ¬ (i < 8592) by omega), (show 11263 < i by omega), (show ¬ (i < 12272) by omega), (show 12288 < i by omega), (show i < 55296 by omega), (show ¬ (63743 < i) by omega), (show i < 64976 by omega), (show ¬ (65007 < i) by omega), (show ¬ (i = 65534) by omega), (show ¬ (i = 65535) by omega), not_true_eq_false, not_false_eq_true, and_true, true_and, and_false, false_and, and_self, if_true, if_false, eq_self] <;> decide
  by_cases i59 : i < 55297
  · simp only [own_stI, own_excI, (show ¬ (i < 65) by omega), (show 90 < i by omega), (show ¬ (i = 95) by omega), (show ¬ (i < 97) by omega), (show 122 < i by omega), (show ¬ (i < 192) by omega), (show 214 < i by omega), (show ¬ (i < 216) by omega), (show 246 < i by omega), (show ¬ (i < 248) by omega), (show 767 < i by omega), (show ¬ (i < 880) by omega), (show 893 < i by omega), (show ¬ (i < 895) by omega), (show 8191 < i by omega), (show ¬ (i < 8204) by omega), (show 8205 < i by omega), (show ¬ (i < 8304) by omega), (show 8591 < i by omega), (show ¬ (i < 11264) by omega), (show 12271 < i by omega), (show ¬ (i < 12289) by omega), (show 55295 < i by omega), (show i < 63744 by omega), (show ¬ (64975 < i) by omega), (show i < 65008 by omega), (show ¬ (65533 < i) by omega), (show i < 65536 by omega), (show ¬ (983039 < i) by omega), (show ¬ (i < 91) by omega), (show 94 < i by omega), (show ¬ (i = 96) by omega), (show ¬ (i < 123) by omega), (show 191 < i by omega), (show ¬ (i = 215) by omega), (show ¬ (i = 247) by omega), (show ¬ (i < 768) by omega), (show 879 < i by omega), (show ¬ (i = 894) by omega), (show ¬ (i < 8192) by omega), (show 8203 < i by omega), (show ¬ (i < 8206) by omega), (show 8303 < i by omega), (show ¬ (i < 8592) by omega), (show 11263 < i by omega), (show ¬ (i < 12272) by omega), (show 12288 < i by omega), (show ¬ (i < 55296) by omega), (show ¬ (63743 < i) by omega), (show i < 64976 by omega), (show ¬ (65007 < i) by omega), (show ¬ (i = 65534) by omega), (show ¬ (i = 65535) by omega), not_true_eq_false, not_false_eq_true, and_true, true_and, and_false, false_and, and_self, if_true, if_false, eq_self] <;> decide
  by_cases i60 : i < 63743
  · simp only [own_stI, own_excI, (show ¬ (i < 65) by omega), (show 90 < i by omega), (show ¬ (i = 95) by omega), (show ¬ (i < 97) by omega), (show 122 < i by omega), (show ¬ (i < 192) by omega), (show 214 < i by omega), (show ¬ (i < 216) by omega), (show 246 < i by omega), (show ¬ (i < 248) by omega), (show 767 < i by omega), (show ¬ (i < 880) by omega), (show 893 < i by omega), (show ¬ (i < 895) by omega), (show 8191 < i by omega), (show ¬ (i < 8204) by omega), (show 8205 < i by omega), (show ¬ (i < 8304) by omega), (show 8591 < i by omega), (show ¬ (i < 11264) by omega), (show 12271 < i by omega), (show ¬ (i < 12289) by omega), (show 55295 < i by omega), (show i < 63744 by omega), (show ¬ (64975 < i) by omega), (show i < 65008 by omega), (show ¬ (65533 < i) by omega), (show i < 65536 by omega), (show ¬ (983039 < i) by omega), (show ¬ (i < 91) by omega), (show 94 < i by omega), (show ¬ (i = 96) by omega), (show ¬ (i < 123) by omega), (show 191 < i by omega), (show ¬ (i = 215) by omega), (show ¬ (i = 247) by omega), (show ¬ (i < 768) by omega), (show 879 < i by omega), (show ¬ (i = 894) by omega), (show ¬ (i < 8192) by omega), (show 8203 < i by omega), (show ¬ (i < 8206) by omega), (show 8303 < i by omega), (show ¬ (i < 8592) by omega), (show 11263 < i by omega), (show ¬ (i < 12272) by omega), (show 12288 < i by omega), (show ¬ (i < 55296) by omega), (show ¬ (63743 < i) by omega), (show i < 64976 by omega), (show ¬ (65007 < i) by omega), (show ¬ (i = 65534) by omega), (show ¬ (i = 65535) by omega), not_true_eq_false, not_false_eq_true, and_true, true_and, and_false, false_and, and_self, if_true, if_false, eq_self] <;> decide
  by_cases i61 : i < 63744
  · simp only [own_stI, own_excI, (show ¬ (i < 65) by omega), (show 90 < i by omega), (show ¬ (i = 95) by omega), (show ¬ (i < 97) by omega), (show 122 < i by omega), (show ¬ (i < 192) by omega), (show 214 < i by omega), (show ¬ (i < 216) by omega), (show 246 < i by omega), (show ¬ (i < 248) by omega), (show 767 < i by omega), (show ¬ (i < 880) by omega), (show 893 < i by omega), (show ¬ (i < 895) by omega), (show 8191 < i by omega), (show ¬ (i < 8204) by omega), (show 8205 < i by omega), (show ¬ (i < 8304) by omega), (show 8591 < i by omega), (show ¬ (i < 11264) by omega), (show 12271 < i by omega), (show ¬ (i < 12289) by omega), (show 55295 < i by omega), (show i < 63744 by omega), (show ¬ (64975 < i) by omega), (show i < 65008 by omega), (show ¬ (65533 < i) by omega), (show i < 65536 by omega), (show ¬ (983039 < i) by omega), (show ¬ (i < 91) by omega), (show 94 < i by omega), (show ¬ (i = 96) by omega), (show ¬ (i < 123) by omega), (show 191 < i by omega), (show ¬ (i = 215) by omega), (show ¬ (i = 247) by omega), (show ¬ (i < 768) by omega), (show 879 < i by omega), (show ¬ (i = 894) by omega), (show ¬ (i < 8192) by omega), (show 8203 < i by omega), (show ¬ (i < 8206) by omega), (show 8303 < i by omega), (show ¬ (i < 8592) by omega), (show 11263 < i by omega), (show ¬ (i < 12272) by omega), (show 12288 < i by omega), (show ¬ (i < 55296) by omega), (show ¬ (63743 < i) by omega), (show i < 64976 by omega), (show ¬ (65007 < i) by omega), (show ¬ (i = 65534) by omega), (show ¬ (i = 65535) by omega), not_true_eq_false, not_false_eq_true, and_true, true_and, and_false, false_and, and_self, if_true, if_false, eq_self] <;> decide
  by_cases i62 : i < 63745
  · simp only [own_stI, own_excI, (show ¬ (i < 65) by omega), (show 90 < i by omega), (show ¬ (i = 95) by omega), (show ¬ (i < 97) by omega), (show 122 < i by omega), (show ¬ (i < 192) by omega), (show 214 < i by omega), (show ¬ (i < 216) by omega), (show 246 < i by omega), (show ¬ (i < 248) by omega), (show 767 < i by omega), (show ¬ (i < 880) by omega), (show 893 < i by omega), (show ¬ (i < 895) by omega), (show 8191 < i by omega), (show ¬ (i < 8204) by omega), (show 8205 < i by omega), (show ¬ (i < 8304) by omega), (show 8591 < i by omega), (show ¬ (i < 11264) by omega), (show 12271 < i by omega), (show ¬ (i < 12289) by omega), (show 55295 < i by omega), (show ¬ (i < 63744) by omega), (show ¬ (64975 < i) by omega), (show i < 65008 by omega), (show ¬ (65533 < i) by omega), (show i < 65536 by omega), (show ¬ (983039 < i) by omega), (show ¬ (i < 91) by omega), (show 94 < i by omega), (show ¬ (i = 96) by omega), (show ¬ (i < 123) by omega), (show 191 < i by omega), (show ¬ (i = 215) by omega), (show ¬ (i = 247) by omega), (show ¬ (i < 768) by omega), (show 879 < i by omega), (show ¬ (i = 894) by omega), (show ¬ (i < 8192) by omega), (show 8203 < i by omega), (show ¬ (i < 8206) by omega), (show 8303 < i by omega), (show ¬ (i < 8592) by omega), (show 11263 < i by omega), (show ¬ (i < 12272) by omega), (show 12288 < i by omega), (show ¬ (i < 55296) by omega), (show 63743 < i by omega), (show i < 64976 by omega), (show ¬ (65007 < i) by omega), (show ¬ (i = 65534) by omega), (show ¬ (i = 65535) by omega), not_true_eq_false, not_false_eq_true, and_true, true_and, and_false, false_and, and_self, if_true, if_false, eq_self] <;> decide
  by_cases i63 : i < 64975
  · simp only [own_stI, own_excI, (show ¬ (i < 65) by omega), (show 90 < i by omega), (show ¬ (i = 95) by omega), (show ¬ (i < 97) by omega), (show 122 < i by omega), (show ¬ (i < 192) by omega), (show 214 < i by omega), (show ¬ (i < 216) by omega), (show 246 < i by omega), (show ¬ (i < 248) by omega), (show 767 < i by omega), (show ¬ (i < 880) by omega), (show 893 < i by omega), (show ¬ (i < 895) by omega), (show 8191 < i by omega), (show ¬ (i < 8204) by omega), (show 8205 < i by omega), (show ¬ (i < 8304) by omega), (show 8591 < i by omega), (show ¬ (i < 11264) by omega), (show 12271 < i by omega), (show ¬ (i < 12289) by omega), (show 55295 < i by omega), (show ¬ (i < 63744) by omega), (show ¬ (64975 < i) by omega), (show i < 65008 by omega), (show ¬ (65533 < i) by omega), (show i < 65536 by omega), (show ¬ (983039 < i) by omega), (show ¬ (i < 91) by omega), (show 94 < i by omega), (show ¬ (i = 96) by omega), (show ¬ (i < 123) by omega), (show 191 < i by omega), (show ¬ (i = 215) by omega), (show ¬ (i = 247) by omega), (show ¬ (i < 768) by omega), (show 879 < i by omega), (show ¬ (i = 894) by omega), (show ¬ (i < 8192) by omega), (show 8203 < i by omega), (show ¬ (i < 8206) by omega), (show 8303 < i by omega), (show ¬ (i < 8592) by omega), (show 11263 < i by omega), (show ¬ (i < 12272) by omega), (show 12288 < i by omega), (show ¬ (i < 55296) by omega), (show 63743 < i by omega), (show i < 64976 by omega), (show ¬ (65007 < i) by omega), (show ¬ (i = 65534) by omega), (show ¬ (i = 65535) by omega), not_true_eq_false, not_false_eq_true, and_true, true_and, and_false, false_and, and_self, if_true, if_false, eq_self] <;> decide
  by_cases i64 : i < 64976
  · simp only [own_stI, own_excI, (show ¬ (i < 65) by omega), (show 90 < i by omega), (show ¬ (i = 95) by omega), (show ¬ (i < 97) by omega), (show 122 < i by omega), (show ¬ (i < 192) by omega), (show 214 < i by omega), (show ¬ (i < 216) by omega), (show 246 < i by omega), (show ¬ (i < 248) by omega), (show 767 < i by omega), (show ¬ (i < 880) by omega), (show 893 < i by omega), (show ¬ (i < 895) by omega), (show 8191 < i by omega), (show ¬ (i < 8204) by omega), (show 8205 < i by omega), (show ¬ (i < 8304) by omega), (show 8591 < i by omega), (show ¬ (i < 11264) by omega), (show 12271 < i by omega), (show ¬ (i < 12289) by omega), (show 55295 < i by omega), (show ¬ (i < 63744) by omega), (show ¬ (64975 < i) by omega), (show i < 65008 by omega), (show ¬ (65533 < i) by omega), (show i < 65536 by omega), (show ¬ (983039 < i) by omega), (show ¬ (i < 91) by omega), (show 94 < i by omega), (show ¬ (i = 96) by omega), (show ¬ (i < 123) by omega), (show 191 < i by omega), (show ¬ (i = 215) by omega), (show ¬ (i = 247) by omega), (show ¬ (i < 768) by omega), (show 879 < i by omega), (show ¬ (i = 894) by omega), (show ¬ (i < 8192) by omega), (show 8203 < i by omega), (show ¬ (i < 8206) by omega), (show 8303 < i by omega), (show ¬ (i < 8592) by omega), (show 11263 < i by omega), (show ¬ (i < 12272) by omega), (show 12288 < i by omega), (show ¬ (i < 55296) by omega), (show 63743 < i by omega), (show i < 64976 by omega), (show ¬ (65007 < i) by omega), (show ¬ (i = 65534) by omega), (show ¬ (i = 65535) by omega), not_true_eq_false, not_false_eq_true, and_true, true_and, and_false, false_and, and_self, if_true, if_false, eq_self] <;> decide
  by_cases i65 : i < 64977
  · simp only [own_stI, own_excI, (show ¬ (i < 65) by omega), (show 90 < i by omega), (show ¬ (i = 95) by omega), (show ¬ (i < 97) by omega), (show 122 < i by omega), (show ¬ (i < 192) by omega), (show 214 < i by omega), (show ¬ (i < 216) by omega), (show 246 < i by omega), (show ¬ (i < 248) by omega), (show 767 < i by omega), (show ¬ (i < 880) by omega), (show 893 < i by omega), (show ¬ (i < 895) by omega), (show 8191 < i by omega), (show ¬ (i < 8204) by omega), (show 8205 < i by omega), (show ¬ (i < 8304) by omega), (show 8591 < i by omega), (show ¬ (i < 11264) by omega), (show 12271 < i by omega), (show ¬ (i < 12289) by omega), (show 55295 < i by omega), (show ¬ (i < 63744) by omega), (show 64975 < i by omega), (show i < 65008 by omega), (show ¬ (65533 < i) by omega), (show i < 65536 by omega), (show ¬ (983039 < i) by omega), (show ¬ (i < 91) by omega), (show 94 < i by omega), (show ¬ (i = 96) by omega), (show ¬ (i < 123) by omega), (show 191 < i by omega), (show ¬ (i = 215) by omega), (show ¬ (i = 247) by omega), (show ¬ (i < 768) by omega), (show 879 < i by omega), (show ¬ (i = 894) by omega), (show ¬ (i < 8192) by omega), (show 8203 < i by omega), (show ¬ (i < 8206) by omega), (show 8303 < i by omega), (show ¬ (i < 8592) by omega), (show 11263 < i by omega), (show ¬ (i < 12272) by omega), (show 12288 < i by omega), (show ¬ (i < 55296) by omega), (show 63743 < i by omega), (show ¬ (i < 64976) by omega), (show ¬ (65007 < i) by omega), (show ¬ (i = 65534) by omega), (show ¬ (i = 65535) by omega), not_true_eq_false, not_false_eq_true, and_true, true_and, and_false, false_and, and_self, if_true, if_false, eq_self] <;> decide
  by_cases i66 : i < 65007
  · simp only [own_stI, own_excI, (show ¬ (i < 65) by omega), (show 90 < i by omega), (show ¬ (i = 95) by omega), (show ¬ (i < 97) by omega), (show 122 < i by omega), (show ¬ (i < 192) by omega), (show 214 < i by omega), (show ¬ (i < 216) by omega), (show 246 < i by omega), (show ¬ (i < 248) by omega), (show 767 < i by omega), (show ¬ (i < 880) by omega), (show 893 < i by omega), (show ¬ (i < 895) by omega), (show 8191 < i by omega), (show ¬ (i < 8204) by omega), (show 8205 < i by omega), (show ¬ (i < 8304) by omega), (show 8591 < i by omega), (show ¬ (i < 11264) by omega), (show 12271 < i by omega), (show ¬ (i < 12289) by omega), (show 55295 < i by omega), (show ¬ (i < 63744) by omega), (show 64975 < i by omega), (show i < 65008 by omega), (show ¬ (65533 < i) by omega), (show i < 65536 by omega), (show ¬ (983039 < i) by omega), (show ¬ (i < 91) by omega), (show 94 < i by omega), (show ¬ (i = 96) by omega), (show ¬ (i < 123) by omega), (show 191 < i by omega), (show ¬ (i = 215) by omega), (show ¬ (i = 247) by omega), (show ¬ (i < 768) by omega), (show 879 < i by omega), (show ¬ (i = 894) by omega), (show ¬ (i < 8192) by omega), (show 8203 < i by omega), (show ¬ (i < 8206) by omega), (show 8303 < i by omega), (show ¬ (i < 8592) by omega), (show 11263 < i by omega), (show ¬ (i < 12272) by omega), (show 12288 < i by omega), (show ¬ (i < 55296) by omega), (show 63743 < i by omega), (show ¬ (i < 64976) by omega), (show ¬ (65007 < i) by omega), (show ¬ (i = 65534) by omega), (show ¬ (i = 65535) by omega), not_true_eq_false, not_false_eq_true, and_true, true_and, and_false, false_and, and_self, if_true, if_false, eq_self] <;> decide
  by_cases i67 : i < 65008
  · simp only [own_stI, own_excI, (show ¬ (i < 65) by omega), (show 90 < i by omega), (show ¬ (i = 95) by omega), (show ¬ (i < 97) by omega), (show 122 < i by omega), (show ¬ (i < 192) by omega), (show 214 < i by omega), (show ¬ (i < 216) by omega), (show 246 < i by omega), (show ¬ (i < 248) by omega), (show 767 < i by omega), (show ¬ (i < 880) by omega), (show 893 < i by omega), (show ¬ (i < 895) by omega), (show 8191 < i by omega), (show ¬ (i < 8204) by omega), (show 8205 < i by omega), (show ¬ (i < 8304) by omega), (show 8591 < i by omega), (show ¬ (i < 11264) by omega), (show 12271 < i by omega), (show ¬ (i < 12289) by omega), (show 55295 < i by omega), (show ¬ (i < 63744) by omega), (show 64975 < i by omega), (show i < 65008 by omega), (show ¬ (65533 < i) by omega), (show i < 65536 by omega), (show ¬ (983039 < i) by omega), (show ¬ (i < 91) by omega), (show 94 < i by omega), (show ¬ (i = 96) by omega), (show ¬ (i < 123) by omega), (show 191 < i by omega), (show ¬ (i = 215) by omega), (show ¬ (i = 247) by omega), (show ¬ (i < 768) by omega), (show 879 < i by omega), (show ¬ (i = 894) by omega), (show ¬ (i < 8192) by omega), (show 8203 < i by omega), (show ¬ (i < 8206) by omega), (show 8303 < i by omega), (show ¬ (i < 8592) by omega), (show 11263 < i by omega), (show ¬ (i < 12272) by omega), (show 12288 < i by omega), (show ¬ (i < 55296) by omega), (show 63743 < i by omega), (show ¬ (i < 64976) by omega), (show ¬ (65007 < i) by omega), (show ¬ (i = 65534) by omega), (show ¬ (i = 65535) by omega), not_true_eq_false, not_false_eq_true, and_true, true_and, and_false, false_and, and_self, if_true, if_false, eq_self] <;> decide
  by_cases i68 : i < 65009
  · simp only [own_stI, own_excI, (show ¬ (i < 65) by omega), (show 90 < i by omega), (show ¬ (i = 95) by omega), (show ¬ (i < 97) by omega), (show 122 < i by omega), (show ¬ (i < 192) by omega), (show 214 < i by omega), (show ¬ (i < 216) by omega), (show 246 < i by omega), (show ¬ (i < 248) by omega), (show 767 < i by omega), (show ¬ (i < 880) by omega), (show 893 < i by omega), (show ¬ (i < 895) by omega), (show 8191 < i by omega), (show ¬ (i < 8204) by omega), (show 8205 < i by omega), (show ¬ (i < 8304) by omega), (show 8591 < i by omega), (show ¬ (i < 11264) by omega), (show 12271 < i by omega), (show ¬ (i < 12289) by omega), (show 55295 < i by omega), (show ¬ (i < 63744) by omega), (show 64975 < i by omega), (show ¬ (i < 65008) by omega), (show ¬ (65533 < i) by omega), (show i < 65536 by omega), (show ¬ (983039 < i) by omega), (show ¬ (i < 91) by omega), (show 94 < i by omega), (show ¬ (i = 96) by omega), (show ¬ (i < 123) by omega), (show 191 < i by omega), (show ¬ (i = 215) by omega), (show ¬ (i = 247) by omega), (show ¬ (i < 768) by omega), (show 879 < i by omega), (show ¬ (i = 894) by omega), (show ¬ (i < 8192) by omega), (show 8203 < i by omega), (show ¬ (i < 8206) by omega), (show 8303 < i by omega), (show ¬ (i < 8592) by omega), (show 11263 < i by omega), (show ¬ (i < 12272) by omega), (show 12288 < i by omega), (show ¬ (i < 55296) by omega), (show 63743 < i by omega), (show ¬ (i < 64976) by omega), (show 65007 < i by omega), (show ¬ (i = 65534) by omega), (show ¬ (i = 65535) by omega), not_true_eq_false, not_false_eq_true, and_true, true_and, and_false, false_and, and_self, if_true, if_false, eq_self] <;> decide
  by_cases i69 : i < 65533
  · simp only [own_stI, own_excI, (show ¬ (i < 65) by omega), (show 90 < i by omega), (show ¬ (i = 95) by omega), (show ¬ (i < 97) by omega), (show 122 < i by omega), (show ¬ (i < 192) by omega), (show 214 < i by omega), (show ¬ (i < 216) by omega), (show 246 < i by omega), (show ¬ (i < 248) by omega), (show 767 < i by omega), (show ¬ (i < 880) by omega), (show 893 < i by omega), (show ¬ (i < 895) by omega), (show 8191 < i by omega), (show ¬ (i < 8204) by omega), (show 8205 < i by omega), (show ¬ (i < 8304) by omega), (show 8591 < i by omega), (show ¬ (i < 11264) by omega), (show 12271 < i by omega), (show ¬ (i < 12289) by omega), (show 55295 < i by omega), (show ¬ (i < 63744) by omega), (show 64975 < i by omega), (show ¬ (i < 65008) by omega), (show ¬ (65533 < i) by omega), (show i < 65536 by omega), (show ¬ (983039 < i) by omega), (show ¬ (i < 91) by omega), (show 94 < i by omega), (show ¬ (i = 96) by omega), (show ¬ (i < 123) by omega), (show 191 < i by omega), (show ¬ (i = 215) by omega), (show ¬ (i = 247) by omega), (show ¬ (i < 768) by omega), (show 879 < i by omega), (show ¬ (i = 894) by omega), (show ¬ (i < 8192) by omega), (show 8203 < i by omega), (show ¬ (i < 8206) by omega), (show 8303 < i by omega), (show ¬ (i < 8592) by omega), (show 11263 < i by omega), (show ¬ (i < 12272) by omega), (show 12288 < i by omega), (show ¬ (i < 55296) by omega), (show 63743 < i by omega), (show ¬ (i < 64976) by omega), (show 65007 < i by omega), (show ¬ (i = 65534) by omega), (show ¬ (i = 65535) by omega), not_true_eq_false, not_false_eq_true, and_true, true_and, and_false, false_and, and_self, if_true, if_false, eq_self] <;> decide
  by_cases i70 : i < 65534
  · simp only [own_stI, own_excI, (show ¬ (i < 65) by omega), (show 90 < i by omega), (show ¬ (i = 95) by omega), (show ¬ (i < 97) by omega), (show 122 < i by omega), (show ¬ (i < 192) by omega), (show 214 < i by omega), (show ¬ (i < 216) by omega), (show 246 < i by omega), (show ¬ (i < 248) by omega), (show 767 < i by omega), (show ¬ (i < 880) by omega), (show 893 < i by omega), (show ¬ (i < 895) by omega), (show 8191 < i by omega), (show ¬ (i < 8204) by omega), (show 8205 < i by omega), (show ¬ (i < 8304) by omega), (show 8591 < i by omega), (show ¬ (i < 11264) by omega), (show 12271 < i by omega), (show ¬ (i < 12289) by omega), (show 55295 < i by omega), (show ¬ (i < 63744) by omega), (show 64975 < i by omega), (show ¬ (i < 65008) by omega), (show ¬ (65533 < i) by omega), (show i < 65536 by omega), (show ¬ (983039 < i) by omega), (show ¬ (i < 91) by omega), (show 94 < i by omega), (show ¬ (i = 96) by omega), (show ¬ (i < 123) by omega), (show 191 < i by omega), (show ¬ (i = 215) by omega), (show ¬ (i = 247) by omega), (show ¬ (i < 768) by omega), (show 879 < i by omega), (show ¬ (i = 894) by omega), (show ¬ (i < 8192) by omega), (show 8203 < i by omega), (show ¬ (i < 8206) by omega), (show 8303 < i by omega), (show ¬ (i < 8592) by omega), (show 11263 < i by omega), (show ¬ (i < 12272) by omega), (show 12288 < i by omega), (show ¬ (i < 55296) by omega), (show 63743 < i by omega), (show ¬ (i < 64976) by omega), (show 65007 < i by omega), (show ¬ (i = 65534) by omega), (show ¬ (i = 65535) by omega), not_true_eq_false, not_false_eq_true, and_true, true_and, and_false, false_and, and_self, if_true, if_false, eq_self] <;> decide
  by_cases i71 : i < 65535
  · simp only [own_stI, own_excI, (show ¬ (i < 65) by omega), (show 90 < i by omega), (show ¬ (i = 95) by omega), (show ¬ (i < 97) by omega), (show 122 < i by omega), (show ¬ (i < 192) by omega), (show 214 < i by omega), (show ¬ (i < 216) by omega), (show 246 < i by omega), (show ¬ (i < 248) by omega), (show 767 < i by omega), (show ¬ (i < 880) by omega), (show 893 < i by omega), (show ¬ (i < 895) by omega), (show 8191 < i by omega), (show ¬ (i < 8204) by omega), (show 8205 < i by omega), (show ¬ (i < 8304) by omega), (show 8591 < i by omega), (show ¬ (i < 11264) by omega), (show 12271 < i by omega), (show ¬ (i < 12289) by omega), (show 55295 < i by omega), (show ¬ (i < 63744) by omega), (show 64975 < i by omega), (show ¬ (i < 65008) by omega), (show 65533 < i by omega), (show i < 65536 by omega), (show ¬ (983039 < i) by omega), (show ¬ (i < 91) by omega), (show 94 < i by omega), (show ¬ (i = 96) by omega), (show ¬ (i < 123) by omega), (show 191 < i by omega), (show ¬ (i = 215) by omega), (show ¬ (i = 247) by omega), (show ¬ (i < 768) by omega), (show 879 < i by omega), (show ¬ (i = 894) by omega), (show ¬ (i < 8192) by omega), (show 8203 < i by omega), (show ¬ (i < 8206) by omega), (show 8303 < i by omega), (show ¬ (i < 8592) by omega), (show 11263 < i by omega), (show ¬ (i < 12272) by omega), (show 12288 < i by omega), (show ¬ (i < 55296) by omega), (show 63743 < i by omega), (show ¬ (i < 64976) by omega), (show 65007 < i by omega), (show i = 65534 by omega), (show ¬ (i = 65535) by omega), not_true_eq_false, not_false_eq_true, and_true, true_and, and_false, false_and, and_self, if_true, if_false, eq_self] <;> decide
  by_cases i72 : i < 65536
  · simp only [own_stI, own_excI, (show ¬ (i < 65) by omega), (show 90 < i by omega), (show ¬ (i = 95) by omega), (show ¬ (i < 97) by omega), (show 122 < i by omega), (show ¬ (i < 192) by omega), (show 214 < i by omega), (show ¬ (i < 216) by omega), (show 246 < i by omega), (show ¬ (i < 248) by omega), (show 767 < i by omega), (show ¬ (i < 880) by omega), (show 893 < i by omega), (show ¬ (i < 895) by omega), (show 8191 < i by omega), (show ¬ (i < 8204) by omega), (show 8205 < i by omega), (show ¬ (i < 8304) by omega), (show 8591 < i by omega), (show ¬ (i < 11264) by omega), (show 12271 < i by omega), (show ¬ (i < 12289) by omega), (show 55295 < i by omega), (show ¬ (i < 63744) by omega), (show 64975 < i by omega), (show ¬ (i < 65008) by omega), (show 65533 < i by omega), (show i < 65536 by omega), (show ¬ (983039 < i) by omega), (show ¬ (i < 91) by omega), (show 94 < i by omega), (show ¬ (i = 96) by omega), (show ¬ (i < 123) by omega), (show 191 < i by omega), (show ¬ (i = 215) by omega), (show ¬ (i = 247) by omega), (show ¬ (i < 768) by omega), (show 879 < i by omega), (show ¬ (i = 894) by omega), (show ¬ (i < 8192) by omega), (show 8203 < i by omega), (show ¬ (i < 8206) by omega), (show 8303 < i by omega), (show ¬ (i < 8592) by omega), (show 11263 < i by omega), (show ¬ (i < 12272) by omega), (show 12288 < i by omega), (show ¬ (i < 55296) by omega), (show 63743 < i by omega), (show ¬ (i < 64976) by omega), (show 65007 < i by omega), (show ¬ (i = 65534) by omega), (show i = 65535 by omega), not_true_eq_false, not_false_eq_true, and_true, true_and, and_false, false_and, and_self, if_true, if_false, eq_self] <;> decide
  by_cases i73 : i < 65537
  · simp only [own_stI, own_excI, (show ¬ (i < 65) by omega), (show 90 < i by omega), (show ¬ (i = 95) by omega), (show ¬ (i < 97) by omega), (show 122 < i by omega), (show ¬ (i < 192) by omega), (show 214 < i by omega), (show ¬ (i < 216) by omega), (show 246 < i by omega), (show ¬ (i < 248) by omega), (show 767 < i by omega), (show ¬ (i < 880) by omega), (show 893 < i by omega), (show ¬ (i < 895) by omega), (show 8191 < i by omega), (show ¬ (i < 8204) by omega), (show 8205 < i by omega), (show ¬ (i < 8304) by omega), (show 8591 < i by omega), (show ¬ (i < 11264) by omega), (show 12271 < i by omega), (show ¬ (i < 12289) by omega), (show 55295 < i by omega), (show ¬ (i < 63744) by omega), (show 64975 < i by omega), (show ¬ (i < 65008) by omega), (show 65533 < i by omega), (show ¬ (i < 65536) by omega), (show ¬ (983039 < i) by omega), (show ¬ (i < 91) by omega), (show 94 < i by omega), (show ¬ (i = 96) by omega), (show ¬ (i < 123) by omega), (show 191 < i by omega), (show ¬ (i = 215) by omega), (show ¬ (i = 247) by omega), (show ¬ (i < 768) by omega), (show 879 < i by omega), (show ¬ (i = 894) by omega), (show ¬ (i < 8192) by omega), (show 8203 < i by omega), (show ¬ (i < 8206) by omega), (show 8303 < i by omega), (show ¬ (i < 8592) by omega), (show 11263 < i by omega), (show ¬ (i < 12272) by omega), (show 12288 < i by omega), (show ¬ (i < 55296) by omega), (show 63743 < i by omega), (show ¬ (i < 64976) by omega), (show 65007 < i by omega), (show ¬ (i = 65534) by omega), (show ¬ (i = 65535) by omega), not_true_eq_false, not_false_eq_true, and_true, true_and, and_false, false_and, and_self, if_true, if_false, eq_self] <;> decide
  by_cases i74 : i < 983039
  · simp only [own_stI, own_excI, (show ¬ (i < 65) by omega), (show 90 < i by omega), (show ¬ (i = 95) by omega), (show ¬ (i < 97) by omega), (show 122 < i by omega), (show ¬ (i < 192) by omega), (show 214 < i by omega), (show ¬ (i < 216) by omega), (show 246 < i by omega), (show ¬ (i < 248) by omega), (show 767 < i by omega), (show ¬ (i < 880) by omega), (show 893 < i by omega), (show ¬ (i < 895) by omega), (show 8191 < i by omega), (show ¬ (i < 8204) by omega), (show 8205 < i by omega), (show ¬ (i < 8304) by omega), (show 8591 < i by omega), (show ¬ (i < 11264) by omega), (show 12271 < i by omega), (show ¬ (i < 12289) by omega), (show 55295 < i by omega), (show ¬ (i < 63744) by omega), (show 64975 < i by omega), (show ¬ (i < 65008) by omega), (show 65533 < i by omega), (show ¬ (i < 65536) by omega), (show ¬ (983039 < i) by omega), (show ¬ (i < 91) by omega), (show 94 < i by omega), (show ¬ (i = 96) by omega), (show ¬ (i < 123) by omega), (show 191 < i by omega), (show ¬ (i = 215) by omega), (show ¬ (i = 247) by omega), (show ¬ (i < 768) by omega), (show 879 < i by omega), (show ¬ (i = 894) by omega), (show ¬ (i < 8192) by omega), (show 8203 < i by omega), (show ¬ (i < 8206) by omega), (show 8303 < i by omega), (show ¬ (i < 8592) by omega), (show 11263 < i by omega), (show ¬ (i < 12272) by omega), (show 12288 < i by omega), (show ¬ (i < 55296) by omega), (show 63743 < i by omega), (show ¬ (i < 64976) by omega), (show 65007 < i by omega), (show ¬ (i = 65534) by omega), (show ¬ (i = 65535) by omega), not_true_eq_false, not_false_eq_true, and_true, true_and, and_false, false_and, and_self, if_true, if_false, eq_self] <;> decide
  by_cases i75 : i < 983040
  · simp only [own_stI, own_excI, (show ¬ (i < 65) by omega), (show 90 < i by omega), (show ¬ (i = 95) by omega), (show ¬ (i < 97) by omega), (show 122 < i by omega), (show ¬ (i < 192) by omega), (show 214 < i by omega), (show ¬ (i < 216) by omega), (show 246 < i by omega), (show ¬ (i < 248) by omega), (show 767 < i by omega), (show ¬ (i < 880) by omega), (show 893 < i by omega), (show ¬ (i < 895) by omega), (show 8191 < i by omega), (show ¬ (i < 8204) by omega), (show 8205 < i by omega), (show ¬ (i < 8304) by omega), (show 8591 < i by omega), (show ¬ (i < 11264) by omega), (show 12271 < i by omega), (show ¬ (i < 12289) by omega), (show 55295 < i by omega), (show ¬ (i < 63744) by omega), (show 64975 < i by omega), (show ¬ (i < 65008) by omega), (show 65533 < i by omega), (show ¬ (i < 65536) by omega), (show ¬ (983039 < i) by omega), (show ¬ (i < 91) by omega), (show 94 < i by omega), (show ¬ (i = 96) by omega), (show ¬ (i < 123) by omega), (show 191 < i by omega), (show ¬ (i = 215) by omega), (show ¬ (i = 247) by omega), (show ¬ (i < 768) by omega), (show 879 < i by omega), (show ¬ (i = 894) by omega), (show ¬ (i < 8192) by omega), (show 8203 < i by omega), (show ¬ (i < 8206) by omega), (show 8303 < i by omega), (show ¬ (i < 8592) by omega), (show 11263 < i by omega), (show ¬ (i < 12272) by omega), (show 12288 < i by omega), (show ¬ (i < 55296) by omega), (show 63743 < i by omega), (show ¬ (i < 64976) by omega), (show 65007 < i by omega), (show ¬ (i = 65534) by omega), (show ¬ (i = 65535) by omega), not_true_eq_false, not_false_eq_true, and_true, true_and, and_false, false_and, and_self, if_true, if_false, eq_self] <;> decide
  simp only [own_stI, own_excI, (show ¬ (i < 65) by omega), (show 90 < i by omega), (show ¬ (i = 95) by omega), (show ¬ (i < 97) by omega), (show 122 < i by omega), (show ¬ (i < 192) by omega), (show 214 < i by omega), (show ¬ (i < 216) by omega), (show 246 < i by omega), (show ¬ (i < 248) by omega), (show 767 < i by omega), (show ¬ (i < 880) by omega), (show 893 < i by omega), (show ¬ (i < 895) by omega), (show 8191 < i by omega), (show ¬ (i < 8204) by omega), (show 8205 < i by omega), (show ¬ (i < 8304) by omega), (show 8591 < i by omega), (show ¬ (i < 11264) by omega), (show 12271 < i by omega), (show ¬ (i < 12289) by omega), (show 55295 < i by omega), (show ¬ (i < 63744) by omega), (show 64975 < i by omega), (show ¬ (i < 65008) by omega), (show 65533 < i by omega), (show ¬ (i < 65536) by omega), (show 983039 < i by omega), (show ¬ (i < 91) by omega), (show 94 < i by omega), (show ¬ (i = 96) by omega), (show ¬ (i < 123) by omega), (show 191 < i by omega), (show ¬ (i = 215) by omega), (show ¬ (i = 247) by omega), (show ¬ (i < 768) by omega), (show 879 < i by omega), (show ¬ (i = 894) by omega), (show ¬ (i < 8192) by omega), (show 8203 < i by omega), (show ¬ (i < 8206) by omega), (show 8303 < i by omega), (show ¬ (i < 8592) by omega), (show 11263 < i by omega), (show ¬ (i < 12272) by omega), (show 12288 < i by omega), (show ¬ (i < 55296) by omega), (show 63743 < i by omega), (show ¬ (i < 64976) by omega), (show 65007 < i by omega), (show ¬ (i = 65534) by omega), (show ¬ (i = 65535) by omega), not_true_eq_false, not_false_eq_true, and_true, true_and, and_false, false_and, and_self, if_true, if_false, eq_self] <;> decide
theorem own_law (c0 : Int32) : own_st c0 = if own_exc c0 = 0 then 1 else 0 := by rw [own_stE, own_excE]; exact own_lawI _
theorem d1_0 : decode prog_182_method_2_code 0 = .ok (.iload_n 0, 1) := by decide +kernel
theorem d1_1 : decode prog_182_method_2_code 1 = .ok (.bipush 65, 2) := by decide +kernel
theorem d1_3 : decode prog_182_method_2_code 3 = .ok (.if_icmp .lt 9, 3) := by decide +kernel
theorem d1_6 : decode prog_182_method_2_code 6 = .ok (.iload_n 0, 1) := by decide +kernel
theorem d1_7 : decode prog_182_method_2_code 7 = .ok (.bipush 90, 2) := by decide +kernel
theorem d1_9 : decode prog_182_method_2_code 9 = .ok (.if_icmp .le 182, 3) := by decide +kernel
theorem d1_12 : decode prog_182_method_2_code 12 = .ok (.iload_n 0, 1) := by decide +kernel
theorem d1_13 : decode prog_182_method_2_code 13 = .ok (.bipush 95, 2) := by decide +kernel
theorem d1_15 : decode prog_182_method_2_code 15 = .ok (.if_icmp .eq 176, 3) := by decide +kernel
theorem d1_18 : decode prog_182_method_2_code 18 = .ok (.iload_n 0, 1) := by decide +kernel
theorem d1_19 : decode prog_182_method_2_code 19 = .ok (.bipush 97, 2) := by decide +kernel
theorem d1_21 : decode prog_182_method_2_code 21 = .ok (.if_icmp .lt 9, 3) := by decide +kernel
theorem d1_24 : decode prog_182_method_2_code 24 = .ok (.iload_n 0, 1) := by decide +kernel
theorem d1_25 : decode prog_182_method_2_code 25 = .ok (.bipush 122, 2) := by decide +kernel
theorem d1_27 : decode prog_182_method_2_code 27 = .ok (.if_icmp .le 164, 3) := by decide +kernel
theorem d1_30 : decode prog_182_method_2_code 30 = .ok (.iload_n 0, 1) := by decide +kernel
theorem d1_31 : decode prog_182_method_2_code 31 = .ok (.sipush 192, 3) := by decide +kernel
theorem d1_34 : decode prog_182_method_2_code 34 = .ok (.if_icmp .lt 10, 3) := by decide +kernel
theorem d1_37 : decode prog_182_method_2_code 37 = .ok (.iload_n 0, 1) := by decide +kernel
theorem d1_38 : decode prog_182_method_2_code 38 = .ok (.sipush 214, 3) := by decide +kernel
theorem d1_41 : decode prog_182_method_2_code 41 = .ok (.if_icmp .le 150, 3) := by decide +kernel
theorem d1_44 : decode prog_182_method_2_code 44 = .ok (.iload_n 0, 1) := by decide +kernel
theorem d1_45 : decode prog_182_method_2_code 45 = .ok (.sipush 216, 3) := by decide +kernel
theorem d1_48 : decode prog_182_method_2_code 48 = .ok (.if_icmp .lt 10, 3) := by decide +kernel
theorem d1_51 : decode prog_182_method_2_code 51 = .ok (.iload_n 0, 1) := by decide +kernel
theorem d1_52 : decode prog_182_method_2_code 52 = .ok (.sipush 246, 3) := by decide +kernel
theorem d1_55 : decode prog_182_method_2_code 55 = .ok (.if_icmp .le 136, 3) := by decide +kernel
theorem d1_58 : decode prog_182_method_2_code 58 = .ok (.iload_n 0, 1) := by decide +kernel
theorem d1_59 : decode prog_182_method_2_code 59 = .ok (.sipush 248, 3) := by decide +kernel
theorem d1_62 : decode prog_182_method_2_code 62 = .ok (.if_icmp .lt 10, 3) := by decide +kernel
theorem d1_65 : decode prog_182_method_2_code 65 = .ok (.iload_n 0, 1) := by decide +kernel
theorem d1_66 : decode prog_182_method_2_code 66 = .ok (.sipush 767, 3) := by decide +kernel
theorem d1_69 : decode prog_182_method_2_code 69 = .ok (.if_icmp .le 122, 3) := by decide +kernel
theorem d1_72 : decode prog_182_method_2_code 72 = .ok (.iload_n 0, 1) := by decide +kernel
theorem d1_73 : decode prog_182_method_2_code 73 = .ok (.sipush 880, 3) := by decide +kernel
theorem d1_76 : decode prog_182_method_2_code 76 = .ok (.if_icmp .lt 10, 3) := by decide +kernel
theorem d1_79 : decode prog_182_method_2_code 79 = .ok (.iload_n 0, 1) := by decide +kernel
theorem d1_80 : decode prog_182_method_2_code 80 = .ok (.sipush 893, 3) := by decide +kernel
theorem d1_83 : decode prog_182_method_2_code 83 = .ok (.if_icmp .le 108, 3) := by decide +kernel
theorem d1_86 : decode prog_182_method_2_code 86 = .ok (.iload_n 0, 1) := by decide +kernel
theorem d1_87 : decode prog_182_method_2_code 87 = .ok (.sipush 895, 3) := by decide +kernel
theorem d1_90 : decode prog_182_method_2_code 90 = .ok (.if_icmp .lt 10, 3) := by decide +kernel
theorem d1_93 : decode prog_182_method_2_code 93 = .ok (.iload_n 0, 1) := by decide +kernel
theorem d1_94 : decode prog_182_method_2_code 94 = .ok (.sipush 8191, 3) := by decide +kernel
theorem d1_97 : decode prog_182_method_2_code 97 = .ok (.if_icmp .le 94, 3) := by decide +kernel
theorem d1_100 : decode prog_182_method_2_code 100 = .ok (.iload_n 0, 1) := by decide +kernel
theorem d1_101 : decode prog_182_method_2_code 101 = .ok (.sipush 8204, 3) := by decide +kernel
theorem d1_104 : decode prog_182_method_2_code 104 = .ok (.if_icmp .lt 10, 3) := by decide +kernel
theorem d1_107 : decode prog_182_method_2_code 107 = .ok (.iload_n 0, 1) := by decide +kernel
theorem d1_108 : decode prog_182_method_2_code 108 = .ok (.sipush 8205, 3) := by decide +kernel
theorem d1_111 : decode prog_182_method_2_code 111 = .ok (.if_icmp .le 80, 3) := by decide +kernel
theorem d1_114 : decode prog_182_method_2_code 114 = .ok (.iload_n 0, 1) := by decide +kernel
theorem d1_115 : decode prog_182_method_2_code 115 = .ok (.sipush 8304, 3) := by decide +kernel
theorem d1_118 : decode prog_182_method_2_code 118 = .ok (.if_icmp .lt 10, 3) := by decide +kernel
theorem d1_121 : decode prog_182_method_2_code 121 = .ok (.iload_n 0, 1) := by decide +kernel
theorem d1_122 : decode prog_182_method_2_code 122 = .ok (.sipush 8591, 3) := by decide +kernel
theorem d1_125 : decode prog_182_method_2_code 125 = .ok (.if_icmp .le 66, 3) := by decide +kernel
theorem d1_128 : decode prog_182_method_2_code 128 = .ok (.iload_n 0, 1) := by decide +kernel
theorem d1_129 : decode prog_182_method_2_code 129 = .ok (.sipush 11264, 3) := by decide +kernel
theorem d1_132 : decode prog_182_method_2_code 132 = .ok (.if_icmp .lt 10, 3) := by decide +kernel
theorem d1_135 : decode prog_182_method_2_code 135 = .ok (.iload_n 0, 1) := by decide +kernel
theorem d1_136 : decode prog_182_method_2_code 136 = .ok (.sipush 12271, 3) := by decide +kernel
theorem d1_139 : decode prog_182_method_2_code 139 = .ok (.if_icmp .le 52, 3) := by decide +kernel
theorem d1_142 : decode prog_182_method_2_code 142 = .ok (.iload_n 0, 1) := by decide +kernel
theorem d1_143 : decode prog_182_method_2_code 143 = .ok (.sipush 12289, 3) := by decide +kernel
theorem d1_146 : decode prog_182_method_2_code 146 = .ok (.if_icmp .lt 9, 3) := by decide +kernel
theorem d1_149 : decode prog_182_method_2_code 149 = .ok (.iload_n 0, 1) := by decide +kernel
theorem d1_150 : decode prog_182_method_2_code 150 = .ok (.ldc 7, 2) := by decide +kernel
theorem d1_152 : decode prog_182_method_2_code 152 = .ok (.if_icmp .le 39, 3) := by decide +kernel
theorem d1_155 : decode prog_182_method_2_code 155 = .ok (.iload_n 0, 1) := by decide +kernel
theorem d1_156 : decode prog_182_method_2_code 156 = .ok (.ldc 8, 2) := by decide +kernel
theorem d1_158 : decode prog_182_method_2_code 158 = .ok (.if_icmp .lt 9, 3) := by decide +kernel
theorem d1_161 : decode prog_182_method_2_code 161 = .ok (.iload_n 0, 1) := by decide +kernel
theorem d1_162 : decode prog_182_method_2_code 162 = .ok (.ldc 9, 2) := by decide +kernel
theorem d1_164 : decode prog_182_method_2_code 164 = .ok (.if_icmp .le 27, 3) := by decide +kernel
theorem d1_167 : decode prog_182_method_2_code 167 = .ok (.iload_n 0, 1) := by decide +kernel
theorem d1_168 : decode prog_182_method_2_code 168 = .ok (.ldc 10, 2) := by decide +kernel
theorem d1_170 : decode prog_182_method_2_code 170 = .ok (.if_icmp .lt 9, 3) := by decide +kernel
theorem d1_173 : decode prog_182_method_2_code 173 = .ok (.iload_n 0, 1) := by decide +kernel
theorem d1_174 : decode prog_182_method_2_code 174 = .ok (.ldc 11, 2) := by decide +kernel
theorem d1_176 : decode prog_182_method_2_code 176 = .ok (.if_icmp .le 15, 3) := by decide +kernel
theorem d1_179 : decode prog_182_method_2_code 179 = .ok (.iload_n 0, 1) := by decide +kernel
theorem d1_180 : decode prog_182_method_2_code 180 = .ok (.ldc 12, 2) := by decide +kernel
theorem d1_182 : decode prog_182_method_2_code 182 = .ok (.if_icmp .lt 13, 3) := by decide +kernel
theorem d1_185 : decode prog_182_method_2_code 185 = .ok (.iload_n 0, 1) := by decide +kernel
theorem d1_186 : decode prog_182_method_2_code 186 = .ok (.ldc 13, 2) := by decide +kernel
theorem d1_188 : decode prog_182_method_2_code 188 = .ok (.if_icmp .gt 7, 3) := by decide +kernel
theorem d1_191 : decode prog_182_method_2_code 191 = .ok (.iconst 1, 1) := by decide +kernel
theorem d1_192 : decode prog_182_method_2_code 192 = .ok (.goto 4, 3) := by decide +kernel
theorem d1_195 : decode prog_182_method_2_code 195 = .ok (.iconst 0, 1) := by decide +kernel
theorem d1_196 : decode prog_182_method_2_code 196 = .ok (.ireturn, 1) := by decide +kernel
theorem pf_0 : plainFor (⟨"com/example/dodder/dodder/XmlNames", "isNameStartChar", "(I)Z"⟩ : MethodName) = true := by first | exact plainFor_of_name (by first | (simp [plainName, overriddenIn]; done) | decide +kernel) | decide +kernel
def Qcon_st (Z : State) (n0 : Nat) (h0 : Heap) (c0 : Int32) (v : Option Value) (h' : Heap) : Prop := (v = some (.int (own_st c0))) ∧ (h0 = h')
theorem ef_con_st (m : MethodId) (c0 : Int32) : entryFrame m #[(.int c0)] 1 = mkF m 0 #[.val (.int c0)] [] := by first | (simp [entryFrame, mkF, argsToLocals, Value.category]; done) | rfl
set_option maxRecDepth 65536 in
set_option maxHeartbeats 40000000 in
theorem con_st (l : Launch) (Z : State) (a0 : Array Value) (hw : ∀ d ∈ tables_1, d.before a0 Z = true) (n0 : Nat) (h0 : Heap) (hn0 : n0 ≤ h0.size) (c0 : Int32) :
    Con l Z n0 [] (⟨"com/example/dodder/dodder/XmlNames", "isNameStartChar", "(I)Z"⟩ : MethodName) prog_182_method_2_code 1 (some .boolean) ({ frames := 0, cells := 0, slots := 0, locals := 0 } : Room) #[(.int c0)] h0 (Qcon_st Z n0 h0 c0) := by
  refine Con.of pf_0 (fun m => ef_con_st m c0) hn0 ?_
  intro p e s m below meth c C
  refine C.iloadN d1_0 rfl rfl ?_
  refine C.bipush 65 d1_1 rfl rfl ?_
  have J12_14 : ∀ (n12 : ¬ (¬ c0 < 65 ∧ ¬ 90 < c0)), Go p l e ({ frames := 0, cells := 0, slots := 0, locals := 0 } : Room) s m #[(.int c0)] below meth c n0 (FinQ s n0 (Qcon_st Z n0 h0 c0) ({ frames := 0, cells := 0, slots := 0, locals := 0 } : Room).cells ({ frames := 0, cells := 0, slots := 0, locals := 0 } : Room).slots) h0 0 0 12 #[.val (.int c0)] [] := by
    intro n12
    refine C.iloadN d1_12 rfl rfl ?_
    refine C.bipush 95 d1_13 rfl rfl ?_
    refine C.icmp_eq d1_15 (by decide) rfl rfl (fun q15 => ?_) (fun q15 => ?_)
    · refine C.iconst 1 d1_191 rfl rfl ?_
      refine C.goto d1_192 (by decide) rfl ?_
      exact C.retZ d1_196 rfl (by decide) (by decide) ⟨(by simp only [own_st, n12, q15, not_true_eq_false, not_false_eq_true, and_true, true_and, and_false, false_and, and_self, if_true, if_false, eq_self] <;> decide), rfl⟩
    · refine C.iloadN d1_18 rfl rfl ?_
      refine C.bipush 97 d1_19 rfl rfl ?_
      have J30_15 : ∀ (n30 : ¬ (¬ c0 < 97 ∧ ¬ 122 < c0)), Go p l e ({ frames := 0, cells := 0, slots := 0, locals := 0 } : Room) s m #[(.int c0)] below meth c n0 (FinQ s n0 (Qcon_st Z n0 h0 c0) ({ frames := 0, cells := 0, slots := 0, locals := 0 } : Room).cells ({ frames := 0, cells := 0, slots := 0, locals := 0 } : Room).slots) h0 0 0 30 #[.val (.int c0)] [] := by
        intro n30
        refine C.iloadN d1_30 rfl rfl ?_
        refine C.sipush 192 d1_31 rfl rfl ?_
        have J44_16 : ∀ (n44 : ¬ (¬ c0 < 192 ∧ ¬ 214 < c0)), Go p l e ({ frames := 0, cells := 0, slots := 0, locals := 0 } : Room) s m #[(.int c0)] below meth c n0 (FinQ s n0 (Qcon_st Z n0 h0 c0) ({ frames := 0, cells := 0, slots := 0, locals := 0 } : Room).cells ({ frames := 0, cells := 0, slots := 0, locals := 0 } : Room).slots) h0 0 0 44 #[.val (.int c0)] [] := by
          intro n44
          refine C.iloadN d1_44 rfl rfl ?_
          refine C.sipush 216 d1_45 rfl rfl ?_
          have J58_17 : ∀ (n58 : ¬ (¬ c0 < 216 ∧ ¬ 246 < c0)), Go p l e ({ frames := 0, cells := 0, slots := 0, locals := 0 } : Room) s m #[(.int c0)] below meth c n0 (FinQ s n0 (Qcon_st Z n0 h0 c0) ({ frames := 0, cells := 0, slots := 0, locals := 0 } : Room).cells ({ frames := 0, cells := 0, slots := 0, locals := 0 } : Room).slots) h0 0 0 58 #[.val (.int c0)] [] := by
            intro n58
            refine C.iloadN d1_58 rfl rfl ?_
            refine C.sipush 248 d1_59 rfl rfl ?_
            have J72_18 : ∀ (n72 : ¬ (¬ c0 < 248 ∧ ¬ 767 < c0)), Go p l e ({ frames := 0, cells := 0, slots := 0, locals := 0 } : Room) s m #[(.int c0)] below meth c n0 (FinQ s n0 (Qcon_st Z n0 h0 c0) ({ frames := 0, cells := 0, slots := 0, locals := 0 } : Room).cells ({ frames := 0, cells := 0, slots := 0, locals := 0 } : Room).slots) h0 0 0 72 #[.val (.int c0)] [] := by
              intro n72
              refine C.iloadN d1_72 rfl rfl ?_
              refine C.sipush 880 d1_73 rfl rfl ?_
              have J86_19 : ∀ (n86 : ¬ (¬ c0 < 880 ∧ ¬ 893 < c0)), Go p l e ({ frames := 0, cells := 0, slots := 0, locals := 0 } : Room) s m #[(.int c0)] below meth c n0 (FinQ s n0 (Qcon_st Z n0 h0 c0) ({ frames := 0, cells := 0, slots := 0, locals := 0 } : Room).cells ({ frames := 0, cells := 0, slots := 0, locals := 0 } : Room).slots) h0 0 0 86 #[.val (.int c0)] [] := by
                intro n86
                refine C.iloadN d1_86 rfl rfl ?_
                refine C.sipush 895 d1_87 rfl rfl ?_
                have J100_20 : ∀ (n100 : ¬ (¬ c0 < 895 ∧ ¬ 8191 < c0)), Go p l e ({ frames := 0, cells := 0, slots := 0, locals := 0 } : Room) s m #[(.int c0)] below meth c n0 (FinQ s n0 (Qcon_st Z n0 h0 c0) ({ frames := 0, cells := 0, slots := 0, locals := 0 } : Room).cells ({ frames := 0, cells := 0, slots := 0, locals := 0 } : Room).slots) h0 0 0 100 #[.val (.int c0)] [] := by
                  intro n100
                  refine C.iloadN d1_100 rfl rfl ?_
                  refine C.sipush 8204 d1_101 rfl rfl ?_
                  have J114_21 : ∀ (n114 : ¬ (¬ c0 < 8204 ∧ ¬ 8205 < c0)), Go p l e ({ frames := 0, cells := 0, slots := 0, locals := 0 } : Room) s m #[(.int c0)] below meth c n0 (FinQ s n0 (Qcon_st Z n0 h0 c0) ({ frames := 0, cells := 0, slots := 0, locals := 0 } : Room).cells ({ frames := 0, cells := 0, slots := 0, locals := 0 } : Room).slots) h0 0 0 114 #[.val (.int c0)] [] := by
                    intro n114
                    refine C.iloadN d1_114 rfl rfl ?_
                    refine C.sipush 8304 d1_115 rfl rfl ?_
                    have J128_22 : ∀ (n128 : ¬ (¬ c0 < 8304 ∧ ¬ 8591 < c0)), Go p l e ({ frames := 0, cells := 0, slots := 0, locals := 0 } : Room) s m #[(.int c0)] below meth c n0 (FinQ s n0 (Qcon_st Z n0 h0 c0) ({ frames := 0, cells := 0, slots := 0, locals := 0 } : Room).cells ({ frames := 0, cells := 0, slots := 0, locals := 0 } : Room).slots) h0 0 0 128 #[.val (.int c0)] [] := by
                      intro n128
                      refine C.iloadN d1_128 rfl rfl ?_
                      refine C.sipush 11264 d1_129 rfl rfl ?_
                      have J142_23 : ∀ (n142 : ¬ (¬ c0 < 11264 ∧ ¬ 12271 < c0)), Go p l e ({ frames := 0, cells := 0, slots := 0, locals := 0 } : Room) s m #[(.int c0)] below meth c n0 (FinQ s n0 (Qcon_st Z n0 h0 c0) ({ frames := 0, cells := 0, slots := 0, locals := 0 } : Room).cells ({ frames := 0, cells := 0, slots := 0, locals := 0 } : Room).slots) h0 0 0 142 #[.val (.int c0)] [] := by
                        intro n142
                        refine C.iloadN d1_142 rfl rfl ?_
                        refine C.sipush 12289 d1_143 rfl rfl ?_
                        have J155_24 : ∀ (n155 : ¬ (¬ c0 < 12289 ∧ ¬ 55295 < c0)), Go p l e ({ frames := 0, cells := 0, slots := 0, locals := 0 } : Room) s m #[(.int c0)] below meth c n0 (FinQ s n0 (Qcon_st Z n0 h0 c0) ({ frames := 0, cells := 0, slots := 0, locals := 0 } : Room).cells ({ frames := 0, cells := 0, slots := 0, locals := 0 } : Room).slots) h0 0 0 155 #[.val (.int c0)] [] := by
                          intro n155
                          refine C.iloadN d1_155 rfl rfl ?_
                          refine C.ldcI d1_156 rfl (tw hw 13 rfl) ?_
                          have J167_25 : ∀ (n167 : ¬ (¬ c0 < 63744 ∧ ¬ 64975 < c0)), Go p l e ({ frames := 0, cells := 0, slots := 0, locals := 0 } : Room) s m #[(.int c0)] below meth c n0 (FinQ s n0 (Qcon_st Z n0 h0 c0) ({ frames := 0, cells := 0, slots := 0, locals := 0 } : Room).cells ({ frames := 0, cells := 0, slots := 0, locals := 0 } : Room).slots) h0 0 0 167 #[.val (.int c0)] [] := by
                            intro n167
                            refine C.iloadN d1_167 rfl rfl ?_
                            refine C.ldcI d1_168 rfl (tw hw 14 rfl) ?_
                            have J179_26 : ∀ (n179 : ¬ (¬ c0 < 65008 ∧ ¬ 65533 < c0)), Go p l e ({ frames := 0, cells := 0, slots := 0, locals := 0 } : Room) s m #[(.int c0)] below meth c n0 (FinQ s n0 (Qcon_st Z n0 h0 c0) ({ frames := 0, cells := 0, slots := 0, locals := 0 } : Room).cells ({ frames := 0, cells := 0, slots := 0, locals := 0 } : Room).slots) h0 0 0 179 #[.val (.int c0)] [] := by
                              intro n179
                              refine C.iloadN d1_179 rfl rfl ?_
                              refine C.ldcI d1_180 rfl (tw hw 15 rfl) ?_
                              refine C.icmp_lt d1_182 (by decide) rfl rfl (fun q182 => ?_) (fun q182 => ?_)
                              · refine C.iconst 0 d1_195 rfl rfl ?_
                                exact C.retZ d1_196 rfl (by decide) (by decide) ⟨(by simp only [own_st, n12, q15, n30, n44, n58, n72, n86, n100, n114, n128, n142, n155, n167, n179, q182, not_true_eq_false, not_false_eq_true, and_true, true_and, and_false, false_and, and_self, if_true, if_false, eq_self] <;> decide), rfl⟩
                              · refine C.iloadN d1_185 rfl rfl ?_
                                refine C.ldcI d1_186 rfl (tw hw 27 rfl) ?_
                                refine C.icmp_gt d1_188 (by decide) rfl rfl (fun q188 => ?_) (fun q188 => ?_)
                                · refine C.iconst 0 d1_195 rfl rfl ?_
                                  exact C.retZ d1_196 rfl (by decide) (by decide) ⟨(by simp only [own_st, n12, q15, n30, n44, n58, n72, n86, n100, n114, n128, n142, n155, n167, n179, q182, q188, not_true_eq_false, not_false_eq_true, and_true, true_and, and_false, false_and, and_self, if_true, if_false, eq_self] <;> decide), rfl⟩
                                · refine C.iconst 1 d1_191 rfl rfl ?_
                                  refine C.goto d1_192 (by decide) rfl ?_
                                  exact C.retZ d1_196 rfl (by decide) (by decide) ⟨(by simp only [own_st, n12, q15, n30, n44, n58, n72, n86, n100, n114, n128, n142, n155, n167, n179, q182, q188, not_true_eq_false, not_false_eq_true, and_true, true_and, and_false, false_and, and_self, if_true, if_false, eq_self] <;> decide), rfl⟩
                            refine C.icmp_lt d1_170 (by decide) rfl rfl (fun q170 => ?_) (fun q170 => ?_)
                            · exact J179_26 (fun q => q.1 q170)
                            · refine C.iloadN d1_173 rfl rfl ?_
                              refine C.ldcI d1_174 rfl (tw hw 26 rfl) ?_
                              refine C.icmp_le d1_176 (by decide) rfl rfl (fun q176 => ?_) (fun q176 => ?_)
                              · refine C.iconst 1 d1_191 rfl rfl ?_
                                refine C.goto d1_192 (by decide) rfl ?_
                                exact C.retZ d1_196 rfl (by decide) (by decide) ⟨(by simp only [own_st, n12, q15, n30, n44, n58, n72, n86, n100, n114, n128, n142, n155, n167, q170, q176, not_true_eq_false, not_false_eq_true, and_true, true_and, and_false, false_and, and_self, if_true, if_false, eq_self] <;> decide), rfl⟩
                              · exact J179_26 (fun q => q.2 q176)
                          refine C.icmp_lt d1_158 (by decide) rfl rfl (fun q158 => ?_) (fun q158 => ?_)
                          · exact J167_25 (fun q => q.1 q158)
                          · refine C.iloadN d1_161 rfl rfl ?_
                            refine C.ldcI d1_162 rfl (tw hw 25 rfl) ?_
                            refine C.icmp_le d1_164 (by decide) rfl rfl (fun q164 => ?_) (fun q164 => ?_)
                            · refine C.iconst 1 d1_191 rfl rfl ?_
                              refine C.goto d1_192 (by decide) rfl ?_
                              exact C.retZ d1_196 rfl (by decide) (by decide) ⟨(by simp only [own_st, n12, q15, n30, n44, n58, n72, n86, n100, n114, n128, n142, n155, q158, q164, not_true_eq_false, not_false_eq_true, and_true, true_and, and_false, false_and, and_self, if_true, if_false, eq_self] <;> decide), rfl⟩
                            · exact J167_25 (fun q => q.2 q164)
                        refine C.icmp_lt d1_146 (by decide) rfl rfl (fun q146 => ?_) (fun q146 => ?_)
                        · exact J155_24 (fun q => q.1 q146)
                        · refine C.iloadN d1_149 rfl rfl ?_
                          refine C.ldcI d1_150 rfl (tw hw 24 rfl) ?_
                          refine C.icmp_le d1_152 (by decide) rfl rfl (fun q152 => ?_) (fun q152 => ?_)
                          · refine C.iconst 1 d1_191 rfl rfl ?_
                            refine C.goto d1_192 (by decide) rfl ?_
                            exact C.retZ d1_196 rfl (by decide) (by decide) ⟨(by simp only [own_st, n12, q15, n30, n44, n58, n72, n86, n100, n114, n128, n142, q146, q152, not_true_eq_false, not_false_eq_true, and_true, true_and, and_false, false_and, and_self, if_true, if_false, eq_self] <;> decide), rfl⟩
                          · exact J155_24 (fun q => q.2 q152)
                      refine C.icmp_lt d1_132 (by decide) rfl rfl (fun q132 => ?_) (fun q132 => ?_)
                      · exact J142_23 (fun q => q.1 q132)
                      · refine C.iloadN d1_135 rfl rfl ?_
                        refine C.sipush 12271 d1_136 rfl rfl ?_
                        refine C.icmp_le d1_139 (by decide) rfl rfl (fun q139 => ?_) (fun q139 => ?_)
                        · refine C.iconst 1 d1_191 rfl rfl ?_
                          refine C.goto d1_192 (by decide) rfl ?_
                          exact C.retZ d1_196 rfl (by decide) (by decide) ⟨(by simp only [own_st, n12, q15, n30, n44, n58, n72, n86, n100, n114, n128, q132, q139, not_true_eq_false, not_false_eq_true, and_true, true_and, and_false, false_and, and_self, if_true, if_false, eq_self] <;> decide), rfl⟩
                        · exact J142_23 (fun q => q.2 q139)
                    refine C.icmp_lt d1_118 (by decide) rfl rfl (fun q118 => ?_) (fun q118 => ?_)
                    · exact J128_22 (fun q => q.1 q118)
                    · refine C.iloadN d1_121 rfl rfl ?_
                      refine C.sipush 8591 d1_122 rfl rfl ?_
                      refine C.icmp_le d1_125 (by decide) rfl rfl (fun q125 => ?_) (fun q125 => ?_)
                      · refine C.iconst 1 d1_191 rfl rfl ?_
                        refine C.goto d1_192 (by decide) rfl ?_
                        exact C.retZ d1_196 rfl (by decide) (by decide) ⟨(by simp only [own_st, n12, q15, n30, n44, n58, n72, n86, n100, n114, q118, q125, not_true_eq_false, not_false_eq_true, and_true, true_and, and_false, false_and, and_self, if_true, if_false, eq_self] <;> decide), rfl⟩
                      · exact J128_22 (fun q => q.2 q125)
                  refine C.icmp_lt d1_104 (by decide) rfl rfl (fun q104 => ?_) (fun q104 => ?_)
                  · exact J114_21 (fun q => q.1 q104)
                  · refine C.iloadN d1_107 rfl rfl ?_
                    refine C.sipush 8205 d1_108 rfl rfl ?_
                    refine C.icmp_le d1_111 (by decide) rfl rfl (fun q111 => ?_) (fun q111 => ?_)
                    · refine C.iconst 1 d1_191 rfl rfl ?_
                      refine C.goto d1_192 (by decide) rfl ?_
                      exact C.retZ d1_196 rfl (by decide) (by decide) ⟨(by simp only [own_st, n12, q15, n30, n44, n58, n72, n86, n100, q104, q111, not_true_eq_false, not_false_eq_true, and_true, true_and, and_false, false_and, and_self, if_true, if_false, eq_self] <;> decide), rfl⟩
                    · exact J114_21 (fun q => q.2 q111)
                refine C.icmp_lt d1_90 (by decide) rfl rfl (fun q90 => ?_) (fun q90 => ?_)
                · exact J100_20 (fun q => q.1 q90)
                · refine C.iloadN d1_93 rfl rfl ?_
                  refine C.sipush 8191 d1_94 rfl rfl ?_
                  refine C.icmp_le d1_97 (by decide) rfl rfl (fun q97 => ?_) (fun q97 => ?_)
                  · refine C.iconst 1 d1_191 rfl rfl ?_
                    refine C.goto d1_192 (by decide) rfl ?_
                    exact C.retZ d1_196 rfl (by decide) (by decide) ⟨(by simp only [own_st, n12, q15, n30, n44, n58, n72, n86, q90, q97, not_true_eq_false, not_false_eq_true, and_true, true_and, and_false, false_and, and_self, if_true, if_false, eq_self] <;> decide), rfl⟩
                  · exact J100_20 (fun q => q.2 q97)
              refine C.icmp_lt d1_76 (by decide) rfl rfl (fun q76 => ?_) (fun q76 => ?_)
              · exact J86_19 (fun q => q.1 q76)
              · refine C.iloadN d1_79 rfl rfl ?_
                refine C.sipush 893 d1_80 rfl rfl ?_
                refine C.icmp_le d1_83 (by decide) rfl rfl (fun q83 => ?_) (fun q83 => ?_)
                · refine C.iconst 1 d1_191 rfl rfl ?_
                  refine C.goto d1_192 (by decide) rfl ?_
                  exact C.retZ d1_196 rfl (by decide) (by decide) ⟨(by simp only [own_st, n12, q15, n30, n44, n58, n72, q76, q83, not_true_eq_false, not_false_eq_true, and_true, true_and, and_false, false_and, and_self, if_true, if_false, eq_self] <;> decide), rfl⟩
                · exact J86_19 (fun q => q.2 q83)
            refine C.icmp_lt d1_62 (by decide) rfl rfl (fun q62 => ?_) (fun q62 => ?_)
            · exact J72_18 (fun q => q.1 q62)
            · refine C.iloadN d1_65 rfl rfl ?_
              refine C.sipush 767 d1_66 rfl rfl ?_
              refine C.icmp_le d1_69 (by decide) rfl rfl (fun q69 => ?_) (fun q69 => ?_)
              · refine C.iconst 1 d1_191 rfl rfl ?_
                refine C.goto d1_192 (by decide) rfl ?_
                exact C.retZ d1_196 rfl (by decide) (by decide) ⟨(by simp only [own_st, n12, q15, n30, n44, n58, q62, q69, not_true_eq_false, not_false_eq_true, and_true, true_and, and_false, false_and, and_self, if_true, if_false, eq_self] <;> decide), rfl⟩
              · exact J72_18 (fun q => q.2 q69)
          refine C.icmp_lt d1_48 (by decide) rfl rfl (fun q48 => ?_) (fun q48 => ?_)
          · exact J58_17 (fun q => q.1 q48)
          · refine C.iloadN d1_51 rfl rfl ?_
            refine C.sipush 246 d1_52 rfl rfl ?_
            refine C.icmp_le d1_55 (by decide) rfl rfl (fun q55 => ?_) (fun q55 => ?_)
            · refine C.iconst 1 d1_191 rfl rfl ?_
              refine C.goto d1_192 (by decide) rfl ?_
              exact C.retZ d1_196 rfl (by decide) (by decide) ⟨(by simp only [own_st, n12, q15, n30, n44, q48, q55, not_true_eq_false, not_false_eq_true, and_true, true_and, and_false, false_and, and_self, if_true, if_false, eq_self] <;> decide), rfl⟩
            · exact J58_17 (fun q => q.2 q55)
        refine C.icmp_lt d1_34 (by decide) rfl rfl (fun q34 => ?_) (fun q34 => ?_)
        · exact J44_16 (fun q => q.1 q34)
        · refine C.iloadN d1_37 rfl rfl ?_
          refine C.sipush 214 d1_38 rfl rfl ?_
          refine C.icmp_le d1_41 (by decide) rfl rfl (fun q41 => ?_) (fun q41 => ?_)
          · refine C.iconst 1 d1_191 rfl rfl ?_
            refine C.goto d1_192 (by decide) rfl ?_
            exact C.retZ d1_196 rfl (by decide) (by decide) ⟨(by simp only [own_st, n12, q15, n30, q34, q41, not_true_eq_false, not_false_eq_true, and_true, true_and, and_false, false_and, and_self, if_true, if_false, eq_self] <;> decide), rfl⟩
          · exact J44_16 (fun q => q.2 q41)
      refine C.icmp_lt d1_21 (by decide) rfl rfl (fun q21 => ?_) (fun q21 => ?_)
      · exact J30_15 (fun q => q.1 q21)
      · refine C.iloadN d1_24 rfl rfl ?_
        refine C.bipush 122 d1_25 rfl rfl ?_
        refine C.icmp_le d1_27 (by decide) rfl rfl (fun q27 => ?_) (fun q27 => ?_)
        · refine C.iconst 1 d1_191 rfl rfl ?_
          refine C.goto d1_192 (by decide) rfl ?_
          exact C.retZ d1_196 rfl (by decide) (by decide) ⟨(by simp only [own_st, n12, q15, q21, q27, not_true_eq_false, not_false_eq_true, and_true, true_and, and_false, false_and, and_self, if_true, if_false, eq_self] <;> decide), rfl⟩
        · exact J30_15 (fun q => q.2 q27)
  refine C.icmp_lt d1_3 (by decide) rfl rfl (fun q3 => ?_) (fun q3 => ?_)
  · exact J12_14 (fun q => q.1 q3)
  · refine C.iloadN d1_6 rfl rfl ?_
    refine C.bipush 90 d1_7 rfl rfl ?_
    refine C.icmp_le d1_9 (by decide) rfl rfl (fun q9 => ?_) (fun q9 => ?_)
    · refine C.iconst 1 d1_191 rfl rfl ?_
      refine C.goto d1_192 (by decide) rfl ?_
      exact C.retZ d1_196 rfl (by decide) (by decide) ⟨(by simp only [own_st, q3, q9, not_true_eq_false, not_false_eq_true, and_true, true_and, and_false, false_and, and_self, if_true, if_false, eq_self] <;> decide), rfl⟩
    · exact J12_14 (fun q => q.2 q9)
theorem d2_0 : decode method_2_code 0 = .ok (.iload_n 0, 1) := by decide +kernel
theorem d2_1 : decode method_2_code 1 = .ok (.bipush 65, 2) := by decide +kernel
theorem d2_3 : decode method_2_code 3 = .ok (.if_icmp .lt 167, 3) := by decide +kernel
theorem d2_6 : decode method_2_code 6 = .ok (.iload_n 0, 1) := by decide +kernel
theorem d2_7 : decode method_2_code 7 = .ok (.bipush 91, 2) := by decide +kernel
theorem d2_9 : decode method_2_code 9 = .ok (.if_icmp .lt 9, 3) := by decide +kernel
theorem d2_12 : decode method_2_code 12 = .ok (.iload_n 0, 1) := by decide +kernel
theorem d2_13 : decode method_2_code 13 = .ok (.bipush 94, 2) := by decide +kernel
theorem d2_15 : decode method_2_code 15 = .ok (.if_icmp .le 155, 3) := by decide +kernel
theorem d2_18 : decode method_2_code 18 = .ok (.iload_n 0, 1) := by decide +kernel
theorem d2_19 : decode method_2_code 19 = .ok (.bipush 96, 2) := by decide +kernel
theorem d2_21 : decode method_2_code 21 = .ok (.if_icmp .eq 149, 3) := by decide +kernel
theorem d2_24 : decode method_2_code 24 = .ok (.iload_n 0, 1) := by decide +kernel
theorem d2_25 : decode method_2_code 25 = .ok (.bipush 123, 2) := by decide +kernel
theorem d2_27 : decode method_2_code 27 = .ok (.if_icmp .lt 10, 3) := by decide +kernel
theorem d2_30 : decode method_2_code 30 = .ok (.iload_n 0, 1) := by decide +kernel
theorem d2_31 : decode method_2_code 31 = .ok (.sipush 191, 3) := by decide +kernel
theorem d2_34 : decode method_2_code 34 = .ok (.if_icmp .le 136, 3) := by decide +kernel
theorem d2_37 : decode method_2_code 37 = .ok (.iload_n 0, 1) := by decide +kernel
theorem d2_38 : decode method_2_code 38 = .ok (.sipush 215, 3) := by decide +kernel
theorem d2_41 : decode method_2_code 41 = .ok (.if_icmp .eq 129, 3) := by decide +kernel
theorem d2_44 : decode method_2_code 44 = .ok (.iload_n 0, 1) := by decide +kernel
theorem d2_45 : decode method_2_code 45 = .ok (.sipush 247, 3) := by decide +kernel
theorem d2_48 : decode method_2_code 48 = .ok (.if_icmp .eq 122, 3) := by decide +kernel
theorem d2_51 : decode method_2_code 51 = .ok (.iload_n 0, 1) := by decide +kernel
theorem d2_52 : decode method_2_code 52 = .ok (.sipush 768, 3) := by decide +kernel
theorem d2_55 : decode method_2_code 55 = .ok (.if_icmp .lt 10, 3) := by decide +kernel
theorem d2_58 : decode method_2_code 58 = .ok (.iload_n 0, 1) := by decide +kernel
theorem d2_59 : decode method_2_code 59 = .ok (.sipush 879, 3) := by decide +kernel
theorem d2_62 : decode method_2_code 62 = .ok (.if_icmp .le 108, 3) := by decide +kernel
theorem d2_65 : decode method_2_code 65 = .ok (.iload_n 0, 1) := by decide +kernel
theorem d2_66 : decode method_2_code 66 = .ok (.sipush 894, 3) := by decide +kernel
theorem d2_69 : decode method_2_code 69 = .ok (.if_icmp .eq 101, 3) := by decide +kernel
theorem d2_72 : decode method_2_code 72 = .ok (.iload_n 0, 1) := by decide +kernel
theorem d2_73 : decode method_2_code 73 = .ok (.sipush 8192, 3) := by decide +kernel
theorem d2_76 : decode method_2_code 76 = .ok (.if_icmp .lt 10, 3) := by decide +kernel
theorem d2_79 : decode method_2_code 79 = .ok (.iload_n 0, 1) := by decide +kernel
theorem d2_80 : decode method_2_code 80 = .ok (.sipush 8203, 3) := by decide +kernel
theorem d2_83 : decode method_2_code 83 = .ok (.if_icmp .le 87, 3) := by decide +kernel
theorem d2_86 : decode method_2_code 86 = .ok (.iload_n 0, 1) := by decide +kernel
theorem d2_87 : decode method_2_code 87 = .ok (.sipush 8206, 3) := by decide +kernel
theorem d2_90 : decode method_2_code 90 = .ok (.if_icmp .lt 10, 3) := by decide +kernel
theorem d2_93 : decode method_2_code 93 = .ok (.iload_n 0, 1) := by decide +kernel
theorem d2_94 : decode method_2_code 94 = .ok (.sipush 8303, 3) := by decide +kernel
theorem d2_97 : decode method_2_code 97 = .ok (.if_icmp .le 73, 3) := by decide +kernel
theorem d2_100 : decode method_2_code 100 = .ok (.iload_n 0, 1) := by decide +kernel
theorem d2_101 : decode method_2_code 101 = .ok (.sipush 8592, 3) := by decide +kernel
theorem d2_104 : decode method_2_code 104 = .ok (.if_icmp .lt 10, 3) := by decide +kernel
theorem d2_107 : decode method_2_code 107 = .ok (.iload_n 0, 1) := by decide +kernel
theorem d2_108 : decode method_2_code 108 = .ok (.sipush 11263, 3) := by decide +kernel
theorem d2_111 : decode method_2_code 111 = .ok (.if_icmp .le 59, 3) := by decide +kernel
theorem d2_114 : decode method_2_code 114 = .ok (.iload_n 0, 1) := by decide +kernel
theorem d2_115 : decode method_2_code 115 = .ok (.sipush 12272, 3) := by decide +kernel
theorem d2_118 : decode method_2_code 118 = .ok (.if_icmp .lt 10, 3) := by decide +kernel
theorem d2_121 : decode method_2_code 121 = .ok (.iload_n 0, 1) := by decide +kernel
theorem d2_122 : decode method_2_code 122 = .ok (.sipush 12288, 3) := by decide +kernel
theorem d2_125 : decode method_2_code 125 = .ok (.if_icmp .le 45, 3) := by decide +kernel
theorem d2_128 : decode method_2_code 128 = .ok (.iload_n 0, 1) := by decide +kernel
theorem d2_129 : decode method_2_code 129 = .ok (.ldc 7, 2) := by decide +kernel
theorem d2_131 : decode method_2_code 131 = .ok (.if_icmp .lt 9, 3) := by decide +kernel
theorem d2_134 : decode method_2_code 134 = .ok (.iload_n 0, 1) := by decide +kernel
theorem d2_135 : decode method_2_code 135 = .ok (.ldc 8, 2) := by decide +kernel
theorem d2_137 : decode method_2_code 137 = .ok (.if_icmp .le 33, 3) := by decide +kernel
theorem d2_140 : decode method_2_code 140 = .ok (.iload_n 0, 1) := by decide +kernel
theorem d2_141 : decode method_2_code 141 = .ok (.ldc 9, 2) := by decide +kernel
theorem d2_143 : decode method_2_code 143 = .ok (.if_icmp .lt 9, 3) := by decide +kernel
theorem d2_146 : decode method_2_code 146 = .ok (.iload_n 0, 1) := by decide +kernel
theorem d2_147 : decode method_2_code 147 = .ok (.ldc 10, 2) := by decide +kernel
theorem d2_149 : decode method_2_code 149 = .ok (.if_icmp .le 21, 3) := by decide +kernel
theorem d2_152 : decode method_2_code 152 = .ok (.iload_n 0, 1) := by decide +kernel
theorem d2_153 : decode method_2_code 153 = .ok (.ldc 11, 2) := by decide +kernel
theorem d2_155 : decode method_2_code 155 = .ok (.if_icmp .eq 15, 3) := by decide +kernel
theorem d2_158 : decode method_2_code 158 = .ok (.iload_n 0, 1) := by decide +kernel
theorem d2_159 : decode method_2_code 159 = .ok (.ldc 12, 2) := by decide +kernel
theorem d2_161 : decode method_2_code 161 = .ok (.if_icmp .eq 9, 3) := by decide +kernel
theorem d2_164 : decode method_2_code 164 = .ok (.iload_n 0, 1) := by decide +kernel
theorem d2_165 : decode method_2_code 165 = .ok (.ldc 13, 2) := by decide +kernel
theorem d2_167 : decode method_2_code 167 = .ok (.if_icmp .le 7, 3) := by decide +kernel
theorem d2_170 : decode method_2_code 170 = .ok (.iconst 1, 1) := by decide +kernel
theorem d2_171 : decode method_2_code 171 = .ok (.goto 4, 3) := by decide +kernel
theorem d2_174 : decode method_2_code 174 = .ok (.iconst 0, 1) := by decide +kernel
theorem d2_175 : decode method_2_code 175 = .ok (.ireturn, 1) := by decide +kernel
theorem pf_1 : plainFor (⟨"com/example/dodder/dodder/XmlNamesIsNameStartCharPinLaw", "excluded", "(I)Z"⟩ : MethodName) = true := by first | exact plainFor_of_name (by first | (simp [plainName, overriddenIn]; done) | decide +kernel) | decide +kernel
def Qcon_ex (Z : State) (n0 : Nat) (h0 : Heap) (c0 : Int32) (v : Option Value) (h' : Heap) : Prop := (v = some (.int (own_exc c0))) ∧ (h0 = h')
theorem ef_con_ex (m : MethodId) (c0 : Int32) : entryFrame m #[(.int c0)] 1 = mkF m 0 #[.val (.int c0)] [] := by first | (simp [entryFrame, mkF, argsToLocals, Value.category]; done) | rfl
set_option maxRecDepth 65536 in
set_option maxHeartbeats 40000000 in
theorem con_ex (l : Launch) (Z : State) (a0 : Array Value) (hw : ∀ d ∈ tables_1, d.before a0 Z = true) (n0 : Nat) (h0 : Heap) (hn0 : n0 ≤ h0.size) (c0 : Int32) :
    Con l Z n0 [] (⟨"com/example/dodder/dodder/XmlNamesIsNameStartCharPinLaw", "excluded", "(I)Z"⟩ : MethodName) method_2_code 1 (some .boolean) ({ frames := 0, cells := 0, slots := 0, locals := 0 } : Room) #[(.int c0)] h0 (Qcon_ex Z n0 h0 c0) := by
  refine Con.of pf_1 (fun m => ef_con_ex m c0) hn0 ?_
  intro p e s m below meth c C
  refine C.iloadN d2_0 rfl rfl ?_
  refine C.bipush 65 d2_1 rfl rfl ?_
  refine C.icmp_lt d2_3 (by decide) rfl rfl (fun q3 => ?_) (fun q3 => ?_)
  · refine C.iconst 1 d2_170 rfl rfl ?_
    refine C.goto d2_171 (by decide) rfl ?_
    exact C.retZ d2_175 rfl (by decide) (by decide) ⟨(by simp only [own_exc, q3, not_true_eq_false, not_false_eq_true, and_true, true_and, and_false, false_and, and_self, if_true, if_false, eq_self] <;> decide), rfl⟩
  · refine C.iloadN d2_6 rfl rfl ?_
    refine C.bipush 91 d2_7 rfl rfl ?_
    have J18_36 : ∀ (n18 : ¬ (¬ c0 < 91 ∧ ¬ 94 < c0)), Go p l e ({ frames := 0, cells := 0, slots := 0, locals := 0 } : Room) s m #[(.int c0)] below meth c n0 (FinQ s n0 (Qcon_ex Z n0 h0 c0) ({ frames := 0, cells := 0, slots := 0, locals := 0 } : Room).cells ({ frames := 0, cells := 0, slots := 0, locals := 0 } : Room).slots) h0 0 0 18 #[.val (.int c0)] [] := by
      intro n18
      refine C.iloadN d2_18 rfl rfl ?_
      refine C.bipush 96 d2_19 rfl rfl ?_
      refine C.icmp_eq d2_21 (by decide) rfl rfl (fun q21 => ?_) (fun q21 => ?_)
      · refine C.iconst 1 d2_170 rfl rfl ?_
        refine C.goto d2_171 (by decide) rfl ?_
        exact C.retZ d2_175 rfl (by decide) (by decide) ⟨(by simp only [own_exc, q3, n18, q21, not_true_eq_false, not_false_eq_true, and_true, true_and, and_false, false_and, and_self, if_true, if_false, eq_self] <;> decide), rfl⟩
      · refine C.iloadN d2_24 rfl rfl ?_
        refine C.bipush 123 d2_25 rfl rfl ?_
        have J37_37 : ∀ (n37 : ¬ (¬ c0 < 123 ∧ ¬ 191 < c0)), Go p l e ({ frames := 0, cells := 0, slots := 0, locals := 0 } : Room) s m #[(.int c0)] below meth c n0 (FinQ s n0 (Qcon_ex Z n0 h0 c0) ({ frames := 0, cells := 0, slots := 0, locals := 0 } : Room).cells ({ frames := 0, cells := 0, slots := 0, locals := 0 } : Room).slots) h0 0 0 37 #[.val (.int c0)] [] := by
          intro n37
          refine C.iloadN d2_37 rfl rfl ?_
          refine C.sipush 215 d2_38 rfl rfl ?_
          refine C.icmp_eq d2_41 (by decide) rfl rfl (fun q41 => ?_) (fun q41 => ?_)
          · refine C.iconst 1 d2_170 rfl rfl ?_
            refine C.goto d2_171 (by decide) rfl ?_
            exact C.retZ d2_175 rfl (by decide) (by decide) ⟨(by simp only [own_exc, q3, n18, q21, n37, q41, not_true_eq_false, not_false_eq_true, and_true, true_and, and_false, false_and, and_self, if_true, if_false, eq_self] <;> decide), rfl⟩
          · refine C.iloadN d2_44 rfl rfl ?_
            refine C.sipush 247 d2_45 rfl rfl ?_
            refine C.icmp_eq d2_48 (by decide) rfl rfl (fun q48 => ?_) (fun q48 => ?_)
            · refine C.iconst 1 d2_170 rfl rfl ?_
              refine C.goto d2_171 (by decide) rfl ?_
              exact C.retZ d2_175 rfl (by decide) (by decide) ⟨(by simp only [own_exc, q3, n18, q21, n37, q41, q48, not_true_eq_false, not_false_eq_true, and_true, true_and, and_false, false_and, and_self, if_true, if_false, eq_self] <;> decide), rfl⟩
            · refine C.iloadN d2_51 rfl rfl ?_
              refine C.sipush 768 d2_52 rfl rfl ?_
              have J65_38 : ∀ (n65 : ¬ (¬ c0 < 768 ∧ ¬ 879 < c0)), Go p l e ({ frames := 0, cells := 0, slots := 0, locals := 0 } : Room) s m #[(.int c0)] below meth c n0 (FinQ s n0 (Qcon_ex Z n0 h0 c0) ({ frames := 0, cells := 0, slots := 0, locals := 0 } : Room).cells ({ frames := 0, cells := 0, slots := 0, locals := 0 } : Room).slots) h0 0 0 65 #[.val (.int c0)] [] := by
                intro n65
                refine C.iloadN d2_65 rfl rfl ?_
                refine C.sipush 894 d2_66 rfl rfl ?_
                refine C.icmp_eq d2_69 (by decide) rfl rfl (fun q69 => ?_) (fun q69 => ?_)
                · refine C.iconst 1 d2_170 rfl rfl ?_
                  refine C.goto d2_171 (by decide) rfl ?_
                  exact C.retZ d2_175 rfl (by decide) (by decide) ⟨(by simp only [own_exc, q3, n18, q21, n37, q41, q48, n65, q69, not_true_eq_false, not_false_eq_true, and_true, true_and, and_false, false_and, and_self, if_true, if_false, eq_self] <;> decide), rfl⟩
                · refine C.iloadN d2_72 rfl rfl ?_
                  refine C.sipush 8192 d2_73 rfl rfl ?_
                  have J86_39 : ∀ (n86 : ¬ (¬ c0 < 8192 ∧ ¬ 8203 < c0)), Go p l e ({ frames := 0, cells := 0, slots := 0, locals := 0 } : Room) s m #[(.int c0)] below meth c n0 (FinQ s n0 (Qcon_ex Z n0 h0 c0) ({ frames := 0, cells := 0, slots := 0, locals := 0 } : Room).cells ({ frames := 0, cells := 0, slots := 0, locals := 0 } : Room).slots) h0 0 0 86 #[.val (.int c0)] [] := by
                    intro n86
                    refine C.iloadN d2_86 rfl rfl ?_
                    refine C.sipush 8206 d2_87 rfl rfl ?_
                    have J100_40 : ∀ (n100 : ¬ (¬ c0 < 8206 ∧ ¬ 8303 < c0)), Go p l e ({ frames := 0, cells := 0, slots := 0, locals := 0 } : Room) s m #[(.int c0)] below meth c n0 (FinQ s n0 (Qcon_ex Z n0 h0 c0) ({ frames := 0, cells := 0, slots := 0, locals := 0 } : Room).cells ({ frames := 0, cells := 0, slots := 0, locals := 0 } : Room).slots) h0 0 0 100 #[.val (.int c0)] [] := by
                      intro n100
                      refine C.iloadN d2_100 rfl rfl ?_
                      refine C.sipush 8592 d2_101 rfl rfl ?_
                      have J114_41 : ∀ (n114 : ¬ (¬ c0 < 8592 ∧ ¬ 11263 < c0)), Go p l e ({ frames := 0, cells := 0, slots := 0, locals := 0 } : Room) s m #[(.int c0)] below meth c n0 (FinQ s n0 (Qcon_ex Z n0 h0 c0) ({ frames := 0, cells := 0, slots := 0, locals := 0 } : Room).cells ({ frames := 0, cells := 0, slots := 0, locals := 0 } : Room).slots) h0 0 0 114 #[.val (.int c0)] [] := by
                        intro n114
                        refine C.iloadN d2_114 rfl rfl ?_
                        refine C.sipush 12272 d2_115 rfl rfl ?_
                        have J128_42 : ∀ (n128 : ¬ (¬ c0 < 12272 ∧ ¬ 12288 < c0)), Go p l e ({ frames := 0, cells := 0, slots := 0, locals := 0 } : Room) s m #[(.int c0)] below meth c n0 (FinQ s n0 (Qcon_ex Z n0 h0 c0) ({ frames := 0, cells := 0, slots := 0, locals := 0 } : Room).cells ({ frames := 0, cells := 0, slots := 0, locals := 0 } : Room).slots) h0 0 0 128 #[.val (.int c0)] [] := by
                          intro n128
                          refine C.iloadN d2_128 rfl rfl ?_
                          refine C.ldcI d2_129 rfl (tw hw 20 rfl) ?_
                          have J140_43 : ∀ (n140 : ¬ (¬ c0 < 55296 ∧ ¬ 63743 < c0)), Go p l e ({ frames := 0, cells := 0, slots := 0, locals := 0 } : Room) s m #[(.int c0)] below meth c n0 (FinQ s n0 (Qcon_ex Z n0 h0 c0) ({ frames := 0, cells := 0, slots := 0, locals := 0 } : Room).cells ({ frames := 0, cells := 0, slots := 0, locals := 0 } : Room).slots) h0 0 0 140 #[.val (.int c0)] [] := by
                            intro n140
                            refine C.iloadN d2_140 rfl rfl ?_
                            refine C.ldcI d2_141 rfl (tw hw 21 rfl) ?_
                            have J152_44 : ∀ (n152 : ¬ (¬ c0 < 64976 ∧ ¬ 65007 < c0)), Go p l e ({ frames := 0, cells := 0, slots := 0, locals := 0 } : Room) s m #[(.int c0)] below meth c n0 (FinQ s n0 (Qcon_ex Z n0 h0 c0) ({ frames := 0, cells := 0, slots := 0, locals := 0 } : Room).cells ({ frames := 0, cells := 0, slots := 0, locals := 0 } : Room).slots) h0 0 0 152 #[.val (.int c0)] [] := by
                              intro n152
                              refine C.iloadN d2_152 rfl rfl ?_
                              refine C.ldcI d2_153 rfl (tw hw 22 rfl) ?_
                              refine C.icmp_eq d2_155 (by decide) rfl rfl (fun q155 => ?_) (fun q155 => ?_)
                              · refine C.iconst 1 d2_170 rfl rfl ?_
                                refine C.goto d2_171 (by decide) rfl ?_
                                exact C.retZ d2_175 rfl (by decide) (by decide) ⟨(by simp only [own_exc, q3, n18, q21, n37, q41, q48, n65, q69, n86, n100, n114, n128, n140, n152, q155, not_true_eq_false, not_false_eq_true, and_true, true_and, and_false, false_and, and_self, if_true, if_false, eq_self] <;> decide), rfl⟩
                              · refine C.iloadN d2_158 rfl rfl ?_
                                refine C.ldcI d2_159 rfl (tw hw 23 rfl) ?_
                                refine C.icmp_eq d2_161 (by decide) rfl rfl (fun q161 => ?_) (fun q161 => ?_)
                                · refine C.iconst 1 d2_170 rfl rfl ?_
                                  refine C.goto d2_171 (by decide) rfl ?_
                                  exact C.retZ d2_175 rfl (by decide) (by decide) ⟨(by simp only [own_exc, q3, n18, q21, n37, q41, q48, n65, q69, n86, n100, n114, n128, n140, n152, q155, q161, not_true_eq_false, not_false_eq_true, and_true, true_and, and_false, false_and, and_self, if_true, if_false, eq_self] <;> decide), rfl⟩
                                · refine C.iloadN d2_164 rfl rfl ?_
                                  refine C.ldcI d2_165 rfl (tw hw 7 rfl) ?_
                                  refine C.icmp_le d2_167 (by decide) rfl rfl (fun q167 => ?_) (fun q167 => ?_)
                                  · refine C.iconst 0 d2_174 rfl rfl ?_
                                    exact C.retZ d2_175 rfl (by decide) (by decide) ⟨(by simp only [own_exc, q3, n18, q21, n37, q41, q48, n65, q69, n86, n100, n114, n128, n140, n152, q155, q161, q167, not_true_eq_false, not_false_eq_true, and_true, true_and, and_false, false_and, and_self, if_true, if_false, eq_self] <;> decide), rfl⟩
                                  · refine C.iconst 1 d2_170 rfl rfl ?_
                                    refine C.goto d2_171 (by decide) rfl ?_
                                    exact C.retZ d2_175 rfl (by decide) (by decide) ⟨(by simp only [own_exc, q3, n18, q21, n37, q41, q48, n65, q69, n86, n100, n114, n128, n140, n152, q155, q161, q167, not_true_eq_false, not_false_eq_true, and_true, true_and, and_false, false_and, and_self, if_true, if_false, eq_self] <;> decide), rfl⟩
                            refine C.icmp_lt d2_143 (by decide) rfl rfl (fun q143 => ?_) (fun q143 => ?_)
                            · exact J152_44 (fun q => q.1 q143)
                            · refine C.iloadN d2_146 rfl rfl ?_
                              refine C.ldcI d2_147 rfl (tw hw 29 rfl) ?_
                              refine C.icmp_le d2_149 (by decide) rfl rfl (fun q149 => ?_) (fun q149 => ?_)
                              · refine C.iconst 1 d2_170 rfl rfl ?_
                                refine C.goto d2_171 (by decide) rfl ?_
                                exact C.retZ d2_175 rfl (by decide) (by decide) ⟨(by simp only [own_exc, q3, n18, q21, n37, q41, q48, n65, q69, n86, n100, n114, n128, n140, q143, q149, not_true_eq_false, not_false_eq_true, and_true, true_and, and_false, false_and, and_self, if_true, if_false, eq_self] <;> decide), rfl⟩
                              · exact J152_44 (fun q => q.2 q149)
                          refine C.icmp_lt d2_131 (by decide) rfl rfl (fun q131 => ?_) (fun q131 => ?_)
                          · exact J140_43 (fun q => q.1 q131)
                          · refine C.iloadN d2_134 rfl rfl ?_
                            refine C.ldcI d2_135 rfl (tw hw 28 rfl) ?_
                            refine C.icmp_le d2_137 (by decide) rfl rfl (fun q137 => ?_) (fun q137 => ?_)
                            · refine C.iconst 1 d2_170 rfl rfl ?_
                              refine C.goto d2_171 (by decide) rfl ?_
                              exact C.retZ d2_175 rfl (by decide) (by decide) ⟨(by simp only [own_exc, q3, n18, q21, n37, q41, q48, n65, q69, n86, n100, n114, n128, q131, q137, not_true_eq_false, not_false_eq_true, and_true, true_and, and_false, false_and, and_self, if_true, if_false, eq_self] <;> decide), rfl⟩
                            · exact J140_43 (fun q => q.2 q137)
                        refine C.icmp_lt d2_118 (by decide) rfl rfl (fun q118 => ?_) (fun q118 => ?_)
                        · exact J128_42 (fun q => q.1 q118)
                        · refine C.iloadN d2_121 rfl rfl ?_
                          refine C.sipush 12288 d2_122 rfl rfl ?_
                          refine C.icmp_le d2_125 (by decide) rfl rfl (fun q125 => ?_) (fun q125 => ?_)
                          · refine C.iconst 1 d2_170 rfl rfl ?_
                            refine C.goto d2_171 (by decide) rfl ?_
                            exact C.retZ d2_175 rfl (by decide) (by decide) ⟨(by simp only [own_exc, q3, n18, q21, n37, q41, q48, n65, q69, n86, n100, n114, q118, q125, not_true_eq_false, not_false_eq_true, and_true, true_and, and_false, false_and, and_self, if_true, if_false, eq_self] <;> decide), rfl⟩
                          · exact J128_42 (fun q => q.2 q125)
                      refine C.icmp_lt d2_104 (by decide) rfl rfl (fun q104 => ?_) (fun q104 => ?_)
                      · exact J114_41 (fun q => q.1 q104)
                      · refine C.iloadN d2_107 rfl rfl ?_
                        refine C.sipush 11263 d2_108 rfl rfl ?_
                        refine C.icmp_le d2_111 (by decide) rfl rfl (fun q111 => ?_) (fun q111 => ?_)
                        · refine C.iconst 1 d2_170 rfl rfl ?_
                          refine C.goto d2_171 (by decide) rfl ?_
                          exact C.retZ d2_175 rfl (by decide) (by decide) ⟨(by simp only [own_exc, q3, n18, q21, n37, q41, q48, n65, q69, n86, n100, q104, q111, not_true_eq_false, not_false_eq_true, and_true, true_and, and_false, false_and, and_self, if_true, if_false, eq_self] <;> decide), rfl⟩
                        · exact J114_41 (fun q => q.2 q111)
                    refine C.icmp_lt d2_90 (by decide) rfl rfl (fun q90 => ?_) (fun q90 => ?_)
                    · exact J100_40 (fun q => q.1 q90)
                    · refine C.iloadN d2_93 rfl rfl ?_
                      refine C.sipush 8303 d2_94 rfl rfl ?_
                      refine C.icmp_le d2_97 (by decide) rfl rfl (fun q97 => ?_) (fun q97 => ?_)
                      · refine C.iconst 1 d2_170 rfl rfl ?_
                        refine C.goto d2_171 (by decide) rfl ?_
                        exact C.retZ d2_175 rfl (by decide) (by decide) ⟨(by simp only [own_exc, q3, n18, q21, n37, q41, q48, n65, q69, n86, q90, q97, not_true_eq_false, not_false_eq_true, and_true, true_and, and_false, false_and, and_self, if_true, if_false, eq_self] <;> decide), rfl⟩
                      · exact J100_40 (fun q => q.2 q97)
                  refine C.icmp_lt d2_76 (by decide) rfl rfl (fun q76 => ?_) (fun q76 => ?_)
                  · exact J86_39 (fun q => q.1 q76)
                  · refine C.iloadN d2_79 rfl rfl ?_
                    refine C.sipush 8203 d2_80 rfl rfl ?_
                    refine C.icmp_le d2_83 (by decide) rfl rfl (fun q83 => ?_) (fun q83 => ?_)
                    · refine C.iconst 1 d2_170 rfl rfl ?_
                      refine C.goto d2_171 (by decide) rfl ?_
                      exact C.retZ d2_175 rfl (by decide) (by decide) ⟨(by simp only [own_exc, q3, n18, q21, n37, q41, q48, n65, q69, q76, q83, not_true_eq_false, not_false_eq_true, and_true, true_and, and_false, false_and, and_self, if_true, if_false, eq_self] <;> decide), rfl⟩
                    · exact J86_39 (fun q => q.2 q83)
              refine C.icmp_lt d2_55 (by decide) rfl rfl (fun q55 => ?_) (fun q55 => ?_)
              · exact J65_38 (fun q => q.1 q55)
              · refine C.iloadN d2_58 rfl rfl ?_
                refine C.sipush 879 d2_59 rfl rfl ?_
                refine C.icmp_le d2_62 (by decide) rfl rfl (fun q62 => ?_) (fun q62 => ?_)
                · refine C.iconst 1 d2_170 rfl rfl ?_
                  refine C.goto d2_171 (by decide) rfl ?_
                  exact C.retZ d2_175 rfl (by decide) (by decide) ⟨(by simp only [own_exc, q3, n18, q21, n37, q41, q48, q55, q62, not_true_eq_false, not_false_eq_true, and_true, true_and, and_false, false_and, and_self, if_true, if_false, eq_self] <;> decide), rfl⟩
                · exact J65_38 (fun q => q.2 q62)
        refine C.icmp_lt d2_27 (by decide) rfl rfl (fun q27 => ?_) (fun q27 => ?_)
        · exact J37_37 (fun q => q.1 q27)
        · refine C.iloadN d2_30 rfl rfl ?_
          refine C.sipush 191 d2_31 rfl rfl ?_
          refine C.icmp_le d2_34 (by decide) rfl rfl (fun q34 => ?_) (fun q34 => ?_)
          · refine C.iconst 1 d2_170 rfl rfl ?_
            refine C.goto d2_171 (by decide) rfl ?_
            exact C.retZ d2_175 rfl (by decide) (by decide) ⟨(by simp only [own_exc, q3, n18, q21, q27, q34, not_true_eq_false, not_false_eq_true, and_true, true_and, and_false, false_and, and_self, if_true, if_false, eq_self] <;> decide), rfl⟩
          · exact J37_37 (fun q => q.2 q34)
    refine C.icmp_lt d2_9 (by decide) rfl rfl (fun q9 => ?_) (fun q9 => ?_)
    · exact J18_36 (fun q => q.1 q9)
    · refine C.iloadN d2_12 rfl rfl ?_
      refine C.bipush 94 d2_13 rfl rfl ?_
      refine C.icmp_le d2_15 (by decide) rfl rfl (fun q15 => ?_) (fun q15 => ?_)
      · refine C.iconst 1 d2_170 rfl rfl ?_
        refine C.goto d2_171 (by decide) rfl ?_
        exact C.retZ d2_175 rfl (by decide) (by decide) ⟨(by simp only [own_exc, q3, q9, q15, not_true_eq_false, not_false_eq_true, and_true, true_and, and_false, false_and, and_self, if_true, if_false, eq_self] <;> decide), rfl⟩
      · exact J18_36 (fun q => q.2 q15)
theorem own_idx (x : Int32) : ¬ (x &&& 2147483647) % 30 < 0 ∧ ((x &&& 2147483647) % 30).toNatClampNeg < 30 := by
  have e : (x &&& 2147483647).toInt = x.toInt % 2 ^ 31 := Jvm.Kit.i32_mask x 2147483647 (k := 31) (by decide) (by decide)
  have f : ((x &&& 2147483647) % 30).toInt = (x &&& 2147483647).toInt % 30 := Jvm.Kit.i32_rem_nonneg (by omega)
  constructor
  · rw [Int32.lt_iff_toInt_lt, f]; simp only [Int32.reduceToInt]; omega
  · simp only [Int32.toNatClampNeg, f]; omega
theorem own_ints (vs : List Int32) (j : Nat) (h : j < vs.length) : ∃ y : Int32, (vs.map Value.int)[j]? = some (.int y) := ⟨vs[j], by simp [h]⟩
theorem pf_2 : plainFor x = true := by first | exact plainFor_of_name (by first | (simp [plainName, overriddenIn]; done) | decide +kernel) | decide +kernel
theorem pd_0 : parseMethodDescriptor "(I)Z" = some ⟨[.int], some .boolean⟩ := by decide +kernel
def Qcon0 (Z : State) (n0 : Nat) (h0 : Heap) (x0 : Int32) (x1 : Int32) (x2 : Int32) (v : Option Value) (h' : Heap) : Prop := v = some (.int 1) ∧ True
theorem ef_con0 (m : MethodId) (x0 : Int32) (x1 : Int32) (x2 : Int32) : entryFrame m #[(.int x0), (.int x1), (.int x2)] maxLocals = mkF m 0 #[.val (.int x0), .val (.int x1), .val (.int x2), .unset, .unset, .unset, .unset] [] := by first | (simp [entryFrame, mkF, argsToLocals, Value.category, maxLocals]; done) | rfl
set_option maxRecDepth 65536 in
set_option maxHeartbeats 40000000 in
theorem con0 (l : Launch) (Z : State) (a0 : Array Value) (hw : ∀ d ∈ tables_1, d.before a0 Z = true) (n0 : Nat) (h0 : Heap) (hn0 : n0 ≤ h0.size) (x0 : Int32) (x1 : Int32) (x2 : Int32) :
    Con l Z n0 tables_1 x code maxLocals ret room_1 #[(.int x0), (.int x1), (.int x2)] h0 (Qcon0 Z n0 h0 x0 x1 x2) := by
  refine Con.of pf_2 (fun m => ef_con0 m x0 x1 x2) hn0 ?_
  intro p e s m below meth c C
  refine C.bipush 30 at_0 rfl rfl ?_
  refine C.newarr 30 at_2 rfl rfl (tw hw 0 rfl) (by decide) (by decide) (by decide) (by decide) (by decide) (fun a45 h46 z49 g50 X47 F48 => ?_)
  have F51 : Av Z h46 a45 .int ([.int 0, .int 0, .int 0, .int 0, .int 0, .int 0, .int 0, .int 0, .int 0, .int 0, .int 0, .int 0, .int 0, .int 0, .int 0, .int 0, .int 0, .int 0, .int 0, .int 0, .int 0, .int 0, .int 0, .int 0, .int 0, .int 0, .int 0, .int 0, .int 0, .int 0]) := F48
  refine C.dup at_4 rfl rfl ?_
  refine C.iconst 0 at_5 rfl rfl ?_
  refine C.bipush 65 at_6 rfl rfl ?_
  refine C.iastore at_8 rfl F51 g50 (by decide) (Nat.le_of_ble_eq_true rfl) (fun h52 W53 F54 => ?_)
  have F55 : Av Z h52 a45 .int ([.int 65, .int 0, .int 0, .int 0, .int 0, .int 0, .int 0, .int 0, .int 0, .int 0, .int 0, .int 0, .int 0, .int 0, .int 0, .int 0, .int 0, .int 0, .int 0, .int 0, .int 0, .int 0, .int 0, .int 0, .int 0, .int 0, .int 0, .int 0, .int 0, .int 0]) := F54
  refine C.dup at_9 rfl rfl ?_
  refine C.iconst 1 at_10 rfl rfl ?_
  refine C.bipush 90 at_11 rfl rfl ?_
  refine C.iastore at_13 rfl F55 g50 (by decide) (Nat.le_of_ble_eq_true rfl) (fun h56 W57 F58 => ?_)
  have F59 : Av Z h56 a45 .int ([.int 65, .int 90, .int 0, .int 0, .int 0, .int 0, .int 0, .int 0, .int 0, .int 0, .int 0, .int 0, .int 0, .int 0, .int 0, .int 0, .int 0, .int 0, .int 0, .int 0, .int 0, .int 0, .int 0, .int 0, .int 0, .int 0, .int 0, .int 0, .int 0, .int 0]) := F58
  refine C.dup at_14 rfl rfl ?_
  refine C.iconst 2 at_15 rfl rfl ?_
  refine C.bipush 95 at_16 rfl rfl ?_
  refine C.iastore at_18 rfl F59 g50 (by decide) (Nat.le_of_ble_eq_true rfl) (fun h60 W61 F62 => ?_)
  have F63 : Av Z h60 a45 .int ([.int 65, .int 90, .int 95, .int 0, .int 0, .int 0, .int 0, .int 0, .int 0, .int 0, .int 0, .int 0, .int 0, .int 0, .int 0, .int 0, .int 0, .int 0, .int 0, .int 0, .int 0, .int 0, .int 0, .int 0, .int 0, .int 0, .int 0, .int 0, .int 0, .int 0]) := F62
  refine C.dup at_19 rfl rfl ?_
  refine C.iconst 3 at_20 rfl rfl ?_
  refine C.bipush 97 at_21 rfl rfl ?_
  refine C.iastore at_23 rfl F63 g50 (by decide) (Nat.le_of_ble_eq_true rfl) (fun h64 W65 F66 => ?_)
  have F67 : Av Z h64 a45 .int ([.int 65, .int 90, .int 95, .int 97, .int 0, .int 0, .int 0, .int 0, .int 0, .int 0, .int 0, .int 0, .int 0, .int 0, .int 0, .int 0, .int 0, .int 0, .int 0, .int 0, .int 0, .int 0, .int 0, .int 0, .int 0, .int 0, .int 0, .int 0, .int 0, .int 0]) := F66
  refine C.dup at_24 rfl rfl ?_
  refine C.iconst 4 at_25 rfl rfl ?_
  refine C.bipush 122 at_26 rfl rfl ?_
  refine C.iastore at_28 rfl F67 g50 (by decide) (Nat.le_of_ble_eq_true rfl) (fun h68 W69 F70 => ?_)
  have F71 : Av Z h68 a45 .int ([.int 65, .int 90, .int 95, .int 97, .int 122, .int 0, .int 0, .int 0, .int 0, .int 0, .int 0, .int 0, .int 0, .int 0, .int 0, .int 0, .int 0, .int 0, .int 0, .int 0, .int 0, .int 0, .int 0, .int 0, .int 0, .int 0, .int 0, .int 0, .int 0, .int 0]) := F70
  refine C.dup at_29 rfl rfl ?_
  refine C.iconst 5 at_30 rfl rfl ?_
  refine C.sipush 192 at_31 rfl rfl ?_
  refine C.iastore at_34 rfl F71 g50 (by decide) (Nat.le_of_ble_eq_true rfl) (fun h72 W73 F74 => ?_)
  have F75 : Av Z h72 a45 .int ([.int 65, .int 90, .int 95, .int 97, .int 122, .int 192, .int 0, .int 0, .int 0, .int 0, .int 0, .int 0, .int 0, .int 0, .int 0, .int 0, .int 0, .int 0, .int 0, .int 0, .int 0, .int 0, .int 0, .int 0, .int 0, .int 0, .int 0, .int 0, .int 0, .int 0]) := F74
  refine C.dup at_35 rfl rfl ?_
  refine C.bipush 6 at_36 rfl rfl ?_
  refine C.sipush 214 at_38 rfl rfl ?_
  refine C.iastore at_41 rfl F75 g50 (by decide) (Nat.le_of_ble_eq_true rfl) (fun h76 W77 F78 => ?_)
  have F79 : Av Z h76 a45 .int ([.int 65, .int 90, .int 95, .int 97, .int 122, .int 192, .int 214, .int 0, .int 0, .int 0, .int 0, .int 0, .int 0, .int 0, .int 0, .int 0, .int 0, .int 0, .int 0, .int 0, .int 0, .int 0, .int 0, .int 0, .int 0, .int 0, .int 0, .int 0, .int 0, .int 0]) := F78
  refine C.dup at_42 rfl rfl ?_
  refine C.bipush 7 at_43 rfl rfl ?_
  refine C.sipush 216 at_45 rfl rfl ?_
  refine C.iastore at_48 rfl F79 g50 (by decide) (Nat.le_of_ble_eq_true rfl) (fun h80 W81 F82 => ?_)
  have F83 : Av Z h80 a45 .int ([.int 65, .int 90, .int 95, .int 97, .int 122, .int 192, .int 214, .int 216, .int 0, .int 0, .int 0, .int 0, .int 0, .int 0, .int 0, .int 0, .int 0, .int 0, .int 0, .int 0, .int 0, .int 0, .int 0, .int 0, .int 0, .int 0, .int 0, .int 0, .int 0, .int 0]) := F82
  refine C.dup at_49 rfl rfl ?_
  refine C.bipush 8 at_50 rfl rfl ?_
  refine C.sipush 246 at_52 rfl rfl ?_
  refine C.iastore at_55 rfl F83 g50 (by decide) (Nat.le_of_ble_eq_true rfl) (fun h84 W85 F86 => ?_)
  have F87 : Av Z h84 a45 .int ([.int 65, .int 90, .int 95, .int 97, .int 122, .int 192, .int 214, .int 216, .int 246, .int 0, .int 0, .int 0, .int 0, .int 0, .int 0, .int 0, .int 0, .int 0, .int 0, .int 0, .int 0, .int 0, .int 0, .int 0, .int 0, .int 0, .int 0, .int 0, .int 0, .int 0]) := F86
  refine C.dup at_56 rfl rfl ?_
  refine C.bipush 9 at_57 rfl rfl ?_
  refine C.sipush 248 at_59 rfl rfl ?_
  refine C.iastore at_62 rfl F87 g50 (by decide) (Nat.le_of_ble_eq_true rfl) (fun h88 W89 F90 => ?_)
  have F91 : Av Z h88 a45 .int ([.int 65, .int 90, .int 95, .int 97, .int 122, .int 192, .int 214, .int 216, .int 246, .int 248, .int 0, .int 0, .int 0, .int 0, .int 0, .int 0, .int 0, .int 0, .int 0, .int 0, .int 0, .int 0, .int 0, .int 0, .int 0, .int 0, .int 0, .int 0, .int 0, .int 0]) := F90
  refine C.dup at_63 rfl rfl ?_
  refine C.bipush 10 at_64 rfl rfl ?_
  refine C.sipush 767 at_66 rfl rfl ?_
  refine C.iastore at_69 rfl F91 g50 (by decide) (Nat.le_of_ble_eq_true rfl) (fun h92 W93 F94 => ?_)
  have F95 : Av Z h92 a45 .int ([.int 65, .int 90, .int 95, .int 97, .int 122, .int 192, .int 214, .int 216, .int 246, .int 248, .int 767, .int 0, .int 0, .int 0, .int 0, .int 0, .int 0, .int 0, .int 0, .int 0, .int 0, .int 0, .int 0, .int 0, .int 0, .int 0, .int 0, .int 0, .int 0, .int 0]) := F94
  refine C.dup at_70 rfl rfl ?_
  refine C.bipush 11 at_71 rfl rfl ?_
  refine C.sipush 880 at_73 rfl rfl ?_
  refine C.iastore at_76 rfl F95 g50 (by decide) (Nat.le_of_ble_eq_true rfl) (fun h96 W97 F98 => ?_)
  have F99 : Av Z h96 a45 .int ([.int 65, .int 90, .int 95, .int 97, .int 122, .int 192, .int 214, .int 216, .int 246, .int 248, .int 767, .int 880, .int 0, .int 0, .int 0, .int 0, .int 0, .int 0, .int 0, .int 0, .int 0, .int 0, .int 0, .int 0, .int 0, .int 0, .int 0, .int 0, .int 0, .int 0]) := F98
  refine C.dup at_77 rfl rfl ?_
  refine C.bipush 12 at_78 rfl rfl ?_
  refine C.sipush 893 at_80 rfl rfl ?_
  refine C.iastore at_83 rfl F99 g50 (by decide) (Nat.le_of_ble_eq_true rfl) (fun h100 W101 F102 => ?_)
  have F103 : Av Z h100 a45 .int ([.int 65, .int 90, .int 95, .int 97, .int 122, .int 192, .int 214, .int 216, .int 246, .int 248, .int 767, .int 880, .int 893, .int 0, .int 0, .int 0, .int 0, .int 0, .int 0, .int 0, .int 0, .int 0, .int 0, .int 0, .int 0, .int 0, .int 0, .int 0, .int 0, .int 0]) := F102
  refine C.dup at_84 rfl rfl ?_
  refine C.bipush 13 at_85 rfl rfl ?_
  refine C.sipush 895 at_87 rfl rfl ?_
  refine C.iastore at_90 rfl F103 g50 (by decide) (Nat.le_of_ble_eq_true rfl) (fun h104 W105 F106 => ?_)
  have F107 : Av Z h104 a45 .int ([.int 65, .int 90, .int 95, .int 97, .int 122, .int 192, .int 214, .int 216, .int 246, .int 248, .int 767, .int 880, .int 893, .int 895, .int 0, .int 0, .int 0, .int 0, .int 0, .int 0, .int 0, .int 0, .int 0, .int 0, .int 0, .int 0, .int 0, .int 0, .int 0, .int 0]) := F106
  refine C.dup at_91 rfl rfl ?_
  refine C.bipush 14 at_92 rfl rfl ?_
  refine C.sipush 8191 at_94 rfl rfl ?_
  refine C.iastore at_97 rfl F107 g50 (by decide) (Nat.le_of_ble_eq_true rfl) (fun h108 W109 F110 => ?_)
  have F111 : Av Z h108 a45 .int ([.int 65, .int 90, .int 95, .int 97, .int 122, .int 192, .int 214, .int 216, .int 246, .int 248, .int 767, .int 880, .int 893, .int 895, .int 8191, .int 0, .int 0, .int 0, .int 0, .int 0, .int 0, .int 0, .int 0, .int 0, .int 0, .int 0, .int 0, .int 0, .int 0, .int 0]) := F110
  refine C.dup at_98 rfl rfl ?_
  refine C.bipush 15 at_99 rfl rfl ?_
  refine C.sipush 8204 at_101 rfl rfl ?_
  refine C.iastore at_104 rfl F111 g50 (by decide) (Nat.le_of_ble_eq_true rfl) (fun h112 W113 F114 => ?_)
  have F115 : Av Z h112 a45 .int ([.int 65, .int 90, .int 95, .int 97, .int 122, .int 192, .int 214, .int 216, .int 246, .int 248, .int 767, .int 880, .int 893, .int 895, .int 8191, .int 8204, .int 0, .int 0, .int 0, .int 0, .int 0, .int 0, .int 0, .int 0, .int 0, .int 0, .int 0, .int 0, .int 0, .int 0]) := F114
  refine C.dup at_105 rfl rfl ?_
  refine C.bipush 16 at_106 rfl rfl ?_
  refine C.sipush 8205 at_108 rfl rfl ?_
  refine C.iastore at_111 rfl F115 g50 (by decide) (Nat.le_of_ble_eq_true rfl) (fun h116 W117 F118 => ?_)
  have F119 : Av Z h116 a45 .int ([.int 65, .int 90, .int 95, .int 97, .int 122, .int 192, .int 214, .int 216, .int 246, .int 248, .int 767, .int 880, .int 893, .int 895, .int 8191, .int 8204, .int 8205, .int 0, .int 0, .int 0, .int 0, .int 0, .int 0, .int 0, .int 0, .int 0, .int 0, .int 0, .int 0, .int 0]) := F118
  refine C.dup at_112 rfl rfl ?_
  refine C.bipush 17 at_113 rfl rfl ?_
  refine C.sipush 8304 at_115 rfl rfl ?_
  refine C.iastore at_118 rfl F119 g50 (by decide) (Nat.le_of_ble_eq_true rfl) (fun h120 W121 F122 => ?_)
  have F123 : Av Z h120 a45 .int ([.int 65, .int 90, .int 95, .int 97, .int 122, .int 192, .int 214, .int 216, .int 246, .int 248, .int 767, .int 880, .int 893, .int 895, .int 8191, .int 8204, .int 8205, .int 8304, .int 0, .int 0, .int 0, .int 0, .int 0, .int 0, .int 0, .int 0, .int 0, .int 0, .int 0, .int 0]) := F122
  refine C.dup at_119 rfl rfl ?_
  refine C.bipush 18 at_120 rfl rfl ?_
  refine C.sipush 8591 at_122 rfl rfl ?_
  refine C.iastore at_125 rfl F123 g50 (by decide) (Nat.le_of_ble_eq_true rfl) (fun h124 W125 F126 => ?_)
  have F127 : Av Z h124 a45 .int ([.int 65, .int 90, .int 95, .int 97, .int 122, .int 192, .int 214, .int 216, .int 246, .int 248, .int 767, .int 880, .int 893, .int 895, .int 8191, .int 8204, .int 8205, .int 8304, .int 8591, .int 0, .int 0, .int 0, .int 0, .int 0, .int 0, .int 0, .int 0, .int 0, .int 0, .int 0]) := F126
  refine C.dup at_126 rfl rfl ?_
  refine C.bipush 19 at_127 rfl rfl ?_
  refine C.sipush 11264 at_129 rfl rfl ?_
  refine C.iastore at_132 rfl F127 g50 (by decide) (Nat.le_of_ble_eq_true rfl) (fun h128 W129 F130 => ?_)
  have F131 : Av Z h128 a45 .int ([.int 65, .int 90, .int 95, .int 97, .int 122, .int 192, .int 214, .int 216, .int 246, .int 248, .int 767, .int 880, .int 893, .int 895, .int 8191, .int 8204, .int 8205, .int 8304, .int 8591, .int 11264, .int 0, .int 0, .int 0, .int 0, .int 0, .int 0, .int 0, .int 0, .int 0, .int 0]) := F130
  refine C.dup at_133 rfl rfl ?_
  refine C.bipush 20 at_134 rfl rfl ?_
  refine C.sipush 12271 at_136 rfl rfl ?_
  refine C.iastore at_139 rfl F131 g50 (by decide) (Nat.le_of_ble_eq_true rfl) (fun h132 W133 F134 => ?_)
  have F135 : Av Z h132 a45 .int ([.int 65, .int 90, .int 95, .int 97, .int 122, .int 192, .int 214, .int 216, .int 246, .int 248, .int 767, .int 880, .int 893, .int 895, .int 8191, .int 8204, .int 8205, .int 8304, .int 8591, .int 11264, .int 12271, .int 0, .int 0, .int 0, .int 0, .int 0, .int 0, .int 0, .int 0, .int 0]) := F134
  refine C.dup at_140 rfl rfl ?_
  refine C.bipush 21 at_141 rfl rfl ?_
  refine C.sipush 12289 at_143 rfl rfl ?_
  refine C.iastore at_146 rfl F135 g50 (by decide) (Nat.le_of_ble_eq_true rfl) (fun h136 W137 F138 => ?_)
  have F139 : Av Z h136 a45 .int ([.int 65, .int 90, .int 95, .int 97, .int 122, .int 192, .int 214, .int 216, .int 246, .int 248, .int 767, .int 880, .int 893, .int 895, .int 8191, .int 8204, .int 8205, .int 8304, .int 8591, .int 11264, .int 12271, .int 12289, .int 0, .int 0, .int 0, .int 0, .int 0, .int 0, .int 0, .int 0]) := F138
  refine C.dup at_147 rfl rfl ?_
  refine C.bipush 22 at_148 rfl rfl ?_
  refine C.ldcI at_150 rfl (tw hw 1 rfl) ?_
  refine C.iastore at_152 rfl F139 g50 (by decide) (Nat.le_of_ble_eq_true rfl) (fun h140 W141 F142 => ?_)
  have F143 : Av Z h140 a45 .int ([.int 65, .int 90, .int 95, .int 97, .int 122, .int 192, .int 214, .int 216, .int 246, .int 248, .int 767, .int 880, .int 893, .int 895, .int 8191, .int 8204, .int 8205, .int 8304, .int 8591, .int 11264, .int 12271, .int 12289, .int 55295, .int 0, .int 0, .int 0, .int 0, .int 0, .int 0, .int 0]) := F142
  refine C.dup at_153 rfl rfl ?_
  refine C.bipush 23 at_154 rfl rfl ?_
  refine C.ldcI at_156 rfl (tw hw 2 rfl) ?_
  refine C.iastore at_158 rfl F143 g50 (by decide) (Nat.le_of_ble_eq_true rfl) (fun h144 W145 F146 => ?_)
  have F147 : Av Z h144 a45 .int ([.int 65, .int 90, .int 95, .int 97, .int 122, .int 192, .int 214, .int 216, .int 246, .int 248, .int 767, .int 880, .int 893, .int 895, .int 8191, .int 8204, .int 8205, .int 8304, .int 8591, .int 11264, .int 12271, .int 12289, .int 55295, .int 63744, .int 0, .int 0, .int 0, .int 0, .int 0, .int 0]) := F146
  refine C.dup at_159 rfl rfl ?_
  refine C.bipush 24 at_160 rfl rfl ?_
  refine C.ldcI at_162 rfl (tw hw 3 rfl) ?_
  refine C.iastore at_164 rfl F147 g50 (by decide) (Nat.le_of_ble_eq_true rfl) (fun h148 W149 F150 => ?_)
  have F151 : Av Z h148 a45 .int ([.int 65, .int 90, .int 95, .int 97, .int 122, .int 192, .int 214, .int 216, .int 246, .int 248, .int 767, .int 880, .int 893, .int 895, .int 8191, .int 8204, .int 8205, .int 8304, .int 8591, .int 11264, .int 12271, .int 12289, .int 55295, .int 63744, .int 64975, .int 0, .int 0, .int 0, .int 0, .int 0]) := F150
  refine C.dup at_165 rfl rfl ?_
  refine C.bipush 25 at_166 rfl rfl ?_
  refine C.ldcI at_168 rfl (tw hw 4 rfl) ?_
  refine C.iastore at_170 rfl F151 g50 (by decide) (Nat.le_of_ble_eq_true rfl) (fun h152 W153 F154 => ?_)
  have F155 : Av Z h152 a45 .int ([.int 65, .int 90, .int 95, .int 97, .int 122, .int 192, .int 214, .int 216, .int 246, .int 248, .int 767, .int 880, .int 893, .int 895, .int 8191, .int 8204, .int 8205, .int 8304, .int 8591, .int 11264, .int 12271, .int 12289, .int 55295, .int 63744, .int 64975, .int 65008, .int 0, .int 0, .int 0, .int 0]) := F154
  refine C.dup at_171 rfl rfl ?_
  refine C.bipush 26 at_172 rfl rfl ?_
  refine C.ldcI at_174 rfl (tw hw 5 rfl) ?_
  refine C.iastore at_176 rfl F155 g50 (by decide) (Nat.le_of_ble_eq_true rfl) (fun h156 W157 F158 => ?_)
  have F159 : Av Z h156 a45 .int ([.int 65, .int 90, .int 95, .int 97, .int 122, .int 192, .int 214, .int 216, .int 246, .int 248, .int 767, .int 880, .int 893, .int 895, .int 8191, .int 8204, .int 8205, .int 8304, .int 8591, .int 11264, .int 12271, .int 12289, .int 55295, .int 63744, .int 64975, .int 65008, .int 65533, .int 0, .int 0, .int 0]) := F158
  refine C.dup at_177 rfl rfl ?_
  refine C.bipush 27 at_178 rfl rfl ?_
  refine C.ldcI at_180 rfl (tw hw 6 rfl) ?_
  refine C.iastore at_182 rfl F159 g50 (by decide) (Nat.le_of_ble_eq_true rfl) (fun h160 W161 F162 => ?_)
  have F163 : Av Z h160 a45 .int ([.int 65, .int 90, .int 95, .int 97, .int 122, .int 192, .int 214, .int 216, .int 246, .int 248, .int 767, .int 880, .int 893, .int 895, .int 8191, .int 8204, .int 8205, .int 8304, .int 8591, .int 11264, .int 12271, .int 12289, .int 55295, .int 63744, .int 64975, .int 65008, .int 65533, .int 65536, .int 0, .int 0]) := F162
  refine C.dup at_183 rfl rfl ?_
  refine C.bipush 28 at_184 rfl rfl ?_
  refine C.ldcI at_186 rfl (tw hw 7 rfl) ?_
  refine C.iastore at_188 rfl F163 g50 (by decide) (Nat.le_of_ble_eq_true rfl) (fun h164 W165 F166 => ?_)
  have F167 : Av Z h164 a45 .int ([.int 65, .int 90, .int 95, .int 97, .int 122, .int 192, .int 214, .int 216, .int 246, .int 248, .int 767, .int 880, .int 893, .int 895, .int 8191, .int 8204, .int 8205, .int 8304, .int 8591, .int 11264, .int 12271, .int 12289, .int 55295, .int 63744, .int 64975, .int 65008, .int 65533, .int 65536, .int 983039, .int 0]) := F166
  refine C.dup at_189 rfl rfl ?_
  refine C.bipush 29 at_190 rfl rfl ?_
  refine C.iconst 0 at_192 rfl rfl ?_
  refine C.iastore at_193 rfl F167 g50 (by decide) (Nat.le_of_ble_eq_true rfl) (fun h168 W169 F170 => ?_)
  have F171 : Av Z h168 a45 .int ([.int 65, .int 90, .int 95, .int 97, .int 122, .int 192, .int 214, .int 216, .int 246, .int 248, .int 767, .int 880, .int 893, .int 895, .int 8191, .int 8204, .int 8205, .int 8304, .int 8591, .int 11264, .int 12271, .int 12289, .int 55295, .int 63744, .int 64975, .int 65008, .int 65533, .int 65536, .int 983039, .int 0]) := F170
  refine C.astoreN (Ls' := #[.val (.int x0), .val (.int x1), .val (.int x2), .val (.ref a45), .unset, .unset, .unset]) at_194 rfl rfl rfl ?_
  refine C.aloadN at_195 rfl rfl rfl ?_
  refine C.iloadN at_196 rfl rfl ?_
  refine C.ldcI at_197 rfl (tw hw 8 rfl) ?_
  refine C.iand at_199 rfl ?_
  refine C.bipush 30 at_200 rfl rfl ?_
  refine C.irem at_202 rfl (by decide) ?_
  obtain ⟨y9, hy9⟩ := own_ints [65, 90, 95, 97, 122, 192, 214, 216, 246, 248, 767, 880, 893, 895, 8191, 8204, 8205, 8304, 8591, 11264, 12271, 12289, 55295, 63744, 64975, 65008, 65533, 65536, 983039, 0] _ (own_idx x1).2
  refine C.iaload (.int y9) at_203 rfl F171 (own_idx x1).1 hy9 ?_
  refine C.iloadN at_204 rfl rfl ?_
  refine C.ldcI at_205 rfl (tw hw 8 rfl) ?_
  refine C.iand at_207 rfl ?_
  refine C.iconst 3 at_208 rfl rfl ?_
  refine C.irem at_209 rfl (by decide) ?_
  refine C.iadd at_210 rfl ?_
  refine C.iconst 1 at_211 rfl rfl ?_
  refine C.isub at_212 rfl ?_
  refine C.istore (Ls' := #[.val (.int x0), .val (.int x1), .val (.int x2), .val (.ref a45), .val (.int ((y9 + ((x2 &&& 2147483647) % 3)) - 1)), .unset, .unset]) at_213 rfl rfl ?_
  refine C.iloadN at_215 rfl rfl ?_
  refine C.callS (argsL := [(.int x0)]) (rest := []) 0 (fun zz => con_st l Z a0 hw n0 h168 zz x0 ) at_216 rfl (tw hw 9 rfl) (tw hw 10 rfl) (tw hw 11 rfl) (tw hw 12 rfl) (by decide) pd_0 rfl rfl rfl (Nat.le_of_eq rfl) (by decide) (by decide) (by decide) (by decide) (fun v172 h173 r174 => ?_)
  obtain ⟨rfl, rfl⟩ := r174
  refine C.iloadN at_219 rfl rfl ?_
  refine C.callS (argsL := [(.int x0)]) (rest := [(.int (own_st x0))]) 1 (fun zz => con_ex l Z a0 hw n0 h168 zz x0 ) at_220 rfl (tw hw 16 rfl) (tw hw 17 rfl) (tw hw 18 rfl) (tw hw 19 rfl) (by decide) pd_0 rfl rfl rfl (Nat.le_of_eq rfl) (by decide) (by decide) (by decide) (by decide) (fun v176 h177 r178 => ?_)
  obtain ⟨rfl, rfl⟩ := r178
  refine C.if_ne at_223 (by decide) rfl rfl (fun q223 => ?_) (fun q223 => ?_)
  · refine C.iconst 0 at_230 rfl rfl ?_
    refine C.icmp_ne_f at_231 rfl (by rw [own_law]; simp [q223]) ?_
    refine C.iconst 1 at_234 rfl rfl ?_
    refine C.goto at_235 (by decide) rfl ?_
    refine C.istore (Ls' := #[.val (.int x0), .val (.int x1), .val (.int x2), .val (.ref a45), .val (.int ((y9 + ((x2 &&& 2147483647) % 3)) - 1)), .val (.int 1), .unset]) at_239 rfl rfl ?_
    refine C.iload at_241 rfl rfl ?_
    refine C.callS (argsL := [(.int ((y9 + ((x2 &&& 2147483647) % 3)) - 1))]) (rest := []) 0 (fun zz => con_st l Z a0 hw n0 h168 zz ((y9 + ((x2 &&& 2147483647) % 3)) - 1) ) at_243 rfl (tw hw 9 rfl) (tw hw 10 rfl) (tw hw 11 rfl) (tw hw 12 rfl) (by decide) pd_0 rfl rfl rfl (Nat.le_of_eq rfl) (by decide) (by decide) (by decide) (by decide) (fun v180 h181 r182 => ?_)
    obtain ⟨rfl, rfl⟩ := r182
    refine C.iload at_246 rfl rfl ?_
    refine C.callS (argsL := [(.int ((y9 + ((x2 &&& 2147483647) % 3)) - 1))]) (rest := [(.int (own_st ((y9 + ((x2 &&& 2147483647) % 3)) - 1)))]) 1 (fun zz => con_ex l Z a0 hw n0 h168 zz ((y9 + ((x2 &&& 2147483647) % 3)) - 1) ) at_248 rfl (tw hw 16 rfl) (tw hw 17 rfl) (tw hw 18 rfl) (tw hw 19 rfl) (by decide) pd_0 rfl rfl rfl (Nat.le_of_eq rfl) (by decide) (by decide) (by decide) (by decide) (fun v184 h185 r186 => ?_)
    obtain ⟨rfl, rfl⟩ := r186
    refine C.if_ne at_251 (by decide) rfl rfl (fun q251 => ?_) (fun q251 => ?_)
    · refine C.iconst 0 at_258 rfl rfl ?_
      refine C.icmp_ne_f at_259 rfl (by rw [own_law]; simp [q251]) ?_
      refine C.iconst 1 at_262 rfl rfl ?_
      refine C.goto at_263 (by decide) rfl ?_
      refine C.istore (Ls' := #[.val (.int x0), .val (.int x1), .val (.int x2), .val (.ref a45), .val (.int ((y9 + ((x2 &&& 2147483647) % 3)) - 1)), .val (.int 1), .val (.int 1)]) at_267 rfl rfl ?_
      refine C.iload at_269 rfl rfl ?_
      refine C.if_eq_f at_271 rfl (by decide) ?_
      refine C.iload at_274 rfl rfl ?_
      refine C.if_eq_f at_276 rfl (by decide) ?_
      refine C.iconst 1 at_279 rfl rfl ?_
      refine C.goto at_280 (by decide) rfl ?_
      exact C.retZ at_284 rfl (by decide) (by decide) ⟨rfl, trivial⟩
    · refine C.iconst 1 at_254 rfl rfl ?_
      refine C.goto at_255 (by decide) rfl ?_
      refine C.icmp_ne_f at_259 rfl (by rw [own_law]; simp [q251]) ?_
      refine C.iconst 1 at_262 rfl rfl ?_
      refine C.goto at_263 (by decide) rfl ?_
      refine C.istore (Ls' := #[.val (.int x0), .val (.int x1), .val (.int x2), .val (.ref a45), .val (.int ((y9 + ((x2 &&& 2147483647) % 3)) - 1)), .val (.int 1), .val (.int 1)]) at_267 rfl rfl ?_
      refine C.iload at_269 rfl rfl ?_
      refine C.if_eq_f at_271 rfl (by decide) ?_
      refine C.iload at_274 rfl rfl ?_
      refine C.if_eq_f at_276 rfl (by decide) ?_
      refine C.iconst 1 at_279 rfl rfl ?_
      refine C.goto at_280 (by decide) rfl ?_
      exact C.retZ at_284 rfl (by decide) (by decide) ⟨rfl, trivial⟩
  · refine C.iconst 1 at_226 rfl rfl ?_
    refine C.goto at_227 (by decide) rfl ?_
    refine C.icmp_ne_f at_231 rfl (by rw [own_law]; simp [q223]) ?_
    refine C.iconst 1 at_234 rfl rfl ?_
    refine C.goto at_235 (by decide) rfl ?_
    refine C.istore (Ls' := #[.val (.int x0), .val (.int x1), .val (.int x2), .val (.ref a45), .val (.int ((y9 + ((x2 &&& 2147483647) % 3)) - 1)), .val (.int 1), .unset]) at_239 rfl rfl ?_
    refine C.iload at_241 rfl rfl ?_
    refine C.callS (argsL := [(.int ((y9 + ((x2 &&& 2147483647) % 3)) - 1))]) (rest := []) 0 (fun zz => con_st l Z a0 hw n0 h168 zz ((y9 + ((x2 &&& 2147483647) % 3)) - 1) ) at_243 rfl (tw hw 9 rfl) (tw hw 10 rfl) (tw hw 11 rfl) (tw hw 12 rfl) (by decide) pd_0 rfl rfl rfl (Nat.le_of_eq rfl) (by decide) (by decide) (by decide) (by decide) (fun v188 h189 r190 => ?_)
    obtain ⟨rfl, rfl⟩ := r190
    refine C.iload at_246 rfl rfl ?_
    refine C.callS (argsL := [(.int ((y9 + ((x2 &&& 2147483647) % 3)) - 1))]) (rest := [(.int (own_st ((y9 + ((x2 &&& 2147483647) % 3)) - 1)))]) 1 (fun zz => con_ex l Z a0 hw n0 h168 zz ((y9 + ((x2 &&& 2147483647) % 3)) - 1) ) at_248 rfl (tw hw 16 rfl) (tw hw 17 rfl) (tw hw 18 rfl) (tw hw 19 rfl) (by decide) pd_0 rfl rfl rfl (Nat.le_of_eq rfl) (by decide) (by decide) (by decide) (by decide) (fun v192 h193 r194 => ?_)
    obtain ⟨rfl, rfl⟩ := r194
    refine C.if_ne at_251 (by decide) rfl rfl (fun q251 => ?_) (fun q251 => ?_)
    · refine C.iconst 0 at_258 rfl rfl ?_
      refine C.icmp_ne_f at_259 rfl (by rw [own_law]; simp [q251]) ?_
      refine C.iconst 1 at_262 rfl rfl ?_
      refine C.goto at_263 (by decide) rfl ?_
      refine C.istore (Ls' := #[.val (.int x0), .val (.int x1), .val (.int x2), .val (.ref a45), .val (.int ((y9 + ((x2 &&& 2147483647) % 3)) - 1)), .val (.int 1), .val (.int 1)]) at_267 rfl rfl ?_
      refine C.iload at_269 rfl rfl ?_
      refine C.if_eq_f at_271 rfl (by decide) ?_
      refine C.iload at_274 rfl rfl ?_
      refine C.if_eq_f at_276 rfl (by decide) ?_
      refine C.iconst 1 at_279 rfl rfl ?_
      refine C.goto at_280 (by decide) rfl ?_
      exact C.retZ at_284 rfl (by decide) (by decide) ⟨rfl, trivial⟩
    · refine C.iconst 1 at_254 rfl rfl ?_
      refine C.goto at_255 (by decide) rfl ?_
      refine C.icmp_ne_f at_259 rfl (by rw [own_law]; simp [q251]) ?_
      refine C.iconst 1 at_262 rfl rfl ?_
      refine C.goto at_263 (by decide) rfl ?_
      refine C.istore (Ls' := #[.val (.int x0), .val (.int x1), .val (.int x2), .val (.ref a45), .val (.int ((y9 + ((x2 &&& 2147483647) % 3)) - 1)), .val (.int 1), .val (.int 1)]) at_267 rfl rfl ?_
      refine C.iload at_269 rfl rfl ?_
      refine C.if_eq_f at_271 rfl (by decide) ?_
      refine C.iload at_274 rfl rfl ?_
      refine C.if_eq_f at_276 rfl (by decide) ?_
      refine C.iconst 1 at_279 rfl rfl ?_
      refine C.goto at_280 (by decide) rfl ?_
      exact C.retZ at_284 rfl (by decide) (by decide) ⟨rfl, trivial⟩
set_option maxRecDepth 65536 in
set_option maxHeartbeats 40000000 in
theorem comes_1 {Post : Tables → Env → Array Value → State → Outcome → State → Prop} (hpost : ∀ tb e args s v u, (limb_1_1.after args s (.returned v) u = true ∧ limb_1_2.after args s (.returned v) u = true ∧ True) → FrameEnd s (.returned v) u (Jvm.fieldLocs frame_1_writes args s ++ Jvm.arrayLocs frame_1_arrays args s ++ Jvm.staticLocs frame_1_statics s) 16 128 → Post tb e args s (.returned v) u) :
    ArmFor flags0 classFile x code maxLocals ret World_1 tables_1 room_1 Calls_1 rest_1 Pre_1 Post := by
  intro l hfl _ _ p e ha hc hk s m args below hf hA hF happ hP
  obtain ⟨hcalls, hrest, hpre⟩ := hP
  obtain ⟨-, -, -, hnamed, -, -, -, hat⟩ := (Spec.applies_iff hf).mp happ
  obtain ⟨hg, hn⟩ := and_e (Cond.before_iff.mp (show (Jvm.Cond.and given_1 narrow_1).before args s = true from hpre))
  obtain ⟨h1, h2⟩ := and_e hg
  obtain ⟨w0, w1, w2, rfl⟩ : ∃ w0 w1 w2 : Value, args = #[w0, w1, w2] := by
    have hs : args.size = 3 := by simpa [Cond.value, given_1] using h1
    obtain ⟨L⟩ := args
    match L, hs with
    | [w0, w1, w2], _ => exact ⟨w0, w1, w2, rfl⟩
  have hw := fun d (hd : d ∈ tables_1) => atoms_spec (ws := Jvm.Cond.code x code maxLocals ret :: tables_1) hat d (List.mem_cons_of_mem _ hd)
  obtain ⟨u0, t0⟩ := and_e h2
  obtain ⟨i0, e0⟩ := is_v u0
  obtain rfl : w0 = (.int i0) := Option.some.inj e0
  obtain ⟨u1, t1⟩ := and_e t0
  obtain ⟨i1, e1⟩ := is_v u1
  obtain rfl : w1 = (.int i1) := Option.some.inj e1
  obtain ⟨i2, e2⟩ := is_v t1
  obtain rfl : w2 = (.int i2) := Option.some.inj e2
  obtain ⟨n, o, h1, h2, h3, _, L, rfl, ⟨⟨rfl, -⟩, N⟩, hq⟩ := con0 l s _ hw s.heap.size s.heap (Nat.le_refl _) i0 i1 i2 p e ha hc hk s m _ below hf ((Spec.applies_iff_loose hf).mp happ).1 ⟨rfl, State.Warmed39.refl s, rfl⟩ trivial
  refine ⟨n, _, h1, h2, h3, hpost _ _ _ _ _ _ ⟨Cond.after_iff.mpr rfl, Cond.after_iff.mpr (eq_i res_at (Term.int_eval (1)) rfl), trivial⟩ ⟨hq.1, hq.2.1, (hq.2.2.sift fun y hy => Or.inr (N y hy)).mono (by decide) (by decide)⟩⟩
theorem main_1_1 : Claimed_1_1 := comes_1 fun _ _ _ _ _ _ h hF => ⟨h.1, hF⟩
theorem main_1_2 : Claimed_1_2 := comes_1 fun _ _ _ _ _ _ h hF => ⟨h.2.1, hF⟩
end Jvm.Pilot.@@N@@
namespace Jvm.Pilot.@@N@@
open Jvm Jvm.ClassFile Sem Op Lib Jvm.Free Jvm.Stand Jvm.Pilot.@@N@@.Jvm.D
/-! MADE BY PROGRAM (witnessworld.py) out of the Statement's table words and the real class files: 9 classes; the members and pool entries that the words name. The judged class is class 1, her method 2. -/
namespace start1
open Jvm.ClassFile
def u (s : String) : CpInfo := .utf8 (stringToUtf16 s)
/-- a pool by its gaps: so many unusable entries, then the entry; so many at the end -/
def gap : Nat → List CpInfo → List CpInfo
  | 0, r => r
  | n + 1, r => .unusable :: gap n r
def poolList (es : List (Nat × CpInfo)) (last : Nat) : List CpInfo := es.foldr (fun e r => gap e.1 (e.2 :: r)) (gap last [])
def pool (es : List (Nat × CpInfo)) (last : Nat) : Array CpInfo := ⟨poolList es last⟩
def fileOf (pool : Array CpInfo) (this : Nat) (attrs : Array Attribute := #[]) (ms : Array MethodInfo := #[]) (fl : Nat := 33) (sup : Nat := 0) (ifs : Array Nat := #[]) (fds : Array FieldInfo := #[]) : ClassFile where
  minorVersion := 0
  majorVersion := 65
  constantPool := pool
  accessFlags := fl
  thisClass := this
  superClass := sup
  interfaces := ifs
  fields := fds
  methods := ms
  attributes := attrs
def plain (name : String) (sup : Option ClassId) : Class where
  name := name
  kind := .ordinary
  loader := none
  accessFlags := 33
  super := sup
  interfaces := #[]
  cf := none
  fields := #[]
  methods := #[]
  instanceTypes := #[]
  staticTypes := #[]
  resolved := #[]
  callSites := []
  init := .initialized
  statics := none
  mirror := none

def pool0 : Array CpInfo := pool [(5, u "<init>"), (0, u "()V"), (1, .class_ 10), (1, u "java/lang/Object")] 113

def k0m0 : Method := { name := "<init>", desc := "()V", sig := { parameters := [], returnType := none }, accessFlags := 1, code := none }
/-- java/lang/Object -/
def k0 : Class := { plain "java/lang/Object" none with
  accessFlags := 33
  interfaces := #[]
  cf := some (fileOf pool0 8 #[] #[{ accessFlags := 1, nameIndex := 5, descriptorIndex := 6, attributes := #[] }] 33 0 #[] #[])
  fields := #[]
  methods := #[k0m0]
  instanceTypes := #[]
  staticTypes := #[]
  resolved := Array.replicate 124 none
  statics := none }

def pool1 : Array CpInfo := pool [(2, .class_ 4), (1, u "java/lang/Object"), (0, u "<init>"), (0, u "()V"), (0, .integer 55296), (0, .integer 63743), (0, .integer 64976), (0, .integer 65007), (0, .integer 65534), (0, .integer 65535), (0, .integer 983039), (0, .integer 55295), (0, .integer 63744), (0, .integer 64975), (0, .integer 65008), (0, .integer 65533), (0, .integer 65536), (0, .integer 2147483647), (0, .methodref 22 23), (0, .class_ 24), (0, .nameAndType 25 26), (0, u "com/example/dodder/dodder/XmlNames"), (0, u "isNameStartChar"), (0, u "(I)Z"), (0, .methodref 28 29), (0, .class_ 30), (0, .nameAndType 31 26), (0, u "com/example/dodder/dodder/XmlNamesIsNameStartCharPinLaw"), (0, u "excluded"), (3, u "law"), (0, u "(III)Z")] 4

def k1m0 : Method := { name := "<init>", desc := "()V", sig := { parameters := [], returnType := none }, accessFlags := 2, code := none }
def k1c1 : Code := { maxStack := 2, maxLocals := 1, code := method_2_code, exceptionTable := #[], attributes := #[] }
def k1m1 : Method := { name := "excluded", desc := "(I)Z", sig := { parameters := [.int], returnType := some .boolean }, accessFlags := 10, code := some k1c1 }
def k1c2 : Code := { maxStack := 4, maxLocals := 7, code := code, exceptionTable := #[], attributes := #[] }
def k1m2 : Method := { name := "law", desc := "(III)Z", sig := { parameters := [.int, .int, .int], returnType := some .boolean }, accessFlags := 9, code := some k1c2 }
/-- com/example/dodder/dodder/XmlNamesIsNameStartCharPinLaw -/
def k1 : Class := { plain "com/example/dodder/dodder/XmlNamesIsNameStartCharPinLaw" (some 0) with
  accessFlags := 49
  interfaces := #[]
  cf := some (fileOf pool1 28 #[] #[{ accessFlags := 2, nameIndex := 5, descriptorIndex := 6, attributes := #[] }, { accessFlags := 10, nameIndex := 31, descriptorIndex := 26, attributes := #[] }, { accessFlags := 9, nameIndex := 35, descriptorIndex := 36, attributes := #[] }] 49 2 #[] #[])
  fields := #[]
  methods := #[k1m0, k1m1, k1m2]
  instanceTypes := #[]
  staticTypes := #[]
  resolved := Array.replicate 41 none
  statics := none }

def pool2 : Array CpInfo := pool [(2, .class_ 4), (1, u "java/lang/Object"), (0, u "<init>"), (0, u "()V"), (0, .integer 55295), (0, .integer 63744), (0, .integer 64975), (0, .integer 65008), (0, .integer 65533), (0, .integer 65536), (0, .integer 983039), (15, .class_ 31), (1, u "com/example/dodder/dodder/XmlNames"), (0, u "isNameStartChar"), (0, u "(I)Z")] 15

def k2m0 : Method := { name := "<init>", desc := "()V", sig := { parameters := [], returnType := none }, accessFlags := 2, code := none }
def k2c1 : Code := { maxStack := 2, maxLocals := 1, code := prog_182_method_2_code, exceptionTable := #[], attributes := #[] }
def k2m1 : Method := { name := "isNameStartChar", desc := "(I)Z", sig := { parameters := [.int], returnType := some .boolean }, accessFlags := 8, code := some k2c1 }
/-- com/example/dodder/dodder/XmlNames -/
def k2 : Class := { plain "com/example/dodder/dodder/XmlNames" (some 0) with
  accessFlags := 48
  interfaces := #[]
  cf := some (fileOf pool2 29 #[] #[{ accessFlags := 2, nameIndex := 5, descriptorIndex := 6, attributes := #[] }, { accessFlags := 8, nameIndex := 32, descriptorIndex := 33, attributes := #[] }] 48 2 #[] #[])
  fields := #[]
  methods := #[k2m0, k2m1]
  instanceTypes := #[]
  staticTypes := #[]
  resolved := Array.replicate 49 none
  statics := none }

def pool3 : Array CpInfo := pool [(1, u "java/lang/Cloneable"), (0, .class_ 1), (0, u "java/lang/Object"), (0, .class_ 3)] 3

/-- java/lang/Cloneable -/
def k3 : Class := { plain "java/lang/Cloneable" (some 0) with
  accessFlags := 1537
  interfaces := #[]
  cf := some (fileOf pool3 2 #[] #[] 1537 4 #[] #[])
  fields := #[]
  methods := #[]
  instanceTypes := #[]
  staticTypes := #[]
  resolved := Array.replicate 8 none
  statics := none }

def pool4 : Array CpInfo := pool [(1, u "java/io/Serializable"), (0, .class_ 1), (0, u "java/lang/Object"), (0, .class_ 3)] 3

/-- java/io/Serializable -/
def k4 : Class := { plain "java/io/Serializable" (some 0) with
  accessFlags := 1537
  interfaces := #[]
  cf := some (fileOf pool4 2 #[] #[] 1537 4 #[] #[])
  fields := #[]
  methods := #[]
  instanceTypes := #[]
  staticTypes := #[]
  resolved := Array.replicate 8 none
  statics := none }

/-- the primitive byte -/
def k5 : Class := { plain "byte" none with kind := .primitive 'B', accessFlags := 0x411 }
/-- [B -/
def k6 : Class := { plain "[B" (some 0) with kind := .array 5 .byte, interfaces := #[3, 4], accessFlags := 1041 }

/-- the primitive int -/
def k7 : Class := { plain "int" none with kind := .primitive 'I', accessFlags := 0x411 }
/-- [I -/
def k8 : Class := { plain "[I" (some 0) with kind := .array 7 .int, interfaces := #[3, 4], accessFlags := 1041 }

def heap : Heap := #[]
def classes : Array Class := #[k0, k1, k2, k3, k4, k5, k6, k7, k8]
def interned : List (Array UInt16 × Addr) := []
def slotsUsed : Nat := 0
def theMethod : MethodId := ⟨1, 2⟩
def args0 : Array Value := #[.int 5, .int 6, .int 7]
def aboutOver (below : List Frame) : State where
  vm := { classes := classes, interned := interned.toArray }
  heap := heap
  slotsUsed := slotsUsed
  threads := #[{ frames := .invoking theMethod args0 :: below }]
def below0 : List Frame := [.native { method := ⟨0, 0⟩, args := #[] }]
def about1 : State := aboutOver below0
def p0 : Program := .bare "" "" ""
def e0 : Env := launch0.env 0 0 0
theorem w_frames : about1.frames = Frame.invoking theMethod args0 :: below0 := rfl
set_option maxRecDepth 65536 in
theorem w_args : argsFit about1.vm theMethod args0 = true := by decide +kernel
set_option maxRecDepth 65536 in
theorem w_heap : heapFits about1 = true := by decide +kernel
set_option maxRecDepth 65536 in
theorem w_runnable : about1.curStatus? = some .runnable := by decide +kernel
set_option maxRecDepth 65536 in
theorem w_alone : about1.alone = true := by decide +kernel
set_option maxRecDepth 65536 in
theorem w_named : about1.methodNamed? x = some theMethod := by decide +kernel
set_option maxRecDepth 65536 in
theorem w_hears : about1.hears theMethod below0 = true := by decide +kernel
set_option maxRecDepth 65536 in
theorem w_ripe : about1.ripe theMethod args0 below0 = true := by decide +kernel
theorem w_running : about1.status = .running := rfl
set_option maxRecDepth 65536 in
theorem w_room : about1.hasRoom e0.platform room_1 = true :=
  launch0.hasRoom_least _ room_1 (by decide +kernel) (by decide +kernel) (by decide +kernel) (by decide +kernel) (by decide +kernel) (by decide +kernel)
theorem allAtoms_all (ts : List Jvm.Cond) (a : Array Jvm.Value) (st : Jvm.State) : (allAtoms ts).before a st = ts.all (fun c => c.before a st) := by
  induction ts with
  | nil => rfl
  | cons c t ih =>
    show (Jvm.Cond.and c (allAtoms t)).before a st = _
    rw [Jvm.Cond.before_and, ih, List.all_cons]
def words1 : List Jvm.Cond := Jvm.Cond.code x code maxLocals ret :: tables_1
/-- a 'code' word, met by the world's own term for the bytes: nothing is compared byte by byte -/
theorem code_word {y : MethodName} {bytes : ByteArray} {mx : Nat} {rt : Option FieldType} {a : Array Value} {s : State} {m : MethodId} {meth : Method} {c : Code} (h1 : s.methodNamed? y = some m) (h2 : s.vm.method? m = some meth) (h3 : meth.code = some c) (h4 : c.code = bytes)
    (h5 : (c.maxLocals == mx && c.exceptionTable.isEmpty && decide (c.maxStack ≤ mostOperands) && decide (meth.sig.returnType = rt) && !meth.locks && decide (parseMethodDescriptor y.desc = some meth.sig)) = true) : (Jvm.Cond.code y bytes mx rt).before a s = true := by
  simp only [Bool.and_eq_true, beq_iff_eq, Bool.not_eq_true', decide_eq_true_eq] at h5
  obtain ⟨⟨⟨⟨⟨g1, g2⟩, g3⟩, g4⟩, g5⟩, g6⟩ := h5
  simp [Cond.before, Cond.holds, Cond.value, h1, h2, h3, h4, g1, g2, g3, g4, g5, g6]
def isCode : Jvm.Cond → Bool
  | .code _ _ _ _ => true
  | _ => false
theorem all_split {L : List Jvm.Cond} {P : Jvm.Cond → Bool} (h1 : L.all (fun c => isCode c || P c) = true) (h2 : ∀ c ∈ L.filter isCode, P c = true) : L.all P = true := by
  refine List.all_eq_true.mpr fun c hc => ?_
  have h := List.all_eq_true.mp h1 c hc
  rcases Bool.eq_false_or_eq_true (isCode c) with hi | hi
  · exact h2 c (List.mem_filter.mpr ⟨hc, hi⟩)
  · simpa [hi] using h
set_option maxRecDepth 65536 in
theorem w_c0 : (Jvm.Cond.code x code maxLocals ret).before args0 about1 = true := code_word (m := ⟨1, 2⟩) (meth := k1m2) (c := k1c2) (by decide +kernel) rfl rfl rfl (by decide +kernel)
set_option maxRecDepth 65536 in
theorem w_c1 : (Jvm.Cond.code ({ cls := "com/example/dodder/dodder/XmlNames", name := "isNameStartChar", desc := "(I)Z" } : Jvm.MethodName) prog_182_method_2_code (1 : Nat) (Option.some Jvm.ClassFile.FieldType.boolean)).before args0 about1 = true := code_word (m := ⟨2, 1⟩) (meth := k2m1) (c := k2c1) (by decide +kernel) rfl rfl rfl (by decide +kernel)
set_option maxRecDepth 65536 in
theorem w_c2 : (Jvm.Cond.code ({ cls := "com/example/dodder/dodder/XmlNamesIsNameStartCharPinLaw", name := "excluded", desc := "(I)Z" } : Jvm.MethodName) method_2_code (1 : Nat) (Option.some Jvm.ClassFile.FieldType.boolean)).before args0 about1 = true := code_word (m := ⟨1, 1⟩) (meth := k1m1) (c := k1c1) (by decide +kernel) rfl rfl rfl (by decide +kernel)
def codes1 : List Jvm.Cond := [Jvm.Cond.code x code maxLocals ret, Jvm.Cond.code ({ cls := "com/example/dodder/dodder/XmlNames", name := "isNameStartChar", desc := "(I)Z" } : Jvm.MethodName) prog_182_method_2_code (1 : Nat) (Option.some Jvm.ClassFile.FieldType.boolean), Jvm.Cond.code ({ cls := "com/example/dodder/dodder/XmlNamesIsNameStartCharPinLaw", name := "excluded", desc := "(I)Z" } : Jvm.MethodName) method_2_code (1 : Nat) (Option.some Jvm.ClassFile.FieldType.boolean)]
set_option maxRecDepth 65536 in
theorem codes_eq : words1.filter isCode = codes1 := rfl
theorem w_codes : ∀ c ∈ words1.filter isCode, c.before args0 about1 = true := by
  rw [codes_eq]
  intro c hc
  simp only [codes1, List.mem_cons, List.not_mem_nil, or_false] at hc
  rcases hc with rfl | rfl | rfl
  · exact w_c0
  · exact w_c1
  · exact w_c2
set_option maxRecDepth 65536 in
theorem w_t1 : (words1.take 24).all (fun c => isCode c || c.before args0 about1) = true := by decide +kernel
set_option maxRecDepth 65536 in
theorem w_t2 : (words1.drop 24).all (fun c => isCode c || c.before args0 about1) = true := by decide +kernel
theorem w_tables : (allAtoms (Jvm.Cond.code x code maxLocals ret :: tables_1)).before args0 about1 = true := by
  rw [allAtoms_all]
  show words1.all (fun c => c.before args0 about1) = true
  refine all_split ?_ w_codes
  rw [← List.take_append_drop 24 words1, List.all_append, w_t1, w_t2]
  rfl
set_option maxRecDepth 65536 in
theorem w_case : (Jvm.Cond.and given_1 narrow_1).before args0 about1 = true := by decide +kernel
theorem w_applies : (headSpec (Jvm.Cond.code x code maxLocals ret :: tables_1) room_1).applies x e0.platform about1 = true :=
  (Spec.applies_iff w_frames).mpr ⟨w_running, w_runnable, w_alone, w_named, w_hears, w_ripe, w_room, w_tables⟩
theorem atStart : AtStart classFile x code maxLocals ret World_1 tables_1 room_1 Calls_1 rest_1 Pre_1 launch0 p0 e0 about1 theMethod args0 below0 :=
  ⟨lists_1, trivial, launch0.admits_env _ _ _, launch0.least_env, fairChoices_fair.cas, fairChoices_fair.clock, w_frames, w_args, w_heap, w_applies, trivial, trivial, w_case⟩
end start1
theorem witness_1 : WitnessClaimed_1 := ⟨start1.p0, start1.e0, start1.about1, start1.theMethod, start1.args0, start1.below0, start1.atStart⟩
end Jvm.Pilot.@@N@@
