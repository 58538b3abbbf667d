import JvmDerived
import JvmDerived.Pilot.@@N@@Statement
import JvmDerived.Pilot.@@N@@Code
set_option linter.unusedVariables false
set_option linter.unusedSimpArgs false
@@BLOCK:NumsL.lean.txt@@
namespace Jvm.Pilot.@@N@@
open Jvm Jvm.ClassFile Sem Op Lib Jvm.Free Jvm.Stand Jvm.LawKit Jvm.RoadKit Bundle Jvm.Pilot.@@N@@.Jvm.D
/-! ## own kit: one body's walk as a goal on the heap, the frame and the room alone -/
/-- what stays the same through one body's walk -/
def Cx (p : Program) (s : State) (m : MethodId) (meth : Method) (c : Code) (Z : State) (n0 : Nat) (own : String) (bc : ByteArray) (maxL : Nat) (ret : Option FieldType) (nm : String) : Prop :=
  p.tables.exec = Jvm.exec ∧ Z.Warmed39 s.vm ∧ s.vm.findClass own = some m.cls ∧ c.code = bc ∧ c.maxLocals = maxL ∧ meth.sig.returnType = ret ∧ meth.name = nm ∧ meth.locks = false ∧ n0 ≤ s.heap.size
/-- from every state with this heap at which the body stands: the run goes on from this frame to the end that F says -/
def Go (p : Program) (l : Launch) (e : Env) (R : Room) (s : State) (m : MethodId) (args : Array Value) (below : List Frame) (meth : Method) (c : Code) (n0 : Nat) (F : State → Outcome → Prop) (h : Heap) (k n pc : Nat) (Ls : Array Slot) (st : List Value) : Prop :=
  ∀ (T : State) (locs : List Loc), Stand p l e R s m args below meth c T locs k n → T.heap = h → Fr n0 locs →
    ∃ s₂ o, Steps p.tables e below (T.setTop (mkF m pc Ls st)) s₂ ∧ s₂.status = .running ∧ Ended s₂ below o ∧ F s₂ o
/-- the end of a body: it returned what Q says, wrote new cells alone -/
def FinQ (s : State) (n0 : Nat) (Q : Option Value → Heap → Prop) (ck cs : Nat) : State → Outcome → Prop := fun s₂ o => ∃ v L, o = .returned v ∧ (Q v s₂.heap ∧ Fr n0 L) ∧ FrameEnd s o s₂ L ck cs
/-- a body's contract at the heap h0 -/
def Con (l : Launch) (Z : State) (n0 : Nat) (ws : List Jvm.Cond) (y : MethodName) (bc : ByteArray) (maxL : Nat) (ret : Option FieldType) (R : Room) (as : Array Value) (h0 : Heap) (Q : Option Value → Heap → Prop) : Prop :=
  MetFree l y (head1 (Jvm.Cond.code y bc maxL ret :: ws) R) (fun a U => a = as ∧ Z.Warmed39 U.vm ∧ U.heap = h0) (fun _ _ _ _ _ => True) (fun _ U o U' => ∃ v L, o = .returned v ∧ (Q v U'.heap ∧ Fr n0 L) ∧ FrameEnd U o U' L R.cells R.slots)
/-- an array: its class, its values -/
def Av (Z : State) (h : Heap) (a : Addr) (ty : FieldType) (vs : List Value) : Prop := ∃ c : Cell, Arr Z h a c ty ∧ c.slots.toList = vs ∧ ∀ v ∈ vs, fits ty v = true
section Own
variable {p : Program} {l : Launch} {e : Env} {R : Room} {s : State} {m : MethodId} {args : Array Value} {below : List Frame} {meth : Method} {c : Code} {n0 : Nat} {F : State → Outcome → Prop} {h : Heap} {k n pc pc' : Nat} {Ls : Array Slot} {st : List Value} {Z : State} {own : String} {bc : ByteArray} {maxL : Nat} {ret : Option FieldType} {nm : String} {a0 : Array Value}
theorem tw {ws : List Jvm.Cond} (hw : ∀ d ∈ ws, d.before a0 Z = true) (i : Nat) {d : Jvm.Cond} (q : ws[i]? = some d) : d.before a0 Z = true := hw _ (List.mem_of_getElem? q)
theorem Av.lt {a : Addr} {ty : FieldType} {vs : List Value} (A : Av Z h a ty vs) : a < h.size := by obtain ⟨c, A, -⟩ := A; exact A.lt
theorem Av.ext {a : Addr} {ty : FieldType} {vs : List Value} {h' : Heap} (A : Av Z h a ty vs) (E : Ext h h') : Av Z h' a ty vs := by obtain ⟨c, A, q⟩ := A; exact ⟨c, A.ext E, q⟩
theorem Av.other {a b : Addr} {ty : FieldType} {vs : List Value} {h' : Heap} {sl : Nat} {v : Value} (A : Av Z h b ty vs) (W : Wr h h' a sl v) (q : b ≠ a) : Av Z h' b ty vs := by obtain ⟨c, A, r⟩ := A; exact ⟨c, A.other W q, r⟩
theorem Av.keep {a : Addr} {ty : FieldType} {vs : List Value} {h' : Heap} {ws : List Addr} (A : Av Z h a ty vs) (K : Keep h h' ws) (q : a ∉ ws) : Av Z h' a ty vs := by obtain ⟨c, A, r⟩ := A; exact ⟨c, ⟨K.2.1 a c A.1 q, A.2⟩, r⟩
theorem Av.same {a : Addr} {ty : FieldType} {vs : List Value} {h' : Heap} {j : Nat} {v : Value} (A : Av Z h a ty vs) (W : Wr h h' a j v) (hf : fits ty v = true) : Av Z h' a ty (vs.set j v) := by
  obtain ⟨c, A, rfl, r⟩ := A
  refine ⟨_, A.same W, by simp [Cell.setSlot], fun w hw => ?_⟩
  rcases List.mem_or_eq_of_mem_set hw with q | rfl
  · exact r w q
  · exact hf
theorem Av.fit {a : Addr} {ty : FieldType} {vs : List Value} {i : Nat} {v : Value} (A : Av Z h a ty vs) (q : vs[i]? = some v) : fits ty v = true := by obtain ⟨c, A, -, r⟩ := A; exact r v (List.mem_of_getElem? q)
theorem Av.new {a : Addr} {kc : ClassId} {ty : FieldType} {z : Int32} (A : Arr Z h a (newA kc ty z) ty) : Av Z h a ty (List.replicate z.toNatClampNeg (defaultValue ty)) :=
  ⟨_, A, by simp [newA], fun v hv => by rw [List.eq_of_mem_replicate hv]; cases ty <;> rfl⟩
theorem own_in {j : Int32} {cl : Cell} {v : Value} (hj : ¬ j < 0) (hv : cl.slots[j.toNatClampNeg]? = some v) : ¬ (j < 0 ∨ cl.slots.size ≤ j.toNatClampNeg) := fun q => q.elim hj fun q => absurd (Array.getElem?_eq_some_iff.mp hv).1 (Nat.not_lt.mpr q)
theorem own_in2 {j : Int32} {cl : Cell} (hj : ¬ j < 0) (hl : j.toNatClampNeg < cl.slots.size) : ¬ (j < 0 ∨ cl.slots.size ≤ j.toNatClampNeg) := fun q => q.elim hj fun q => absurd hl (Nat.not_lt.mpr q)
theorem Go.pl {Ls' : Array Slot} {st' : List Value} (q : ∀ (T : State) (locs : List Loc), Stand p l e R s m args below meth c T locs k n → T.heap = h → ∀ t, Steps p.tables e below (T.setTop (mkF m pc' Ls' st')) t → Steps p.tables e below (T.setTop (mkF m pc Ls st)) t) (hr : Go p l e R s m args below meth c n0 F h k n pc' Ls' st') : Go p l e R s m args below meth c n0 F h k n pc Ls st := fun T locs X eT N => by
  obtain ⟨s₂, o, h1, h2⟩ := hr T locs X eT N
  exact ⟨s₂, o, q T locs X eT _ h1, h2⟩
theorem Go.more {k' n' : Nat} (hr : Go p l e R s m args below meth c n0 F h k' n' pc Ls st) (h1 : k ≤ k') (h2 : n ≤ n') : Go p l e R s m args below meth c n0 F h k n pc Ls st := fun T locs X eT N => hr T locs (X.more h1 h2) eT N
theorem Cx.size (C : Cx p s m meth c Z n0 own bc maxL ret nm) {T : State} {locs : List Loc} (X : Stand p l e R s m args below meth c T locs k n) : n0 ≤ T.heap.size := Nat.le_trans C.2.2.2.2.2.2.2.2 X.same.2.1
theorem Cx.iloadN (C : Cx p s m meth c Z n0 own bc maxL ret nm) {j : Fin 4} {v : Int32} (hd : decode bc pc = .ok (.iload_n j, 1)) (hp : pc + 1 = pc') (hl : Ls[j.val]? = some (.val (.int v))) (hr : Go p l e R s m args below meth c n0 F h k n pc' Ls (.int v :: st)) : Go p l e R s m args below meth c n0 F h k n pc Ls (st) := by
  subst hp; exact Go.pl (fun T locs X eT t q => XS.iloadN X.here C.1 rfl (hb C.2.2.2.1 hd) hl q) hr
theorem Cx.iload (C : Cx p s m meth c Z n0 own bc maxL ret nm) {j : Nat} {v : Int32} (hd : decode bc pc = .ok (.iload j, 2)) (hp : pc + 2 = pc') (hl : Ls[j]? = some (.val (.int v))) (hr : Go p l e R s m args below meth c n0 F h k n pc' Ls (.int v :: st)) : Go p l e R s m args below meth c n0 F h k n pc Ls (st) := by
  subst hp; exact Go.pl (fun T locs X eT t q => XS.iload X.here C.1 rfl (hb C.2.2.2.1 hd) hl q) hr
theorem Cx.lloadN (C : Cx p s m meth c Z n0 own bc maxL ret nm) {j : Fin 4} {v : Int64} (hd : decode bc pc = .ok (.lload_n j, 1)) (hp : pc + 1 = pc') (hl : Ls[j.val]? = some (.val (.long v))) (hr : Go p l e R s m args below meth c n0 F h k n pc' Ls (.long v :: st)) : Go p l e R s m args below meth c n0 F h k n pc Ls (st) := by
  subst hp; exact Go.pl (fun T locs X eT t q => XT.lloadN X.here C.1 rfl (hb C.2.2.2.1 hd) hl q) hr
theorem Cx.lload (C : Cx p s m meth c Z n0 own bc maxL ret nm) {j : Nat} {v : Int64} (hd : decode bc pc = .ok (.lload j, 2)) (hp : pc + 2 = pc') (hl : Ls[j]? = some (.val (.long v))) (hr : Go p l e R s m args below meth c n0 F h k n pc' Ls (.long v :: st)) : Go p l e R s m args below meth c n0 F h k n pc Ls (st) := by
  subst hp; exact Go.pl (fun T locs X eT t q => XT.lload X.here C.1 rfl (hb C.2.2.2.1 hd) hl q) hr
theorem Cx.aloadN (C : Cx p s m meth c Z n0 own bc maxL ret nm) {j : Fin 4} {v : Value} (hd : decode bc pc = .ok (.aload_n j, 1)) (hp : pc + 1 = pc') (hl : Ls[j.val]? = some (.val v)) (hv : v.isRef = true) (hr : Go p l e R s m args below meth c n0 F h k n pc' Ls (v :: st)) : Go p l e R s m args below meth c n0 F h k n pc Ls (st) := by
  subst hp; exact Go.pl (fun T locs X eT t q => XS.aloadN X.here C.1 rfl (hb C.2.2.2.1 hd) hl hv q) hr
theorem Cx.aload (C : Cx p s m meth c Z n0 own bc maxL ret nm) {j : Nat} {v : Value} (hd : decode bc pc = .ok (.aload j, 2)) (hp : pc + 2 = pc') (hl : Ls[j]? = some (.val v)) (hv : v.isRef = true) (hr : Go p l e R s m args below meth c n0 F h k n pc' Ls (v :: st)) : Go p l e R s m args below meth c n0 F h k n pc Ls (st) := by
  subst hp; exact Go.pl (fun T locs X eT t q => XS.aload X.here C.1 rfl (hb C.2.2.2.1 hd) hl hv q) hr
theorem Cx.istoreN (C : Cx p s m meth c Z n0 own bc maxL ret nm) {j : Fin 4} {v : Int32} {Ls' : Array Slot} (hd : decode bc pc = .ok (.istore_n j, 1)) (hp : pc + 1 = pc') (hl : storeLocals Ls j.val (.int v) = some Ls') (hr : Go p l e R s m args below meth c n0 F h k n pc' Ls' (st)) : Go p l e R s m args below meth c n0 F h k n pc Ls (.int v :: st) := by
  subst hp; exact Go.pl (fun T locs X eT t q => XS.istoreN X.here C.1 rfl (hb C.2.2.2.1 hd) rfl hl q) hr
theorem Cx.istore (C : Cx p s m meth c Z n0 own bc maxL ret nm) {j : Nat} {v : Int32} {Ls' : Array Slot} (hd : decode bc pc = .ok (.istore j, 2)) (hp : pc + 2 = pc') (hl : storeLocals Ls j (.int v) = some Ls') (hr : Go p l e R s m args below meth c n0 F h k n pc' Ls' (st)) : Go p l e R s m args below meth c n0 F h k n pc Ls (.int v :: st) := by
  subst hp; exact Go.pl (fun T locs X eT t q => XS.istore X.here C.1 rfl (hb C.2.2.2.1 hd) rfl hl q) hr
theorem Cx.lstoreN (C : Cx p s m meth c Z n0 own bc maxL ret nm) {j : Fin 4} {v : Int64} {Ls' : Array Slot} (hd : decode bc pc = .ok (.lstore_n j, 1)) (hp : pc + 1 = pc') (hl : storeLocals Ls j.val (.long v) = some Ls') (hr : Go p l e R s m args below meth c n0 F h k n pc' Ls' (st)) : Go p l e R s m args below meth c n0 F h k n pc Ls (.long v :: st) := by
  subst hp; exact Go.pl (fun T locs X eT t q => XT.lstoreN X.here C.1 rfl (hb C.2.2.2.1 hd) rfl hl q) hr
theorem Cx.lstore (C : Cx p s m meth c Z n0 own bc maxL ret nm) {j : Nat} {v : Int64} {Ls' : Array Slot} (hd : decode bc pc = .ok (.lstore j, 2)) (hp : pc + 2 = pc') (hl : storeLocals Ls j (.long v) = some Ls') (hr : Go p l e R s m args below meth c n0 F h k n pc' Ls' (st)) : Go p l e R s m args below meth c n0 F h k n pc Ls (.long v :: st) := by
  subst hp; exact Go.pl (fun T locs X eT t q => XT.lstore X.here C.1 rfl (hb C.2.2.2.1 hd) rfl hl q) hr
theorem Cx.astoreN (C : Cx p s m meth c Z n0 own bc maxL ret nm) {j : Fin 4} {v : Value} {Ls' : Array Slot} (hd : decode bc pc = .ok (.astore_n j, 1)) (hp : pc + 1 = pc') (hv : v.isRef = true) (hl : storeLocals Ls j.val v = some Ls') (hr : Go p l e R s m args below meth c n0 F h k n pc' Ls' (st)) : Go p l e R s m args below meth c n0 F h k n pc Ls (v :: st) := by
  subst hp; exact Go.pl (fun T locs X eT t q => XS.astoreN X.here C.1 rfl (hb C.2.2.2.1 hd) rfl hv hl q) hr
theorem Cx.astore (C : Cx p s m meth c Z n0 own bc maxL ret nm) {j : Nat} {v : Value} {Ls' : Array Slot} (hd : decode bc pc = .ok (.astore j, 2)) (hp : pc + 2 = pc') (hv : v.isRef = true) (hl : storeLocals Ls j v = some Ls') (hr : Go p l e R s m args below meth c n0 F h k n pc' Ls' (st)) : Go p l e R s m args below meth c n0 F h k n pc Ls (v :: st) := by
  subst hp; exact Go.pl (fun T locs X eT t q => XS.astore X.here C.1 rfl (hb C.2.2.2.1 hd) rfl hv hl q) hr
theorem Cx.iconst (C : Cx p s m meth c Z n0 own bc maxL ret nm) {i : Int} (v : Int32) (hd : decode bc pc = .ok (.iconst i, 1)) (hp : pc + 1 = pc') (hv : Int32.ofInt i = v) (hr : Go p l e R s m args below meth c n0 F h k n pc' Ls (.int v :: st)) : Go p l e R s m args below meth c n0 F h k n pc Ls st := by
  subst hp hv; exact Go.pl (fun T locs X eT t q => XS.iconst X.here C.1 rfl (hb C.2.2.2.1 hd) q) hr
theorem Cx.bipush (C : Cx p s m meth c Z n0 own bc maxL ret nm) {i : Int} (v : Int32) (hd : decode bc pc = .ok (.bipush i, 2)) (hp : pc + 2 = pc') (hv : (Int8.ofInt i).toInt32 = v) (hr : Go p l e R s m args below meth c n0 F h k n pc' Ls (.int v :: st)) : Go p l e R s m args below meth c n0 F h k n pc Ls st := by
  subst hp hv; exact Go.pl (fun T locs X eT t q => XS.bipush X.here C.1 rfl (hb C.2.2.2.1 hd) q) hr
theorem Cx.sipush (C : Cx p s m meth c Z n0 own bc maxL ret nm) {i : Int} (v : Int32) (hd : decode bc pc = .ok (.sipush i, 3)) (hp : pc + 3 = pc') (hv : (Int16.ofInt i).toInt32 = v) (hr : Go p l e R s m args below meth c n0 F h k n pc' Ls (.int v :: st)) : Go p l e R s m args below meth c n0 F h k n pc Ls st := by
  subst hp hv; exact Go.pl (fun T locs X eT t q => XS.sipush X.here C.1 rfl (hb C.2.2.2.1 hd) q) hr
theorem Cx.lconst (C : Cx p s m meth c Z n0 own bc maxL ret nm) {i : Fin 2} (v : Int64) (hd : decode bc pc = .ok (.lconst i, 1)) (hp : pc + 1 = pc') (hv : Int64.ofNat i = v) (hr : Go p l e R s m args below meth c n0 F h k n pc' Ls (.long v :: st)) : Go p l e R s m args below meth c n0 F h k n pc Ls st := by
  subst hp hv; exact Go.pl (fun T locs X eT t q => XT.lconst X.here C.1 rfl (hb C.2.2.2.1 hd) q) hr
theorem Cx.aconst_null (C : Cx p s m meth c Z n0 own bc maxL ret nm)  (hd : decode bc pc = .ok (.aconst_null, 1)) (hp : pc + 1 = pc')  (hr : Go p l e R s m args below meth c n0 F h k n pc' Ls (.null :: st)) : Go p l e R s m args below meth c n0 F h k n pc Ls (st) := by
  subst hp; exact Go.pl (fun T locs X eT t q => XS.aconstNull X.here C.1 rfl (hb C.2.2.2.1 hd)  q) hr
theorem Cx.iadd (C : Cx p s m meth c Z n0 own bc maxL ret nm) {x y : Int32} (hd : decode bc pc = .ok (.iadd, 1)) (hp : pc + 1 = pc')  (hr : Go p l e R s m args below meth c n0 F h k n pc' Ls (.int (x + y) :: st)) : Go p l e R s m args below meth c n0 F h k n pc Ls (.int y :: .int x :: st) := by
  subst hp; exact Go.pl (fun T locs X eT t q => XS.iadd X.here C.1 rfl (hb C.2.2.2.1 hd) rfl q) hr
theorem Cx.isub (C : Cx p s m meth c Z n0 own bc maxL ret nm) {x y : Int32} (hd : decode bc pc = .ok (.isub, 1)) (hp : pc + 1 = pc')  (hr : Go p l e R s m args below meth c n0 F h k n pc' Ls (.int (x - y) :: st)) : Go p l e R s m args below meth c n0 F h k n pc Ls (.int y :: .int x :: st) := by
  subst hp; exact Go.pl (fun T locs X eT t q => XS.isub X.here C.1 rfl (hb C.2.2.2.1 hd) rfl q) hr
theorem Cx.imul (C : Cx p s m meth c Z n0 own bc maxL ret nm) {x y : Int32} (hd : decode bc pc = .ok (.imul, 1)) (hp : pc + 1 = pc')  (hr : Go p l e R s m args below meth c n0 F h k n pc' Ls (.int (x * y) :: st)) : Go p l e R s m args below meth c n0 F h k n pc Ls (.int y :: .int x :: st) := by
  subst hp; exact Go.pl (fun T locs X eT t q => XS.imul X.here C.1 rfl (hb C.2.2.2.1 hd) rfl q) hr
theorem Cx.iand (C : Cx p s m meth c Z n0 own bc maxL ret nm) {x y : Int32} (hd : decode bc pc = .ok (.iand, 1)) (hp : pc + 1 = pc')  (hr : Go p l e R s m args below meth c n0 F h k n pc' Ls (.int (x &&& y) :: st)) : Go p l e R s m args below meth c n0 F h k n pc Ls (.int y :: .int x :: st) := by
  subst hp; exact Go.pl (fun T locs X eT t q => XS.iand X.here C.1 rfl (hb C.2.2.2.1 hd) rfl q) hr
theorem Cx.ixor (C : Cx p s m meth c Z n0 own bc maxL ret nm) {x y : Int32} (hd : decode bc pc = .ok (.ixor, 1)) (hp : pc + 1 = pc')  (hr : Go p l e R s m args below meth c n0 F h k n pc' Ls (.int (x ^^^ y) :: st)) : Go p l e R s m args below meth c n0 F h k n pc Ls (.int y :: .int x :: st) := by
  subst hp; exact Go.pl (fun T locs X eT t q => XT.ixor X.here C.1 rfl (hb C.2.2.2.1 hd) rfl q) hr
theorem Cx.ior (C : Cx p s m meth c Z n0 own bc maxL ret nm) {x y : Int32} (hd : decode bc pc = .ok (.ior, 1)) (hp : pc + 1 = pc')  (hr : Go p l e R s m args below meth c n0 F h k n pc' Ls (.int (x ||| y) :: st)) : Go p l e R s m args below meth c n0 F h k n pc Ls (.int y :: .int x :: st) := by
  subst hp; exact Go.pl (fun T locs X eT t q => XT.ior X.here C.1 rfl (hb C.2.2.2.1 hd) rfl q) hr
theorem Cx.ishl (C : Cx p s m meth c Z n0 own bc maxL ret nm) {x y : Int32} (hd : decode bc pc = .ok (.ishl, 1)) (hp : pc + 1 = pc')  (hr : Go p l e R s m args below meth c n0 F h k n pc' Ls (.int (x <<< (y &&& 31)) :: st)) : Go p l e R s m args below meth c n0 F h k n pc Ls (.int y :: .int x :: st) := by
  subst hp; exact Go.pl (fun T locs X eT t q => XT.ishl X.here C.1 rfl (hb C.2.2.2.1 hd) rfl q) hr
theorem Cx.ishr (C : Cx p s m meth c Z n0 own bc maxL ret nm) {x y : Int32} (hd : decode bc pc = .ok (.ishr, 1)) (hp : pc + 1 = pc')  (hr : Go p l e R s m args below meth c n0 F h k n pc' Ls (.int (x >>> (y &&& 31)) :: st)) : Go p l e R s m args below meth c n0 F h k n pc Ls (.int y :: .int x :: st) := by
  subst hp; exact Go.pl (fun T locs X eT t q => XT.ishr X.here C.1 rfl (hb C.2.2.2.1 hd) rfl q) hr
theorem Cx.iushr (C : Cx p s m meth c Z n0 own bc maxL ret nm) {x y : Int32} (hd : decode bc pc = .ok (.iushr, 1)) (hp : pc + 1 = pc')  (hr : Go p l e R s m args below meth c n0 F h k n pc' Ls (.int (XT.ushr x y) :: st)) : Go p l e R s m args below meth c n0 F h k n pc Ls (.int y :: .int x :: st) := by
  subst hp; exact Go.pl (fun T locs X eT t q => XT.iushr X.here C.1 rfl (hb C.2.2.2.1 hd) rfl q) hr
theorem Cx.idiv (C : Cx p s m meth c Z n0 own bc maxL ret nm) {x y : Int32} (hd : decode bc pc = .ok (.idiv, 1)) (hp : pc + 1 = pc') (hy : y ≠ 0) (hr : Go p l e R s m args below meth c n0 F h k n pc' Ls (.int (x / y) :: st)) : Go p l e R s m args below meth c n0 F h k n pc Ls (.int y :: .int x :: st) := by
  subst hp; exact Go.pl (fun T locs X eT t q => XS.idiv X.here C.1 rfl (hb C.2.2.2.1 hd) rfl hy q) hr
theorem Cx.irem (C : Cx p s m meth c Z n0 own bc maxL ret nm) {x y : Int32} (hd : decode bc pc = .ok (.irem, 1)) (hp : pc + 1 = pc') (hy : y ≠ 0) (hr : Go p l e R s m args below meth c n0 F h k n pc' Ls (.int (x % y) :: st)) : Go p l e R s m args below meth c n0 F h k n pc Ls (.int y :: .int x :: st) := by
  subst hp; exact Go.pl (fun T locs X eT t q => iremM X C.1 rfl (hb C.2.2.2.1 hd) rfl hy q) hr
theorem Cx.ineg (C : Cx p s m meth c Z n0 own bc maxL ret nm) {x : Int32} (hd : decode bc pc = .ok (.ineg, 1)) (hp : pc + 1 = pc')  (hr : Go p l e R s m args below meth c n0 F h k n pc' Ls (.int (-x) :: st)) : Go p l e R s m args below meth c n0 F h k n pc Ls (.int x :: st) := by
  subst hp; exact Go.pl (fun T locs X eT t q => XS.ineg X.here C.1 rfl (hb C.2.2.2.1 hd) rfl q) hr
theorem Cx.ladd (C : Cx p s m meth c Z n0 own bc maxL ret nm) {x y : Int64} (hd : decode bc pc = .ok (.ladd, 1)) (hp : pc + 1 = pc')  (hr : Go p l e R s m args below meth c n0 F h k n pc' Ls (.long (x + y) :: st)) : Go p l e R s m args below meth c n0 F h k n pc Ls (.long y :: .long x :: st) := by
  subst hp; exact Go.pl (fun T locs X eT t q => XT.ladd X.here C.1 rfl (hb C.2.2.2.1 hd) rfl q) hr
theorem Cx.lsub (C : Cx p s m meth c Z n0 own bc maxL ret nm) {x y : Int64} (hd : decode bc pc = .ok (.lsub, 1)) (hp : pc + 1 = pc')  (hr : Go p l e R s m args below meth c n0 F h k n pc' Ls (.long (x - y) :: st)) : Go p l e R s m args below meth c n0 F h k n pc Ls (.long y :: .long x :: st) := by
  subst hp; exact Go.pl (fun T locs X eT t q => XT.lsub X.here C.1 rfl (hb C.2.2.2.1 hd) rfl q) hr
theorem Cx.lmul (C : Cx p s m meth c Z n0 own bc maxL ret nm) {x y : Int64} (hd : decode bc pc = .ok (.lmul, 1)) (hp : pc + 1 = pc')  (hr : Go p l e R s m args below meth c n0 F h k n pc' Ls (.long (x * y) :: st)) : Go p l e R s m args below meth c n0 F h k n pc Ls (.long y :: .long x :: st) := by
  subst hp; exact Go.pl (fun T locs X eT t q => XT.lmul X.here C.1 rfl (hb C.2.2.2.1 hd) rfl q) hr
theorem Cx.land (C : Cx p s m meth c Z n0 own bc maxL ret nm) {x y : Int64} (hd : decode bc pc = .ok (.land, 1)) (hp : pc + 1 = pc')  (hr : Go p l e R s m args below meth c n0 F h k n pc' Ls (.long (x &&& y) :: st)) : Go p l e R s m args below meth c n0 F h k n pc Ls (.long y :: .long x :: st) := by
  subst hp; exact Go.pl (fun T locs X eT t q => XT.land X.here C.1 rfl (hb C.2.2.2.1 hd) rfl q) hr
theorem Cx.lor (C : Cx p s m meth c Z n0 own bc maxL ret nm) {x y : Int64} (hd : decode bc pc = .ok (.lor, 1)) (hp : pc + 1 = pc')  (hr : Go p l e R s m args below meth c n0 F h k n pc' Ls (.long (x ||| y) :: st)) : Go p l e R s m args below meth c n0 F h k n pc Ls (.long y :: .long x :: st) := by
  subst hp; exact Go.pl (fun T locs X eT t q => XT.lor X.here C.1 rfl (hb C.2.2.2.1 hd) rfl q) hr
theorem Cx.lxor (C : Cx p s m meth c Z n0 own bc maxL ret nm) {x y : Int64} (hd : decode bc pc = .ok (.lxor, 1)) (hp : pc + 1 = pc')  (hr : Go p l e R s m args below meth c n0 F h k n pc' Ls (.long (x ^^^ y) :: st)) : Go p l e R s m args below meth c n0 F h k n pc Ls (.long y :: .long x :: st) := by
  subst hp; exact Go.pl (fun T locs X eT t q => XT.lxor X.here C.1 rfl (hb C.2.2.2.1 hd) rfl q) hr
theorem Cx.ldiv (C : Cx p s m meth c Z n0 own bc maxL ret nm) {x y : Int64} (hd : decode bc pc = .ok (.ldiv, 1)) (hp : pc + 1 = pc') (hy : y ≠ 0) (hr : Go p l e R s m args below meth c n0 F h k n pc' Ls (.long (x / y) :: st)) : Go p l e R s m args below meth c n0 F h k n pc Ls (.long y :: .long x :: st) := by
  subst hp; exact Go.pl (fun T locs X eT t q => XT.ldiv X.here C.1 rfl (hb C.2.2.2.1 hd) rfl hy q) hr
theorem Cx.lrem (C : Cx p s m meth c Z n0 own bc maxL ret nm) {x y : Int64} (hd : decode bc pc = .ok (.lrem, 1)) (hp : pc + 1 = pc') (hy : y ≠ 0) (hr : Go p l e R s m args below meth c n0 F h k n pc' Ls (.long (x - (x / y) * y) :: st)) : Go p l e R s m args below meth c n0 F h k n pc Ls (.long y :: .long x :: st) := by
  subst hp; exact Go.pl (fun T locs X eT t q => XT.lrem X.here C.1 rfl (hb C.2.2.2.1 hd) rfl hy q) hr
theorem Cx.lshl (C : Cx p s m meth c Z n0 own bc maxL ret nm) {x : Int64} {y : Int32} (hd : decode bc pc = .ok (.lshl, 1)) (hp : pc + 1 = pc')  (hr : Go p l e R s m args below meth c n0 F h k n pc' Ls (.long (x <<< (y.toInt64 &&& 63)) :: st)) : Go p l e R s m args below meth c n0 F h k n pc Ls (.int y :: .long x :: st) := by
  subst hp; exact Go.pl (fun T locs X eT t q => XT.lshl X.here C.1 rfl (hb C.2.2.2.1 hd) rfl q) hr
theorem Cx.lshr (C : Cx p s m meth c Z n0 own bc maxL ret nm) {x : Int64} {y : Int32} (hd : decode bc pc = .ok (.lshr, 1)) (hp : pc + 1 = pc')  (hr : Go p l e R s m args below meth c n0 F h k n pc' Ls (.long (x >>> (y.toInt64 &&& 63)) :: st)) : Go p l e R s m args below meth c n0 F h k n pc Ls (.int y :: .long x :: st) := by
  subst hp; exact Go.pl (fun T locs X eT t q => XT.lshr X.here C.1 rfl (hb C.2.2.2.1 hd) rfl q) hr
theorem Cx.lushr (C : Cx p s m meth c Z n0 own bc maxL ret nm) {x : Int64} {y : Int32} (hd : decode bc pc = .ok (.lushr, 1)) (hp : pc + 1 = pc')  (hr : Go p l e R s m args below meth c n0 F h k n pc' Ls (.long (XT.ushrL x y) :: st)) : Go p l e R s m args below meth c n0 F h k n pc Ls (.int y :: .long x :: st) := by
  subst hp; exact Go.pl (fun T locs X eT t q => XT.lushr X.here C.1 rfl (hb C.2.2.2.1 hd) rfl q) hr
theorem Cx.lneg (C : Cx p s m meth c Z n0 own bc maxL ret nm) {x : Int64} (hd : decode bc pc = .ok (.lneg, 1)) (hp : pc + 1 = pc')  (hr : Go p l e R s m args below meth c n0 F h k n pc' Ls (.long (-x) :: st)) : Go p l e R s m args below meth c n0 F h k n pc Ls (.long x :: st) := by
  subst hp; exact Go.pl (fun T locs X eT t q => XT.lneg X.here C.1 rfl (hb C.2.2.2.1 hd) rfl q) hr
theorem Cx.i2l (C : Cx p s m meth c Z n0 own bc maxL ret nm) {x : Int32} (hd : decode bc pc = .ok (.i2l, 1)) (hp : pc + 1 = pc')  (hr : Go p l e R s m args below meth c n0 F h k n pc' Ls (.long x.toInt64 :: st)) : Go p l e R s m args below meth c n0 F h k n pc Ls (.int x :: st) := by
  subst hp; exact Go.pl (fun T locs X eT t q => XT.i2l X.here C.1 rfl (hb C.2.2.2.1 hd) rfl q) hr
theorem Cx.l2i (C : Cx p s m meth c Z n0 own bc maxL ret nm) {x : Int64} (hd : decode bc pc = .ok (.l2i, 1)) (hp : pc + 1 = pc')  (hr : Go p l e R s m args below meth c n0 F h k n pc' Ls (.int x.toInt32 :: st)) : Go p l e R s m args below meth c n0 F h k n pc Ls (.long x :: st) := by
  subst hp; exact Go.pl (fun T locs X eT t q => XT.l2i X.here C.1 rfl (hb C.2.2.2.1 hd) rfl q) hr
theorem Cx.i2b (C : Cx p s m meth c Z n0 own bc maxL ret nm) {x : Int32} (hd : decode bc pc = .ok (.i2b, 1)) (hp : pc + 1 = pc')  (hr : Go p l e R s m args below meth c n0 F h k n pc' Ls (.int x.toInt8.toInt32 :: st)) : Go p l e R s m args below meth c n0 F h k n pc Ls (.int x :: st) := by
  subst hp; exact Go.pl (fun T locs X eT t q => XT.i2b X.here C.1 rfl (hb C.2.2.2.1 hd) rfl q) hr
theorem Cx.i2c (C : Cx p s m meth c Z n0 own bc maxL ret nm) {x : Int32} (hd : decode bc pc = .ok (.i2c, 1)) (hp : pc + 1 = pc')  (hr : Go p l e R s m args below meth c n0 F h k n pc' Ls (.int x.toUInt32.toUInt16.toUInt32.toInt32 :: st)) : Go p l e R s m args below meth c n0 F h k n pc Ls (.int x :: st) := by
  subst hp; exact Go.pl (fun T locs X eT t q => XT.i2c X.here C.1 rfl (hb C.2.2.2.1 hd) rfl q) hr
theorem Cx.lcmp (C : Cx p s m meth c Z n0 own bc maxL ret nm) {x y : Int64} (hd : decode bc pc = .ok (.lcmp, 1)) (hp : pc + 1 = pc')  (hr : Go p l e R s m args below meth c n0 F h k n pc' Ls (.int (XT.cmpL x y) :: st)) : Go p l e R s m args below meth c n0 F h k n pc Ls (.long y :: .long x :: st) := by
  subst hp; exact Go.pl (fun T locs X eT t q => XT.lcmp X.here C.1 rfl (hb C.2.2.2.1 hd) rfl q) hr
theorem Cx.iinc (C : Cx p s m meth c Z n0 own bc maxL ret nm) {j : Nat} {i : Int} {x : Int32} {Ls' : Array Slot} (v : Int32) (hd : decode bc pc = .ok (.iinc j i, 3)) (hp : pc + 3 = pc') (hv : Int32.ofInt i = v) (hl : Ls[j]? = some (.val (.int x))) (hl' : storeLocals Ls j (.int (x + v)) = some Ls') (hr : Go p l e R s m args below meth c n0 F h k n pc' Ls' st) : Go p l e R s m args below meth c n0 F h k n pc Ls st := by
  subst hp hv; exact Go.pl (fun T locs X eT t q => XS.iinc X.here C.1 rfl (hb C.2.2.2.1 hd) hl hl' q) hr
theorem Cx.dup (C : Cx p s m meth c Z n0 own bc maxL ret nm) {x : Value} (hd : decode bc pc = .ok (.dup, 1)) (hp : pc + 1 = pc') (hc : x.category = 1) (hr : Go p l e R s m args below meth c n0 F h k n pc' Ls (x :: x :: st)) : Go p l e R s m args below meth c n0 F h k n pc Ls (x :: st) := by
  subst hp; exact Go.pl (fun T locs X eT t q => XS.dup X.here C.1 rfl (hb C.2.2.2.1 hd) rfl hc q) hr
theorem Cx.pop (C : Cx p s m meth c Z n0 own bc maxL ret nm) {x : Value} (hd : decode bc pc = .ok (.pop, 1)) (hp : pc + 1 = pc') (hc : x.category = 1) (hr : Go p l e R s m args below meth c n0 F h k n pc' Ls (st)) : Go p l e R s m args below meth c n0 F h k n pc Ls (x :: st) := by
  subst hp; exact Go.pl (fun T locs X eT t q => XT.pop X.here C.1 rfl (hb C.2.2.2.1 hd) rfl hc q) hr
theorem Cx.dupX1 (C : Cx p s m meth c Z n0 own bc maxL ret nm) {x y : Value} (hd : decode bc pc = .ok (.dup_x1, 1)) (hp : pc + 1 = pc') (hc : x.category = 1) (hc' : y.category = 1) (hr : Go p l e R s m args below meth c n0 F h k n pc' Ls (x :: y :: x :: st)) : Go p l e R s m args below meth c n0 F h k n pc Ls (x :: y :: st) := by
  subst hp; exact Go.pl (fun T locs X eT t q => XT.dupX1 X.here C.1 rfl (hb C.2.2.2.1 hd) rfl hc hc' q) hr
theorem Cx.dup2 (C : Cx p s m meth c Z n0 own bc maxL ret nm) {x y : Value} (hd : decode bc pc = .ok (.dup2, 1)) (hp : pc + 1 = pc') (hc : x.category = 1) (hc' : y.category = 1) (hr : Go p l e R s m args below meth c n0 F h k n pc' Ls (x :: y :: x :: y :: st)) : Go p l e R s m args below meth c n0 F h k n pc Ls (x :: y :: st) := by
  subst hp; exact Go.pl (fun T locs X eT t q => XT.dup2 X.here C.1 rfl (hb C.2.2.2.1 hd) rfl hc hc' q) hr
theorem Cx.dup2L (C : Cx p s m meth c Z n0 own bc maxL ret nm) {x : Int64} (hd : decode bc pc = .ok (.dup2, 1)) (hp : pc + 1 = pc')  (hr : Go p l e R s m args below meth c n0 F h k n pc' Ls (.long x :: .long x :: st)) : Go p l e R s m args below meth c n0 F h k n pc Ls (.long x :: st) := by
  subst hp; exact Go.pl (fun T locs X eT t q => XT.dup2L X.here C.1 rfl (hb C.2.2.2.1 hd) rfl q) hr
theorem Cx.goto (C : Cx p s m meth c Z n0 own bc maxL ret nm) {o : Int} (hd : decode bc pc = .ok (.goto o, 3)) (ho : 0 ≤ (pc : Int) + o) (hp : ((pc : Int) + o).toNat = pc') (hr : Go p l e R s m args below meth c n0 F h k n pc' Ls st) : Go p l e R s m args below meth c n0 F h k n pc Ls st := by
  exact Go.pl (fun T locs X eT t q => XS.goto X.here C.1 rfl rfl (hb C.2.2.2.1 hd) ho hp q) hr
theorem Cx.if_eq_t (C : Cx p s m meth c Z n0 own bc maxL ret nm) {x : Int32} {o : Int} (hd : decode bc pc = .ok (.ifCond .eq o, 3)) (ho : 0 ≤ (pc : Int) + o) (hp : ((pc : Int) + o).toNat = pc') (hq : x = 0) (hr : Go p l e R s m args below meth c n0 F h k n pc' Ls st) : Go p l e R s m args below meth c n0 F h k n pc Ls (.int x :: st) :=
  Go.pl (fun T locs X eT t q => XS.ifYes X.here C.1 rfl rfl (hb C.2.2.2.1 hd) rfl (XT.i0_eq_t hq) ho hp q) hr
theorem Cx.if_eq_f (C : Cx p s m meth c Z n0 own bc maxL ret nm) {x : Int32} {o : Int} (hd : decode bc pc = .ok (.ifCond .eq o, 3)) (hp : pc + 3 = pc') (hq : ¬ x = 0) (hr : Go p l e R s m args below meth c n0 F h k n pc' Ls st) : Go p l e R s m args below meth c n0 F h k n pc Ls (.int x :: st) := by
  subst hp; exact Go.pl (fun T locs X eT t q => XS.ifNo X.here C.1 rfl (hb C.2.2.2.1 hd) rfl (XT.i0_eq_f hq) q) hr
theorem Cx.if_eq (C : Cx p s m meth c Z n0 own bc maxL ret nm) {x : Int32} {o : Int} {pc'' : Nat} (hd : decode bc pc = .ok (.ifCond .eq o, 3)) (ho : 0 ≤ (pc : Int) + o) (hp : ((pc : Int) + o).toNat = pc') (hp' : pc + 3 = pc'') (hy : x = 0 → Go p l e R s m args below meth c n0 F h k n pc' Ls st) (hn : ¬ x = 0 → Go p l e R s m args below meth c n0 F h k n pc'' Ls st) : Go p l e R s m args below meth c n0 F h k n pc Ls (.int x :: st) := by
  by_cases q : x = 0
  · exact C.if_eq_t hd ho hp q (hy q)
  · exact C.if_eq_f hd hp' q (hn q)
theorem Cx.icmp_eq_t (C : Cx p s m meth c Z n0 own bc maxL ret nm) {x y : Int32} {o : Int} (hd : decode bc pc = .ok (.if_icmp .eq o, 3)) (ho : 0 ≤ (pc : Int) + o) (hp : ((pc : Int) + o).toNat = pc') (hq : x = y) (hr : Go p l e R s m args below meth c n0 F h k n pc' Ls st) : Go p l e R s m args below meth c n0 F h k n pc Ls (.int y :: .int x :: st) :=
  Go.pl (fun T locs X eT t q => XS.icmpYes X.here C.1 rfl rfl (hb C.2.2.2.1 hd) rfl (XT.ii_eq_t hq) ho hp q) hr
theorem Cx.icmp_eq_f (C : Cx p s m meth c Z n0 own bc maxL ret nm) {x y : Int32} {o : Int} (hd : decode bc pc = .ok (.if_icmp .eq o, 3)) (hp : pc + 3 = pc') (hq : ¬ x = y) (hr : Go p l e R s m args below meth c n0 F h k n pc' Ls st) : Go p l e R s m args below meth c n0 F h k n pc Ls (.int y :: .int x :: st) := by
  subst hp; exact Go.pl (fun T locs X eT t q => XS.icmpNo X.here C.1 rfl (hb C.2.2.2.1 hd) rfl (XT.ii_eq_f hq) q) hr
theorem Cx.icmp_eq (C : Cx p s m meth c Z n0 own bc maxL ret nm) {x y : Int32} {o : Int} {pc'' : Nat} (hd : decode bc pc = .ok (.if_icmp .eq o, 3)) (ho : 0 ≤ (pc : Int) + o) (hp : ((pc : Int) + o).toNat = pc') (hp' : pc + 3 = pc'') (hy : x = y → Go p l e R s m args below meth c n0 F h k n pc' Ls st) (hn : ¬ x = y → Go p l e R s m args below meth c n0 F h k n pc'' Ls st) : Go p l e R s m args below meth c n0 F h k n pc Ls (.int y :: .int x :: st) := by
  by_cases q : x = y
  · exact C.icmp_eq_t hd ho hp q (hy q)
  · exact C.icmp_eq_f hd hp' q (hn q)
theorem Cx.lif_eq_t (C : Cx p s m meth c Z n0 own bc maxL ret nm) {x y : Int64} {o : Int} (hd : decode bc pc = .ok (.ifCond .eq o, 3)) (ho : 0 ≤ (pc : Int) + o) (hp : ((pc : Int) + o).toNat = pc') (hq : x = y) (hr : Go p l e R s m args below meth c n0 F h k n pc' Ls st) : Go p l e R s m args below meth c n0 F h k n pc Ls (.int (XT.cmpL x y) :: st) :=
  Go.pl (fun T locs X eT t q => XS.ifYes X.here C.1 rfl rfl (hb C.2.2.2.1 hd) rfl (XT.ll_eq_t hq) ho hp q) hr
theorem Cx.lif_eq_f (C : Cx p s m meth c Z n0 own bc maxL ret nm) {x y : Int64} {o : Int} (hd : decode bc pc = .ok (.ifCond .eq o, 3)) (hp : pc + 3 = pc') (hq : ¬ x = y) (hr : Go p l e R s m args below meth c n0 F h k n pc' Ls st) : Go p l e R s m args below meth c n0 F h k n pc Ls (.int (XT.cmpL x y) :: st) := by
  subst hp; exact Go.pl (fun T locs X eT t q => XS.ifNo X.here C.1 rfl (hb C.2.2.2.1 hd) rfl (XT.ll_eq_f hq) q) hr
theorem Cx.lif_eq (C : Cx p s m meth c Z n0 own bc maxL ret nm) {x y : Int64} {o : Int} {pc'' : Nat} (hd : decode bc pc = .ok (.ifCond .eq o, 3)) (ho : 0 ≤ (pc : Int) + o) (hp : ((pc : Int) + o).toNat = pc') (hp' : pc + 3 = pc'') (hy : x = y → Go p l e R s m args below meth c n0 F h k n pc' Ls st) (hn : ¬ x = y → Go p l e R s m args below meth c n0 F h k n pc'' Ls st) : Go p l e R s m args below meth c n0 F h k n pc Ls (.int (XT.cmpL x y) :: st) := by
  by_cases q : x = y
  · exact C.lif_eq_t hd ho hp q (hy q)
  · exact C.lif_eq_f hd hp' q (hn q)
theorem Cx.if_ne_t (C : Cx p s m meth c Z n0 own bc maxL ret nm) {x : Int32} {o : Int} (hd : decode bc pc = .ok (.ifCond .ne o, 3)) (ho : 0 ≤ (pc : Int) + o) (hp : ((pc : Int) + o).toNat = pc') (hq : ¬ x = 0) (hr : Go p l e R s m args below meth c n0 F h k n pc' Ls st) : Go p l e R s m args below meth c n0 F h k n pc Ls (.int x :: st) :=
  Go.pl (fun T locs X eT t q => XS.ifYes X.here C.1 rfl rfl (hb C.2.2.2.1 hd) rfl (XT.i0_ne_t hq) ho hp q) hr
theorem Cx.if_ne_f (C : Cx p s m meth c Z n0 own bc maxL ret nm) {x : Int32} {o : Int} (hd : decode bc pc = .ok (.ifCond .ne o, 3)) (hp : pc + 3 = pc') (hq : x = 0) (hr : Go p l e R s m args below meth c n0 F h k n pc' Ls st) : Go p l e R s m args below meth c n0 F h k n pc Ls (.int x :: st) := by
  subst hp; exact Go.pl (fun T locs X eT t q => XS.ifNo X.here C.1 rfl (hb C.2.2.2.1 hd) rfl (XT.i0_ne_f hq) q) hr
theorem Cx.if_ne (C : Cx p s m meth c Z n0 own bc maxL ret nm) {x : Int32} {o : Int} {pc'' : Nat} (hd : decode bc pc = .ok (.ifCond .ne o, 3)) (ho : 0 ≤ (pc : Int) + o) (hp : ((pc : Int) + o).toNat = pc') (hp' : pc + 3 = pc'') (hy : ¬ x = 0 → Go p l e R s m args below meth c n0 F h k n pc' Ls st) (hn : x = 0 → Go p l e R s m args below meth c n0 F h k n pc'' Ls st) : Go p l e R s m args below meth c n0 F h k n pc Ls (.int x :: st) := by
  by_cases q : x = 0
  · exact C.if_ne_f hd hp' q (hn q)
  · exact C.if_ne_t hd ho hp q (hy q)
theorem Cx.icmp_ne_t (C : Cx p s m meth c Z n0 own bc maxL ret nm) {x y : Int32} {o : Int} (hd : decode bc pc = .ok (.if_icmp .ne o, 3)) (ho : 0 ≤ (pc : Int) + o) (hp : ((pc : Int) + o).toNat = pc') (hq : ¬ x = y) (hr : Go p l e R s m args below meth c n0 F h k n pc' Ls st) : Go p l e R s m args below meth c n0 F h k n pc Ls (.int y :: .int x :: st) :=
  Go.pl (fun T locs X eT t q => XS.icmpYes X.here C.1 rfl rfl (hb C.2.2.2.1 hd) rfl (XT.ii_ne_t hq) ho hp q) hr
theorem Cx.icmp_ne_f (C : Cx p s m meth c Z n0 own bc maxL ret nm) {x y : Int32} {o : Int} (hd : decode bc pc = .ok (.if_icmp .ne o, 3)) (hp : pc + 3 = pc') (hq : x = y) (hr : Go p l e R s m args below meth c n0 F h k n pc' Ls st) : Go p l e R s m args below meth c n0 F h k n pc Ls (.int y :: .int x :: st) := by
  subst hp; exact Go.pl (fun T locs X eT t q => XS.icmpNo X.here C.1 rfl (hb C.2.2.2.1 hd) rfl (XT.ii_ne_f hq) q) hr
theorem Cx.icmp_ne (C : Cx p s m meth c Z n0 own bc maxL ret nm) {x y : Int32} {o : Int} {pc'' : Nat} (hd : decode bc pc = .ok (.if_icmp .ne o, 3)) (ho : 0 ≤ (pc : Int) + o) (hp : ((pc : Int) + o).toNat = pc') (hp' : pc + 3 = pc'') (hy : ¬ x = y → Go p l e R s m args below meth c n0 F h k n pc' Ls st) (hn : x = y → Go p l e R s m args below meth c n0 F h k n pc'' Ls st) : Go p l e R s m args below meth c n0 F h k n pc Ls (.int y :: .int x :: st) := by
  by_cases q : x = y
  · exact C.icmp_ne_f hd hp' q (hn q)
  · exact C.icmp_ne_t hd ho hp q (hy q)
theorem Cx.lif_ne_t (C : Cx p s m meth c Z n0 own bc maxL ret nm) {x y : Int64} {o : Int} (hd : decode bc pc = .ok (.ifCond .ne o, 3)) (ho : 0 ≤ (pc : Int) + o) (hp : ((pc : Int) + o).toNat = pc') (hq : ¬ x = y) (hr : Go p l e R s m args below meth c n0 F h k n pc' Ls st) : Go p l e R s m args below meth c n0 F h k n pc Ls (.int (XT.cmpL x y) :: st) :=
  Go.pl (fun T locs X eT t q => XS.ifYes X.here C.1 rfl rfl (hb C.2.2.2.1 hd) rfl (XT.ll_ne_t hq) ho hp q) hr
theorem Cx.lif_ne_f (C : Cx p s m meth c Z n0 own bc maxL ret nm) {x y : Int64} {o : Int} (hd : decode bc pc = .ok (.ifCond .ne o, 3)) (hp : pc + 3 = pc') (hq : x = y) (hr : Go p l e R s m args below meth c n0 F h k n pc' Ls st) : Go p l e R s m args below meth c n0 F h k n pc Ls (.int (XT.cmpL x y) :: st) := by
  subst hp; exact Go.pl (fun T locs X eT t q => XS.ifNo X.here C.1 rfl (hb C.2.2.2.1 hd) rfl (XT.ll_ne_f hq) q) hr
theorem Cx.lif_ne (C : Cx p s m meth c Z n0 own bc maxL ret nm) {x y : Int64} {o : Int} {pc'' : Nat} (hd : decode bc pc = .ok (.ifCond .ne o, 3)) (ho : 0 ≤ (pc : Int) + o) (hp : ((pc : Int) + o).toNat = pc') (hp' : pc + 3 = pc'') (hy : ¬ x = y → Go p l e R s m args below meth c n0 F h k n pc' Ls st) (hn : x = y → Go p l e R s m args below meth c n0 F h k n pc'' Ls st) : Go p l e R s m args below meth c n0 F h k n pc Ls (.int (XT.cmpL x y) :: st) := by
  by_cases q : x = y
  · exact C.lif_ne_f hd hp' q (hn q)
  · exact C.lif_ne_t hd ho hp q (hy q)
theorem Cx.if_lt_t (C : Cx p s m meth c Z n0 own bc maxL ret nm) {x : Int32} {o : Int} (hd : decode bc pc = .ok (.ifCond .lt o, 3)) (ho : 0 ≤ (pc : Int) + o) (hp : ((pc : Int) + o).toNat = pc') (hq : x < 0) (hr : Go p l e R s m args below meth c n0 F h k n pc' Ls st) : Go p l e R s m args below meth c n0 F h k n pc Ls (.int x :: st) :=
  Go.pl (fun T locs X eT t q => XS.ifYes X.here C.1 rfl rfl (hb C.2.2.2.1 hd) rfl (XT.i0_lt_t hq) ho hp q) hr
theorem Cx.if_lt_f (C : Cx p s m meth c Z n0 own bc maxL ret nm) {x : Int32} {o : Int} (hd : decode bc pc = .ok (.ifCond .lt o, 3)) (hp : pc + 3 = pc') (hq : ¬ x < 0) (hr : Go p l e R s m args below meth c n0 F h k n pc' Ls st) : Go p l e R s m args below meth c n0 F h k n pc Ls (.int x :: st) := by
  subst hp; exact Go.pl (fun T locs X eT t q => XS.ifNo X.here C.1 rfl (hb C.2.2.2.1 hd) rfl (XT.i0_lt_f hq) q) hr
theorem Cx.if_lt (C : Cx p s m meth c Z n0 own bc maxL ret nm) {x : Int32} {o : Int} {pc'' : Nat} (hd : decode bc pc = .ok (.ifCond .lt o, 3)) (ho : 0 ≤ (pc : Int) + o) (hp : ((pc : Int) + o).toNat = pc') (hp' : pc + 3 = pc'') (hy : x < 0 → Go p l e R s m args below meth c n0 F h k n pc' Ls st) (hn : ¬ x < 0 → Go p l e R s m args below meth c n0 F h k n pc'' Ls st) : Go p l e R s m args below meth c n0 F h k n pc Ls (.int x :: st) := by
  by_cases q : x < 0
  · exact C.if_lt_t hd ho hp q (hy q)
  · exact C.if_lt_f hd hp' q (hn q)
theorem Cx.icmp_lt_t (C : Cx p s m meth c Z n0 own bc maxL ret nm) {x y : Int32} {o : Int} (hd : decode bc pc = .ok (.if_icmp .lt o, 3)) (ho : 0 ≤ (pc : Int) + o) (hp : ((pc : Int) + o).toNat = pc') (hq : x < y) (hr : Go p l e R s m args below meth c n0 F h k n pc' Ls st) : Go p l e R s m args below meth c n0 F h k n pc Ls (.int y :: .int x :: st) :=
  Go.pl (fun T locs X eT t q => XS.icmpYes X.here C.1 rfl rfl (hb C.2.2.2.1 hd) rfl (XT.ii_lt_t hq) ho hp q) hr
theorem Cx.icmp_lt_f (C : Cx p s m meth c Z n0 own bc maxL ret nm) {x y : Int32} {o : Int} (hd : decode bc pc = .ok (.if_icmp .lt o, 3)) (hp : pc + 3 = pc') (hq : ¬ x < y) (hr : Go p l e R s m args below meth c n0 F h k n pc' Ls st) : Go p l e R s m args below meth c n0 F h k n pc Ls (.int y :: .int x :: st) := by
  subst hp; exact Go.pl (fun T locs X eT t q => XS.icmpNo X.here C.1 rfl (hb C.2.2.2.1 hd) rfl (XT.ii_lt_f hq) q) hr
theorem Cx.icmp_lt (C : Cx p s m meth c Z n0 own bc maxL ret nm) {x y : Int32} {o : Int} {pc'' : Nat} (hd : decode bc pc = .ok (.if_icmp .lt o, 3)) (ho : 0 ≤ (pc : Int) + o) (hp : ((pc : Int) + o).toNat = pc') (hp' : pc + 3 = pc'') (hy : x < y → Go p l e R s m args below meth c n0 F h k n pc' Ls st) (hn : ¬ x < y → Go p l e R s m args below meth c n0 F h k n pc'' Ls st) : Go p l e R s m args below meth c n0 F h k n pc Ls (.int y :: .int x :: st) := by
  by_cases q : x < y
  · exact C.icmp_lt_t hd ho hp q (hy q)
  · exact C.icmp_lt_f hd hp' q (hn q)
theorem Cx.lif_lt_t (C : Cx p s m meth c Z n0 own bc maxL ret nm) {x y : Int64} {o : Int} (hd : decode bc pc = .ok (.ifCond .lt o, 3)) (ho : 0 ≤ (pc : Int) + o) (hp : ((pc : Int) + o).toNat = pc') (hq : x < y) (hr : Go p l e R s m args below meth c n0 F h k n pc' Ls st) : Go p l e R s m args below meth c n0 F h k n pc Ls (.int (XT.cmpL x y) :: st) :=
  Go.pl (fun T locs X eT t q => XS.ifYes X.here C.1 rfl rfl (hb C.2.2.2.1 hd) rfl (XT.ll_lt_t hq) ho hp q) hr
theorem Cx.lif_lt_f (C : Cx p s m meth c Z n0 own bc maxL ret nm) {x y : Int64} {o : Int} (hd : decode bc pc = .ok (.ifCond .lt o, 3)) (hp : pc + 3 = pc') (hq : ¬ x < y) (hr : Go p l e R s m args below meth c n0 F h k n pc' Ls st) : Go p l e R s m args below meth c n0 F h k n pc Ls (.int (XT.cmpL x y) :: st) := by
  subst hp; exact Go.pl (fun T locs X eT t q => XS.ifNo X.here C.1 rfl (hb C.2.2.2.1 hd) rfl (XT.ll_lt_f hq) q) hr
theorem Cx.lif_lt (C : Cx p s m meth c Z n0 own bc maxL ret nm) {x y : Int64} {o : Int} {pc'' : Nat} (hd : decode bc pc = .ok (.ifCond .lt o, 3)) (ho : 0 ≤ (pc : Int) + o) (hp : ((pc : Int) + o).toNat = pc') (hp' : pc + 3 = pc'') (hy : x < y → Go p l e R s m args below meth c n0 F h k n pc' Ls st) (hn : ¬ x < y → Go p l e R s m args below meth c n0 F h k n pc'' Ls st) : Go p l e R s m args below meth c n0 F h k n pc Ls (.int (XT.cmpL x y) :: st) := by
  by_cases q : x < y
  · exact C.lif_lt_t hd ho hp q (hy q)
  · exact C.lif_lt_f hd hp' q (hn q)
theorem Cx.if_ge_t (C : Cx p s m meth c Z n0 own bc maxL ret nm) {x : Int32} {o : Int} (hd : decode bc pc = .ok (.ifCond .ge o, 3)) (ho : 0 ≤ (pc : Int) + o) (hp : ((pc : Int) + o).toNat = pc') (hq : ¬ x < 0) (hr : Go p l e R s m args below meth c n0 F h k n pc' Ls st) : Go p l e R s m args below meth c n0 F h k n pc Ls (.int x :: st) :=
  Go.pl (fun T locs X eT t q => XS.ifYes X.here C.1 rfl rfl (hb C.2.2.2.1 hd) rfl (XT.i0_ge_t hq) ho hp q) hr
theorem Cx.if_ge_f (C : Cx p s m meth c Z n0 own bc maxL ret nm) {x : Int32} {o : Int} (hd : decode bc pc = .ok (.ifCond .ge o, 3)) (hp : pc + 3 = pc') (hq : x < 0) (hr : Go p l e R s m args below meth c n0 F h k n pc' Ls st) : Go p l e R s m args below meth c n0 F h k n pc Ls (.int x :: st) := by
  subst hp; exact Go.pl (fun T locs X eT t q => XS.ifNo X.here C.1 rfl (hb C.2.2.2.1 hd) rfl (XT.i0_ge_f hq) q) hr
theorem Cx.if_ge (C : Cx p s m meth c Z n0 own bc maxL ret nm) {x : Int32} {o : Int} {pc'' : Nat} (hd : decode bc pc = .ok (.ifCond .ge o, 3)) (ho : 0 ≤ (pc : Int) + o) (hp : ((pc : Int) + o).toNat = pc') (hp' : pc + 3 = pc'') (hy : ¬ x < 0 → Go p l e R s m args below meth c n0 F h k n pc' Ls st) (hn : x < 0 → Go p l e R s m args below meth c n0 F h k n pc'' Ls st) : Go p l e R s m args below meth c n0 F h k n pc Ls (.int x :: st) := by
  by_cases q : x < 0
  · exact C.if_ge_f hd hp' q (hn q)
  · exact C.if_ge_t hd ho hp q (hy q)
theorem Cx.icmp_ge_t (C : Cx p s m meth c Z n0 own bc maxL ret nm) {x y : Int32} {o : Int} (hd : decode bc pc = .ok (.if_icmp .ge o, 3)) (ho : 0 ≤ (pc : Int) + o) (hp : ((pc : Int) + o).toNat = pc') (hq : ¬ x < y) (hr : Go p l e R s m args below meth c n0 F h k n pc' Ls st) : Go p l e R s m args below meth c n0 F h k n pc Ls (.int y :: .int x :: st) :=
  Go.pl (fun T locs X eT t q => XS.icmpYes X.here C.1 rfl rfl (hb C.2.2.2.1 hd) rfl (XT.ii_ge_t hq) ho hp q) hr
theorem Cx.icmp_ge_f (C : Cx p s m meth c Z n0 own bc maxL ret nm) {x y : Int32} {o : Int} (hd : decode bc pc = .ok (.if_icmp .ge o, 3)) (hp : pc + 3 = pc') (hq : x < y) (hr : Go p l e R s m args below meth c n0 F h k n pc' Ls st) : Go p l e R s m args below meth c n0 F h k n pc Ls (.int y :: .int x :: st) := by
  subst hp; exact Go.pl (fun T locs X eT t q => XS.icmpNo X.here C.1 rfl (hb C.2.2.2.1 hd) rfl (XT.ii_ge_f hq) q) hr
theorem Cx.icmp_ge (C : Cx p s m meth c Z n0 own bc maxL ret nm) {x y : Int32} {o : Int} {pc'' : Nat} (hd : decode bc pc = .ok (.if_icmp .ge o, 3)) (ho : 0 ≤ (pc : Int) + o) (hp : ((pc : Int) + o).toNat = pc') (hp' : pc + 3 = pc'') (hy : ¬ x < y → Go p l e R s m args below meth c n0 F h k n pc' Ls st) (hn : x < y → Go p l e R s m args below meth c n0 F h k n pc'' Ls st) : Go p l e R s m args below meth c n0 F h k n pc Ls (.int y :: .int x :: st) := by
  by_cases q : x < y
  · exact C.icmp_ge_f hd hp' q (hn q)
  · exact C.icmp_ge_t hd ho hp q (hy q)
theorem Cx.lif_ge_t (C : Cx p s m meth c Z n0 own bc maxL ret nm) {x y : Int64} {o : Int} (hd : decode bc pc = .ok (.ifCond .ge o, 3)) (ho : 0 ≤ (pc : Int) + o) (hp : ((pc : Int) + o).toNat = pc') (hq : ¬ x < y) (hr : Go p l e R s m args below meth c n0 F h k n pc' Ls st) : Go p l e R s m args below meth c n0 F h k n pc Ls (.int (XT.cmpL x y) :: st) :=
  Go.pl (fun T locs X eT t q => XS.ifYes X.here C.1 rfl rfl (hb C.2.2.2.1 hd) rfl (XT.ll_ge_t hq) ho hp q) hr
theorem Cx.lif_ge_f (C : Cx p s m meth c Z n0 own bc maxL ret nm) {x y : Int64} {o : Int} (hd : decode bc pc = .ok (.ifCond .ge o, 3)) (hp : pc + 3 = pc') (hq : x < y) (hr : Go p l e R s m args below meth c n0 F h k n pc' Ls st) : Go p l e R s m args below meth c n0 F h k n pc Ls (.int (XT.cmpL x y) :: st) := by
  subst hp; exact Go.pl (fun T locs X eT t q => XS.ifNo X.here C.1 rfl (hb C.2.2.2.1 hd) rfl (XT.ll_ge_f hq) q) hr
theorem Cx.lif_ge (C : Cx p s m meth c Z n0 own bc maxL ret nm) {x y : Int64} {o : Int} {pc'' : Nat} (hd : decode bc pc = .ok (.ifCond .ge o, 3)) (ho : 0 ≤ (pc : Int) + o) (hp : ((pc : Int) + o).toNat = pc') (hp' : pc + 3 = pc'') (hy : ¬ x < y → Go p l e R s m args below meth c n0 F h k n pc' Ls st) (hn : x < y → Go p l e R s m args below meth c n0 F h k n pc'' Ls st) : Go p l e R s m args below meth c n0 F h k n pc Ls (.int (XT.cmpL x y) :: st) := by
  by_cases q : x < y
  · exact C.lif_ge_f hd hp' q (hn q)
  · exact C.lif_ge_t hd ho hp q (hy q)
theorem Cx.if_gt_t (C : Cx p s m meth c Z n0 own bc maxL ret nm) {x : Int32} {o : Int} (hd : decode bc pc = .ok (.ifCond .gt o, 3)) (ho : 0 ≤ (pc : Int) + o) (hp : ((pc : Int) + o).toNat = pc') (hq : 0 < x) (hr : Go p l e R s m args below meth c n0 F h k n pc' Ls st) : Go p l e R s m args below meth c n0 F h k n pc Ls (.int x :: st) :=
  Go.pl (fun T locs X eT t q => XS.ifYes X.here C.1 rfl rfl (hb C.2.2.2.1 hd) rfl (XT.i0_gt_t hq) ho hp q) hr
theorem Cx.if_gt_f (C : Cx p s m meth c Z n0 own bc maxL ret nm) {x : Int32} {o : Int} (hd : decode bc pc = .ok (.ifCond .gt o, 3)) (hp : pc + 3 = pc') (hq : ¬ 0 < x) (hr : Go p l e R s m args below meth c n0 F h k n pc' Ls st) : Go p l e R s m args below meth c n0 F h k n pc Ls (.int x :: st) := by
  subst hp; exact Go.pl (fun T locs X eT t q => XS.ifNo X.here C.1 rfl (hb C.2.2.2.1 hd) rfl (XT.i0_gt_f hq) q) hr
theorem Cx.if_gt (C : Cx p s m meth c Z n0 own bc maxL ret nm) {x : Int32} {o : Int} {pc'' : Nat} (hd : decode bc pc = .ok (.ifCond .gt o, 3)) (ho : 0 ≤ (pc : Int) + o) (hp : ((pc : Int) + o).toNat = pc') (hp' : pc + 3 = pc'') (hy : 0 < x → Go p l e R s m args below meth c n0 F h k n pc' Ls st) (hn : ¬ 0 < x → Go p l e R s m args below meth c n0 F h k n pc'' Ls st) : Go p l e R s m args below meth c n0 F h k n pc Ls (.int x :: st) := by
  by_cases q : 0 < x
  · exact C.if_gt_t hd ho hp q (hy q)
  · exact C.if_gt_f hd hp' q (hn q)
theorem Cx.icmp_gt_t (C : Cx p s m meth c Z n0 own bc maxL ret nm) {x y : Int32} {o : Int} (hd : decode bc pc = .ok (.if_icmp .gt o, 3)) (ho : 0 ≤ (pc : Int) + o) (hp : ((pc : Int) + o).toNat = pc') (hq : y < x) (hr : Go p l e R s m args below meth c n0 F h k n pc' Ls st) : Go p l e R s m args below meth c n0 F h k n pc Ls (.int y :: .int x :: st) :=
  Go.pl (fun T locs X eT t q => XS.icmpYes X.here C.1 rfl rfl (hb C.2.2.2.1 hd) rfl (XT.ii_gt_t hq) ho hp q) hr
theorem Cx.icmp_gt_f (C : Cx p s m meth c Z n0 own bc maxL ret nm) {x y : Int32} {o : Int} (hd : decode bc pc = .ok (.if_icmp .gt o, 3)) (hp : pc + 3 = pc') (hq : ¬ y < x) (hr : Go p l e R s m args below meth c n0 F h k n pc' Ls st) : Go p l e R s m args below meth c n0 F h k n pc Ls (.int y :: .int x :: st) := by
  subst hp; exact Go.pl (fun T locs X eT t q => XS.icmpNo X.here C.1 rfl (hb C.2.2.2.1 hd) rfl (XT.ii_gt_f hq) q) hr
theorem Cx.icmp_gt (C : Cx p s m meth c Z n0 own bc maxL ret nm) {x y : Int32} {o : Int} {pc'' : Nat} (hd : decode bc pc = .ok (.if_icmp .gt o, 3)) (ho : 0 ≤ (pc : Int) + o) (hp : ((pc : Int) + o).toNat = pc') (hp' : pc + 3 = pc'') (hy : y < x → Go p l e R s m args below meth c n0 F h k n pc' Ls st) (hn : ¬ y < x → Go p l e R s m args below meth c n0 F h k n pc'' Ls st) : Go p l e R s m args below meth c n0 F h k n pc Ls (.int y :: .int x :: st) := by
  by_cases q : y < x
  · exact C.icmp_gt_t hd ho hp q (hy q)
  · exact C.icmp_gt_f hd hp' q (hn q)
theorem Cx.lif_gt_t (C : Cx p s m meth c Z n0 own bc maxL ret nm) {x y : Int64} {o : Int} (hd : decode bc pc = .ok (.ifCond .gt o, 3)) (ho : 0 ≤ (pc : Int) + o) (hp : ((pc : Int) + o).toNat = pc') (hq : y < x) (hr : Go p l e R s m args below meth c n0 F h k n pc' Ls st) : Go p l e R s m args below meth c n0 F h k n pc Ls (.int (XT.cmpL x y) :: st) :=
  Go.pl (fun T locs X eT t q => XS.ifYes X.here C.1 rfl rfl (hb C.2.2.2.1 hd) rfl (XT.ll_gt_t hq) ho hp q) hr
theorem Cx.lif_gt_f (C : Cx p s m meth c Z n0 own bc maxL ret nm) {x y : Int64} {o : Int} (hd : decode bc pc = .ok (.ifCond .gt o, 3)) (hp : pc + 3 = pc') (hq : ¬ y < x) (hr : Go p l e R s m args below meth c n0 F h k n pc' Ls st) : Go p l e R s m args below meth c n0 F h k n pc Ls (.int (XT.cmpL x y) :: st) := by
  subst hp; exact Go.pl (fun T locs X eT t q => XS.ifNo X.here C.1 rfl (hb C.2.2.2.1 hd) rfl (XT.ll_gt_f hq) q) hr
theorem Cx.lif_gt (C : Cx p s m meth c Z n0 own bc maxL ret nm) {x y : Int64} {o : Int} {pc'' : Nat} (hd : decode bc pc = .ok (.ifCond .gt o, 3)) (ho : 0 ≤ (pc : Int) + o) (hp : ((pc : Int) + o).toNat = pc') (hp' : pc + 3 = pc'') (hy : y < x → Go p l e R s m args below meth c n0 F h k n pc' Ls st) (hn : ¬ y < x → Go p l e R s m args below meth c n0 F h k n pc'' Ls st) : Go p l e R s m args below meth c n0 F h k n pc Ls (.int (XT.cmpL x y) :: st) := by
  by_cases q : y < x
  · exact C.lif_gt_t hd ho hp q (hy q)
  · exact C.lif_gt_f hd hp' q (hn q)
theorem Cx.if_le_t (C : Cx p s m meth c Z n0 own bc maxL ret nm) {x : Int32} {o : Int} (hd : decode bc pc = .ok (.ifCond .le o, 3)) (ho : 0 ≤ (pc : Int) + o) (hp : ((pc : Int) + o).toNat = pc') (hq : ¬ 0 < x) (hr : Go p l e R s m args below meth c n0 F h k n pc' Ls st) : Go p l e R s m args below meth c n0 F h k n pc Ls (.int x :: st) :=
  Go.pl (fun T locs X eT t q => XS.ifYes X.here C.1 rfl rfl (hb C.2.2.2.1 hd) rfl (XT.i0_le_t hq) ho hp q) hr
theorem Cx.if_le_f (C : Cx p s m meth c Z n0 own bc maxL ret nm) {x : Int32} {o : Int} (hd : decode bc pc = .ok (.ifCond .le o, 3)) (hp : pc + 3 = pc') (hq : 0 < x) (hr : Go p l e R s m args below meth c n0 F h k n pc' Ls st) : Go p l e R s m args below meth c n0 F h k n pc Ls (.int x :: st) := by
  subst hp; exact Go.pl (fun T locs X eT t q => XS.ifNo X.here C.1 rfl (hb C.2.2.2.1 hd) rfl (XT.i0_le_f hq) q) hr
theorem Cx.if_le (C : Cx p s m meth c Z n0 own bc maxL ret nm) {x : Int32} {o : Int} {pc'' : Nat} (hd : decode bc pc = .ok (.ifCond .le o, 3)) (ho : 0 ≤ (pc : Int) + o) (hp : ((pc : Int) + o).toNat = pc') (hp' : pc + 3 = pc'') (hy : ¬ 0 < x → Go p l e R s m args below meth c n0 F h k n pc' Ls st) (hn : 0 < x → Go p l e R s m args below meth c n0 F h k n pc'' Ls st) : Go p l e R s m args below meth c n0 F h k n pc Ls (.int x :: st) := by
  by_cases q : 0 < x
  · exact C.if_le_f hd hp' q (hn q)
  · exact C.if_le_t hd ho hp q (hy q)
theorem Cx.icmp_le_t (C : Cx p s m meth c Z n0 own bc maxL ret nm) {x y : Int32} {o : Int} (hd : decode bc pc = .ok (.if_icmp .le o, 3)) (ho : 0 ≤ (pc : Int) + o) (hp : ((pc : Int) + o).toNat = pc') (hq : ¬ y < x) (hr : Go p l e R s m args below meth c n0 F h k n pc' Ls st) : Go p l e R s m args below meth c n0 F h k n pc Ls (.int y :: .int x :: st) :=
  Go.pl (fun T locs X eT t q => XS.icmpYes X.here C.1 rfl rfl (hb C.2.2.2.1 hd) rfl (XT.ii_le_t hq) ho hp q) hr
theorem Cx.icmp_le_f (C : Cx p s m meth c Z n0 own bc maxL ret nm) {x y : Int32} {o : Int} (hd : decode bc pc = .ok (.if_icmp .le o, 3)) (hp : pc + 3 = pc') (hq : y < x) (hr : Go p l e R s m args below meth c n0 F h k n pc' Ls st) : Go p l e R s m args below meth c n0 F h k n pc Ls (.int y :: .int x :: st) := by
  subst hp; exact Go.pl (fun T locs X eT t q => XS.icmpNo X.here C.1 rfl (hb C.2.2.2.1 hd) rfl (XT.ii_le_f hq) q) hr
theorem Cx.icmp_le (C : Cx p s m meth c Z n0 own bc maxL ret nm) {x y : Int32} {o : Int} {pc'' : Nat} (hd : decode bc pc = .ok (.if_icmp .le o, 3)) (ho : 0 ≤ (pc : Int) + o) (hp : ((pc : Int) + o).toNat = pc') (hp' : pc + 3 = pc'') (hy : ¬ y < x → Go p l e R s m args below meth c n0 F h k n pc' Ls st) (hn : y < x → Go p l e R s m args below meth c n0 F h k n pc'' Ls st) : Go p l e R s m args below meth c n0 F h k n pc Ls (.int y :: .int x :: st) := by
  by_cases q : y < x
  · exact C.icmp_le_f hd hp' q (hn q)
  · exact C.icmp_le_t hd ho hp q (hy q)
theorem Cx.lif_le_t (C : Cx p s m meth c Z n0 own bc maxL ret nm) {x y : Int64} {o : Int} (hd : decode bc pc = .ok (.ifCond .le o, 3)) (ho : 0 ≤ (pc : Int) + o) (hp : ((pc : Int) + o).toNat = pc') (hq : ¬ y < x) (hr : Go p l e R s m args below meth c n0 F h k n pc' Ls st) : Go p l e R s m args below meth c n0 F h k n pc Ls (.int (XT.cmpL x y) :: st) :=
  Go.pl (fun T locs X eT t q => XS.ifYes X.here C.1 rfl rfl (hb C.2.2.2.1 hd) rfl (XT.ll_le_t hq) ho hp q) hr
theorem Cx.lif_le_f (C : Cx p s m meth c Z n0 own bc maxL ret nm) {x y : Int64} {o : Int} (hd : decode bc pc = .ok (.ifCond .le o, 3)) (hp : pc + 3 = pc') (hq : y < x) (hr : Go p l e R s m args below meth c n0 F h k n pc' Ls st) : Go p l e R s m args below meth c n0 F h k n pc Ls (.int (XT.cmpL x y) :: st) := by
  subst hp; exact Go.pl (fun T locs X eT t q => XS.ifNo X.here C.1 rfl (hb C.2.2.2.1 hd) rfl (XT.ll_le_f hq) q) hr
theorem Cx.lif_le (C : Cx p s m meth c Z n0 own bc maxL ret nm) {x y : Int64} {o : Int} {pc'' : Nat} (hd : decode bc pc = .ok (.ifCond .le o, 3)) (ho : 0 ≤ (pc : Int) + o) (hp : ((pc : Int) + o).toNat = pc') (hp' : pc + 3 = pc'') (hy : ¬ y < x → Go p l e R s m args below meth c n0 F h k n pc' Ls st) (hn : y < x → Go p l e R s m args below meth c n0 F h k n pc'' Ls st) : Go p l e R s m args below meth c n0 F h k n pc Ls (.int (XT.cmpL x y) :: st) := by
  by_cases q : y < x
  · exact C.lif_le_f hd hp' q (hn q)
  · exact C.lif_le_t hd ho hp q (hy q)
theorem Cx.ifnull_ref (C : Cx p s m meth c Z n0 own bc maxL ret nm) {o : Int} {b : Addr} (hd : decode bc pc = .ok (.ifnull o, 3)) (hp : pc + 3 = pc')  (hr : Go p l e R s m args below meth c n0 F h k n pc' Ls (st)) : Go p l e R s m args below meth c n0 F h k n pc Ls (.ref b :: st) := by
  subst hp; exact Go.pl (fun T locs X eT t q => XS.ifnullNo X.here C.1 rfl (hb C.2.2.2.1 hd) rfl q) hr
theorem Cx.ifnonnull_null (C : Cx p s m meth c Z n0 own bc maxL ret nm) {o : Int} (hd : decode bc pc = .ok (.ifnonnull o, 3)) (hp : pc + 3 = pc')  (hr : Go p l e R s m args below meth c n0 F h k n pc' Ls (st)) : Go p l e R s m args below meth c n0 F h k n pc Ls (.null :: st) := by
  subst hp; exact Go.pl (fun T locs X eT t q => XT.ifnonnullNo X.here C.1 rfl (hb C.2.2.2.1 hd) rfl q) hr
theorem Cx.ifnull_null (C : Cx p s m meth c Z n0 own bc maxL ret nm) {b : Addr} {o : Int} (hd : decode bc pc = .ok (.ifnull o, 3)) (ho : 0 ≤ (pc : Int) + o) (hp : ((pc : Int) + o).toNat = pc') (hr : Go p l e R s m args below meth c n0 F h k n pc' Ls st) : Go p l e R s m args below meth c n0 F h k n pc Ls (.null :: st) := by
  exact Go.pl (fun T locs X eT t q => XS.ifnullYes X.here C.1 rfl rfl (hb C.2.2.2.1 hd) rfl ho hp q) hr
theorem Cx.ifnonnull_ref (C : Cx p s m meth c Z n0 own bc maxL ret nm) {b : Addr} {o : Int} (hd : decode bc pc = .ok (.ifnonnull o, 3)) (ho : 0 ≤ (pc : Int) + o) (hp : ((pc : Int) + o).toNat = pc') (hr : Go p l e R s m args below meth c n0 F h k n pc' Ls st) : Go p l e R s m args below meth c n0 F h k n pc Ls (.ref b :: st) := by
  exact Go.pl (fun T locs X eT t q => XT.ifnonnullYes X.here C.1 rfl rfl (hb C.2.2.2.1 hd) rfl ho hp q) hr
theorem Cx.ldcI (C : Cx p s m meth c Z n0 own bc maxL ret nm) {j : Nat} {v : Int32} (hd : decode bc pc = .ok (.ldc j, 2)) (hp : pc + 2 = pc') (w : (Jvm.Cond.constant own j v).before a0 Z = true) (hr : Go p l e R s m args below meth c n0 F h k n pc' Ls (.int v :: st)) : Go p l e R s m args below meth c n0 F h k n pc Ls st := by
  subst hp; exact Go.pl (fun T locs X eT t q => X.ldcI C.1 C.2.2.1 (mv C.2.1 w) rfl (hb C.2.2.2.1 hd) q) hr
theorem Cx.ldcWI (C : Cx p s m meth c Z n0 own bc maxL ret nm) {j : Nat} {v : Int32} (hd : decode bc pc = .ok (.ldc_w j, 3)) (hp : pc + 3 = pc') (w : (Jvm.Cond.constant own j v).before a0 Z = true) (hr : Go p l e R s m args below meth c n0 F h k n pc' Ls (.int v :: st)) : Go p l e R s m args below meth c n0 F h k n pc Ls st := by
  subst hp; exact Go.pl (fun T locs X eT t q => X.ldcWI C.1 C.2.2.1 (mv C.2.1 w) rfl (hb C.2.2.2.1 hd) q) hr
theorem Cx.ldc2J (C : Cx p s m meth c Z n0 own bc maxL ret nm) {j : Nat} {v : Int64} (hd : decode bc pc = .ok (.ldc2_w j, 3)) (hp : pc + 3 = pc') (w : (Jvm.Cond.constantLong own j v).before a0 Z = true) (hr : Go p l e R s m args below meth c n0 F h k n pc' Ls (.long v :: st)) : Go p l e R s m args below meth c n0 F h k n pc Ls st := by
  subst hp; exact Go.pl (fun T locs X eT t q => X.ldc2J C.1 C.2.2.1 (mv C.2.1 w) rfl (hb C.2.2.2.1 hd) q) hr
theorem Cx.alen (C : Cx p s m meth c Z n0 own bc maxL ret nm) {a : Addr} {ty : FieldType} {vs : List Value} (hd : decode bc pc = .ok (.arraylength, 1)) (hp : pc + 1 = pc') (A : Av Z h a ty vs) (hr : Go p l e R s m args below meth c n0 F h k n pc' Ls (.int vs.length.toInt32 :: st)) : Go p l e R s m args below meth c n0 F h k n pc Ls (.ref a :: st) := by
  obtain ⟨cl, A, rfl, -⟩ := A; subst hp; refine Go.pl (fun T locs X eT t q => X.arraylength C.1 (cell := cl) (by rw [eT]; exact A.1) (State.isArrayOf_alike C.2.1.alike A.2.1) (g := mkF m pc Ls (.ref a :: st)) rfl rfl (hb C.2.2.2.1 hd) t q) (by simpa using hr)
theorem Cx.iaload (C : Cx p s m meth c Z n0 own bc maxL ret nm) {a : Addr} {vs : List Value} {j : Int32} (v : Value) (hd : decode bc pc = .ok (.iaload, 1)) (hp : pc + 1 = pc') (A : Av Z h a .int vs) (hj : ¬ j < 0) (hv : vs[j.toNatClampNeg]? = some v) (hr : Go p l e R s m args below meth c n0 F h k n pc' Ls (v :: st)) : Go p l e R s m args below meth c n0 F h k n pc Ls (.int j :: .ref a :: st) := by
  obtain ⟨cl, A, rfl, -⟩ := A; subst hp; rw [Array.getElem?_toList] at hv; exact Go.pl (fun T locs X eT t q => X.iaload C.1 (by rw [eT]; exact A.1) (State.isArrayOf_alike C.2.1.alike A.2.1) A.2.2 (own_in hj hv) hv (g := mkF m pc Ls (.int j :: .ref a :: st)) rfl rfl (hb C.2.2.2.1 hd) t q) hr
theorem Cx.laload (C : Cx p s m meth c Z n0 own bc maxL ret nm) {a : Addr} {vs : List Value} {j : Int32} (v : Value) (hd : decode bc pc = .ok (.laload, 1)) (hp : pc + 1 = pc') (A : Av Z h a .long vs) (hj : ¬ j < 0) (hv : vs[j.toNatClampNeg]? = some v) (hr : Go p l e R s m args below meth c n0 F h k n pc' Ls (v :: st)) : Go p l e R s m args below meth c n0 F h k n pc Ls (.int j :: .ref a :: st) := by
  obtain ⟨cl, A, rfl, -⟩ := A; subst hp; rw [Array.getElem?_toList] at hv; exact Go.pl (fun T locs X eT t q => X.laload C.1 (by rw [eT]; exact A.1) (State.isArrayOf_alike C.2.1.alike A.2.1) A.2.2 (own_in hj hv) hv (g := mkF m pc Ls (.int j :: .ref a :: st)) rfl rfl (hb C.2.2.2.1 hd) t q) hr
theorem Cx.caload (C : Cx p s m meth c Z n0 own bc maxL ret nm) {a : Addr} {vs : List Value} {j : Int32} (v : Value) (hd : decode bc pc = .ok (.caload, 1)) (hp : pc + 1 = pc') (A : Av Z h a .char vs) (hj : ¬ j < 0) (hv : vs[j.toNatClampNeg]? = some v) (hr : Go p l e R s m args below meth c n0 F h k n pc' Ls (v :: st)) : Go p l e R s m args below meth c n0 F h k n pc Ls (.int j :: .ref a :: st) := by
  obtain ⟨cl, A, rfl, -⟩ := A; subst hp; rw [Array.getElem?_toList] at hv; exact Go.pl (fun T locs X eT t q => X.caload C.1 (by rw [eT]; exact A.1) (State.isArrayOf_alike C.2.1.alike A.2.1) A.2.2 (own_in hj hv) hv (g := mkF m pc Ls (.int j :: .ref a :: st)) rfl rfl (hb C.2.2.2.1 hd) t q) hr
theorem Cx.baload (C : Cx p s m meth c Z n0 own bc maxL ret nm) {a : Addr} {vs : List Value} {j : Int32} (v : Value) (hd : decode bc pc = .ok (.baload, 1)) (hp : pc + 1 = pc') (A : Av Z h a .byte vs) (hj : ¬ j < 0) (hv : vs[j.toNatClampNeg]? = some v) (hr : Go p l e R s m args below meth c n0 F h k n pc' Ls (v :: st)) : Go p l e R s m args below meth c n0 F h k n pc Ls (.int j :: .ref a :: st) := by
  obtain ⟨cl, A, rfl, -⟩ := A; subst hp; rw [Array.getElem?_toList] at hv; exact Go.pl (fun T locs X eT t q => X.baloadBytes C.1 (by rw [eT]; exact A.1) (State.isArrayOf_alike C.2.1.alike A.2.1) A.2.2 (own_in hj hv) hv (g := mkF m pc Ls (.int j :: .ref a :: st)) rfl rfl (hb C.2.2.2.1 hd) t q) hr
theorem Cx.zaload (C : Cx p s m meth c Z n0 own bc maxL ret nm) {a : Addr} {vs : List Value} {j : Int32} (v : Value) (hd : decode bc pc = .ok (.baload, 1)) (hp : pc + 1 = pc') (A : Av Z h a .boolean vs) (hj : ¬ j < 0) (hv : vs[j.toNatClampNeg]? = some v) (hr : Go p l e R s m args below meth c n0 F h k n pc' Ls (v :: st)) : Go p l e R s m args below meth c n0 F h k n pc Ls (.int j :: .ref a :: st) := by
  obtain ⟨cl, A, rfl, -⟩ := A; subst hp; rw [Array.getElem?_toList] at hv; exact Go.pl (fun T locs X eT t q => X.baloadBooleans C.1 (by rw [eT]; exact A.1) (State.isArrayOf_alike C.2.1.alike A.2.1) A.2.2 (own_in hj hv) hv (g := mkF m pc Ls (.int j :: .ref a :: st)) rfl rfl (hb C.2.2.2.1 hd) t q) hr
theorem Cx.iastore (C : Cx p s m meth c Z n0 own bc maxL ret nm) {a : Addr} {vs : List Value} {j : Int32} {x : Int32} (hd : decode bc pc = .ok (.iastore, 1)) (hp : pc + 1 = pc') (A : Av Z h a .int vs) (ha : n0 ≤ a) (hj : ¬ j < 0) (hl : j.toNatClampNeg < vs.length) (hr : ∀ h', Wr h h' a j.toNatClampNeg (.int x) → Av Z h' a .int (vs.set j.toNatClampNeg (.int x)) → Go p l e R s m args below meth c n0 F h' k n pc' Ls st) : Go p l e R s m args below meth c n0 F h k n pc Ls (.int x :: .int j :: .ref a :: st) := by
  intro T locs X eT N; have A0 := A; obtain ⟨cl, A, rfl, -⟩ := A; subst hp; rw [Array.length_toList] at hl
  obtain ⟨T', h', X', e', W, stp⟩ := stI X C.1 C.2.1 eT A (own_in2 hj hl) (g := mkF m pc Ls (.int x :: .int j :: .ref a :: st)) rfl rfl (hb C.2.2.2.1 hd)
  obtain ⟨s₂, o, q1, q2⟩ := hr h' W (A0.same W rfl) T' _ X' e' (Fr.snoc X' N ha)
  exact ⟨s₂, o, stp _ q1, q2⟩
theorem Cx.lastore (C : Cx p s m meth c Z n0 own bc maxL ret nm) {a : Addr} {vs : List Value} {j : Int32} {x : Int64} (hd : decode bc pc = .ok (.lastore, 1)) (hp : pc + 1 = pc') (A : Av Z h a .long vs) (ha : n0 ≤ a) (hj : ¬ j < 0) (hl : j.toNatClampNeg < vs.length) (hr : ∀ h', Wr h h' a j.toNatClampNeg (.long x) → Av Z h' a .long (vs.set j.toNatClampNeg (.long x)) → Go p l e R s m args below meth c n0 F h' k n pc' Ls st) : Go p l e R s m args below meth c n0 F h k n pc Ls (.long x :: .int j :: .ref a :: st) := by
  intro T locs X eT N; have A0 := A; obtain ⟨cl, A, rfl, -⟩ := A; subst hp; rw [Array.length_toList] at hl
  obtain ⟨T', h', X', e', W, stp⟩ := stJ X C.1 C.2.1 eT A (own_in2 hj hl) (g := mkF m pc Ls (.long x :: .int j :: .ref a :: st)) rfl rfl (hb C.2.2.2.1 hd)
  obtain ⟨s₂, o, q1, q2⟩ := hr h' W (A0.same W rfl) T' _ X' e' (Fr.snoc X' N ha)
  exact ⟨s₂, o, stp _ q1, q2⟩
theorem Cx.castore (C : Cx p s m meth c Z n0 own bc maxL ret nm) {a : Addr} {vs : List Value} {j : Int32} {x : Int32} (hd : decode bc pc = .ok (.castore, 1)) (hp : pc + 1 = pc') (A : Av Z h a .char vs) (ha : n0 ≤ a) (hj : ¬ j < 0) (hl : j.toNatClampNeg < vs.length) (hr : ∀ h', Wr h h' a j.toNatClampNeg (.int (nar .char x)) → Av Z h' a .char (vs.set j.toNatClampNeg (.int (nar .char x))) → Go p l e R s m args below meth c n0 F h' k n pc' Ls st) : Go p l e R s m args below meth c n0 F h k n pc Ls (.int x :: .int j :: .ref a :: st) := by
  intro T locs X eT N; have A0 := A; obtain ⟨cl, A, rfl, -⟩ := A; subst hp; rw [Array.length_toList] at hl
  obtain ⟨T', h', X', e', W, stp⟩ := stC X C.1 C.2.1 eT A (own_in2 hj hl) (g := mkF m pc Ls (.int x :: .int j :: .ref a :: st)) rfl rfl (hb C.2.2.2.1 hd)
  obtain ⟨s₂, o, q1, q2⟩ := hr h' W (A0.same W (fits_nar_char x)) T' _ X' e' (Fr.snoc X' N ha)
  exact ⟨s₂, o, stp _ q1, q2⟩
theorem Cx.bastore (C : Cx p s m meth c Z n0 own bc maxL ret nm) {a : Addr} {vs : List Value} {j : Int32} {x : Int32} (hd : decode bc pc = .ok (.bastore, 1)) (hp : pc + 1 = pc') (A : Av Z h a .byte vs) (ha : n0 ≤ a) (hj : ¬ j < 0) (hl : j.toNatClampNeg < vs.length) (hr : ∀ h', Wr h h' a j.toNatClampNeg (.int (nar .byte x)) → Av Z h' a .byte (vs.set j.toNatClampNeg (.int (nar .byte x))) → Go p l e R s m args below meth c n0 F h' k n pc' Ls st) : Go p l e R s m args below meth c n0 F h k n pc Ls (.int x :: .int j :: .ref a :: st) := by
  intro T locs X eT N; have A0 := A; obtain ⟨cl, A, rfl, -⟩ := A; subst hp; rw [Array.length_toList] at hl
  obtain ⟨T', h', X', e', W, stp⟩ := stB X C.1 C.2.1 eT A (own_in2 hj hl) (g := mkF m pc Ls (.int x :: .int j :: .ref a :: st)) rfl rfl (hb C.2.2.2.1 hd)
  obtain ⟨s₂, o, q1, q2⟩ := hr h' W (A0.same W (fits_nar_byte x)) T' _ X' e' (Fr.snoc X' N ha)
  exact ⟨s₂, o, stp _ q1, q2⟩
theorem Cx.zastore (C : Cx p s m meth c Z n0 own bc maxL ret nm) {a : Addr} {vs : List Value} {j : Int32} {x : Int32} (hd : decode bc pc = .ok (.bastore, 1)) (hp : pc + 1 = pc') (A : Av Z h a .boolean vs) (ha : n0 ≤ a) (hj : ¬ j < 0) (hl : j.toNatClampNeg < vs.length) (hr : ∀ h', Wr h h' a j.toNatClampNeg (.int (nar .boolean x)) → Av Z h' a .boolean (vs.set j.toNatClampNeg (.int (nar .boolean x))) → Go p l e R s m args below meth c n0 F h' k n pc' Ls st) : Go p l e R s m args below meth c n0 F h k n pc Ls (.int x :: .int j :: .ref a :: st) := by
  intro T locs X eT N; have A0 := A; obtain ⟨cl, A, rfl, -⟩ := A; subst hp; rw [Array.length_toList] at hl
  obtain ⟨T', h', X', e', W, stp⟩ := stZ X C.1 C.2.1 eT A (own_in2 hj hl) (g := mkF m pc Ls (.int x :: .int j :: .ref a :: st)) rfl rfl (hb C.2.2.2.1 hd)
  obtain ⟨s₂, o, q1, q2⟩ := hr h' W (A0.same W (fits_nar_bool x)) T' _ X' e' (Fr.snoc X' N ha)
  exact ⟨s₂, o, stp _ q1, q2⟩
theorem Cx.new (C : Cx p s m meth c Z n0 own bc maxL ret nm) {cls : String} {j nn : Nat} (hd : decode bc pc = .ok (.new j, 3)) (hp : pc + 3 = pc') (w1 : (Jvm.Cond.classLink own j cls).before a0 Z = true) (w2 : (Jvm.Cond.instantiable cls nn).before a0 Z = true) (w3 : (Jvm.Cond.initialized cls).before a0 Z = true) (hk : k + 1 ≤ R.cells) (hn : n + nn ≤ R.slots)
    (hr : ∀ (a : Addr) (h' : Heap), a = h.size → n0 ≤ a → Ext h h' → Exa Z h' a cls → (∀ {O f d : String} {ty : FieldType}, Laid Z a0 cls O f d → parseFieldDescriptor d = some ty → Fld Z h' a O f d (defaultValue ty)) → Go p l e R s m args below meth c n0 F h' (k + 1) (n + nn) pc' Ls (.ref a :: st)) : Go p l e R s m args below meth c n0 F h k n pc Ls st := by
  intro T locs X eT N
  subst hp
  obtain ⟨T', h', X', e', E', A', D', -, stp⟩ := newO X C.1 C.2.1 C.2.2.1 w1 w2 w3 eT (g := mkF m pc Ls st) rfl (hb C.2.2.2.1 hd) hk hn
  obtain ⟨s₂, o, q1, q2⟩ := hr h.size h' rfl (by rw [← eT]; exact C.size X) E' A' D' T' _ X' e' N
  exact ⟨s₂, o, stp _ q1, q2⟩
theorem Cx.newarr (C : Cx p s m meth c Z n0 own bc maxL ret nm) {aty : ArrayType} {ty : FieldType} {z : Int32} (cap : Nat) (hd : decode bc pc = .ok (.newarray aty, 2)) (hp : pc + 2 = pc') (hty : newarray.typeOf aty = ty) (w : (Jvm.Cond.arrayClass ty).before a0 Z = true) (hz : ¬ z < 0) (hcap : z.toNatClampNeg ≤ cap) (hb8 : cap * 8 ≤ 536870912) (hk : k + 1 ≤ R.cells) (hn : n + cap ≤ R.slots)
    (hr : ∀ (a : Addr) (h' : Heap), a = h.size → n0 ≤ a → Ext h h' → Av Z h' a ty (List.replicate z.toNatClampNeg (defaultValue ty)) → Go p l e R s m args below meth c n0 F h' (k + 1) (n + cap) pc' Ls (.ref a :: st)) : Go p l e R s m args below meth c n0 F h k n pc Ls (.int z :: st) := by
  intro T locs X eT N
  subst hp hty
  obtain ⟨T', h', cA, X', e', E', A', stp⟩ := newP X C.1 C.2.1 w eT (g := mkF m pc Ls (.int z :: st)) rfl (hb C.2.2.2.1 hd) rfl hz hcap hb8 hk hn
  obtain ⟨s₂, o, q1, q2⟩ := hr h.size h' rfl (by rw [← eT]; exact C.size X) E' (Av.new A') T' _ X' e' N
  exact ⟨s₂, o, stp _ q1, q2⟩
theorem Cx.initO (C : Cx p s m meth c Z n0 own bc maxL ret nm) {j : Nat} {a : Addr} (W : Nat) (hd : decode bc pc = .ok (.invokespecial j, 3)) (hp : pc + 3 = pc') (w1 : (Jvm.Cond.methodLink own j Lib.objectInit).before a0 Z = true) (w2 : (Jvm.Cond.instanceMethod Lib.objectInit).before a0 Z = true) (w3 : (Jvm.Cond.code Lib.objectInit ⟨#[0xb1]⟩ 1 none).before a0 Z = true) (hsz : Ls.size = maxL) (hf : 1 ≤ R.frames) (hW : (st.map fun v => v.category).sum ≤ W) (hl : W + 12 ≤ R.locals)
    (hr : Go p l e R s m args below meth c n0 F h k n pc' Ls st) : Go p l e R s m args below meth c n0 F h k n pc Ls (.ref a :: st) := by
  intro T locs X eT N
  subst hp
  obtain ⟨T', X', e', stp⟩ := RoadKit.initO X C.1 C.2.1 C.2.2.1 w1 w2 w3 eT (g := mkF m pc Ls (.ref a :: st)) rfl (hsz.trans C.2.2.2.2.1.symm) rfl (hb C.2.2.2.1 hd) hf (W := W) (by show 2 * 0 + _ ≤ W; omega) hl
  obtain ⟨s₂, o, q1, q2⟩ := hr T' _ X' e' N
  exact ⟨s₂, o, stp _ q1, q2⟩
theorem Cx.getF (C : Cx p s m meth c Z n0 own bc maxL ret nm) {O f d : String} {j : Nat} {a : Addr} {v : Value} (hd : decode bc pc = .ok (.getfield j, 3)) (hp : pc + 3 = pc') (w : (Jvm.Cond.fieldLink own j O f d).before a0 Z = true) (F' : Fld Z h a O f d v)
    (hr : Go p l e R s m args below meth c n0 F h k n pc' Ls (v :: st)) : Go p l e R s m args below meth c n0 F h k n pc Ls (.ref a :: st) := by
  intro T locs X eT N
  subst hp
  obtain ⟨T', X', e', stp⟩ := RoadKit.getF X C.1 C.2.1 C.2.2.1 (host := "") (Or.inl w) Via.refl eT F' (g := mkF m pc Ls (.ref a :: st)) rfl rfl (hb C.2.2.2.1 hd)
  obtain ⟨s₂, o, q1, q2⟩ := hr T' _ X' e' N
  exact ⟨s₂, o, stp _ q1, q2⟩
theorem Cx.putF (C : Cx p s m meth c Z n0 own bc maxL ret nm) {O f d cls : String} {j kk : Nat} {ty : FieldType} {a : Addr} {v old : Value} (hd : decode bc pc = .ok (.putfield j, 3)) (hp : pc + 3 = pc') (w : (Jvm.Cond.fieldLink own j O f d).before a0 Z = true) (F' : Fld Z h a O f d old) (E : Exa Z h a cls)
    (L : (Jvm.Cond.lays cls O f d).before a0 Z = true ∨ ((Jvm.Cond.laysFinal cls O f d).before a0 Z = true ∧ own = O ∧ nm = "<init>")) (wi : (Jvm.Cond.instantiable cls kk).before a0 Z = true) (hty : parseFieldDescriptor d = some ty) (hnr : narrow ty v = v) (hf : fits ty v = true) (ha : n0 ≤ a)
    (hr : ∀ h', Wr h h' a (Jvm.RoadKit.slotOf Z O f d) v → Fld Z h' a O f d v → Go p l e R s m args below meth c n0 F h' k n pc' Ls st) : Go p l e R s m args below meth c n0 F h k n pc Ls (v :: .ref a :: st) := by
  intro T locs X eT N
  subst hp
  obtain ⟨T', h', X', e', W, stp⟩ := RoadKit.putF X C.1 C.2.1 C.2.2.1 (host := "") (Or.inl w) Via.refl eT F' E (L.imp id fun q => ⟨q.1, q.2.1, C.2.2.2.2.2.2.1.trans q.2.2⟩) wi hty hnr hf (g := mkF m pc Ls (v :: .ref a :: st)) rfl rfl (hb C.2.2.2.1 hd)
  obtain ⟨s₂, o, q1, q2⟩ := hr h' W (F'.same W) T' _ X' e' (Fr.snoc X' N ha)
  exact ⟨s₂, o, stp _ q1, q2⟩
/-! the end of a body -/
theorem Cx.ret0 {Q : Option Value → Heap → Prop} {ck cs : Nat} (C : Cx p s m meth c Z n0 own bc maxL none nm) (hd : decode bc pc = .ok (.return_, 1)) (hk : k ≤ ck) (hn : n ≤ cs) (hq : Q none h) : Go p l e R s m args below meth c n0 (FinQ s n0 Q ck cs) h k n pc Ls [] := by
  intro T locs X eT N
  have hlk := C.2.2.2.2.2.2.2.1
  obtain ⟨fs, hr, hrun, hended, hW, hsame⟩ := X.leave (v := none) (fun _ => rfl) hlk
  exact ⟨_, _, X.returnOut C.1 C.2.2.2.2.2.1 (hb C.2.2.2.1 hd) hr, hrun, hended, _, _, rfl, ⟨by show Q none T.heap; rw [eT]; exact hq, N⟩, ⟨_, rfl⟩, hW, hsame.mono hk hn⟩
theorem Cx.retW {Q : Option Value → Heap → Prop} {ck cs : Nat} {t : FieldType} {w : Value} {i : Instr} (C : Cx p s m meth c Z n0 own bc maxL (some t) nm) (hd : decode bc pc = .ok (i, 1)) (hnr : narrow t w = w)
    (hi : (i = .ireturn ∧ (t = .int ∨ t = .boolean ∨ t = .byte ∨ t = .char ∨ t = .short) ∧ ∃ z, w = .int z) ∨ (i = .lreturn ∧ t = .long ∧ ∃ z, w = .long z) ∨ (i = .dreturn ∧ t = .double ∧ ∃ z, w = .double z) ∨ (i = .freturn ∧ t = .float ∧ ∃ z, w = .float z) ∨ (i = .areturn ∧ t.isReference = true ∧ w.isRef = true))
    (hk : k ≤ ck) (hn : n ≤ cs) (hq : Q (some w) h) : Go p l e R s m args below meth c n0 (FinQ s n0 Q ck cs) h k n pc Ls (w :: st) := by
  intro T locs X eT N
  have hlk := C.2.2.2.2.2.2.2.1
  have hrt := C.2.2.2.2.2.1
  obtain ⟨fs, hr, hrun, hended, hW, hsame⟩ := X.leave (v := some w) (fun q => by rw [hrt] at q; cases q) hlk
  exact ⟨_, _, retOut X C.1 hrt hnr hi (hb C.2.2.2.1 hd) hr, hrun, hended, _, _, rfl, ⟨by show Q (some w) T.heap; rw [eT]; exact hq, N⟩, ⟨_, rfl⟩, hW, hsame.mono hk hn⟩
theorem Cx.retI {Q : Option Value → Heap → Prop} {ck cs : Nat} {z : Int32} (C : Cx p s m meth c Z n0 own bc maxL (some .int) nm) (hd : decode bc pc = .ok (.ireturn, 1)) (hk : k ≤ ck) (hn : n ≤ cs) (hq : Q (some (.int z)) h) : Go p l e R s m args below meth c n0 (FinQ s n0 Q ck cs) h k n pc Ls (.int z :: st) :=
  C.retW hd rfl (Or.inl ⟨rfl, Or.inl rfl, z, rfl⟩) hk hn hq
theorem Cx.retZ {Q : Option Value → Heap → Prop} {ck cs : Nat} {z : Int32} (C : Cx p s m meth c Z n0 own bc maxL (some .boolean) nm) (hd : decode bc pc = .ok (.ireturn, 1)) (hz : narrow .boolean (.int z) = .int z) (hk : k ≤ ck) (hn : n ≤ cs) (hq : Q (some (.int z)) h) : Go p l e R s m args below meth c n0 (FinQ s n0 Q ck cs) h k n pc Ls (.int z :: st) :=
  C.retW hd hz (Or.inl ⟨rfl, Or.inr (Or.inl rfl), z, rfl⟩) hk hn hq
theorem Cx.retC {Q : Option Value → Heap → Prop} {ck cs : Nat} {z : Int32} (C : Cx p s m meth c Z n0 own bc maxL (some .char) nm) (hd : decode bc pc = .ok (.ireturn, 1)) (hz : narrow .char (.int z) = .int z) (hk : k ≤ ck) (hn : n ≤ cs) (hq : Q (some (.int z)) h) : Go p l e R s m args below meth c n0 (FinQ s n0 Q ck cs) h k n pc Ls (.int z :: st) :=
  C.retW hd hz (Or.inl ⟨rfl, Or.inr (Or.inr (Or.inr (Or.inl rfl))), z, rfl⟩) hk hn hq
theorem Cx.retJ {Q : Option Value → Heap → Prop} {ck cs : Nat} {z : Int64} (C : Cx p s m meth c Z n0 own bc maxL (some .long) nm) (hd : decode bc pc = .ok (.lreturn, 1)) (hk : k ≤ ck) (hn : n ≤ cs) (hq : Q (some (.long z)) h) : Go p l e R s m args below meth c n0 (FinQ s n0 Q ck cs) h k n pc Ls (.long z :: st) :=
  C.retW hd rfl (Or.inr (Or.inl ⟨rfl, rfl, z, rfl⟩)) hk hn hq
theorem Cx.retA {Q : Option Value → Heap → Prop} {ck cs : Nat} {t : FieldType} {a : Addr} (C : Cx p s m meth c Z n0 own bc maxL (some t) nm) (hd : decode bc pc = .ok (.areturn, 1)) (ht : t.isReference = true) (hnr : narrow t (.ref a) = .ref a) (hk : k ≤ ck) (hn : n ≤ cs) (hq : Q (some (.ref a)) h) : Go p l e R s m args below meth c n0 (FinQ s n0 Q ck cs) h k n pc Ls (.ref a :: st) :=
  C.retW hd hnr (Or.inr (Or.inr (Or.inr (Or.inr ⟨rfl, ht, rfl⟩)))) hk hn hq
/-! a body's contract out of its walk -/
theorem Con.of {ws : List Jvm.Cond} {y : MethodName} {as : Array Value} {h0 : Heap} {Q : Option Value → Heap → Prop} (hn : plainFor y = true) (ef : ∀ m, entryFrame m as maxL = mkF m 0 Ls []) (hn0 : n0 ≤ h0.size)
    (body : ∀ p e s m below meth c, Cx p s m meth c Z n0 y.cls bc maxL ret y.name → Go p l e R s m as below meth c n0 (FinQ s n0 Q R.cells R.slots) h0 0 0 0 Ls []) : Con l Z n0 ws y bc maxL ret R as h0 Q := by
  refine MetFree.of_bodySF hn hisR ?_
  intro p e s m args below meth c s₁ Bd hml0 hP hK
  obtain ⟨rfl, hZ, hh⟩ := hP
  have e0 : s₁.heap = h0 := by rw [← hh, Bd.state]; rfl
  have X0 : Stand p l e R s m args below meth c s₁ [] 0 0 := Stand.of_body Bd
  obtain ⟨s₂, o, q1, q2, q3, q4⟩ := body p e s m below meth c ⟨Bd.exec, hZ, findClass_of_methodNamed Bd.named, Bd.bytes, hml0, Bd.returns, (name_of_methodNamed Bd.named Bd.method).1, Bd.notSynchronized, by rw [hh]; exact hn0⟩ s₁ [] X0 e0 (Fr.nil n0)
  exact ⟨s₂, o, castTop (ef m) q1, q2, q3, q4⟩
theorem Con.imp {ws : List Jvm.Cond} {y : MethodName} {as : Array Value} {h0 : Heap} {Q Q' : Option Value → Heap → Prop} (H : Con l Z n0 ws y bc maxL ret R as h0 Q) (q : ∀ v h, Q v h → Q' v h) : Con l Z n0 ws y bc maxL ret R as h0 Q' := by
  intro p e ha hc hk s m args below hf happ hP hK
  obtain ⟨n, o, h1, h2, h3, v, L, r1, ⟨r2, r3⟩, r4⟩ := H p e ha hc hk s m args below hf happ hP hK
  exact ⟨n, o, h1, h2, h3, v, L, r1, ⟨q _ _ r2, r3⟩, r4⟩
/-! calls by contract -/
theorem Cx.callS (C : Cx p s m meth c Z n0 own bc maxL ret nm) {y : MethodName} {bc' : ByteArray} {maxL' j : Nat} {ret' : Option FieldType} {R' : Room} {argsL rest : List Value} {Q : Option Value → Heap → Prop} (W : Nat) (hC : n0 ≤ h.size → Con l Z n0 [] y bc' maxL' ret' R' argsL.toArray h Q) (hd : decode bc pc = .ok (.invokestatic j, 3)) (hp : pc + 3 = pc')
    (w1 : (Jvm.Cond.methodLink own j y).before a0 Z = true) (w2 : (Jvm.Cond.static y).before a0 Z = true) (w3 : (Jvm.Cond.initialized y.cls).before a0 Z = true) (w4 : (Jvm.Cond.code y bc' maxL' ret').before a0 Z = true) (hy : y.cls ≠ "java/lang/invoke/MethodHandle" ∧ y.cls ≠ "java/lang/invoke/VarHandle") {ps : List FieldType} {r : Option FieldType} (hpd : parseMethodDescriptor y.desc = some ⟨ps, r⟩) (hlen : argsL.length = ps.length)
    (hst : st = argsL.reverse ++ rest) (hsz : Ls.size = maxL) (hW : (rest.map fun v => v.category).sum ≤ W) (hf : R'.frames + 1 ≤ R.frames) (hl : W + (maxL' + 11) + R'.locals ≤ R.locals) (hk : k + R'.cells ≤ R.cells) (hn : n + R'.slots ≤ R.slots)
    (hr : ∀ v h', Q v h' → Go p l e R s m args below meth c n0 F h' (k + R'.cells) (n + R'.slots) pc' Ls (v.toList ++ rest)) : Go p l e R s m args below meth c n0 F h k n pc Ls st := by
  intro T locs X eT N
  subst hp hst
  obtain ⟨v, _, ⟨T', L', k', n'⟩, -, X', ⟨Lc, hQ, l1, y1, z1⟩, stp⟩ := Jvm.LawKit.callS X C.1 (y := y) C.2.2.1 (mvT C.2.1 w1) (mvT C.2.1 w2) (mvT C.2.1 w3) (mvT C.2.1 w4) hy (backOf (Z := Z) (h := h) (bytes := bc') (maxL := maxL') (ret := ret') (rm := R') (as' := argsL.toArray) (Q := fun v h' L => Q v h' ∧ Fr n0 L) (W := W) (hC (by rw [← eT]; exact C.size X)) C.2.1 w4 w3 hf hl) (g := mkF m pc Ls (argsL.reverse ++ rest)) rfl (hsz.trans C.2.2.2.2.1.symm) (argsL := argsL) (rest := rest) (lenOf hpd hlen) rfl (by show 2 * 0 + _ ≤ W; omega) (hb C.2.2.2.1 hd) (fun _ _ => ⟨rfl, eT, hk, hn⟩)
  dsimp only [Pt.U, Pt.locs, Pt.cells, Pt.slots] at X' l1 y1 z1 stp hQ
  subst l1 y1 z1
  obtain ⟨s₂, o, q1, q2⟩ := hr v T'.heap hQ.1 T' _ X' rfl (Fr.app N hQ.2)
  exact ⟨s₂, o, stp _ q1, q2⟩
theorem Cx.callN (C : Cx p s m meth c Z n0 own bc maxL ret nm) {y : MethodName} {bc' : ByteArray} {maxL' j : Nat} {R' : Room} {a : Addr} {argsL rest : List Value} {Q : Option Value → Heap → Prop} (W : Nat) (hC : n0 ≤ h.size → Con l Z n0 [] y bc' maxL' none R' (.ref a :: argsL).toArray h Q) (hd : decode bc pc = .ok (.invokespecial j, 3)) (hp : pc + 3 = pc') (hy1 : y.name = "<init>")
    (w1 : (Jvm.Cond.methodLink own j y).before a0 Z = true) (w2 : (Jvm.Cond.instanceMethod y).before a0 Z = true) (w3 : (Jvm.Cond.initialized y.cls).before a0 Z = true) (w4 : (Jvm.Cond.code y bc' maxL' none).before a0 Z = true) (hy : y.cls ≠ "java/lang/invoke/MethodHandle" ∧ y.cls ≠ "java/lang/invoke/VarHandle") {ps : List FieldType} {r : Option FieldType} (hpd : parseMethodDescriptor y.desc = some ⟨ps, r⟩) (hlen : argsL.length = ps.length)
    (hst : st = argsL.reverse ++ .ref a :: rest) (hsz : Ls.size = maxL) (hW : (rest.map fun v => v.category).sum ≤ W) (hf : R'.frames + 1 ≤ R.frames) (hl : W + (maxL' + 11) + R'.locals ≤ R.locals) (hk : k + R'.cells ≤ R.cells) (hn : n + R'.slots ≤ R.slots)
    (hr : ∀ v h', Q v h' → Go p l e R s m args below meth c n0 F h' (k + R'.cells) (n + R'.slots) pc' Ls (v.toList ++ rest)) : Go p l e R s m args below meth c n0 F h k n pc Ls st := by
  intro T locs X eT N
  subst hp hst
  obtain ⟨v, _, ⟨T', L', k', n'⟩, -, X', ⟨Lc, hQ, l1, y1, z1⟩, stp⟩ := X.specialBack C.1 (y := y) hy1 C.2.2.1 (mvT C.2.1 w1) (mvT C.2.1 w2) (mvT C.2.1 w4) hy (backOf (Z := Z) (h := h) (bytes := bc') (maxL := maxL') (ret := none) (rm := R') (as' := (Value.ref a :: argsL).toArray) (Q := fun v h' L => Q v h' ∧ Fr n0 L) (W := W) (hC (by rw [← eT]; exact C.size X)) C.2.1 w4 w3 hf hl) (g := mkF m pc Ls (argsL.reverse ++ .ref a :: rest)) rfl (hsz.trans C.2.2.2.2.1.symm) (Steps.refl _) (a := a) (argsL := argsL) (rest := rest) (lenOf hpd hlen) rfl (by show 2 * 0 + _ ≤ W; omega) (hb C.2.2.2.1 hd) (fun _ _ => ⟨rfl, eT, hk, hn⟩)
  dsimp only [Pt.U, Pt.locs, Pt.cells, Pt.slots] at X' l1 y1 z1 stp hQ
  subst l1 y1 z1
  obtain ⟨s₂, o, q1, q2⟩ := hr v T'.heap hQ.1 T' _ X' rfl (Fr.app N hQ.2)
  exact ⟨s₂, o, stp.trans q1, q2⟩
theorem Cx.callV (C : Cx p s m meth c Z n0 own bc maxL ret nm) {y : MethodName} {cls : String} {bc' : ByteArray} {maxL' j : Nat} {ret' : Option FieldType} {R' : Room} {a : Addr} {argsL rest : List Value} {Q : Option Value → Heap → Prop} (W : Nat) (hC : n0 ≤ h.size → Con l Z n0 [] y bc' maxL' ret' R' (.ref a :: argsL).toArray h Q) (E : Exa Z h a cls) (hd : decode bc pc = .ok (.invokevirtual j, 3)) (hp : pc + 3 = pc')
    (w1 : (Jvm.Cond.methodLink own j y).before a0 Z = true) (w2 : (Jvm.Cond.declares y).before a0 Z = true) (w3 : (Jvm.Cond.instanceMethod y).before a0 Z = true) (w4 : (Jvm.Cond.selects cls y y).before a0 Z = true) (w5 : (Jvm.Cond.initialized y.cls).before a0 Z = true) (w6 : (Jvm.Cond.code y bc' maxL' ret').before a0 Z = true) (hy : y.cls ≠ "java/lang/invoke/MethodHandle" ∧ y.cls ≠ "java/lang/invoke/VarHandle") {ps : List FieldType} {r : Option FieldType} (hpd : parseMethodDescriptor y.desc = some ⟨ps, r⟩) (hlen : argsL.length = ps.length)
    (hst : st = argsL.reverse ++ .ref a :: rest) (hsz : Ls.size = maxL) (hW : (rest.map fun v => v.category).sum ≤ W) (hf : R'.frames + 1 ≤ R.frames) (hl : W + (maxL' + 11) + R'.locals ≤ R.locals) (hk : k + R'.cells ≤ R.cells) (hn : n + R'.slots ≤ R.slots)
    (hr : ∀ v h', Q v h' → Go p l e R s m args below meth c n0 F h' (k + R'.cells) (n + R'.slots) pc' Ls (v.toList ++ rest)) : Go p l e R s m args below meth c n0 F h k n pc Ls st := by
  intro T locs X eT N
  subst hp hst
  obtain ⟨cq, kq, qa, qb, qc⟩ := isOf (T := T) C.2.1 eT E
  obtain ⟨v, _, ⟨T', L', k', n'⟩, -, X', ⟨Lc, hQ, l1, y1, z1⟩, stp⟩ := X.virtualBack C.1 (y := y) (z := y) C.2.2.1 (mvT C.2.1 w1) (mvT C.2.1 w2) (notFace_of_selects (args := #[]) (mvT C.2.1 w4)) (mvT C.2.1 w4) (mvT C.2.1 w3) hy (backOf (Z := Z) (h := h) (bytes := bc') (maxL := maxL') (ret := ret') (rm := R') (as' := (Value.ref a :: argsL).toArray) (Q := fun v h' L => Q v h' ∧ Fr n0 L) (W := W) (hC (by rw [← eT]; exact C.size X)) C.2.1 w6 w5 hf hl) qa qc (g := mkF m pc Ls (argsL.reverse ++ .ref a :: rest)) rfl (hsz.trans C.2.2.2.2.1.symm) (Steps.refl _) (argsL := argsL) (rest := rest) (lenOf hpd hlen) rfl (by show 2 * 0 + _ ≤ W; omega) (hb C.2.2.2.1 hd) (fun _ _ => ⟨rfl, eT, hk, hn⟩)
  dsimp only [Pt.U, Pt.locs, Pt.cells, Pt.slots] at X' l1 y1 z1 stp hQ
  subst l1 y1 z1
  obtain ⟨s₂, o, q1, q2⟩ := hr v T'.heap hQ.1 T' _ X' rfl (Fr.app N hQ.2)
  exact ⟨s₂, o, stp.trans q1, q2⟩
end Own
theorem own_or_l {a b : Int64} (q : ¬ a = 0) : ¬ a ||| b = 0 := fun e => q (by
  have f := congrArg Int64.toBitVec e
  rw [Int64.toBitVec_or] at f
  exact Int64.toBitVec_inj.1 (BitVec.or_eq_zero_iff.mp f).1)
theorem own_or_r {a b : Int64} (q : ¬ b = 0) : ¬ a ||| b = 0 := fun e => q (by
  have f := congrArg Int64.toBitVec e
  rw [Int64.toBitVec_or] at f
  exact Int64.toBitVec_inj.1 (BitVec.or_eq_zero_iff.mp f).2)
section OwnArr
variable {p : Program} {l : Launch} {e : Env} {R : Room} {s : State} {m : MethodId} {args : Array Value} {below : List Frame} {meth : Method} {c : Code} {n0 : Nat} {F : State → Outcome → Prop} {h : Heap} {k n pc pc' : Nat} {Ls : Array Slot} {st : List Value} {Z : State} {own : String} {bc : ByteArray} {maxL : Nat} {ret : Option FieldType} {nm : String} {a0 : Array Value}
theorem own_clamp {j : Nat} (q : j < 2 ^ 31) : j.toInt32.toNatClampNeg = j ∧ ¬ j.toInt32 < 0 := by
  have e := len_toInt q
  constructor
  · simp only [Int32.toNatClampNeg, e]; omega
  · rw [Int32.lt_iff_toInt_lt, e]; simp only [Int32.reduceToInt]; omega
theorem Av.arv {a : Addr} {ty : FieldType} {vs : List Value} (A : Av Z h a ty vs) (q : vs.length < 2 ^ 31) (dv : Value) : ∃ kc, Arv Z h a kc ty vs.length.toInt32 vs dv := by
  obtain ⟨cl, A, rfl, r⟩ := A
  obtain ⟨e1, e2⟩ := own_clamp q
  rw [Array.length_toList] at q e1 e2 ⊢
  refine ⟨cl.cls, cl, A, rfl, e1.symm, e2, fun i hi => ?_, fun i hi => ?_⟩
  · simp [List.getD_eq_getElem?_getD, hi]
  · have : cl.slots.toList.getD i dv = cl.slots[i] := by simp [List.getD_eq_getElem?_getD, hi]
    rw [this]; exact r _ (by simp)
theorem Arv.av {a : Addr} {kc : ClassId} {ty : FieldType} {z : Int32} {vs : List Value} {dv : Value} (A : Arv Z h a kc ty z vs dv) (q : z.toNatClampNeg = vs.length) : Av Z h a ty vs := by
  obtain ⟨cl, A, -, S, -, H, G⟩ := A
  have e : cl.slots.toList = vs := by
    apply List.ext_getElem?
    intro i
    by_cases hi : i < cl.slots.size
    · have := H i hi
      rw [Array.getElem?_toList, this]
      have h2 : i < vs.length := by omega
      simp [List.getD_eq_getElem?_getD, h2]
    · rw [List.getElem?_eq_none (by simpa using hi), List.getElem?_eq_none (by omega)]
  refine ⟨cl, A, e, fun v hv => ?_⟩
  obtain ⟨i, hi, rfl⟩ := List.getElem_of_mem hv
  have := G i (by omega)
  simpa [List.getD_eq_getElem?_getD, hi] using this
theorem own_range (vs : List Value) (sp nn : Nat) (q : sp + nn ≤ vs.length) (d : Value) : (List.range nn).map (fun i => vs.getD (sp + i) d) = (vs.drop sp).take nn := by
  apply List.ext_getElem?
  intro i
  by_cases hi : i < nn
  · simp [hi, List.getElem?_take, List.getD_eq_getElem?_getD, show sp + i < vs.length by omega]
  · rw [List.getElem?_eq_none (by simpa using hi), List.getElem?_eq_none (by simp; omega)]
theorem Cx.acopy (C : Cx p s m meth c Z n0 own bc maxL ret nm) {j : Nat} {a b : Addr} {ty : FieldType} {sp dp nn : Int32} {vs vd : List Value} (W : Nat) (hd : decode bc pc = .ok (.invokestatic j, 3)) (hp : pc + 3 = pc') (w1 : (Jvm.Cond.methodLink own j Jvm.Stand.acN).before a0 Z = true) (w2 : (Jvm.Cond.native Jvm.Stand.acN).before a0 Z = true) (w3 : (Jvm.Cond.static Jvm.Stand.acN).before a0 Z = true) (w4 : (Jvm.Cond.initialized "java/lang/System").before a0 Z = true)
    (A : Av Z h a ty vs) (B : Av Z h b ty vd) (hty : refKind ty = false) (l1 : vs.length < 2 ^ 31) (l2 : vd.length < 2 ^ 31) (h1 : ¬ sp < 0) (h2 : ¬ dp < 0) (h3 : ¬ nn < 0) (h4 : sp.toNatClampNeg + nn.toNatClampNeg ≤ vs.length) (h5 : dp.toNatClampNeg + nn.toNatClampNeg ≤ vd.length) (ge : n0 ≤ b) (hsz : Ls.size = maxL) (hf : 1 ≤ R.frames) (hW : (st.map fun v => v.category).sum ≤ W) (hlo : W + (nativeFrameWords "java/lang/System" "arraycopy" 5 + 11) ≤ R.locals)
    (hr : ∀ h', Keep h h' [b] → Av Z h' b ty (vd.take dp.toNatClampNeg ++ (vs.drop sp.toNatClampNeg).take nn.toNatClampNeg ++ vd.drop (dp.toNatClampNeg + nn.toNatClampNeg)) → Go p l e R s m args below meth c n0 F h' k n pc' Ls st) : Go p l e R s m args below meth c n0 F h k n pc Ls (.int nn :: .int dp :: .ref b :: .int sp :: .ref a :: st) := by
  intro T locs X eT N
  subst hp
  obtain ⟨ka, A'⟩ := A.arv l1 (.int 0)
  obtain ⟨kb, B'⟩ := B.arv l2 (.int 0)
  have c1 := (own_clamp l1).1
  have c2 := (own_clamp l2).1
  obtain ⟨T', h', L', X', e', N', K', V', stp⟩ := cpA X C.1 C.2.1 C.2.2.1 w1 w2 w3 w4 eT A' B' (Or.inl ⟨rfl, hty⟩) h1 h2 h3 (by rw [c1]; exact h4) (by rw [c2]; exact h5) rfl h5 N ge (g := mkF m pc Ls (.int nn :: .int dp :: .ref b :: .int sp :: .ref a :: st)) rfl (hsz.trans C.2.2.2.2.1.symm) rfl (hb C.2.2.2.1 hd) hf (W := W) (by show 2 * 0 + _ ≤ W; omega) hlo
  rw [own_range vs _ _ h4] at V'
  have V2 := Arv.av V' (by rw [c2]; simp; omega)
  obtain ⟨s₂, o, q1, q2⟩ := hr h' K' V2 T' _ X' e' N'
  exact ⟨s₂, o, stp _ q1, q2⟩
end OwnArr
section OwnCalls
variable {p : Program} {l : Launch} {e : Env} {R : Room} {s : State} {m : MethodId} {args : Array Value} {below : List Frame} {meth : Method} {c : Code} {n0 : Nat} {F : State → Outcome → Prop} {h : Heap} {k n pc pc' : Nat} {Ls : Array Slot} {st : List Value} {Z : State} {own : String} {bc : ByteArray} {maxL : Nat} {ret : Option FieldType} {nm : String} {a0 : Array Value}
theorem Cx.callNN (C : Cx p s m meth c Z n0 own bc maxL ret nm) {y : MethodName} {host : String} {bc' : ByteArray} {maxL' j : Nat} {R' : Room} {a : Addr} {argsL rest : List Value} {Q : Option Value → Heap → Prop} (W : Nat) (hC : n0 ≤ h.size → Con l Z n0 [] y bc' maxL' none R' (.ref a :: argsL).toArray h Q) (hd : decode bc pc = .ok (.invokespecial j, 3)) (hp : pc + 3 = pc') (hy1 : y.name = "<init>")
    (w1 : (Jvm.Cond.methodLinkNest own j y host).before a0 Z = true) (w2 : (Jvm.Cond.instanceMethod y).before a0 Z = true) (w3 : (Jvm.Cond.initialized y.cls).before a0 Z = true) (w4 : (Jvm.Cond.code y bc' maxL' none).before a0 Z = true) (hy : y.cls ≠ "java/lang/invoke/MethodHandle" ∧ y.cls ≠ "java/lang/invoke/VarHandle") {ps : List FieldType} {r : Option FieldType} (hpd : parseMethodDescriptor y.desc = some ⟨ps, r⟩) (hlen : argsL.length = ps.length)
    (hst : st = argsL.reverse ++ .ref a :: rest) (hsz : Ls.size = maxL) (hW : (rest.map fun v => v.category).sum ≤ W) (hf : R'.frames + 1 ≤ R.frames) (hl : W + (maxL' + 11) + R'.locals ≤ R.locals) (hk : k + R'.cells ≤ R.cells) (hn : n + R'.slots ≤ R.slots)
    (hr : ∀ v h', Q v h' → Go p l e R s m args below meth c n0 F h' (k + R'.cells) (n + R'.slots) pc' Ls (v.toList ++ rest)) : Go p l e R s m args below meth c n0 F h k n pc Ls st := by
  intro T locs X eT N
  subst hp hst
  obtain ⟨v, _, ⟨T', L', k', n'⟩, -, X', ⟨Lc, hQ, l1, y1, z1⟩, stp⟩ := X.specialBackNest C.1 (y := y) hy1 C.2.2.1 (Cond.methodLinkNest_wide C.2.1 w1 :) (mvT C.2.1 w2) (mvT C.2.1 w4) hy (backOf (Z := Z) (h := h) (bytes := bc') (maxL := maxL') (ret := none) (rm := R') (as' := (Value.ref a :: argsL).toArray) (Q := fun v h' L => Q v h' ∧ Fr n0 L) (W := W) (hC (by rw [← eT]; exact C.size X)) C.2.1 w4 w3 hf hl) (g := mkF m pc Ls (argsL.reverse ++ .ref a :: rest)) rfl (hsz.trans C.2.2.2.2.1.symm) (Steps.refl _) (a := a) (argsL := argsL) (rest := rest) (lenOf hpd hlen) rfl (by show 2 * 0 + _ ≤ W; omega) (hb C.2.2.2.1 hd) (fun _ _ => ⟨rfl, eT, hk, hn⟩)
  dsimp only [Pt.U, Pt.locs, Pt.cells, Pt.slots] at X' l1 y1 z1 stp hQ
  subst l1 y1 z1
  obtain ⟨s₂, o, q1, q2⟩ := hr v T'.heap hQ.1 T' _ X' rfl (Fr.app N hQ.2)
  exact ⟨s₂, o, stp.trans q1, q2⟩
end OwnCalls
section OwnPriv
variable {p : Program} {l : Launch} {e : Env} {R : Room} {s : State} {m : MethodId} {args : Array Value} {below : List Frame} {meth : Method} {c : Code} {n0 : Nat} {F : State → Outcome → Prop} {h : Heap} {k n pc pc' : Nat} {Ls : Array Slot} {st : List Value} {Z : State} {own : String} {bc : ByteArray} {maxL : Nat} {ret : Option FieldType} {nm : String} {a0 : Array Value}
theorem Cx.callP (C : Cx p s m meth c Z n0 own bc maxL ret nm) {y : MethodName} {cls : String} {bc' : ByteArray} {maxL' j : Nat} {ret' : Option FieldType} {R' : Room} {a : Addr} {argsL rest : List Value} {Q : Option Value → Heap → Prop} (W : Nat) (hC : n0 ≤ h.size → Con l Z n0 [] y bc' maxL' ret' R' (.ref a :: argsL).toArray h Q) (E : Exa Z h a cls) (hd : decode bc pc = .ok (.invokevirtual j, 3)) (hp : pc + 3 = pc')
    (w1 : (Jvm.Cond.methodLink own j y).before a0 Z = true) (w2 : (Jvm.Cond.privateMethod y).before a0 Z = true) (w3 : (Jvm.Cond.instanceMethod y).before a0 Z = true) (w4 : (Jvm.Cond.selects y.cls y y).before a0 Z = true) (w5 : (Jvm.Cond.initialized y.cls).before a0 Z = true) (w6 : (Jvm.Cond.code y bc' maxL' ret').before a0 Z = true) (hy : y.cls ≠ "java/lang/invoke/MethodHandle" ∧ y.cls ≠ "java/lang/invoke/VarHandle") {ps : List FieldType} {r : Option FieldType} (hpd : parseMethodDescriptor y.desc = some ⟨ps, r⟩) (hlen : argsL.length = ps.length)
    (hst : st = argsL.reverse ++ .ref a :: rest) (hsz : Ls.size = maxL) (hW : (rest.map fun v => v.category).sum ≤ W) (hf : R'.frames + 1 ≤ R.frames) (hl : W + (maxL' + 11) + R'.locals ≤ R.locals) (hk : k + R'.cells ≤ R.cells) (hn : n + R'.slots ≤ R.slots)
    (hr : ∀ v h', Q v h' → Go p l e R s m args below meth c n0 F h' (k + R'.cells) (n + R'.slots) pc' Ls (v.toList ++ rest)) : Go p l e R s m args below meth c n0 F h k n pc Ls st := by
  intro T locs X eT N
  subst hp hst
  obtain ⟨cell, hc1, hc2⟩ := E.cell
  obtain ⟨v, _, ⟨T', L', k', n'⟩, -, X', ⟨Lc, hQ, l1, y1, z1⟩, stp⟩ := X.privateBack C.1 (y := y) C.2.2.1 (mvT C.2.1 w1) (mvT C.2.1 w3) (mvT C.2.1 w4) (Cond.privateMethod_at (args := #[]) (mvP C.2.1 w2)) (mvT C.2.1 w6) hy (backOf (Z := Z) (h := h) (bytes := bc') (maxL := maxL') (ret := ret') (rm := R') (as' := (Value.ref a :: argsL).toArray) (Q := fun v h' L => Q v h' ∧ Fr n0 L) (W := W) (hC (by rw [← eT]; exact C.size X)) C.2.1 w6 w5 hf hl) (g := mkF m pc Ls (argsL.reverse ++ .ref a :: rest)) rfl (hsz.trans C.2.2.2.2.1.symm) (Steps.refl _) (by rw [eT]; exact hc1) hc2 (argsL := argsL) (rest := rest) (lenOf hpd hlen) rfl (by show 2 * 0 + _ ≤ W; omega) (hb C.2.2.2.1 hd) (fun _ _ => ⟨rfl, eT, hk, hn⟩)
  dsimp only [Pt.U, Pt.locs, Pt.cells, Pt.slots] at X' l1 y1 z1 stp hQ
  subst l1 y1 z1
  obtain ⟨s₂, o, q1, q2⟩ := hr v T'.heap hQ.1 T' _ X' rfl (Fr.app N hQ.2)
  exact ⟨s₂, o, stp.trans q1, q2⟩
end OwnPriv
def own_ln (ln pv ch : Int32) : Int32 := if ch = 13 ∨ (ch = 10 ∧ ¬ pv = 13) then ln + 1 else ln
def own_cl (co pv ch : Int32) : Int32 := if ch = 13 ∨ (ch = 10 ∧ ¬ pv = 13) then 1 else if ch = 10 then co else if ¬ pv = -1 ∨ ¬ ch = 65279 then co + 1 else co
def own_cr (pv : Int32) : Int32 := if pv = 13 then 1 else 0
def own_bg (pv : Int32) : Int32 := if pv = -1 then 0 else 1
theorem own_pv (pv : Int32) : (pv = 13 ∧ own_cr pv = 1 ∧ own_bg pv = 1) ∨ (pv = -1 ∧ own_cr pv = 0 ∧ own_bg pv = 0) ∨ ((¬ pv = 13 ∧ ¬ pv = -1) ∧ own_cr pv = 0 ∧ own_bg pv = 1) := by
  by_cases h : pv = 13
  · subst h; exact Or.inl ⟨rfl, rfl, rfl⟩
  · by_cases g : pv = -1
    · subst g; exact Or.inr (Or.inl ⟨rfl, rfl, rfl⟩)
    · exact Or.inr (Or.inr ⟨⟨h, g⟩, by simp [own_cr, h], by simp [own_bg, g]⟩)
theorem own_crN (pv : Int32) : narrow .boolean (.int (own_cr pv)) = .int (own_cr pv) := by
  rcases own_pv pv with ⟨-, h, -⟩ | ⟨-, h, -⟩ | ⟨-, h, -⟩ <;> rw [h] <;> rfl
theorem own_crF (pv : Int32) : fits .boolean (.int (own_cr pv)) = true := by
  rcases own_pv pv with ⟨-, h, -⟩ | ⟨-, h, -⟩ | ⟨-, h, -⟩ <;> rw [h] <;> rfl
theorem own_bgN (pv : Int32) : narrow .boolean (.int (own_bg pv)) = .int (own_bg pv) := by
  rcases own_pv pv with ⟨-, -, h⟩ | ⟨-, -, h⟩ | ⟨-, -, h⟩ <;> rw [h] <;> rfl
theorem own_bgF (pv : Int32) : fits .boolean (.int (own_bg pv)) = true := by
  rcases own_pv pv with ⟨-, -, h⟩ | ⟨-, -, h⟩ | ⟨-, -, h⟩ <;> rw [h] <;> rfl
def own_pass (t le sl sc : Int32) : Int32 → List Int32 → Int32 → Int32 → Int32 → Int32 × Int32 × Int32 × Int32
  | i, [], ln, co, pv => (i, ln, co, pv)
  | i, c :: cs, ln, co, pv => if i < t ∧ (i < le ∨ ln < sl ∨ (ln = sl ∧ co < sc)) then own_pass t le sl sc (i + 1) cs (own_ln ln pv c) (own_cl co pv c) c else (i, ln, co, pv)
theorem own_go {t le sl sc i ln co pv c : Int32} {cs : List Int32} (h : i < t ∧ (i < le ∨ ln < sl ∨ (ln = sl ∧ co < sc))) : own_pass t le sl sc i (c :: cs) ln co pv = own_pass t le sl sc (i + 1) cs (own_ln ln pv c) (own_cl co pv c) c := if_pos h
theorem own_no {t le sl sc i ln co pv c : Int32} {cs : List Int32} (h : ¬ (i < t ∧ (i < le ∨ ln < sl ∨ (ln = sl ∧ co < sc)))) : own_pass t le sl sc i (c :: cs) ln co pv = (i, ln, co, pv) := if_neg h
def own_stops (i t le ln co sl sc : Int32) : Int32 := if i < t ∧ (i < le ∨ ln < sl ∨ (ln = sl ∧ co < sc)) then 0 else 1
theorem own_stop0 {i t le ln co sl sc : Int32} : own_stops i t le ln co sl sc = 0 ↔ (i < t ∧ (i < le ∨ ln < sl ∨ (ln = sl ∧ co < sc))) := by
  by_cases h : i < t ∧ (i < le ∨ ln < sl ∨ (ln = sl ∧ co < sc))
  · simp [own_stops, h]
  · simp [own_stops, h]
def own_pick (b : Int64) : Int32 := if Int64.toInt32 (b &&& 3) = 0 then 10 else if Int64.toInt32 (b &&& 3) = 1 then 13 else if Int64.toInt32 (b &&& 3) = 2 then 65279 else (Int32.toUInt32 (Int64.toInt32 (XT.ushrL b 2 &&& 65535))).toUInt16.toUInt32.toInt32
theorem own_nar (b : Int64) : nar .char (own_pick b) = own_pick b := by
  simp only [own_pick]
  split
  · rfl
  · split
    · rfl
    · split
      · rfl
      · exact Value.int.inj (XT.narrow_c _)
theorem own_pick_ne (b : Int64) : ¬ own_pick b = -1 := fun h => by
  have q := own_nar b
  rw [h] at q
  exact absurd q (by decide)
theorem d1_0 : decode method_2_code 0 = .ok (.lload_n 0, 1) := by decide +kernel
theorem d1_1 : decode method_2_code 1 = .ok (.ldc2_w 7, 3) := by decide +kernel
theorem d1_4 : decode method_2_code 4 = .ok (.land, 1) := by decide +kernel
theorem d1_5 : decode method_2_code 5 = .ok (.l2i, 1) := by decide +kernel
theorem d1_6 : decode method_2_code 6 = .ok (.istore_n 2, 1) := by decide +kernel
theorem d1_7 : decode method_2_code 7 = .ok (.iload_n 2, 1) := by decide +kernel
theorem d1_8 : decode method_2_code 8 = .ok (.ifCond .ne 9, 3) := by decide +kernel
theorem d1_11 : decode method_2_code 11 = .ok (.bipush 10, 2) := by decide +kernel
theorem d1_13 : decode method_2_code 13 = .ok (.istore_n 3, 1) := by decide +kernel
theorem d1_14 : decode method_2_code 14 = .ok (.goto 35, 3) := by decide +kernel
theorem d1_17 : decode method_2_code 17 = .ok (.iload_n 2, 1) := by decide +kernel
theorem d1_18 : decode method_2_code 18 = .ok (.iconst 1, 1) := by decide +kernel
theorem d1_19 : decode method_2_code 19 = .ok (.if_icmp .ne 9, 3) := by decide +kernel
theorem d1_22 : decode method_2_code 22 = .ok (.bipush 13, 2) := by decide +kernel
theorem d1_24 : decode method_2_code 24 = .ok (.istore_n 3, 1) := by decide +kernel
theorem d1_25 : decode method_2_code 25 = .ok (.goto 24, 3) := by decide +kernel
theorem d1_28 : decode method_2_code 28 = .ok (.iload_n 2, 1) := by decide +kernel
theorem d1_29 : decode method_2_code 29 = .ok (.iconst 2, 1) := by decide +kernel
theorem d1_30 : decode method_2_code 30 = .ok (.if_icmp .ne 9, 3) := by decide +kernel
theorem d1_33 : decode method_2_code 33 = .ok (.ldc 9, 2) := by decide +kernel
theorem d1_35 : decode method_2_code 35 = .ok (.istore_n 3, 1) := by decide +kernel
theorem d1_36 : decode method_2_code 36 = .ok (.goto 13, 3) := by decide +kernel
theorem d1_39 : decode method_2_code 39 = .ok (.lload_n 0, 1) := by decide +kernel
theorem d1_40 : decode method_2_code 40 = .ok (.iconst 2, 1) := by decide +kernel
theorem d1_41 : decode method_2_code 41 = .ok (.lushr, 1) := by decide +kernel
theorem d1_42 : decode method_2_code 42 = .ok (.ldc2_w 10, 3) := by decide +kernel
theorem d1_45 : decode method_2_code 45 = .ok (.land, 1) := by decide +kernel
theorem d1_46 : decode method_2_code 46 = .ok (.l2i, 1) := by decide +kernel
theorem d1_47 : decode method_2_code 47 = .ok (.i2c, 1) := by decide +kernel
theorem d1_48 : decode method_2_code 48 = .ok (.istore_n 3, 1) := by decide +kernel
theorem d1_49 : decode method_2_code 49 = .ok (.iload_n 3, 1) := by decide +kernel
theorem d1_50 : decode method_2_code 50 = .ok (.ireturn, 1) := by decide +kernel
theorem pf_0 : plainFor (⟨"com/example/dodder/dodder/CounterPassPinLaw", "pick", "(J)C"⟩ : MethodName) = true := by first | exact plainFor_of_name (by first | (simp [plainName, overriddenIn]; done) | decide +kernel) | decide +kernel
def Qcon_pick (Z : State) (n0 : Nat) (h0 : Heap) (b0 : Int64) (v : Option Value) (h' : Heap) : Prop := (v = some (.int (own_pick b0))) ∧ (h0 = h')
theorem ef_con_pick (m : MethodId) (b0 : Int64) : entryFrame m #[(.long b0)] 4 = mkF m 0 #[.val (.long b0), .second, .unset, .unset] [] := by first | (simp [entryFrame, mkF, argsToLocals, Value.category]; done) | rfl
set_option maxRecDepth 65536 in
set_option maxHeartbeats 40000000 in
theorem con_pick (l : Launch) (Z : State) (a0 : Array Value) (hw : ∀ d ∈ tables_1, d.before a0 Z = true) (n0 : Nat) (h0 : Heap) (hn0 : n0 ≤ h0.size) (b0 : Int64) :
    Con l Z n0 [] (⟨"com/example/dodder/dodder/CounterPassPinLaw", "pick", "(J)C"⟩ : MethodName) method_2_code 4 (some .char) ({ frames := 0, cells := 0, slots := 0, locals := 0 } : Room) #[(.long b0)] h0 (Qcon_pick Z n0 h0 b0) := by
  refine Con.of pf_0 (fun m => ef_con_pick m b0) hn0 ?_
  intro p e s m below meth c C
  refine C.lloadN d1_0 rfl rfl ?_
  refine C.ldc2J d1_1 rfl (tw hw 5 rfl) ?_
  refine C.land d1_4 rfl ?_
  refine C.l2i d1_5 rfl ?_
  refine C.istoreN (Ls' := #[.val (.long b0), .second, iv (Int64.toInt32 (b0 &&& 3)), .unset]) d1_6 rfl rfl ?_
  refine C.iloadN d1_7 rfl rfl ?_
  refine C.if_ne d1_8 (by decide) rfl rfl (fun q8 => ?_) (fun q8 => ?_)
  · refine C.iloadN d1_17 rfl rfl ?_
    refine C.iconst 1 d1_18 rfl rfl ?_
    refine C.icmp_ne d1_19 (by decide) rfl rfl (fun q19 => ?_) (fun q19 => ?_)
    · refine C.iloadN d1_28 rfl rfl ?_
      refine C.iconst 2 d1_29 rfl rfl ?_
      refine C.icmp_ne d1_30 (by decide) rfl rfl (fun q30 => ?_) (fun q30 => ?_)
      · refine C.lloadN d1_39 rfl rfl ?_
        refine C.iconst 2 d1_40 rfl rfl ?_
        refine C.lushr d1_41 rfl ?_
        refine C.ldc2J d1_42 rfl (tw hw 6 rfl) ?_
        refine C.land d1_45 rfl ?_
        refine C.l2i d1_46 rfl ?_
        refine C.i2c d1_47 rfl ?_
        refine C.istoreN (Ls' := #[.val (.long b0), .second, iv (Int64.toInt32 (b0 &&& 3)), iv ((Int32.toUInt32 (Int64.toInt32 ((XT.ushrL b0 2) &&& 65535))).toUInt16.toUInt32.toInt32)]) d1_48 rfl rfl ?_
        refine C.iloadN d1_49 rfl rfl ?_
        exact C.retC d1_50 (XT.narrow_c _) (by decide) (by decide) ⟨(by simp only [own_pick, q8, q19, q30, if_true, if_false] <;> rfl), rfl⟩
      refine C.ldcI d1_33 rfl (tw hw 24 rfl) ?_
      refine C.istoreN (Ls' := #[.val (.long b0), .second, iv (Int64.toInt32 (b0 &&& 3)), iv 65279]) d1_35 rfl rfl ?_
      refine C.goto d1_36 (by decide) rfl ?_
      refine C.iloadN d1_49 rfl rfl ?_
      exact C.retC d1_50 rfl (by decide) (by decide) ⟨(by simp only [own_pick, q8, q19, q30, if_true, if_false] <;> rfl), rfl⟩
    refine C.bipush 13 d1_22 rfl rfl ?_
    refine C.istoreN (Ls' := #[.val (.long b0), .second, iv (Int64.toInt32 (b0 &&& 3)), iv 13]) d1_24 rfl rfl ?_
    refine C.goto d1_25 (by decide) rfl ?_
    refine C.iloadN d1_49 rfl rfl ?_
    exact C.retC d1_50 rfl (by decide) (by decide) ⟨(by simp only [own_pick, q8, q19, if_true, if_false] <;> rfl), rfl⟩
  refine C.bipush 10 d1_11 rfl rfl ?_
  refine C.istoreN (Ls' := #[.val (.long b0), .second, iv (Int64.toInt32 (b0 &&& 3)), iv 10]) d1_13 rfl rfl ?_
  refine C.goto d1_14 (by decide) rfl ?_
  refine C.iloadN d1_49 rfl rfl ?_
  exact C.retC d1_50 rfl (by decide) (by decide) ⟨(by simp only [own_pick, q8, if_true, if_false] <;> rfl), rfl⟩
theorem d4_0 : decode method_3_code 0 = .ok (.iload_n 1, 1) := by decide +kernel
theorem d4_1 : decode method_3_code 1 = .ok (.bipush 13, 2) := by decide +kernel
theorem d4_3 : decode method_3_code 3 = .ok (.if_icmp .eq 17, 3) := by decide +kernel
theorem d4_6 : decode method_3_code 6 = .ok (.iload_n 1, 1) := by decide +kernel
theorem d4_7 : decode method_3_code 7 = .ok (.bipush 10, 2) := by decide +kernel
theorem d4_9 : decode method_3_code 9 = .ok (.if_icmp .ne 15, 3) := by decide +kernel
theorem d4_12 : decode method_3_code 12 = .ok (.aload_n 0, 1) := by decide +kernel
theorem d4_13 : decode method_3_code 13 = .ok (.iconst 2, 1) := by decide +kernel
theorem d4_14 : decode method_3_code 14 = .ok (.iaload, 1) := by decide +kernel
theorem d4_15 : decode method_3_code 15 = .ok (.bipush 13, 2) := by decide +kernel
theorem d4_17 : decode method_3_code 17 = .ok (.if_icmp .eq 7, 3) := by decide +kernel
theorem d4_20 : decode method_3_code 20 = .ok (.iconst 1, 1) := by decide +kernel
theorem d4_21 : decode method_3_code 21 = .ok (.goto 4, 3) := by decide +kernel
theorem d4_24 : decode method_3_code 24 = .ok (.iconst 0, 1) := by decide +kernel
theorem d4_25 : decode method_3_code 25 = .ok (.istore_n 2, 1) := by decide +kernel
theorem d4_26 : decode method_3_code 26 = .ok (.iload_n 2, 1) := by decide +kernel
theorem d4_27 : decode method_3_code 27 = .ok (.ifCond .eq 18, 3) := by decide +kernel
theorem d4_30 : decode method_3_code 30 = .ok (.aload_n 0, 1) := by decide +kernel
theorem d4_31 : decode method_3_code 31 = .ok (.iconst 0, 1) := by decide +kernel
theorem d4_32 : decode method_3_code 32 = .ok (.aload_n 0, 1) := by decide +kernel
theorem d4_33 : decode method_3_code 33 = .ok (.iconst 0, 1) := by decide +kernel
theorem d4_34 : decode method_3_code 34 = .ok (.iaload, 1) := by decide +kernel
theorem d4_35 : decode method_3_code 35 = .ok (.iconst 1, 1) := by decide +kernel
theorem d4_36 : decode method_3_code 36 = .ok (.iadd, 1) := by decide +kernel
theorem d4_37 : decode method_3_code 37 = .ok (.iastore, 1) := by decide +kernel
theorem d4_38 : decode method_3_code 38 = .ok (.aload_n 0, 1) := by decide +kernel
theorem d4_39 : decode method_3_code 39 = .ok (.iconst 1, 1) := by decide +kernel
theorem d4_40 : decode method_3_code 40 = .ok (.iconst 1, 1) := by decide +kernel
theorem d4_41 : decode method_3_code 41 = .ok (.iastore, 1) := by decide +kernel
theorem d4_42 : decode method_3_code 42 = .ok (.goto 33, 3) := by decide +kernel
theorem d4_45 : decode method_3_code 45 = .ok (.iload_n 1, 1) := by decide +kernel
theorem d4_46 : decode method_3_code 46 = .ok (.bipush 10, 2) := by decide +kernel
theorem d4_48 : decode method_3_code 48 = .ok (.if_icmp .ne 6, 3) := by decide +kernel
theorem d4_51 : decode method_3_code 51 = .ok (.goto 24, 3) := by decide +kernel
theorem d4_54 : decode method_3_code 54 = .ok (.aload_n 0, 1) := by decide +kernel
theorem d4_55 : decode method_3_code 55 = .ok (.iconst 2, 1) := by decide +kernel
theorem d4_56 : decode method_3_code 56 = .ok (.iaload, 1) := by decide +kernel
theorem d4_57 : decode method_3_code 57 = .ok (.iconst (-1), 1) := by decide +kernel
theorem d4_58 : decode method_3_code 58 = .ok (.if_icmp .ne 9, 3) := by decide +kernel
theorem d4_61 : decode method_3_code 61 = .ok (.iload_n 1, 1) := by decide +kernel
theorem d4_62 : decode method_3_code 62 = .ok (.ldc 9, 2) := by decide +kernel
theorem d4_64 : decode method_3_code 64 = .ok (.if_icmp .eq 11, 3) := by decide +kernel
theorem d4_67 : decode method_3_code 67 = .ok (.aload_n 0, 1) := by decide +kernel
theorem d4_68 : decode method_3_code 68 = .ok (.iconst 1, 1) := by decide +kernel
theorem d4_69 : decode method_3_code 69 = .ok (.aload_n 0, 1) := by decide +kernel
theorem d4_70 : decode method_3_code 70 = .ok (.iconst 1, 1) := by decide +kernel
theorem d4_71 : decode method_3_code 71 = .ok (.iaload, 1) := by decide +kernel
theorem d4_72 : decode method_3_code 72 = .ok (.iconst 1, 1) := by decide +kernel
theorem d4_73 : decode method_3_code 73 = .ok (.iadd, 1) := by decide +kernel
theorem d4_74 : decode method_3_code 74 = .ok (.iastore, 1) := by decide +kernel
theorem d4_75 : decode method_3_code 75 = .ok (.aload_n 0, 1) := by decide +kernel
theorem d4_76 : decode method_3_code 76 = .ok (.iconst 2, 1) := by decide +kernel
theorem d4_77 : decode method_3_code 77 = .ok (.iload_n 1, 1) := by decide +kernel
theorem d4_78 : decode method_3_code 78 = .ok (.iastore, 1) := by decide +kernel
theorem d4_79 : decode method_3_code 79 = .ok (.return_, 1) := by decide +kernel
theorem pf_1 : plainFor (⟨"com/example/dodder/dodder/CounterPassPinLaw", "step", "([IC)V"⟩ : MethodName) = true := by first | exact plainFor_of_name (by first | (simp [plainName, overriddenIn]; done) | decide +kernel) | decide +kernel
def Qcon_step (Z : State) (n0 : Nat) (h0 : Heap) (b : Addr) (ch : Int32) (ln : Int32) (co : Int32) (pv : Int32) (v : Option Value) (h' : Heap) : Prop := (v = none) ∧ (Keep h0 h' [b]) ∧ (Av Z h' b .int ([.int (own_ln ln pv ch), .int (own_cl co pv ch), .int ch]))
theorem ef_con_step (m : MethodId) (b : Addr) (ch : Int32) : entryFrame m #[(.ref b), (.int ch)] 3 = mkF m 0 #[rv b, iv ch, .unset] [] := by first | (simp [entryFrame, mkF, argsToLocals, Value.category]; done) | rfl
set_option maxRecDepth 65536 in
set_option maxHeartbeats 40000000 in
theorem con_step (l : Launch) (Z : State) (a0 : Array Value) (hw : ∀ d ∈ tables_1, d.before a0 Z = true) (n0 : Nat) (h0 : Heap) (hn0 : n0 ≤ h0.size) (b : Addr) (ch : Int32) (ln : Int32) (co : Int32) (pv : Int32) (P0 : Av Z h0 b .int ([.int ln, .int co, .int pv])) (g_b : n0 ≤ b) :
    Con l Z n0 [] (⟨"com/example/dodder/dodder/CounterPassPinLaw", "step", "([IC)V"⟩ : MethodName) method_3_code 3 none ({ frames := 0, cells := 0, slots := 0, locals := 0 } : Room) #[(.ref b), (.int ch)] h0 (Qcon_step Z n0 h0 b ch ln co pv) := by
  refine Con.of pf_1 (fun m => ef_con_step m b ch) hn0 ?_
  intro p e s m below meth c C
  refine C.iloadN d4_0 rfl rfl ?_
  refine C.bipush 13 d4_1 rfl rfl ?_
  refine C.icmp_eq d4_3 (by decide) rfl rfl (fun q3 => ?_) (fun q3 => ?_)
  · refine C.iconst 1 d4_20 rfl rfl ?_
    refine C.goto d4_21 (by decide) rfl ?_
    refine C.istoreN (Ls' := #[rv b, iv ch, iv 1]) d4_25 rfl rfl ?_
    refine C.iloadN d4_26 rfl rfl ?_
    refine C.if_eq_f d4_27 rfl (by decide) ?_
    refine C.aloadN d4_30 rfl rfl rfl ?_
    refine C.iconst 0 d4_31 rfl rfl ?_
    refine C.aloadN d4_32 rfl rfl rfl ?_
    refine C.iconst 0 d4_33 rfl rfl ?_
    refine C.iaload (.int ln) d4_34 rfl P0 (by decide) rfl ?_
    refine C.iconst 1 d4_35 rfl rfl ?_
    refine C.iadd d4_36 rfl ?_
    refine C.iastore d4_37 rfl P0 g_b (by decide) (Nat.le_of_ble_eq_true rfl) (fun h49 W50 F51 => ?_)
    have F52 : Av Z h49 b .int ([.int (ln + 1), .int co, .int pv]) := F51
    refine C.aloadN d4_38 rfl rfl rfl ?_
    refine C.iconst 1 d4_39 rfl rfl ?_
    refine C.iconst 1 d4_40 rfl rfl ?_
    refine C.iastore d4_41 rfl F52 g_b (by decide) (Nat.le_of_ble_eq_true rfl) (fun h53 W54 F55 => ?_)
    have F56 : Av Z h53 b .int ([.int (ln + 1), .int 1, .int pv]) := F55
    refine C.goto d4_42 (by decide) rfl ?_
    refine C.aloadN d4_75 rfl rfl rfl ?_
    refine C.iconst 2 d4_76 rfl rfl ?_
    refine C.iloadN d4_77 rfl rfl ?_
    refine C.iastore d4_78 rfl F56 g_b (by decide) (Nat.le_of_ble_eq_true rfl) (fun h57 W58 F59 => ?_)
    have F60 : Av Z h57 b .int ([.int (ln + 1), .int 1, .int ch]) := F59
    have k1 : own_ln ln pv ch = (ln + 1) := by simp [own_ln, q3]
    have k2 : own_cl co pv ch = 1 := by simp [own_cl, q3]
    exact C.ret0 d4_79 (by decide) (by decide) ⟨rfl, ((((Keep.refl h0 [b]).wr W50 (Or.inl (List.mem_of_getElem? (i := 0) rfl))).wr W54 (Or.inl (List.mem_of_getElem? (i := 0) rfl))).wr W58 (Or.inl (List.mem_of_getElem? (i := 0) rfl))), (by rw [k1, k2]; exact F60)⟩
  refine C.iloadN d4_6 rfl rfl ?_
  refine C.bipush 10 d4_7 rfl rfl ?_
  refine C.icmp_ne d4_9 (by decide) rfl rfl (fun q9 => ?_) (fun q9 => ?_)
  · refine C.iconst 0 d4_24 rfl rfl ?_
    refine C.istoreN (Ls' := #[rv b, iv ch, iv 0]) d4_25 rfl rfl ?_
    refine C.iloadN d4_26 rfl rfl ?_
    refine C.if_eq_t d4_27 (by decide) rfl (by decide) ?_
    refine C.iloadN d4_45 rfl rfl ?_
    refine C.bipush 10 d4_46 rfl rfl ?_
    refine C.icmp_ne_t d4_48 (by decide) rfl q9 ?_
    refine C.aloadN d4_54 rfl rfl rfl ?_
    refine C.iconst 2 d4_55 rfl rfl ?_
    refine C.iaload (.int pv) d4_56 rfl P0 (by decide) rfl ?_
    refine C.iconst (-1) d4_57 rfl rfl ?_
    refine C.icmp_ne d4_58 (by decide) rfl rfl (fun q58 => ?_) (fun q58 => ?_)
    · refine C.aloadN d4_67 rfl rfl rfl ?_
      refine C.iconst 1 d4_68 rfl rfl ?_
      refine C.aloadN d4_69 rfl rfl rfl ?_
      refine C.iconst 1 d4_70 rfl rfl ?_
      refine C.iaload (.int co) d4_71 rfl P0 (by decide) rfl ?_
      refine C.iconst 1 d4_72 rfl rfl ?_
      refine C.iadd d4_73 rfl ?_
      refine C.iastore d4_74 rfl P0 g_b (by decide) (Nat.le_of_ble_eq_true rfl) (fun h61 W62 F63 => ?_)
      have F64 : Av Z h61 b .int ([.int ln, .int (co + 1), .int pv]) := F63
      refine C.aloadN d4_75 rfl rfl rfl ?_
      refine C.iconst 2 d4_76 rfl rfl ?_
      refine C.iloadN d4_77 rfl rfl ?_
      refine C.iastore d4_78 rfl F64 g_b (by decide) (Nat.le_of_ble_eq_true rfl) (fun h65 W66 F67 => ?_)
      have F68 : Av Z h65 b .int ([.int ln, .int (co + 1), .int ch]) := F67
      have k1 : own_ln ln pv ch = ln := by simp [own_ln, q3, q9, q58]
      have k2 : own_cl co pv ch = (co + 1) := by simp [own_cl, q3, q9, q58]
      exact C.ret0 d4_79 (by decide) (by decide) ⟨rfl, (((Keep.refl h0 [b]).wr W62 (Or.inl (List.mem_of_getElem? (i := 0) rfl))).wr W66 (Or.inl (List.mem_of_getElem? (i := 0) rfl))), (by rw [k1, k2]; exact F68)⟩
    refine C.iloadN d4_61 rfl rfl ?_
    refine C.ldcI d4_62 rfl (tw hw 24 rfl) ?_
    refine C.icmp_eq d4_64 (by decide) rfl rfl (fun q64 => ?_) (fun q64 => ?_)
    · refine C.aloadN d4_75 rfl rfl rfl ?_
      refine C.iconst 2 d4_76 rfl rfl ?_
      refine C.iloadN d4_77 rfl rfl ?_
      refine C.iastore d4_78 rfl P0 g_b (by decide) (Nat.le_of_ble_eq_true rfl) (fun h69 W70 F71 => ?_)
      have F72 : Av Z h69 b .int ([.int ln, .int co, .int ch]) := F71
      have k1 : own_ln ln pv ch = ln := by simp [own_ln, q3, q9, q58, q64]
      have k2 : own_cl co pv ch = co := by simp [own_cl, q3, q9, q58, q64]
      exact C.ret0 d4_79 (by decide) (by decide) ⟨rfl, ((Keep.refl h0 [b]).wr W70 (Or.inl (List.mem_of_getElem? (i := 0) rfl))), (by rw [k1, k2]; exact F72)⟩
    refine C.aloadN d4_67 rfl rfl rfl ?_
    refine C.iconst 1 d4_68 rfl rfl ?_
    refine C.aloadN d4_69 rfl rfl rfl ?_
    refine C.iconst 1 d4_70 rfl rfl ?_
    refine C.iaload (.int co) d4_71 rfl P0 (by decide) rfl ?_
    refine C.iconst 1 d4_72 rfl rfl ?_
    refine C.iadd d4_73 rfl ?_
    refine C.iastore d4_74 rfl P0 g_b (by decide) (Nat.le_of_ble_eq_true rfl) (fun h73 W74 F75 => ?_)
    have F76 : Av Z h73 b .int ([.int ln, .int (co + 1), .int pv]) := F75
    refine C.aloadN d4_75 rfl rfl rfl ?_
    refine C.iconst 2 d4_76 rfl rfl ?_
    refine C.iloadN d4_77 rfl rfl ?_
    refine C.iastore d4_78 rfl F76 g_b (by decide) (Nat.le_of_ble_eq_true rfl) (fun h77 W78 F79 => ?_)
    have F80 : Av Z h77 b .int ([.int ln, .int (co + 1), .int ch]) := F79
    have k1 : own_ln ln pv ch = ln := by simp [own_ln, q3, q9, q58, q64]
    have k2 : own_cl co pv ch = (co + 1) := by simp [own_cl, q3, q9, q58, q64]
    exact C.ret0 d4_79 (by decide) (by decide) ⟨rfl, (((Keep.refl h0 [b]).wr W74 (Or.inl (List.mem_of_getElem? (i := 0) rfl))).wr W78 (Or.inl (List.mem_of_getElem? (i := 0) rfl))), (by rw [k1, k2]; exact F80)⟩
  refine C.aloadN d4_12 rfl rfl rfl ?_
  refine C.iconst 2 d4_13 rfl rfl ?_
  refine C.iaload (.int pv) d4_14 rfl P0 (by decide) rfl ?_
  refine C.bipush 13 d4_15 rfl rfl ?_
  refine C.icmp_eq d4_17 (by decide) rfl rfl (fun q17 => ?_) (fun q17 => ?_)
  · refine C.iconst 0 d4_24 rfl rfl ?_
    refine C.istoreN (Ls' := #[rv b, iv ch, iv 0]) d4_25 rfl rfl ?_
    refine C.iloadN d4_26 rfl rfl ?_
    refine C.if_eq_t d4_27 (by decide) rfl (by decide) ?_
    refine C.iloadN d4_45 rfl rfl ?_
    refine C.bipush 10 d4_46 rfl rfl ?_
    refine C.icmp_ne_f d4_48 rfl q9 ?_
    refine C.goto d4_51 (by decide) rfl ?_
    refine C.aloadN d4_75 rfl rfl rfl ?_
    refine C.iconst 2 d4_76 rfl rfl ?_
    refine C.iloadN d4_77 rfl rfl ?_
    refine C.iastore d4_78 rfl P0 g_b (by decide) (Nat.le_of_ble_eq_true rfl) (fun h81 W82 F83 => ?_)
    have F84 : Av Z h81 b .int ([.int ln, .int co, .int ch]) := F83
    have k1 : own_ln ln pv ch = ln := by simp [own_ln, q3, q9, q17]
    have k2 : own_cl co pv ch = co := by simp [own_cl, q3, q9, q17]
    exact C.ret0 d4_79 (by decide) (by decide) ⟨rfl, ((Keep.refl h0 [b]).wr W82 (Or.inl (List.mem_of_getElem? (i := 0) rfl))), (by rw [k1, k2]; exact F84)⟩
  refine C.iconst 1 d4_20 rfl rfl ?_
  refine C.goto d4_21 (by decide) rfl ?_
  refine C.istoreN (Ls' := #[rv b, iv ch, iv 1]) d4_25 rfl rfl ?_
  refine C.iloadN d4_26 rfl rfl ?_
  refine C.if_eq_f d4_27 rfl (by decide) ?_
  refine C.aloadN d4_30 rfl rfl rfl ?_
  refine C.iconst 0 d4_31 rfl rfl ?_
  refine C.aloadN d4_32 rfl rfl rfl ?_
  refine C.iconst 0 d4_33 rfl rfl ?_
  refine C.iaload (.int ln) d4_34 rfl P0 (by decide) rfl ?_
  refine C.iconst 1 d4_35 rfl rfl ?_
  refine C.iadd d4_36 rfl ?_
  refine C.iastore d4_37 rfl P0 g_b (by decide) (Nat.le_of_ble_eq_true rfl) (fun h85 W86 F87 => ?_)
  have F88 : Av Z h85 b .int ([.int (ln + 1), .int co, .int pv]) := F87
  refine C.aloadN d4_38 rfl rfl rfl ?_
  refine C.iconst 1 d4_39 rfl rfl ?_
  refine C.iconst 1 d4_40 rfl rfl ?_
  refine C.iastore d4_41 rfl F88 g_b (by decide) (Nat.le_of_ble_eq_true rfl) (fun h89 W90 F91 => ?_)
  have F92 : Av Z h89 b .int ([.int (ln + 1), .int 1, .int pv]) := F91
  refine C.goto d4_42 (by decide) rfl ?_
  refine C.aloadN d4_75 rfl rfl rfl ?_
  refine C.iconst 2 d4_76 rfl rfl ?_
  refine C.iloadN d4_77 rfl rfl ?_
  refine C.iastore d4_78 rfl F92 g_b (by decide) (Nat.le_of_ble_eq_true rfl) (fun h93 W94 F95 => ?_)
  have F96 : Av Z h93 b .int ([.int (ln + 1), .int 1, .int ch]) := F95
  have k1 : own_ln ln pv ch = (ln + 1) := by simp [own_ln, q3, q9, q17]
  have k2 : own_cl co pv ch = 1 := by simp [own_cl, q3, q9, q17]
  exact C.ret0 d4_79 (by decide) (by decide) ⟨rfl, ((((Keep.refl h0 [b]).wr W86 (Or.inl (List.mem_of_getElem? (i := 0) rfl))).wr W90 (Or.inl (List.mem_of_getElem? (i := 0) rfl))).wr W94 (Or.inl (List.mem_of_getElem? (i := 0) rfl))), (by rw [k1, k2]; exact F96)⟩
theorem d5_0 : decode method_4_code 0 = .ok (.iload_n 3, 1) := by decide +kernel
theorem d5_1 : decode method_4_code 1 = .ok (.iload 5, 2) := by decide +kernel
theorem d5_3 : decode method_4_code 3 = .ok (.if_icmp .lt 16, 3) := by decide +kernel
theorem d5_6 : decode method_4_code 6 = .ok (.iload_n 3, 1) := by decide +kernel
theorem d5_7 : decode method_4_code 7 = .ok (.iload 5, 2) := by decide +kernel
theorem d5_9 : decode method_4_code 9 = .ok (.if_icmp .ne 14, 3) := by decide +kernel
theorem d5_12 : decode method_4_code 12 = .ok (.iload 4, 2) := by decide +kernel
theorem d5_14 : decode method_4_code 14 = .ok (.iload 6, 2) := by decide +kernel
theorem d5_16 : decode method_4_code 16 = .ok (.if_icmp .ge 7, 3) := by decide +kernel
theorem d5_19 : decode method_4_code 19 = .ok (.iconst 1, 1) := by decide +kernel
theorem d5_20 : decode method_4_code 20 = .ok (.goto 4, 3) := by decide +kernel
theorem d5_23 : decode method_4_code 23 = .ok (.iconst 0, 1) := by decide +kernel
theorem d5_24 : decode method_4_code 24 = .ok (.istore 7, 2) := by decide +kernel
theorem d5_26 : decode method_4_code 26 = .ok (.iload_n 0, 1) := by decide +kernel
theorem d5_27 : decode method_4_code 27 = .ok (.iload_n 1, 1) := by decide +kernel
theorem d5_28 : decode method_4_code 28 = .ok (.if_icmp .ge 13, 3) := by decide +kernel
theorem d5_31 : decode method_4_code 31 = .ok (.iload_n 0, 1) := by decide +kernel
theorem d5_32 : decode method_4_code 32 = .ok (.iload_n 2, 1) := by decide +kernel
theorem d5_33 : decode method_4_code 33 = .ok (.if_icmp .lt 12, 3) := by decide +kernel
theorem d5_36 : decode method_4_code 36 = .ok (.iload 7, 2) := by decide +kernel
theorem d5_38 : decode method_4_code 38 = .ok (.ifCond .ne 7, 3) := by decide +kernel
theorem d5_41 : decode method_4_code 41 = .ok (.iconst 1, 1) := by decide +kernel
theorem d5_42 : decode method_4_code 42 = .ok (.goto 4, 3) := by decide +kernel
theorem d5_45 : decode method_4_code 45 = .ok (.iconst 0, 1) := by decide +kernel
theorem d5_46 : decode method_4_code 46 = .ok (.ireturn, 1) := by decide +kernel
theorem pf_2 : plainFor (⟨"com/example/dodder/dodder/CounterPassPinLaw", "stops", "(IIIIIII)Z"⟩ : MethodName) = true := by first | exact plainFor_of_name (by first | (simp [plainName, overriddenIn]; done) | decide +kernel) | decide +kernel
def Qcon_stops (Z : State) (n0 : Nat) (h0 : Heap) (i : Int32) (t : Int32) (le : Int32) (ln : Int32) (co : Int32) (sl : Int32) (sc : Int32) (v : Option Value) (h' : Heap) : Prop := (v = some (.int (own_stops i t le ln co sl sc))) ∧ (h0 = h')
theorem ef_con_stops (m : MethodId) (i : Int32) (t : Int32) (le : Int32) (ln : Int32) (co : Int32) (sl : Int32) (sc : Int32) : entryFrame m #[(.int i), (.int t), (.int le), (.int ln), (.int co), (.int sl), (.int sc)] 8 = mkF m 0 #[iv i, iv t, iv le, iv ln, iv co, iv sl, iv sc, .unset] [] := by first | (simp [entryFrame, mkF, argsToLocals, Value.category]; done) | rfl
set_option maxRecDepth 65536 in
set_option maxHeartbeats 40000000 in
theorem con_stops (l : Launch) (Z : State) (a0 : Array Value) (hw : ∀ d ∈ tables_1, d.before a0 Z = true) (n0 : Nat) (h0 : Heap) (hn0 : n0 ≤ h0.size) (i : Int32) (t : Int32) (le : Int32) (ln : Int32) (co : Int32) (sl : Int32) (sc : Int32) :
    Con l Z n0 [] (⟨"com/example/dodder/dodder/CounterPassPinLaw", "stops", "(IIIIIII)Z"⟩ : MethodName) method_4_code 8 (some .boolean) ({ frames := 0, cells := 0, slots := 0, locals := 0 } : Room) #[(.int i), (.int t), (.int le), (.int ln), (.int co), (.int sl), (.int sc)] h0 (Qcon_stops Z n0 h0 i t le ln co sl sc) := by
  refine Con.of pf_2 (fun m => ef_con_stops m i t le ln co sl sc) hn0 ?_
  intro p e s m below meth c C
  refine C.iloadN d5_0 rfl rfl ?_
  refine C.iload d5_1 rfl rfl ?_
  refine C.icmp_lt d5_3 (by decide) rfl rfl (fun q3 => ?_) (fun q3 => ?_)
  · refine C.iconst 1 d5_19 rfl rfl ?_
    refine C.goto d5_20 (by decide) rfl ?_
    refine C.istore (Ls' := #[iv i, iv t, iv le, iv ln, iv co, iv sl, iv sc, iv 1]) d5_24 rfl rfl ?_
    refine C.iloadN d5_26 rfl rfl ?_
    refine C.iloadN d5_27 rfl rfl ?_
    refine C.icmp_ge d5_28 (by decide) rfl rfl (fun q28 => ?_) (fun q28 => ?_)
    · refine C.iconst 1 d5_41 rfl rfl ?_
      refine C.goto d5_42 (by decide) rfl ?_
      exact C.retZ d5_46 rfl (by decide) (by decide) ⟨(by simp [own_stops, q3, q28]), rfl⟩
    refine C.iloadN d5_31 rfl rfl ?_
    refine C.iloadN d5_32 rfl rfl ?_
    refine C.icmp_lt d5_33 (by decide) rfl rfl (fun q33 => ?_) (fun q33 => ?_)
    · refine C.iconst 0 d5_45 rfl rfl ?_
      exact C.retZ d5_46 rfl (by decide) (by decide) ⟨(by simp [own_stops, q3, q28, q33]), rfl⟩
    refine C.iload d5_36 rfl rfl ?_
    refine C.if_ne_t d5_38 (by decide) rfl (by decide) ?_
    refine C.iconst 0 d5_45 rfl rfl ?_
    exact C.retZ d5_46 rfl (by decide) (by decide) ⟨(by simp [own_stops, q3, q28, q33]), rfl⟩
  refine C.iloadN d5_6 rfl rfl ?_
  refine C.iload d5_7 rfl rfl ?_
  refine C.icmp_ne d5_9 (by decide) rfl rfl (fun q9 => ?_) (fun q9 => ?_)
  · refine C.iconst 0 d5_23 rfl rfl ?_
    refine C.istore (Ls' := #[iv i, iv t, iv le, iv ln, iv co, iv sl, iv sc, iv 0]) d5_24 rfl rfl ?_
    refine C.iloadN d5_26 rfl rfl ?_
    refine C.iloadN d5_27 rfl rfl ?_
    refine C.icmp_ge d5_28 (by decide) rfl rfl (fun q28 => ?_) (fun q28 => ?_)
    · refine C.iconst 1 d5_41 rfl rfl ?_
      refine C.goto d5_42 (by decide) rfl ?_
      exact C.retZ d5_46 rfl (by decide) (by decide) ⟨(by simp [own_stops, q3, q9, q28]), rfl⟩
    refine C.iloadN d5_31 rfl rfl ?_
    refine C.iloadN d5_32 rfl rfl ?_
    refine C.icmp_lt d5_33 (by decide) rfl rfl (fun q33 => ?_) (fun q33 => ?_)
    · refine C.iconst 0 d5_45 rfl rfl ?_
      exact C.retZ d5_46 rfl (by decide) (by decide) ⟨(by simp [own_stops, q3, q9, q28, q33]), rfl⟩
    refine C.iload d5_36 rfl rfl ?_
    refine C.if_ne_f d5_38 rfl (by decide) ?_
    refine C.iconst 1 d5_41 rfl rfl ?_
    refine C.goto d5_42 (by decide) rfl ?_
    exact C.retZ d5_46 rfl (by decide) (by decide) ⟨(by simp [own_stops, q3, q9, q28, q33]), rfl⟩
  refine C.iload d5_12 rfl rfl ?_
  refine C.iload d5_14 rfl rfl ?_
  refine C.icmp_ge d5_16 (by decide) rfl rfl (fun q16 => ?_) (fun q16 => ?_)
  · refine C.iconst 0 d5_23 rfl rfl ?_
    refine C.istore (Ls' := #[iv i, iv t, iv le, iv ln, iv co, iv sl, iv sc, iv 0]) d5_24 rfl rfl ?_
    refine C.iloadN d5_26 rfl rfl ?_
    refine C.iloadN d5_27 rfl rfl ?_
    refine C.icmp_ge d5_28 (by decide) rfl rfl (fun q28 => ?_) (fun q28 => ?_)
    · refine C.iconst 1 d5_41 rfl rfl ?_
      refine C.goto d5_42 (by decide) rfl ?_
      exact C.retZ d5_46 rfl (by decide) (by decide) ⟨(by simp [own_stops, q3, q9, q16, q28]), rfl⟩
    refine C.iloadN d5_31 rfl rfl ?_
    refine C.iloadN d5_32 rfl rfl ?_
    refine C.icmp_lt d5_33 (by decide) rfl rfl (fun q33 => ?_) (fun q33 => ?_)
    · refine C.iconst 0 d5_45 rfl rfl ?_
      exact C.retZ d5_46 rfl (by decide) (by decide) ⟨(by simp [own_stops, q3, q9, q16, q28, q33]), rfl⟩
    refine C.iload d5_36 rfl rfl ?_
    refine C.if_ne_f d5_38 rfl (by decide) ?_
    refine C.iconst 1 d5_41 rfl rfl ?_
    refine C.goto d5_42 (by decide) rfl ?_
    exact C.retZ d5_46 rfl (by decide) (by decide) ⟨(by simp [own_stops, q3, q9, q16, q28, q33]), rfl⟩
  refine C.iconst 1 d5_19 rfl rfl ?_
  refine C.goto d5_20 (by decide) rfl ?_
  refine C.istore (Ls' := #[iv i, iv t, iv le, iv ln, iv co, iv sl, iv sc, iv 1]) d5_24 rfl rfl ?_
  refine C.iloadN d5_26 rfl rfl ?_
  refine C.iloadN d5_27 rfl rfl ?_
  refine C.icmp_ge d5_28 (by decide) rfl rfl (fun q28 => ?_) (fun q28 => ?_)
  · refine C.iconst 1 d5_41 rfl rfl ?_
    refine C.goto d5_42 (by decide) rfl ?_
    exact C.retZ d5_46 rfl (by decide) (by decide) ⟨(by simp [own_stops, q3, q9, q16, q28]), rfl⟩
  refine C.iloadN d5_31 rfl rfl ?_
  refine C.iloadN d5_32 rfl rfl ?_
  refine C.icmp_lt d5_33 (by decide) rfl rfl (fun q33 => ?_) (fun q33 => ?_)
  · refine C.iconst 0 d5_45 rfl rfl ?_
    exact C.retZ d5_46 rfl (by decide) (by decide) ⟨(by simp [own_stops, q3, q9, q16, q28, q33]), rfl⟩
  refine C.iload d5_36 rfl rfl ?_
  refine C.if_ne_t d5_38 (by decide) rfl (by decide) ?_
  refine C.iconst 0 d5_45 rfl rfl ?_
  exact C.retZ d5_46 rfl (by decide) (by decide) ⟨(by simp [own_stops, q3, q9, q16, q28, q33]), rfl⟩
theorem d6_0 : decode prog_122_method_6_code 0 = .ok (.iload_n 2, 1) := by decide +kernel
theorem d6_1 : decode prog_122_method_6_code 1 = .ok (.istore 7, 2) := by decide +kernel
theorem d6_3 : decode prog_122_method_6_code 3 = .ok (.aload_n 0, 1) := by decide +kernel
theorem d6_4 : decode prog_122_method_6_code 4 = .ok (.getfield 7, 3) := by decide +kernel
theorem d6_7 : decode prog_122_method_6_code 7 = .ok (.istore 8, 2) := by decide +kernel
theorem d6_9 : decode prog_122_method_6_code 9 = .ok (.aload_n 0, 1) := by decide +kernel
theorem d6_10 : decode prog_122_method_6_code 10 = .ok (.getfield 13, 3) := by decide +kernel
theorem d6_13 : decode prog_122_method_6_code 13 = .ok (.istore 9, 2) := by decide +kernel
theorem d6_15 : decode prog_122_method_6_code 15 = .ok (.aload_n 0, 1) := by decide +kernel
theorem d6_16 : decode prog_122_method_6_code 16 = .ok (.getfield 17, 3) := by decide +kernel
theorem d6_19 : decode prog_122_method_6_code 19 = .ok (.istore 10, 2) := by decide +kernel
theorem d6_21 : decode prog_122_method_6_code 21 = .ok (.aload_n 0, 1) := by decide +kernel
theorem d6_22 : decode prog_122_method_6_code 22 = .ok (.getfield 21, 3) := by decide +kernel
theorem d6_25 : decode prog_122_method_6_code 25 = .ok (.istore 11, 2) := by decide +kernel
theorem d6_27 : decode prog_122_method_6_code 27 = .ok (.iload 7, 2) := by decide +kernel
theorem d6_29 : decode prog_122_method_6_code 29 = .ok (.iload_n 3, 1) := by decide +kernel
theorem d6_30 : decode prog_122_method_6_code 30 = .ok (.if_icmp .ge 119, 3) := by decide +kernel
theorem d6_33 : decode prog_122_method_6_code 33 = .ok (.iload 7, 2) := by decide +kernel
theorem d6_35 : decode prog_122_method_6_code 35 = .ok (.iload 4, 2) := by decide +kernel
theorem d6_37 : decode prog_122_method_6_code 37 = .ok (.if_icmp .lt 24, 3) := by decide +kernel
theorem d6_40 : decode prog_122_method_6_code 40 = .ok (.iload 8, 2) := by decide +kernel
theorem d6_42 : decode prog_122_method_6_code 42 = .ok (.iload 5, 2) := by decide +kernel
theorem d6_44 : decode prog_122_method_6_code 44 = .ok (.if_icmp .lt 17, 3) := by decide +kernel
theorem d6_47 : decode prog_122_method_6_code 47 = .ok (.iload 8, 2) := by decide +kernel
theorem d6_49 : decode prog_122_method_6_code 49 = .ok (.iload 5, 2) := by decide +kernel
theorem d6_51 : decode prog_122_method_6_code 51 = .ok (.if_icmp .ne 98, 3) := by decide +kernel
theorem d6_54 : decode prog_122_method_6_code 54 = .ok (.iload 9, 2) := by decide +kernel
theorem d6_56 : decode prog_122_method_6_code 56 = .ok (.iload 6, 2) := by decide +kernel
theorem d6_58 : decode prog_122_method_6_code 58 = .ok (.if_icmp .ge 91, 3) := by decide +kernel
theorem d6_61 : decode prog_122_method_6_code 61 = .ok (.aload_n 1, 1) := by decide +kernel
theorem d6_62 : decode prog_122_method_6_code 62 = .ok (.iload 7, 2) := by decide +kernel
theorem d6_64 : decode prog_122_method_6_code 64 = .ok (.caload, 1) := by decide +kernel
theorem d6_65 : decode prog_122_method_6_code 65 = .ok (.istore 12, 2) := by decide +kernel
theorem d6_67 : decode prog_122_method_6_code 67 = .ok (.iload 12, 2) := by decide +kernel
theorem d6_69 : decode prog_122_method_6_code 69 = .ok (.bipush 10, 2) := by decide +kernel
theorem d6_71 : decode prog_122_method_6_code 71 = .ok (.if_icmp .ne 14, 3) := by decide +kernel
theorem d6_74 : decode prog_122_method_6_code 74 = .ok (.iload 10, 2) := by decide +kernel
theorem d6_76 : decode prog_122_method_6_code 76 = .ok (.ifCond .eq 9, 3) := by decide +kernel
theorem d6_79 : decode prog_122_method_6_code 79 = .ok (.iconst 0, 1) := by decide +kernel
theorem d6_80 : decode prog_122_method_6_code 80 = .ok (.istore 10, 2) := by decide +kernel
theorem d6_82 : decode prog_122_method_6_code 82 = .ok (.goto 58, 3) := by decide +kernel
theorem d6_85 : decode prog_122_method_6_code 85 = .ok (.iload 12, 2) := by decide +kernel
theorem d6_87 : decode prog_122_method_6_code 87 = .ok (.bipush 10, 2) := by decide +kernel
theorem d6_89 : decode prog_122_method_6_code 89 = .ok (.if_icmp .eq 10, 3) := by decide +kernel
theorem d6_92 : decode prog_122_method_6_code 92 = .ok (.iload 12, 2) := by decide +kernel
theorem d6_94 : decode prog_122_method_6_code 94 = .ok (.bipush 13, 2) := by decide +kernel
theorem d6_96 : decode prog_122_method_6_code 96 = .ok (.if_icmp .ne 26, 3) := by decide +kernel
theorem d6_99 : decode prog_122_method_6_code 99 = .ok (.iinc 8 1, 3) := by decide +kernel
theorem d6_102 : decode prog_122_method_6_code 102 = .ok (.iconst 1, 1) := by decide +kernel
theorem d6_103 : decode prog_122_method_6_code 103 = .ok (.istore 9, 2) := by decide +kernel
theorem d6_105 : decode prog_122_method_6_code 105 = .ok (.iload 12, 2) := by decide +kernel
theorem d6_107 : decode prog_122_method_6_code 107 = .ok (.bipush 13, 2) := by decide +kernel
theorem d6_109 : decode prog_122_method_6_code 109 = .ok (.if_icmp .ne 7, 3) := by decide +kernel
theorem d6_112 : decode prog_122_method_6_code 112 = .ok (.iconst 1, 1) := by decide +kernel
theorem d6_113 : decode prog_122_method_6_code 113 = .ok (.goto 4, 3) := by decide +kernel
theorem d6_116 : decode prog_122_method_6_code 116 = .ok (.iconst 0, 1) := by decide +kernel
theorem d6_117 : decode prog_122_method_6_code 117 = .ok (.istore 10, 2) := by decide +kernel
theorem d6_119 : decode prog_122_method_6_code 119 = .ok (.goto 21, 3) := by decide +kernel
theorem d6_122 : decode prog_122_method_6_code 122 = .ok (.iload 11, 2) := by decide +kernel
theorem d6_124 : decode prog_122_method_6_code 124 = .ok (.ifCond .ne 10, 3) := by decide +kernel
theorem d6_127 : decode prog_122_method_6_code 127 = .ok (.iload 12, 2) := by decide +kernel
theorem d6_129 : decode prog_122_method_6_code 129 = .ok (.ldc 28, 2) := by decide +kernel
theorem d6_131 : decode prog_122_method_6_code 131 = .ok (.if_icmp .eq 9, 3) := by decide +kernel
theorem d6_134 : decode prog_122_method_6_code 134 = .ok (.iinc 9 1, 3) := by decide +kernel
theorem d6_137 : decode prog_122_method_6_code 137 = .ok (.iconst 0, 1) := by decide +kernel
theorem d6_138 : decode prog_122_method_6_code 138 = .ok (.istore 10, 2) := by decide +kernel
theorem d6_140 : decode prog_122_method_6_code 140 = .ok (.iconst 1, 1) := by decide +kernel
theorem d6_141 : decode prog_122_method_6_code 141 = .ok (.istore 11, 2) := by decide +kernel
theorem d6_143 : decode prog_122_method_6_code 143 = .ok (.iinc 7 1, 3) := by decide +kernel
theorem d6_146 : decode prog_122_method_6_code 146 = .ok (.goto (-119), 3) := by decide +kernel
theorem d6_149 : decode prog_122_method_6_code 149 = .ok (.aload_n 0, 1) := by decide +kernel
theorem d6_150 : decode prog_122_method_6_code 150 = .ok (.iload 8, 2) := by decide +kernel
theorem d6_152 : decode prog_122_method_6_code 152 = .ok (.putfield 7, 3) := by decide +kernel
theorem d6_155 : decode prog_122_method_6_code 155 = .ok (.aload_n 0, 1) := by decide +kernel
theorem d6_156 : decode prog_122_method_6_code 156 = .ok (.iload 9, 2) := by decide +kernel
theorem d6_158 : decode prog_122_method_6_code 158 = .ok (.putfield 13, 3) := by decide +kernel
theorem d6_161 : decode prog_122_method_6_code 161 = .ok (.aload_n 0, 1) := by decide +kernel
theorem d6_162 : decode prog_122_method_6_code 162 = .ok (.iload 10, 2) := by decide +kernel
theorem d6_164 : decode prog_122_method_6_code 164 = .ok (.putfield 17, 3) := by decide +kernel
theorem d6_167 : decode prog_122_method_6_code 167 = .ok (.aload_n 0, 1) := by decide +kernel
theorem d6_168 : decode prog_122_method_6_code 168 = .ok (.iload 11, 2) := by decide +kernel
theorem d6_170 : decode prog_122_method_6_code 170 = .ok (.putfield 21, 3) := by decide +kernel
theorem d6_173 : decode prog_122_method_6_code 173 = .ok (.iload 7, 2) := by decide +kernel
theorem d6_175 : decode prog_122_method_6_code 175 = .ok (.ireturn, 1) := by decide +kernel
theorem pf_3 : plainFor (⟨"com/example/dodder/dodder/PlacedText$Counter", "pass", "([CIIIII)I"⟩ : MethodName) = true := by first | exact plainFor_of_name (by first | (simp [plainName, overriddenIn]; done) | decide +kernel) | decide +kernel
def Qcon_pass_3_0 (Z : State) (n0 : Nat) (h0 : Heap) (a : Addr) (b : Addr) (t : Int32) (le : Int32) (sl : Int32) (sc : Int32) (ln : Int32) (co : Int32) (pv : Int32) (y0 : Int32) (y1 : Int32) (y2 : Int32) (v : Option Value) (h' : Heap) : Prop := (v = some (.int ((own_pass t le sl sc 0 [y0, y1, y2] ln co pv).1))) ∧ (Keep h0 h' [a]) ∧ (Fld Z h' a "com/example/dodder/dodder/PlacedText$Counter" "line" "I" (.int ((own_pass t le sl sc 0 [y0, y1, y2] ln co pv).2.1))) ∧ (Fld Z h' a "com/example/dodder/dodder/PlacedText$Counter" "column" "I" (.int ((own_pass t le sl sc 0 [y0, y1, y2] ln co pv).2.2.1))) ∧ (Fld Z h' a "com/example/dodder/dodder/PlacedText$Counter" "afterCarriageReturn" "Z" (.int (own_cr (own_pass t le sl sc 0 [y0, y1, y2] ln co pv).2.2.2))) ∧ (Fld Z h' a "com/example/dodder/dodder/PlacedText$Counter" "started" "Z" (.int (own_bg (own_pass t le sl sc 0 [y0, y1, y2] ln co pv).2.2.2)))
theorem ef_con_pass_3_0 (m : MethodId) (a : Addr) (b : Addr) (t : Int32) (le : Int32) (sl : Int32) (sc : Int32) : entryFrame m #[(.ref a), (.ref b), (.int 0), (.int t), (.int le), (.int sl), (.int sc)] 13 = mkF m 0 #[rv a, rv b, iv 0, iv t, iv le, iv sl, iv sc, .unset, .unset, .unset, .unset, .unset, .unset] [] := by first | (simp [entryFrame, mkF, argsToLocals, Value.category]; done) | rfl
set_option maxRecDepth 65536 in
set_option maxHeartbeats 40000000 in
theorem con_pass_3_0 (l : Launch) (Z : State) (a0 : Array Value) (hw : ∀ d ∈ tables_1, d.before a0 Z = true) (n0 : Nat) (h0 : Heap) (hn0 : n0 ≤ h0.size) (a : Addr) (b : Addr) (t : Int32) (le : Int32) (sl : Int32) (sc : Int32) (ln : Int32) (co : Int32) (pv : Int32) (y0 : Int32) (y1 : Int32) (y2 : Int32) (P0 : Exa Z h0 a "com/example/dodder/dodder/PlacedText$Counter") (P1 : Fld Z h0 a "com/example/dodder/dodder/PlacedText$Counter" "line" "I" (.int ln)) (P2 : Fld Z h0 a "com/example/dodder/dodder/PlacedText$Counter" "column" "I" (.int co)) (P3 : Fld Z h0 a "com/example/dodder/dodder/PlacedText$Counter" "afterCarriageReturn" "Z" (.int (own_cr pv))) (P4 : Fld Z h0 a "com/example/dodder/dodder/PlacedText$Counter" "started" "Z" (.int (own_bg pv))) (P5 : Av Z h0 b .char ([.int y0, .int y1, .int y2])) (g_a : n0 ≤ a) (ne_a_b : a ≠ b) (hto : ¬ (3 : Int32) < t) (hy0 : ¬ y0 = -1) (hy1 : ¬ y1 = -1) (hy2 : ¬ y2 = -1) :
    Con l Z n0 [] (⟨"com/example/dodder/dodder/PlacedText$Counter", "pass", "([CIIIII)I"⟩ : MethodName) prog_122_method_6_code 13 (some .int) ({ frames := 0, cells := 0, slots := 0, locals := 0 } : Room) #[(.ref a), (.ref b), (.int 0), (.int t), (.int le), (.int sl), (.int sc)] h0 (Qcon_pass_3_0 Z n0 h0 a b t le sl sc ln co pv y0 y1 y2) := by
  refine Con.of pf_3 (fun m => ef_con_pass_3_0 m a b t le sl sc) hn0 ?_
  intro p e s m below meth c C
  refine C.iloadN d6_0 rfl rfl ?_
  refine C.istore (Ls' := #[rv a, rv b, iv 0, iv t, iv le, iv sl, iv sc, iv 0, .unset, .unset, .unset, .unset, .unset]) d6_1 rfl rfl ?_
  refine C.aloadN d6_3 rfl rfl rfl ?_
  refine C.getF d6_4 rfl (tw hw 16 rfl) P1 ?_
  refine C.istore (Ls' := #[rv a, rv b, iv 0, iv t, iv le, iv sl, iv sc, iv 0, iv ln, .unset, .unset, .unset, .unset]) d6_7 rfl rfl ?_
  refine C.aloadN d6_9 rfl rfl rfl ?_
  refine C.getF d6_10 rfl (tw hw 18 rfl) P2 ?_
  refine C.istore (Ls' := #[rv a, rv b, iv 0, iv t, iv le, iv sl, iv sc, iv 0, iv ln, iv co, .unset, .unset, .unset]) d6_13 rfl rfl ?_
  refine C.aloadN d6_15 rfl rfl rfl ?_
  refine C.getF d6_16 rfl (tw hw 33 rfl) P3 ?_
  refine C.istore (Ls' := #[rv a, rv b, iv 0, iv t, iv le, iv sl, iv sc, iv 0, iv ln, iv co, iv (own_cr pv), .unset, .unset]) d6_19 rfl rfl ?_
  refine C.aloadN d6_21 rfl rfl rfl ?_
  refine C.getF d6_22 rfl (tw hw 35 rfl) P4 ?_
  refine C.istore (Ls' := #[rv a, rv b, iv 0, iv t, iv le, iv sl, iv sc, iv 0, iv ln, iv co, iv (own_cr pv), iv (own_bg pv), .unset]) d6_25 rfl rfl ?_
  have J27_3_237 : ∀ (ln3 co3 pv3 cr3 bg3 : Int32) (hcr : cr3 = own_cr pv3) (hbg : bg3 = own_bg pv3) (hE : (own_pass t le sl sc 0 [y0, y1, y2] ln co pv) = own_pass t le sl sc 3 [] ln3 co3 pv3), Go p l e ({ frames := 0, cells := 0, slots := 0, locals := 0 } : Room) s m #[(.ref a), (.ref b), (.int 0), (.int t), (.int le), (.int sl), (.int sc)] below meth c n0 (FinQ s n0 (Qcon_pass_3_0 Z n0 h0 a b t le sl sc ln co pv y0 y1 y2) ({ frames := 0, cells := 0, slots := 0, locals := 0 } : Room).cells ({ frames := 0, cells := 0, slots := 0, locals := 0 } : Room).slots) h0 0 0 27 #[rv a, rv b, iv 0, iv t, iv le, iv sl, iv sc, iv 3, iv ln3, iv co3, iv cr3, iv bg3, iv y2] [] := by
    intro ln3 co3 pv3 cr3 bg3 hcr hbg hE
    subst hcr hbg
    have J149 : ∀ (kE : (own_pass t le sl sc 0 [y0, y1, y2] ln co pv) = (3, ln3, co3, pv3)), Go p l e ({ frames := 0, cells := 0, slots := 0, locals := 0 } : Room) s m #[(.ref a), (.ref b), (.int 0), (.int t), (.int le), (.int sl), (.int sc)] below meth c n0 (FinQ s n0 (Qcon_pass_3_0 Z n0 h0 a b t le sl sc ln co pv y0 y1 y2) ({ frames := 0, cells := 0, slots := 0, locals := 0 } : Room).cells ({ frames := 0, cells := 0, slots := 0, locals := 0 } : Room).slots) h0 0 0 149 #[rv a, rv b, iv 0, iv t, iv le, iv sl, iv sc, iv 3, iv ln3, iv co3, iv (own_cr pv3), iv (own_bg pv3), iv y2] [] := by
      intro kE
      refine C.aloadN d6_149 rfl rfl rfl ?_
      refine C.iload d6_150 rfl rfl ?_
      refine C.putF d6_152 rfl (tw hw 16 rfl) P1 P0 (Or.inl (tw hw 17 rfl)) (tw hw 8 rfl) (ty := .int) (by decide) rfl rfl g_a (fun h238 W239 F240 => ?_)
      have F241 := Exa.wr W239 P0
      have F242 := Fld.other W239 P2 (Or.inr (slot_ne (C := "com/example/dodder/dodder/PlacedText$Counter") (t := .int) (t' := .int) (Or.inl (tw hw 19 rfl)) (Or.inl (tw hw 17 rfl)) (by decide) (by decide) (by decide)))
      have F243 := Fld.other W239 P3 (Or.inr (slot_ne (C := "com/example/dodder/dodder/PlacedText$Counter") (t := .boolean) (t' := .int) (Or.inl (tw hw 34 rfl)) (Or.inl (tw hw 17 rfl)) (by decide) (by decide) (by decide)))
      have F244 := Fld.other W239 P4 (Or.inr (slot_ne (C := "com/example/dodder/dodder/PlacedText$Counter") (t := .boolean) (t' := .int) (Or.inl (tw hw 36 rfl)) (Or.inl (tw hw 17 rfl)) (by decide) (by decide) (by decide)))
      have F245 := P5.other W239 (Ne.symm ne_a_b)
      refine C.aloadN d6_155 rfl rfl rfl ?_
      refine C.iload d6_156 rfl rfl ?_
      refine C.putF d6_158 rfl (tw hw 18 rfl) F242 F241 (Or.inl (tw hw 19 rfl)) (tw hw 8 rfl) (ty := .int) (by decide) rfl rfl g_a (fun h246 W247 F248 => ?_)
      have F249 := Exa.wr W247 F241
      have F250 := Fld.other W247 F243 (Or.inr (slot_ne (C := "com/example/dodder/dodder/PlacedText$Counter") (t := .boolean) (t' := .int) (Or.inl (tw hw 34 rfl)) (Or.inl (tw hw 19 rfl)) (by decide) (by decide) (by decide)))
      have F251 := Fld.other W247 F244 (Or.inr (slot_ne (C := "com/example/dodder/dodder/PlacedText$Counter") (t := .boolean) (t' := .int) (Or.inl (tw hw 36 rfl)) (Or.inl (tw hw 19 rfl)) (by decide) (by decide) (by decide)))
      have F252 := F245.other W247 (Ne.symm ne_a_b)
      have F253 := Fld.other W247 F240 (Or.inr (slot_ne (C := "com/example/dodder/dodder/PlacedText$Counter") (t := .int) (t' := .int) (Or.inl (tw hw 17 rfl)) (Or.inl (tw hw 19 rfl)) (by decide) (by decide) (by decide)))
      refine C.aloadN d6_161 rfl rfl rfl ?_
      refine C.iload d6_162 rfl rfl ?_
      refine C.putF d6_164 rfl (tw hw 33 rfl) F250 F249 (Or.inl (tw hw 34 rfl)) (tw hw 8 rfl) (ty := .boolean) (by decide) (own_crN pv3) (own_crF pv3) g_a (fun h254 W255 F256 => ?_)
      have F257 := Exa.wr W255 F249
      have F258 := Fld.other W255 F251 (Or.inr (slot_ne (C := "com/example/dodder/dodder/PlacedText$Counter") (t := .boolean) (t' := .boolean) (Or.inl (tw hw 36 rfl)) (Or.inl (tw hw 34 rfl)) (by decide) (by decide) (by decide)))
      have F259 := F252.other W255 (Ne.symm ne_a_b)
      have F260 := Fld.other W255 F253 (Or.inr (slot_ne (C := "com/example/dodder/dodder/PlacedText$Counter") (t := .int) (t' := .boolean) (Or.inl (tw hw 17 rfl)) (Or.inl (tw hw 34 rfl)) (by decide) (by decide) (by decide)))
      have F261 := Fld.other W255 F248 (Or.inr (slot_ne (C := "com/example/dodder/dodder/PlacedText$Counter") (t := .int) (t' := .boolean) (Or.inl (tw hw 19 rfl)) (Or.inl (tw hw 34 rfl)) (by decide) (by decide) (by decide)))
      refine C.aloadN d6_167 rfl rfl rfl ?_
      refine C.iload d6_168 rfl rfl ?_
      refine C.putF d6_170 rfl (tw hw 35 rfl) F258 F257 (Or.inl (tw hw 36 rfl)) (tw hw 8 rfl) (ty := .boolean) (by decide) (own_bgN pv3) (own_bgF pv3) g_a (fun h262 W263 F264 => ?_)
      have F265 := Exa.wr W263 F257
      have F266 := F259.other W263 (Ne.symm ne_a_b)
      have F267 := Fld.other W263 F260 (Or.inr (slot_ne (C := "com/example/dodder/dodder/PlacedText$Counter") (t := .int) (t' := .boolean) (Or.inl (tw hw 17 rfl)) (Or.inl (tw hw 36 rfl)) (by decide) (by decide) (by decide)))
      have F268 := Fld.other W263 F261 (Or.inr (slot_ne (C := "com/example/dodder/dodder/PlacedText$Counter") (t := .int) (t' := .boolean) (Or.inl (tw hw 19 rfl)) (Or.inl (tw hw 36 rfl)) (by decide) (by decide) (by decide)))
      have F269 := Fld.other W263 F256 (Or.inr (slot_ne (C := "com/example/dodder/dodder/PlacedText$Counter") (t := .boolean) (t' := .boolean) (Or.inl (tw hw 34 rfl)) (Or.inl (tw hw 36 rfl)) (by decide) (by decide) (by decide)))
      refine C.iload d6_173 rfl rfl ?_
      exact C.retI d6_175 (by decide) (by decide) ⟨(by rw [kE]), (((((Keep.refl h0 [a]).wr W239 (Or.inl (List.mem_of_getElem? (i := 0) rfl))).wr W247 (Or.inl (List.mem_of_getElem? (i := 0) rfl))).wr W255 (Or.inl (List.mem_of_getElem? (i := 0) rfl))).wr W263 (Or.inl (List.mem_of_getElem? (i := 0) rfl))), (by rw [kE]; exact F267), (by rw [kE]; exact F268), (by rw [kE]; exact F269), (by rw [kE]; exact F264)⟩
    rcases own_pv pv3 with ⟨hp, e1, e2⟩ | ⟨hp, e1, e2⟩ | ⟨hp, e1, e2⟩
    · rw [e1, e2] at J149 ⊢
      refine C.iload d6_27 rfl rfl ?_
      refine C.iloadN d6_29 rfl rfl ?_
      refine C.icmp_ge_t d6_30 (by decide) rfl hto ?_
      exact J149 hE
    · rw [e1, e2] at J149 ⊢
      refine C.iload d6_27 rfl rfl ?_
      refine C.iloadN d6_29 rfl rfl ?_
      refine C.icmp_ge_t d6_30 (by decide) rfl hto ?_
      exact J149 hE
    rw [e1, e2] at J149 ⊢
    refine C.iload d6_27 rfl rfl ?_
    refine C.iloadN d6_29 rfl rfl ?_
    refine C.icmp_ge_t d6_30 (by decide) rfl hto ?_
    exact J149 hE
  have J27_2_270 : ∀ (ln2 co2 pv2 cr2 bg2 : Int32) (hcr : cr2 = own_cr pv2) (hbg : bg2 = own_bg pv2) (hE : (own_pass t le sl sc 0 [y0, y1, y2] ln co pv) = own_pass t le sl sc 2 [y2] ln2 co2 pv2), Go p l e ({ frames := 0, cells := 0, slots := 0, locals := 0 } : Room) s m #[(.ref a), (.ref b), (.int 0), (.int t), (.int le), (.int sl), (.int sc)] below meth c n0 (FinQ s n0 (Qcon_pass_3_0 Z n0 h0 a b t le sl sc ln co pv y0 y1 y2) ({ frames := 0, cells := 0, slots := 0, locals := 0 } : Room).cells ({ frames := 0, cells := 0, slots := 0, locals := 0 } : Room).slots) h0 0 0 27 #[rv a, rv b, iv 0, iv t, iv le, iv sl, iv sc, iv 2, iv ln2, iv co2, iv cr2, iv bg2, iv y1] [] := by
    intro ln2 co2 pv2 cr2 bg2 hcr hbg hE
    subst hcr hbg
    have J149 : ∀ (kE : (own_pass t le sl sc 0 [y0, y1, y2] ln co pv) = (2, ln2, co2, pv2)), Go p l e ({ frames := 0, cells := 0, slots := 0, locals := 0 } : Room) s m #[(.ref a), (.ref b), (.int 0), (.int t), (.int le), (.int sl), (.int sc)] below meth c n0 (FinQ s n0 (Qcon_pass_3_0 Z n0 h0 a b t le sl sc ln co pv y0 y1 y2) ({ frames := 0, cells := 0, slots := 0, locals := 0 } : Room).cells ({ frames := 0, cells := 0, slots := 0, locals := 0 } : Room).slots) h0 0 0 149 #[rv a, rv b, iv 0, iv t, iv le, iv sl, iv sc, iv 2, iv ln2, iv co2, iv (own_cr pv2), iv (own_bg pv2), iv y1] [] := by
      intro kE
      refine C.aloadN d6_149 rfl rfl rfl ?_
      refine C.iload d6_150 rfl rfl ?_
      refine C.putF d6_152 rfl (tw hw 16 rfl) P1 P0 (Or.inl (tw hw 17 rfl)) (tw hw 8 rfl) (ty := .int) (by decide) rfl rfl g_a (fun h271 W272 F273 => ?_)
      have F274 := Exa.wr W272 P0
      have F275 := Fld.other W272 P2 (Or.inr (slot_ne (C := "com/example/dodder/dodder/PlacedText$Counter") (t := .int) (t' := .int) (Or.inl (tw hw 19 rfl)) (Or.inl (tw hw 17 rfl)) (by decide) (by decide) (by decide)))
      have F276 := Fld.other W272 P3 (Or.inr (slot_ne (C := "com/example/dodder/dodder/PlacedText$Counter") (t := .boolean) (t' := .int) (Or.inl (tw hw 34 rfl)) (Or.inl (tw hw 17 rfl)) (by decide) (by decide) (by decide)))
      have F277 := Fld.other W272 P4 (Or.inr (slot_ne (C := "com/example/dodder/dodder/PlacedText$Counter") (t := .boolean) (t' := .int) (Or.inl (tw hw 36 rfl)) (Or.inl (tw hw 17 rfl)) (by decide) (by decide) (by decide)))
      have F278 := P5.other W272 (Ne.symm ne_a_b)
      refine C.aloadN d6_155 rfl rfl rfl ?_
      refine C.iload d6_156 rfl rfl ?_
      refine C.putF d6_158 rfl (tw hw 18 rfl) F275 F274 (Or.inl (tw hw 19 rfl)) (tw hw 8 rfl) (ty := .int) (by decide) rfl rfl g_a (fun h279 W280 F281 => ?_)
      have F282 := Exa.wr W280 F274
      have F283 := Fld.other W280 F276 (Or.inr (slot_ne (C := "com/example/dodder/dodder/PlacedText$Counter") (t := .boolean) (t' := .int) (Or.inl (tw hw 34 rfl)) (Or.inl (tw hw 19 rfl)) (by decide) (by decide) (by decide)))
      have F284 := Fld.other W280 F277 (Or.inr (slot_ne (C := "com/example/dodder/dodder/PlacedText$Counter") (t := .boolean) (t' := .int) (Or.inl (tw hw 36 rfl)) (Or.inl (tw hw 19 rfl)) (by decide) (by decide) (by decide)))
      have F285 := F278.other W280 (Ne.symm ne_a_b)
      have F286 := Fld.other W280 F273 (Or.inr (slot_ne (C := "com/example/dodder/dodder/PlacedText$Counter") (t := .int) (t' := .int) (Or.inl (tw hw 17 rfl)) (Or.inl (tw hw 19 rfl)) (by decide) (by decide) (by decide)))
      refine C.aloadN d6_161 rfl rfl rfl ?_
      refine C.iload d6_162 rfl rfl ?_
      refine C.putF d6_164 rfl (tw hw 33 rfl) F283 F282 (Or.inl (tw hw 34 rfl)) (tw hw 8 rfl) (ty := .boolean) (by decide) (own_crN pv2) (own_crF pv2) g_a (fun h287 W288 F289 => ?_)
      have F290 := Exa.wr W288 F282
      have F291 := Fld.other W288 F284 (Or.inr (slot_ne (C := "com/example/dodder/dodder/PlacedText$Counter") (t := .boolean) (t' := .boolean) (Or.inl (tw hw 36 rfl)) (Or.inl (tw hw 34 rfl)) (by decide) (by decide) (by decide)))
      have F292 := F285.other W288 (Ne.symm ne_a_b)
      have F293 := Fld.other W288 F286 (Or.inr (slot_ne (C := "com/example/dodder/dodder/PlacedText$Counter") (t := .int) (t' := .boolean) (Or.inl (tw hw 17 rfl)) (Or.inl (tw hw 34 rfl)) (by decide) (by decide) (by decide)))
      have F294 := Fld.other W288 F281 (Or.inr (slot_ne (C := "com/example/dodder/dodder/PlacedText$Counter") (t := .int) (t' := .boolean) (Or.inl (tw hw 19 rfl)) (Or.inl (tw hw 34 rfl)) (by decide) (by decide) (by decide)))
      refine C.aloadN d6_167 rfl rfl rfl ?_
      refine C.iload d6_168 rfl rfl ?_
      refine C.putF d6_170 rfl (tw hw 35 rfl) F291 F290 (Or.inl (tw hw 36 rfl)) (tw hw 8 rfl) (ty := .boolean) (by decide) (own_bgN pv2) (own_bgF pv2) g_a (fun h295 W296 F297 => ?_)
      have F298 := Exa.wr W296 F290
      have F299 := F292.other W296 (Ne.symm ne_a_b)
      have F300 := Fld.other W296 F293 (Or.inr (slot_ne (C := "com/example/dodder/dodder/PlacedText$Counter") (t := .int) (t' := .boolean) (Or.inl (tw hw 17 rfl)) (Or.inl (tw hw 36 rfl)) (by decide) (by decide) (by decide)))
      have F301 := Fld.other W296 F294 (Or.inr (slot_ne (C := "com/example/dodder/dodder/PlacedText$Counter") (t := .int) (t' := .boolean) (Or.inl (tw hw 19 rfl)) (Or.inl (tw hw 36 rfl)) (by decide) (by decide) (by decide)))
      have F302 := Fld.other W296 F289 (Or.inr (slot_ne (C := "com/example/dodder/dodder/PlacedText$Counter") (t := .boolean) (t' := .boolean) (Or.inl (tw hw 34 rfl)) (Or.inl (tw hw 36 rfl)) (by decide) (by decide) (by decide)))
      refine C.iload d6_173 rfl rfl ?_
      exact C.retI d6_175 (by decide) (by decide) ⟨(by rw [kE]), (((((Keep.refl h0 [a]).wr W272 (Or.inl (List.mem_of_getElem? (i := 0) rfl))).wr W280 (Or.inl (List.mem_of_getElem? (i := 0) rfl))).wr W288 (Or.inl (List.mem_of_getElem? (i := 0) rfl))).wr W296 (Or.inl (List.mem_of_getElem? (i := 0) rfl))), (by rw [kE]; exact F300), (by rw [kE]; exact F301), (by rw [kE]; exact F302), (by rw [kE]; exact F297)⟩
    rcases own_pv pv2 with ⟨hp, e1, e2⟩ | ⟨hp, e1, e2⟩ | ⟨hp, e1, e2⟩
    · rw [e1, e2] at J149 ⊢
      refine C.iload d6_27 rfl rfl ?_
      refine C.iloadN d6_29 rfl rfl ?_
      have J61_303 : ∀ (hc : 2 < t ∧ (2 < le ∨ ln2 < sl ∨ (ln2 = sl ∧ co2 < sc))), Go p l e ({ frames := 0, cells := 0, slots := 0, locals := 0 } : Room) s m #[(.ref a), (.ref b), (.int 0), (.int t), (.int le), (.int sl), (.int sc)] below meth c n0 (FinQ s n0 (Qcon_pass_3_0 Z n0 h0 a b t le sl sc ln co pv y0 y1 y2) ({ frames := 0, cells := 0, slots := 0, locals := 0 } : Room).cells ({ frames := 0, cells := 0, slots := 0, locals := 0 } : Room).slots) h0 0 0 61 #[rv a, rv b, iv 0, iv t, iv le, iv sl, iv sc, iv 2, iv ln2, iv co2, iv 1, iv 1, iv y1] [] := by
        intro hc
        refine C.aloadN d6_61 rfl rfl rfl ?_
        refine C.iload d6_62 rfl rfl ?_
        refine C.caload (.int y2) d6_64 rfl P5 (by decide) rfl ?_
        refine C.istore (Ls' := #[rv a, rv b, iv 0, iv t, iv le, iv sl, iv sc, iv 2, iv ln2, iv co2, iv 1, iv 1, iv y2]) d6_65 rfl rfl ?_
        refine C.iload d6_67 rfl rfl ?_
        refine C.bipush 10 d6_69 rfl rfl ?_
        refine C.icmp_ne d6_71 (by decide) rfl rfl (fun q71 => ?_) (fun q71 => ?_)
        · refine C.iload d6_85 rfl rfl ?_
          refine C.bipush 10 d6_87 rfl rfl ?_
          refine C.icmp_eq_f d6_89 rfl q71 ?_
          refine C.iload d6_92 rfl rfl ?_
          refine C.bipush 13 d6_94 rfl rfl ?_
          refine C.icmp_ne d6_96 (by decide) rfl rfl (fun q96 => ?_) (fun q96 => ?_)
          · refine C.iload d6_122 rfl rfl ?_
            refine C.if_ne_t d6_124 (by decide) rfl (by decide) ?_
            refine C.iinc (Ls' := #[rv a, rv b, iv 0, iv t, iv le, iv sl, iv sc, iv 2, iv ln2, iv (co2 + 1), iv 1, iv 1, iv y2]) 1 d6_134 rfl rfl rfl rfl ?_
            refine C.iconst 0 d6_137 rfl rfl ?_
            refine C.istore (Ls' := #[rv a, rv b, iv 0, iv t, iv le, iv sl, iv sc, iv 2, iv ln2, iv (co2 + 1), iv 0, iv 1, iv y2]) d6_138 rfl rfl ?_
            refine C.iconst 1 d6_140 rfl rfl ?_
            refine C.istore (Ls' := #[rv a, rv b, iv 0, iv t, iv le, iv sl, iv sc, iv 2, iv ln2, iv (co2 + 1), iv 0, iv 1, iv y2]) d6_141 rfl rfl ?_
            refine C.iinc (Ls' := #[rv a, rv b, iv 0, iv t, iv le, iv sl, iv sc, iv 3, iv ln2, iv (co2 + 1), iv 0, iv 1, iv y2]) 1 d6_143 rfl rfl rfl rfl ?_
            refine C.goto d6_146 (by decide) rfl ?_
            have k1 : own_ln ln2 pv2 y2 = ln2 := by simp [own_ln, hp, hc, q71, q96]
            have k2 : own_cl co2 pv2 y2 = (co2 + 1) := by simp [own_cl, hp, hc, q71, q96]
            have k3 : 0 = own_cr y2 := by simp [own_cr, hp, hc, q71, q96]
            have k4 : 1 = own_bg y2 := by simp [own_bg, hy2]
            exact J27_3_237 ln2 (co2 + 1) y2 0 1 k3 k4 (hE.trans ((own_go hc).trans (by rw [k1, k2]; rfl)))
          refine C.iinc (Ls' := #[rv a, rv b, iv 0, iv t, iv le, iv sl, iv sc, iv 2, iv (ln2 + 1), iv co2, iv 1, iv 1, iv y2]) 1 d6_99 rfl rfl rfl rfl ?_
          refine C.iconst 1 d6_102 rfl rfl ?_
          refine C.istore (Ls' := #[rv a, rv b, iv 0, iv t, iv le, iv sl, iv sc, iv 2, iv (ln2 + 1), iv 1, iv 1, iv 1, iv y2]) d6_103 rfl rfl ?_
          refine C.iload d6_105 rfl rfl ?_
          refine C.bipush 13 d6_107 rfl rfl ?_
          refine C.icmp_ne_f d6_109 rfl q96 ?_
          refine C.iconst 1 d6_112 rfl rfl ?_
          refine C.goto d6_113 (by decide) rfl ?_
          refine C.istore (Ls' := #[rv a, rv b, iv 0, iv t, iv le, iv sl, iv sc, iv 2, iv (ln2 + 1), iv 1, iv 1, iv 1, iv y2]) d6_117 rfl rfl ?_
          refine C.goto d6_119 (by decide) rfl ?_
          refine C.iconst 1 d6_140 rfl rfl ?_
          refine C.istore (Ls' := #[rv a, rv b, iv 0, iv t, iv le, iv sl, iv sc, iv 2, iv (ln2 + 1), iv 1, iv 1, iv 1, iv y2]) d6_141 rfl rfl ?_
          refine C.iinc (Ls' := #[rv a, rv b, iv 0, iv t, iv le, iv sl, iv sc, iv 3, iv (ln2 + 1), iv 1, iv 1, iv 1, iv y2]) 1 d6_143 rfl rfl rfl rfl ?_
          refine C.goto d6_146 (by decide) rfl ?_
          have k1 : own_ln ln2 pv2 y2 = (ln2 + 1) := by simp [own_ln, hp, hc, q71, q96]
          have k2 : own_cl co2 pv2 y2 = 1 := by simp [own_cl, hp, hc, q71, q96]
          have k3 : 1 = own_cr y2 := by simp [own_cr, hp, hc, q71, q96]
          have k4 : 1 = own_bg y2 := by simp [own_bg, hy2]
          exact J27_3_237 (ln2 + 1) 1 y2 1 1 k3 k4 (hE.trans ((own_go hc).trans (by rw [k1, k2]; rfl)))
        refine C.iload d6_74 rfl rfl ?_
        refine C.if_eq_f d6_76 rfl (by decide) ?_
        refine C.iconst 0 d6_79 rfl rfl ?_
        refine C.istore (Ls' := #[rv a, rv b, iv 0, iv t, iv le, iv sl, iv sc, iv 2, iv ln2, iv co2, iv 0, iv 1, iv y2]) d6_80 rfl rfl ?_
        refine C.goto d6_82 (by decide) rfl ?_
        refine C.iconst 1 d6_140 rfl rfl ?_
        refine C.istore (Ls' := #[rv a, rv b, iv 0, iv t, iv le, iv sl, iv sc, iv 2, iv ln2, iv co2, iv 0, iv 1, iv y2]) d6_141 rfl rfl ?_
        refine C.iinc (Ls' := #[rv a, rv b, iv 0, iv t, iv le, iv sl, iv sc, iv 3, iv ln2, iv co2, iv 0, iv 1, iv y2]) 1 d6_143 rfl rfl rfl rfl ?_
        refine C.goto d6_146 (by decide) rfl ?_
        have k1 : own_ln ln2 pv2 y2 = ln2 := by simp [own_ln, hp, hc, q71]
        have k2 : own_cl co2 pv2 y2 = co2 := by simp [own_cl, hp, hc, q71]
        have k3 : 0 = own_cr y2 := by simp [own_cr, hp, hc, q71]
        have k4 : 1 = own_bg y2 := by simp [own_bg, hy2]
        exact J27_3_237 ln2 co2 y2 0 1 k3 k4 (hE.trans ((own_go hc).trans (by rw [k1, k2]; rfl)))
      refine C.icmp_ge d6_30 (by decide) rfl rfl (fun q30 => ?_) (fun q30 => ?_)
      · exact J149 (hE.trans (own_no (fun h => q30 h.1)))
      refine C.iload d6_33 rfl rfl ?_
      refine C.iload d6_35 rfl rfl ?_
      refine C.icmp_lt d6_37 (by decide) rfl rfl (fun q37 => ?_) (fun q37 => ?_)
      · exact J61_303 ⟨q30, Or.inl q37⟩
      refine C.iload d6_40 rfl rfl ?_
      refine C.iload d6_42 rfl rfl ?_
      refine C.icmp_lt d6_44 (by decide) rfl rfl (fun q44 => ?_) (fun q44 => ?_)
      · exact J61_303 ⟨q30, Or.inr (Or.inl q44)⟩
      refine C.iload d6_47 rfl rfl ?_
      refine C.iload d6_49 rfl rfl ?_
      refine C.icmp_ne d6_51 (by decide) rfl rfl (fun q51 => ?_) (fun q51 => ?_)
      · exact J149 (hE.trans (own_no (fun h => h.2.elim q37 fun h => h.elim q44 fun h => q51 h.1)))
      refine C.iload d6_54 rfl rfl ?_
      refine C.iload d6_56 rfl rfl ?_
      refine C.icmp_ge d6_58 (by decide) rfl rfl (fun q58 => ?_) (fun q58 => ?_)
      · exact J149 (hE.trans (own_no (fun h => h.2.elim q37 fun h => h.elim q44 fun h => q58 h.2)))
      exact J61_303 ⟨q30, Or.inr (Or.inr ⟨q51, q58⟩)⟩
    · rw [e1, e2] at J149 ⊢
      refine C.iload d6_27 rfl rfl ?_
      refine C.iloadN d6_29 rfl rfl ?_
      have J61_304 : ∀ (hc : 2 < t ∧ (2 < le ∨ ln2 < sl ∨ (ln2 = sl ∧ co2 < sc))), Go p l e ({ frames := 0, cells := 0, slots := 0, locals := 0 } : Room) s m #[(.ref a), (.ref b), (.int 0), (.int t), (.int le), (.int sl), (.int sc)] below meth c n0 (FinQ s n0 (Qcon_pass_3_0 Z n0 h0 a b t le sl sc ln co pv y0 y1 y2) ({ frames := 0, cells := 0, slots := 0, locals := 0 } : Room).cells ({ frames := 0, cells := 0, slots := 0, locals := 0 } : Room).slots) h0 0 0 61 #[rv a, rv b, iv 0, iv t, iv le, iv sl, iv sc, iv 2, iv ln2, iv co2, iv 0, iv 0, iv y1] [] := by
        intro hc
        refine C.aloadN d6_61 rfl rfl rfl ?_
        refine C.iload d6_62 rfl rfl ?_
        refine C.caload (.int y2) d6_64 rfl P5 (by decide) rfl ?_
        refine C.istore (Ls' := #[rv a, rv b, iv 0, iv t, iv le, iv sl, iv sc, iv 2, iv ln2, iv co2, iv 0, iv 0, iv y2]) d6_65 rfl rfl ?_
        refine C.iload d6_67 rfl rfl ?_
        refine C.bipush 10 d6_69 rfl rfl ?_
        refine C.icmp_ne d6_71 (by decide) rfl rfl (fun q71 => ?_) (fun q71 => ?_)
        · refine C.iload d6_85 rfl rfl ?_
          refine C.bipush 10 d6_87 rfl rfl ?_
          refine C.icmp_eq_f d6_89 rfl q71 ?_
          refine C.iload d6_92 rfl rfl ?_
          refine C.bipush 13 d6_94 rfl rfl ?_
          refine C.icmp_ne d6_96 (by decide) rfl rfl (fun q96 => ?_) (fun q96 => ?_)
          · refine C.iload d6_122 rfl rfl ?_
            refine C.if_ne_f d6_124 rfl (by decide) ?_
            refine C.iload d6_127 rfl rfl ?_
            refine C.ldcI d6_129 rfl (tw hw 47 rfl) ?_
            refine C.icmp_eq d6_131 (by decide) rfl rfl (fun q131 => ?_) (fun q131 => ?_)
            · refine C.iconst 1 d6_140 rfl rfl ?_
              refine C.istore (Ls' := #[rv a, rv b, iv 0, iv t, iv le, iv sl, iv sc, iv 2, iv ln2, iv co2, iv 0, iv 1, iv y2]) d6_141 rfl rfl ?_
              refine C.iinc (Ls' := #[rv a, rv b, iv 0, iv t, iv le, iv sl, iv sc, iv 3, iv ln2, iv co2, iv 0, iv 1, iv y2]) 1 d6_143 rfl rfl rfl rfl ?_
              refine C.goto d6_146 (by decide) rfl ?_
              have k1 : own_ln ln2 pv2 y2 = ln2 := by simp [own_ln, hp, hc, q71, q96, q131]
              have k2 : own_cl co2 pv2 y2 = co2 := by simp [own_cl, hp, hc, q71, q96, q131]
              have k3 : 0 = own_cr y2 := by simp [own_cr, hp, hc, q71, q96, q131]
              have k4 : 1 = own_bg y2 := by simp [own_bg, hy2]
              exact J27_3_237 ln2 co2 y2 0 1 k3 k4 (hE.trans ((own_go hc).trans (by rw [k1, k2]; rfl)))
            refine C.iinc (Ls' := #[rv a, rv b, iv 0, iv t, iv le, iv sl, iv sc, iv 2, iv ln2, iv (co2 + 1), iv 0, iv 0, iv y2]) 1 d6_134 rfl rfl rfl rfl ?_
            refine C.iconst 0 d6_137 rfl rfl ?_
            refine C.istore (Ls' := #[rv a, rv b, iv 0, iv t, iv le, iv sl, iv sc, iv 2, iv ln2, iv (co2 + 1), iv 0, iv 0, iv y2]) d6_138 rfl rfl ?_
            refine C.iconst 1 d6_140 rfl rfl ?_
            refine C.istore (Ls' := #[rv a, rv b, iv 0, iv t, iv le, iv sl, iv sc, iv 2, iv ln2, iv (co2 + 1), iv 0, iv 1, iv y2]) d6_141 rfl rfl ?_
            refine C.iinc (Ls' := #[rv a, rv b, iv 0, iv t, iv le, iv sl, iv sc, iv 3, iv ln2, iv (co2 + 1), iv 0, iv 1, iv y2]) 1 d6_143 rfl rfl rfl rfl ?_
            refine C.goto d6_146 (by decide) rfl ?_
            have k1 : own_ln ln2 pv2 y2 = ln2 := by simp [own_ln, hp, hc, q71, q96, q131]
            have k2 : own_cl co2 pv2 y2 = (co2 + 1) := by simp [own_cl, hp, hc, q71, q96, q131]
            have k3 : 0 = own_cr y2 := by simp [own_cr, hp, hc, q71, q96, q131]
            have k4 : 1 = own_bg y2 := by simp [own_bg, hy2]
            exact J27_3_237 ln2 (co2 + 1) y2 0 1 k3 k4 (hE.trans ((own_go hc).trans (by rw [k1, k2]; rfl)))
          refine C.iinc (Ls' := #[rv a, rv b, iv 0, iv t, iv le, iv sl, iv sc, iv 2, iv (ln2 + 1), iv co2, iv 0, iv 0, iv y2]) 1 d6_99 rfl rfl rfl rfl ?_
          refine C.iconst 1 d6_102 rfl rfl ?_
          refine C.istore (Ls' := #[rv a, rv b, iv 0, iv t, iv le, iv sl, iv sc, iv 2, iv (ln2 + 1), iv 1, iv 0, iv 0, iv y2]) d6_103 rfl rfl ?_
          refine C.iload d6_105 rfl rfl ?_
          refine C.bipush 13 d6_107 rfl rfl ?_
          refine C.icmp_ne_f d6_109 rfl q96 ?_
          refine C.iconst 1 d6_112 rfl rfl ?_
          refine C.goto d6_113 (by decide) rfl ?_
          refine C.istore (Ls' := #[rv a, rv b, iv 0, iv t, iv le, iv sl, iv sc, iv 2, iv (ln2 + 1), iv 1, iv 1, iv 0, iv y2]) d6_117 rfl rfl ?_
          refine C.goto d6_119 (by decide) rfl ?_
          refine C.iconst 1 d6_140 rfl rfl ?_
          refine C.istore (Ls' := #[rv a, rv b, iv 0, iv t, iv le, iv sl, iv sc, iv 2, iv (ln2 + 1), iv 1, iv 1, iv 1, iv y2]) d6_141 rfl rfl ?_
          refine C.iinc (Ls' := #[rv a, rv b, iv 0, iv t, iv le, iv sl, iv sc, iv 3, iv (ln2 + 1), iv 1, iv 1, iv 1, iv y2]) 1 d6_143 rfl rfl rfl rfl ?_
          refine C.goto d6_146 (by decide) rfl ?_
          have k1 : own_ln ln2 pv2 y2 = (ln2 + 1) := by simp [own_ln, hp, hc, q71, q96]
          have k2 : own_cl co2 pv2 y2 = 1 := by simp [own_cl, hp, hc, q71, q96]
          have k3 : 1 = own_cr y2 := by simp [own_cr, hp, hc, q71, q96]
          have k4 : 1 = own_bg y2 := by simp [own_bg, hy2]
          exact J27_3_237 (ln2 + 1) 1 y2 1 1 k3 k4 (hE.trans ((own_go hc).trans (by rw [k1, k2]; rfl)))
        refine C.iload d6_74 rfl rfl ?_
        refine C.if_eq_t d6_76 (by decide) rfl (by decide) ?_
        refine C.iload d6_85 rfl rfl ?_
        refine C.bipush 10 d6_87 rfl rfl ?_
        refine C.icmp_eq_t d6_89 (by decide) rfl q71 ?_
        refine C.iinc (Ls' := #[rv a, rv b, iv 0, iv t, iv le, iv sl, iv sc, iv 2, iv (ln2 + 1), iv co2, iv 0, iv 0, iv y2]) 1 d6_99 rfl rfl rfl rfl ?_
        refine C.iconst 1 d6_102 rfl rfl ?_
        refine C.istore (Ls' := #[rv a, rv b, iv 0, iv t, iv le, iv sl, iv sc, iv 2, iv (ln2 + 1), iv 1, iv 0, iv 0, iv y2]) d6_103 rfl rfl ?_
        refine C.iload d6_105 rfl rfl ?_
        refine C.bipush 13 d6_107 rfl rfl ?_
        refine C.icmp_ne_t d6_109 (by decide) rfl (by rw [q71]; decide) ?_
        refine C.iconst 0 d6_116 rfl rfl ?_
        refine C.istore (Ls' := #[rv a, rv b, iv 0, iv t, iv le, iv sl, iv sc, iv 2, iv (ln2 + 1), iv 1, iv 0, iv 0, iv y2]) d6_117 rfl rfl ?_
        refine C.goto d6_119 (by decide) rfl ?_
        refine C.iconst 1 d6_140 rfl rfl ?_
        refine C.istore (Ls' := #[rv a, rv b, iv 0, iv t, iv le, iv sl, iv sc, iv 2, iv (ln2 + 1), iv 1, iv 0, iv 1, iv y2]) d6_141 rfl rfl ?_
        refine C.iinc (Ls' := #[rv a, rv b, iv 0, iv t, iv le, iv sl, iv sc, iv 3, iv (ln2 + 1), iv 1, iv 0, iv 1, iv y2]) 1 d6_143 rfl rfl rfl rfl ?_
        refine C.goto d6_146 (by decide) rfl ?_
        have k1 : own_ln ln2 pv2 y2 = (ln2 + 1) := by simp [own_ln, hp, hc, q71]
        have k2 : own_cl co2 pv2 y2 = 1 := by simp [own_cl, hp, hc, q71]
        have k3 : 0 = own_cr y2 := by simp [own_cr, hp, hc, q71]
        have k4 : 1 = own_bg y2 := by simp [own_bg, hy2]
        exact J27_3_237 (ln2 + 1) 1 y2 0 1 k3 k4 (hE.trans ((own_go hc).trans (by rw [k1, k2]; rfl)))
      refine C.icmp_ge d6_30 (by decide) rfl rfl (fun q30 => ?_) (fun q30 => ?_)
      · exact J149 (hE.trans (own_no (fun h => q30 h.1)))
      refine C.iload d6_33 rfl rfl ?_
      refine C.iload d6_35 rfl rfl ?_
      refine C.icmp_lt d6_37 (by decide) rfl rfl (fun q37 => ?_) (fun q37 => ?_)
      · exact J61_304 ⟨q30, Or.inl q37⟩
      refine C.iload d6_40 rfl rfl ?_
      refine C.iload d6_42 rfl rfl ?_
      refine C.icmp_lt d6_44 (by decide) rfl rfl (fun q44 => ?_) (fun q44 => ?_)
      · exact J61_304 ⟨q30, Or.inr (Or.inl q44)⟩
      refine C.iload d6_47 rfl rfl ?_
      refine C.iload d6_49 rfl rfl ?_
      refine C.icmp_ne d6_51 (by decide) rfl rfl (fun q51 => ?_) (fun q51 => ?_)
      · exact J149 (hE.trans (own_no (fun h => h.2.elim q37 fun h => h.elim q44 fun h => q51 h.1)))
      refine C.iload d6_54 rfl rfl ?_
      refine C.iload d6_56 rfl rfl ?_
      refine C.icmp_ge d6_58 (by decide) rfl rfl (fun q58 => ?_) (fun q58 => ?_)
      · exact J149 (hE.trans (own_no (fun h => h.2.elim q37 fun h => h.elim q44 fun h => q58 h.2)))
      exact J61_304 ⟨q30, Or.inr (Or.inr ⟨q51, q58⟩)⟩
    rw [e1, e2] at J149 ⊢
    refine C.iload d6_27 rfl rfl ?_
    refine C.iloadN d6_29 rfl rfl ?_
    have J61_305 : ∀ (hc : 2 < t ∧ (2 < le ∨ ln2 < sl ∨ (ln2 = sl ∧ co2 < sc))), Go p l e ({ frames := 0, cells := 0, slots := 0, locals := 0 } : Room) s m #[(.ref a), (.ref b), (.int 0), (.int t), (.int le), (.int sl), (.int sc)] below meth c n0 (FinQ s n0 (Qcon_pass_3_0 Z n0 h0 a b t le sl sc ln co pv y0 y1 y2) ({ frames := 0, cells := 0, slots := 0, locals := 0 } : Room).cells ({ frames := 0, cells := 0, slots := 0, locals := 0 } : Room).slots) h0 0 0 61 #[rv a, rv b, iv 0, iv t, iv le, iv sl, iv sc, iv 2, iv ln2, iv co2, iv 0, iv 1, iv y1] [] := by
      intro hc
      refine C.aloadN d6_61 rfl rfl rfl ?_
      refine C.iload d6_62 rfl rfl ?_
      refine C.caload (.int y2) d6_64 rfl P5 (by decide) rfl ?_
      refine C.istore (Ls' := #[rv a, rv b, iv 0, iv t, iv le, iv sl, iv sc, iv 2, iv ln2, iv co2, iv 0, iv 1, iv y2]) d6_65 rfl rfl ?_
      refine C.iload d6_67 rfl rfl ?_
      refine C.bipush 10 d6_69 rfl rfl ?_
      refine C.icmp_ne d6_71 (by decide) rfl rfl (fun q71 => ?_) (fun q71 => ?_)
      · refine C.iload d6_85 rfl rfl ?_
        refine C.bipush 10 d6_87 rfl rfl ?_
        refine C.icmp_eq_f d6_89 rfl q71 ?_
        refine C.iload d6_92 rfl rfl ?_
        refine C.bipush 13 d6_94 rfl rfl ?_
        refine C.icmp_ne d6_96 (by decide) rfl rfl (fun q96 => ?_) (fun q96 => ?_)
        · refine C.iload d6_122 rfl rfl ?_
          refine C.if_ne_t d6_124 (by decide) rfl (by decide) ?_
          refine C.iinc (Ls' := #[rv a, rv b, iv 0, iv t, iv le, iv sl, iv sc, iv 2, iv ln2, iv (co2 + 1), iv 0, iv 1, iv y2]) 1 d6_134 rfl rfl rfl rfl ?_
          refine C.iconst 0 d6_137 rfl rfl ?_
          refine C.istore (Ls' := #[rv a, rv b, iv 0, iv t, iv le, iv sl, iv sc, iv 2, iv ln2, iv (co2 + 1), iv 0, iv 1, iv y2]) d6_138 rfl rfl ?_
          refine C.iconst 1 d6_140 rfl rfl ?_
          refine C.istore (Ls' := #[rv a, rv b, iv 0, iv t, iv le, iv sl, iv sc, iv 2, iv ln2, iv (co2 + 1), iv 0, iv 1, iv y2]) d6_141 rfl rfl ?_
          refine C.iinc (Ls' := #[rv a, rv b, iv 0, iv t, iv le, iv sl, iv sc, iv 3, iv ln2, iv (co2 + 1), iv 0, iv 1, iv y2]) 1 d6_143 rfl rfl rfl rfl ?_
          refine C.goto d6_146 (by decide) rfl ?_
          have k1 : own_ln ln2 pv2 y2 = ln2 := by simp [own_ln, hp.1, hp.2, hc, q71, q96]
          have k2 : own_cl co2 pv2 y2 = (co2 + 1) := by simp [own_cl, hp.1, hp.2, hc, q71, q96]
          have k3 : 0 = own_cr y2 := by simp [own_cr, hp.1, hp.2, hc, q71, q96]
          have k4 : 1 = own_bg y2 := by simp [own_bg, hy2]
          exact J27_3_237 ln2 (co2 + 1) y2 0 1 k3 k4 (hE.trans ((own_go hc).trans (by rw [k1, k2]; rfl)))
        refine C.iinc (Ls' := #[rv a, rv b, iv 0, iv t, iv le, iv sl, iv sc, iv 2, iv (ln2 + 1), iv co2, iv 0, iv 1, iv y2]) 1 d6_99 rfl rfl rfl rfl ?_
        refine C.iconst 1 d6_102 rfl rfl ?_
        refine C.istore (Ls' := #[rv a, rv b, iv 0, iv t, iv le, iv sl, iv sc, iv 2, iv (ln2 + 1), iv 1, iv 0, iv 1, iv y2]) d6_103 rfl rfl ?_
        refine C.iload d6_105 rfl rfl ?_
        refine C.bipush 13 d6_107 rfl rfl ?_
        refine C.icmp_ne_f d6_109 rfl q96 ?_
        refine C.iconst 1 d6_112 rfl rfl ?_
        refine C.goto d6_113 (by decide) rfl ?_
        refine C.istore (Ls' := #[rv a, rv b, iv 0, iv t, iv le, iv sl, iv sc, iv 2, iv (ln2 + 1), iv 1, iv 1, iv 1, iv y2]) d6_117 rfl rfl ?_
        refine C.goto d6_119 (by decide) rfl ?_
        refine C.iconst 1 d6_140 rfl rfl ?_
        refine C.istore (Ls' := #[rv a, rv b, iv 0, iv t, iv le, iv sl, iv sc, iv 2, iv (ln2 + 1), iv 1, iv 1, iv 1, iv y2]) d6_141 rfl rfl ?_
        refine C.iinc (Ls' := #[rv a, rv b, iv 0, iv t, iv le, iv sl, iv sc, iv 3, iv (ln2 + 1), iv 1, iv 1, iv 1, iv y2]) 1 d6_143 rfl rfl rfl rfl ?_
        refine C.goto d6_146 (by decide) rfl ?_
        have k1 : own_ln ln2 pv2 y2 = (ln2 + 1) := by simp [own_ln, hp.1, hp.2, hc, q71, q96]
        have k2 : own_cl co2 pv2 y2 = 1 := by simp [own_cl, hp.1, hp.2, hc, q71, q96]
        have k3 : 1 = own_cr y2 := by simp [own_cr, hp.1, hp.2, hc, q71, q96]
        have k4 : 1 = own_bg y2 := by simp [own_bg, hy2]
        exact J27_3_237 (ln2 + 1) 1 y2 1 1 k3 k4 (hE.trans ((own_go hc).trans (by rw [k1, k2]; rfl)))
      refine C.iload d6_74 rfl rfl ?_
      refine C.if_eq_t d6_76 (by decide) rfl (by decide) ?_
      refine C.iload d6_85 rfl rfl ?_
      refine C.bipush 10 d6_87 rfl rfl ?_
      refine C.icmp_eq_t d6_89 (by decide) rfl q71 ?_
      refine C.iinc (Ls' := #[rv a, rv b, iv 0, iv t, iv le, iv sl, iv sc, iv 2, iv (ln2 + 1), iv co2, iv 0, iv 1, iv y2]) 1 d6_99 rfl rfl rfl rfl ?_
      refine C.iconst 1 d6_102 rfl rfl ?_
      refine C.istore (Ls' := #[rv a, rv b, iv 0, iv t, iv le, iv sl, iv sc, iv 2, iv (ln2 + 1), iv 1, iv 0, iv 1, iv y2]) d6_103 rfl rfl ?_
      refine C.iload d6_105 rfl rfl ?_
      refine C.bipush 13 d6_107 rfl rfl ?_
      refine C.icmp_ne_t d6_109 (by decide) rfl (by rw [q71]; decide) ?_
      refine C.iconst 0 d6_116 rfl rfl ?_
      refine C.istore (Ls' := #[rv a, rv b, iv 0, iv t, iv le, iv sl, iv sc, iv 2, iv (ln2 + 1), iv 1, iv 0, iv 1, iv y2]) d6_117 rfl rfl ?_
      refine C.goto d6_119 (by decide) rfl ?_
      refine C.iconst 1 d6_140 rfl rfl ?_
      refine C.istore (Ls' := #[rv a, rv b, iv 0, iv t, iv le, iv sl, iv sc, iv 2, iv (ln2 + 1), iv 1, iv 0, iv 1, iv y2]) d6_141 rfl rfl ?_
      refine C.iinc (Ls' := #[rv a, rv b, iv 0, iv t, iv le, iv sl, iv sc, iv 3, iv (ln2 + 1), iv 1, iv 0, iv 1, iv y2]) 1 d6_143 rfl rfl rfl rfl ?_
      refine C.goto d6_146 (by decide) rfl ?_
      have k1 : own_ln ln2 pv2 y2 = (ln2 + 1) := by simp [own_ln, hp.1, hp.2, hc, q71]
      have k2 : own_cl co2 pv2 y2 = 1 := by simp [own_cl, hp.1, hp.2, hc, q71]
      have k3 : 0 = own_cr y2 := by simp [own_cr, hp.1, hp.2, hc, q71]
      have k4 : 1 = own_bg y2 := by simp [own_bg, hy2]
      exact J27_3_237 (ln2 + 1) 1 y2 0 1 k3 k4 (hE.trans ((own_go hc).trans (by rw [k1, k2]; rfl)))
    refine C.icmp_ge d6_30 (by decide) rfl rfl (fun q30 => ?_) (fun q30 => ?_)
    · exact J149 (hE.trans (own_no (fun h => q30 h.1)))
    refine C.iload d6_33 rfl rfl ?_
    refine C.iload d6_35 rfl rfl ?_
    refine C.icmp_lt d6_37 (by decide) rfl rfl (fun q37 => ?_) (fun q37 => ?_)
    · exact J61_305 ⟨q30, Or.inl q37⟩
    refine C.iload d6_40 rfl rfl ?_
    refine C.iload d6_42 rfl rfl ?_
    refine C.icmp_lt d6_44 (by decide) rfl rfl (fun q44 => ?_) (fun q44 => ?_)
    · exact J61_305 ⟨q30, Or.inr (Or.inl q44)⟩
    refine C.iload d6_47 rfl rfl ?_
    refine C.iload d6_49 rfl rfl ?_
    refine C.icmp_ne d6_51 (by decide) rfl rfl (fun q51 => ?_) (fun q51 => ?_)
    · exact J149 (hE.trans (own_no (fun h => h.2.elim q37 fun h => h.elim q44 fun h => q51 h.1)))
    refine C.iload d6_54 rfl rfl ?_
    refine C.iload d6_56 rfl rfl ?_
    refine C.icmp_ge d6_58 (by decide) rfl rfl (fun q58 => ?_) (fun q58 => ?_)
    · exact J149 (hE.trans (own_no (fun h => h.2.elim q37 fun h => h.elim q44 fun h => q58 h.2)))
    exact J61_305 ⟨q30, Or.inr (Or.inr ⟨q51, q58⟩)⟩
  have J27_1_306 : ∀ (ln1 co1 pv1 cr1 bg1 : Int32) (hcr : cr1 = own_cr pv1) (hbg : bg1 = own_bg pv1) (hE : (own_pass t le sl sc 0 [y0, y1, y2] ln co pv) = own_pass t le sl sc 1 [y1, y2] ln1 co1 pv1), Go p l e ({ frames := 0, cells := 0, slots := 0, locals := 0 } : Room) s m #[(.ref a), (.ref b), (.int 0), (.int t), (.int le), (.int sl), (.int sc)] below meth c n0 (FinQ s n0 (Qcon_pass_3_0 Z n0 h0 a b t le sl sc ln co pv y0 y1 y2) ({ frames := 0, cells := 0, slots := 0, locals := 0 } : Room).cells ({ frames := 0, cells := 0, slots := 0, locals := 0 } : Room).slots) h0 0 0 27 #[rv a, rv b, iv 0, iv t, iv le, iv sl, iv sc, iv 1, iv ln1, iv co1, iv cr1, iv bg1, iv y0] [] := by
    intro ln1 co1 pv1 cr1 bg1 hcr hbg hE
    subst hcr hbg
    have J149 : ∀ (kE : (own_pass t le sl sc 0 [y0, y1, y2] ln co pv) = (1, ln1, co1, pv1)), Go p l e ({ frames := 0, cells := 0, slots := 0, locals := 0 } : Room) s m #[(.ref a), (.ref b), (.int 0), (.int t), (.int le), (.int sl), (.int sc)] below meth c n0 (FinQ s n0 (Qcon_pass_3_0 Z n0 h0 a b t le sl sc ln co pv y0 y1 y2) ({ frames := 0, cells := 0, slots := 0, locals := 0 } : Room).cells ({ frames := 0, cells := 0, slots := 0, locals := 0 } : Room).slots) h0 0 0 149 #[rv a, rv b, iv 0, iv t, iv le, iv sl, iv sc, iv 1, iv ln1, iv co1, iv (own_cr pv1), iv (own_bg pv1), iv y0] [] := by
      intro kE
      refine C.aloadN d6_149 rfl rfl rfl ?_
      refine C.iload d6_150 rfl rfl ?_
      refine C.putF d6_152 rfl (tw hw 16 rfl) P1 P0 (Or.inl (tw hw 17 rfl)) (tw hw 8 rfl) (ty := .int) (by decide) rfl rfl g_a (fun h307 W308 F309 => ?_)
      have F310 := Exa.wr W308 P0
      have F311 := Fld.other W308 P2 (Or.inr (slot_ne (C := "com/example/dodder/dodder/PlacedText$Counter") (t := .int) (t' := .int) (Or.inl (tw hw 19 rfl)) (Or.inl (tw hw 17 rfl)) (by decide) (by decide) (by decide)))
      have F312 := Fld.other W308 P3 (Or.inr (slot_ne (C := "com/example/dodder/dodder/PlacedText$Counter") (t := .boolean) (t' := .int) (Or.inl (tw hw 34 rfl)) (Or.inl (tw hw 17 rfl)) (by decide) (by decide) (by decide)))
      have F313 := Fld.other W308 P4 (Or.inr (slot_ne (C := "com/example/dodder/dodder/PlacedText$Counter") (t := .boolean) (t' := .int) (Or.inl (tw hw 36 rfl)) (Or.inl (tw hw 17 rfl)) (by decide) (by decide) (by decide)))
      have F314 := P5.other W308 (Ne.symm ne_a_b)
      refine C.aloadN d6_155 rfl rfl rfl ?_
      refine C.iload d6_156 rfl rfl ?_
      refine C.putF d6_158 rfl (tw hw 18 rfl) F311 F310 (Or.inl (tw hw 19 rfl)) (tw hw 8 rfl) (ty := .int) (by decide) rfl rfl g_a (fun h315 W316 F317 => ?_)
      have F318 := Exa.wr W316 F310
      have F319 := Fld.other W316 F312 (Or.inr (slot_ne (C := "com/example/dodder/dodder/PlacedText$Counter") (t := .boolean) (t' := .int) (Or.inl (tw hw 34 rfl)) (Or.inl (tw hw 19 rfl)) (by decide) (by decide) (by decide)))
      have F320 := Fld.other W316 F313 (Or.inr (slot_ne (C := "com/example/dodder/dodder/PlacedText$Counter") (t := .boolean) (t' := .int) (Or.inl (tw hw 36 rfl)) (Or.inl (tw hw 19 rfl)) (by decide) (by decide) (by decide)))
      have F321 := F314.other W316 (Ne.symm ne_a_b)
      have F322 := Fld.other W316 F309 (Or.inr (slot_ne (C := "com/example/dodder/dodder/PlacedText$Counter") (t := .int) (t' := .int) (Or.inl (tw hw 17 rfl)) (Or.inl (tw hw 19 rfl)) (by decide) (by decide) (by decide)))
      refine C.aloadN d6_161 rfl rfl rfl ?_
      refine C.iload d6_162 rfl rfl ?_
      refine C.putF d6_164 rfl (tw hw 33 rfl) F319 F318 (Or.inl (tw hw 34 rfl)) (tw hw 8 rfl) (ty := .boolean) (by decide) (own_crN pv1) (own_crF pv1) g_a (fun h323 W324 F325 => ?_)
      have F326 := Exa.wr W324 F318
      have F327 := Fld.other W324 F320 (Or.inr (slot_ne (C := "com/example/dodder/dodder/PlacedText$Counter") (t := .boolean) (t' := .boolean) (Or.inl (tw hw 36 rfl)) (Or.inl (tw hw 34 rfl)) (by decide) (by decide) (by decide)))
      have F328 := F321.other W324 (Ne.symm ne_a_b)
      have F329 := Fld.other W324 F322 (Or.inr (slot_ne (C := "com/example/dodder/dodder/PlacedText$Counter") (t := .int) (t' := .boolean) (Or.inl (tw hw 17 rfl)) (Or.inl (tw hw 34 rfl)) (by decide) (by decide) (by decide)))
      have F330 := Fld.other W324 F317 (Or.inr (slot_ne (C := "com/example/dodder/dodder/PlacedText$Counter") (t := .int) (t' := .boolean) (Or.inl (tw hw 19 rfl)) (Or.inl (tw hw 34 rfl)) (by decide) (by decide) (by decide)))
      refine C.aloadN d6_167 rfl rfl rfl ?_
      refine C.iload d6_168 rfl rfl ?_
      refine C.putF d6_170 rfl (tw hw 35 rfl) F327 F326 (Or.inl (tw hw 36 rfl)) (tw hw 8 rfl) (ty := .boolean) (by decide) (own_bgN pv1) (own_bgF pv1) g_a (fun h331 W332 F333 => ?_)
      have F334 := Exa.wr W332 F326
      have F335 := F328.other W332 (Ne.symm ne_a_b)
      have F336 := Fld.other W332 F329 (Or.inr (slot_ne (C := "com/example/dodder/dodder/PlacedText$Counter") (t := .int) (t' := .boolean) (Or.inl (tw hw 17 rfl)) (Or.inl (tw hw 36 rfl)) (by decide) (by decide) (by decide)))
      have F337 := Fld.other W332 F330 (Or.inr (slot_ne (C := "com/example/dodder/dodder/PlacedText$Counter") (t := .int) (t' := .boolean) (Or.inl (tw hw 19 rfl)) (Or.inl (tw hw 36 rfl)) (by decide) (by decide) (by decide)))
      have F338 := Fld.other W332 F325 (Or.inr (slot_ne (C := "com/example/dodder/dodder/PlacedText$Counter") (t := .boolean) (t' := .boolean) (Or.inl (tw hw 34 rfl)) (Or.inl (tw hw 36 rfl)) (by decide) (by decide) (by decide)))
      refine C.iload d6_173 rfl rfl ?_
      exact C.retI d6_175 (by decide) (by decide) ⟨(by rw [kE]), (((((Keep.refl h0 [a]).wr W308 (Or.inl (List.mem_of_getElem? (i := 0) rfl))).wr W316 (Or.inl (List.mem_of_getElem? (i := 0) rfl))).wr W324 (Or.inl (List.mem_of_getElem? (i := 0) rfl))).wr W332 (Or.inl (List.mem_of_getElem? (i := 0) rfl))), (by rw [kE]; exact F336), (by rw [kE]; exact F337), (by rw [kE]; exact F338), (by rw [kE]; exact F333)⟩
    rcases own_pv pv1 with ⟨hp, e1, e2⟩ | ⟨hp, e1, e2⟩ | ⟨hp, e1, e2⟩
    · rw [e1, e2] at J149 ⊢
      refine C.iload d6_27 rfl rfl ?_
      refine C.iloadN d6_29 rfl rfl ?_
      have J61_339 : ∀ (hc : 1 < t ∧ (1 < le ∨ ln1 < sl ∨ (ln1 = sl ∧ co1 < sc))), Go p l e ({ frames := 0, cells := 0, slots := 0, locals := 0 } : Room) s m #[(.ref a), (.ref b), (.int 0), (.int t), (.int le), (.int sl), (.int sc)] below meth c n0 (FinQ s n0 (Qcon_pass_3_0 Z n0 h0 a b t le sl sc ln co pv y0 y1 y2) ({ frames := 0, cells := 0, slots := 0, locals := 0 } : Room).cells ({ frames := 0, cells := 0, slots := 0, locals := 0 } : Room).slots) h0 0 0 61 #[rv a, rv b, iv 0, iv t, iv le, iv sl, iv sc, iv 1, iv ln1, iv co1, iv 1, iv 1, iv y0] [] := by
        intro hc
        refine C.aloadN d6_61 rfl rfl rfl ?_
        refine C.iload d6_62 rfl rfl ?_
        refine C.caload (.int y1) d6_64 rfl P5 (by decide) rfl ?_
        refine C.istore (Ls' := #[rv a, rv b, iv 0, iv t, iv le, iv sl, iv sc, iv 1, iv ln1, iv co1, iv 1, iv 1, iv y1]) d6_65 rfl rfl ?_
        refine C.iload d6_67 rfl rfl ?_
        refine C.bipush 10 d6_69 rfl rfl ?_
        refine C.icmp_ne d6_71 (by decide) rfl rfl (fun q71 => ?_) (fun q71 => ?_)
        · refine C.iload d6_85 rfl rfl ?_
          refine C.bipush 10 d6_87 rfl rfl ?_
          refine C.icmp_eq_f d6_89 rfl q71 ?_
          refine C.iload d6_92 rfl rfl ?_
          refine C.bipush 13 d6_94 rfl rfl ?_
          refine C.icmp_ne d6_96 (by decide) rfl rfl (fun q96 => ?_) (fun q96 => ?_)
          · refine C.iload d6_122 rfl rfl ?_
            refine C.if_ne_t d6_124 (by decide) rfl (by decide) ?_
            refine C.iinc (Ls' := #[rv a, rv b, iv 0, iv t, iv le, iv sl, iv sc, iv 1, iv ln1, iv (co1 + 1), iv 1, iv 1, iv y1]) 1 d6_134 rfl rfl rfl rfl ?_
            refine C.iconst 0 d6_137 rfl rfl ?_
            refine C.istore (Ls' := #[rv a, rv b, iv 0, iv t, iv le, iv sl, iv sc, iv 1, iv ln1, iv (co1 + 1), iv 0, iv 1, iv y1]) d6_138 rfl rfl ?_
            refine C.iconst 1 d6_140 rfl rfl ?_
            refine C.istore (Ls' := #[rv a, rv b, iv 0, iv t, iv le, iv sl, iv sc, iv 1, iv ln1, iv (co1 + 1), iv 0, iv 1, iv y1]) d6_141 rfl rfl ?_
            refine C.iinc (Ls' := #[rv a, rv b, iv 0, iv t, iv le, iv sl, iv sc, iv 2, iv ln1, iv (co1 + 1), iv 0, iv 1, iv y1]) 1 d6_143 rfl rfl rfl rfl ?_
            refine C.goto d6_146 (by decide) rfl ?_
            have k1 : own_ln ln1 pv1 y1 = ln1 := by simp [own_ln, hp, hc, q71, q96]
            have k2 : own_cl co1 pv1 y1 = (co1 + 1) := by simp [own_cl, hp, hc, q71, q96]
            have k3 : 0 = own_cr y1 := by simp [own_cr, hp, hc, q71, q96]
            have k4 : 1 = own_bg y1 := by simp [own_bg, hy1]
            exact J27_2_270 ln1 (co1 + 1) y1 0 1 k3 k4 (hE.trans ((own_go hc).trans (by rw [k1, k2]; rfl)))
          refine C.iinc (Ls' := #[rv a, rv b, iv 0, iv t, iv le, iv sl, iv sc, iv 1, iv (ln1 + 1), iv co1, iv 1, iv 1, iv y1]) 1 d6_99 rfl rfl rfl rfl ?_
          refine C.iconst 1 d6_102 rfl rfl ?_
          refine C.istore (Ls' := #[rv a, rv b, iv 0, iv t, iv le, iv sl, iv sc, iv 1, iv (ln1 + 1), iv 1, iv 1, iv 1, iv y1]) d6_103 rfl rfl ?_
          refine C.iload d6_105 rfl rfl ?_
          refine C.bipush 13 d6_107 rfl rfl ?_
          refine C.icmp_ne_f d6_109 rfl q96 ?_
          refine C.iconst 1 d6_112 rfl rfl ?_
          refine C.goto d6_113 (by decide) rfl ?_
          refine C.istore (Ls' := #[rv a, rv b, iv 0, iv t, iv le, iv sl, iv sc, iv 1, iv (ln1 + 1), iv 1, iv 1, iv 1, iv y1]) d6_117 rfl rfl ?_
          refine C.goto d6_119 (by decide) rfl ?_
          refine C.iconst 1 d6_140 rfl rfl ?_
          refine C.istore (Ls' := #[rv a, rv b, iv 0, iv t, iv le, iv sl, iv sc, iv 1, iv (ln1 + 1), iv 1, iv 1, iv 1, iv y1]) d6_141 rfl rfl ?_
          refine C.iinc (Ls' := #[rv a, rv b, iv 0, iv t, iv le, iv sl, iv sc, iv 2, iv (ln1 + 1), iv 1, iv 1, iv 1, iv y1]) 1 d6_143 rfl rfl rfl rfl ?_
          refine C.goto d6_146 (by decide) rfl ?_
          have k1 : own_ln ln1 pv1 y1 = (ln1 + 1) := by simp [own_ln, hp, hc, q71, q96]
          have k2 : own_cl co1 pv1 y1 = 1 := by simp [own_cl, hp, hc, q71, q96]
          have k3 : 1 = own_cr y1 := by simp [own_cr, hp, hc, q71, q96]
          have k4 : 1 = own_bg y1 := by simp [own_bg, hy1]
          exact J27_2_270 (ln1 + 1) 1 y1 1 1 k3 k4 (hE.trans ((own_go hc).trans (by rw [k1, k2]; rfl)))
        refine C.iload d6_74 rfl rfl ?_
        refine C.if_eq_f d6_76 rfl (by decide) ?_
        refine C.iconst 0 d6_79 rfl rfl ?_
        refine C.istore (Ls' := #[rv a, rv b, iv 0, iv t, iv le, iv sl, iv sc, iv 1, iv ln1, iv co1, iv 0, iv 1, iv y1]) d6_80 rfl rfl ?_
        refine C.goto d6_82 (by decide) rfl ?_
        refine C.iconst 1 d6_140 rfl rfl ?_
        refine C.istore (Ls' := #[rv a, rv b, iv 0, iv t, iv le, iv sl, iv sc, iv 1, iv ln1, iv co1, iv 0, iv 1, iv y1]) d6_141 rfl rfl ?_
        refine C.iinc (Ls' := #[rv a, rv b, iv 0, iv t, iv le, iv sl, iv sc, iv 2, iv ln1, iv co1, iv 0, iv 1, iv y1]) 1 d6_143 rfl rfl rfl rfl ?_
        refine C.goto d6_146 (by decide) rfl ?_
        have k1 : own_ln ln1 pv1 y1 = ln1 := by simp [own_ln, hp, hc, q71]
        have k2 : own_cl co1 pv1 y1 = co1 := by simp [own_cl, hp, hc, q71]
        have k3 : 0 = own_cr y1 := by simp [own_cr, hp, hc, q71]
        have k4 : 1 = own_bg y1 := by simp [own_bg, hy1]
        exact J27_2_270 ln1 co1 y1 0 1 k3 k4 (hE.trans ((own_go hc).trans (by rw [k1, k2]; rfl)))
      refine C.icmp_ge d6_30 (by decide) rfl rfl (fun q30 => ?_) (fun q30 => ?_)
      · exact J149 (hE.trans (own_no (fun h => q30 h.1)))
      refine C.iload d6_33 rfl rfl ?_
      refine C.iload d6_35 rfl rfl ?_
      refine C.icmp_lt d6_37 (by decide) rfl rfl (fun q37 => ?_) (fun q37 => ?_)
      · exact J61_339 ⟨q30, Or.inl q37⟩
      refine C.iload d6_40 rfl rfl ?_
      refine C.iload d6_42 rfl rfl ?_
      refine C.icmp_lt d6_44 (by decide) rfl rfl (fun q44 => ?_) (fun q44 => ?_)
      · exact J61_339 ⟨q30, Or.inr (Or.inl q44)⟩
      refine C.iload d6_47 rfl rfl ?_
      refine C.iload d6_49 rfl rfl ?_
      refine C.icmp_ne d6_51 (by decide) rfl rfl (fun q51 => ?_) (fun q51 => ?_)
      · exact J149 (hE.trans (own_no (fun h => h.2.elim q37 fun h => h.elim q44 fun h => q51 h.1)))
      refine C.iload d6_54 rfl rfl ?_
      refine C.iload d6_56 rfl rfl ?_
      refine C.icmp_ge d6_58 (by decide) rfl rfl (fun q58 => ?_) (fun q58 => ?_)
      · exact J149 (hE.trans (own_no (fun h => h.2.elim q37 fun h => h.elim q44 fun h => q58 h.2)))
      exact J61_339 ⟨q30, Or.inr (Or.inr ⟨q51, q58⟩)⟩
    · rw [e1, e2] at J149 ⊢
      refine C.iload d6_27 rfl rfl ?_
      refine C.iloadN d6_29 rfl rfl ?_
      have J61_340 : ∀ (hc : 1 < t ∧ (1 < le ∨ ln1 < sl ∨ (ln1 = sl ∧ co1 < sc))), Go p l e ({ frames := 0, cells := 0, slots := 0, locals := 0 } : Room) s m #[(.ref a), (.ref b), (.int 0), (.int t), (.int le), (.int sl), (.int sc)] below meth c n0 (FinQ s n0 (Qcon_pass_3_0 Z n0 h0 a b t le sl sc ln co pv y0 y1 y2) ({ frames := 0, cells := 0, slots := 0, locals := 0 } : Room).cells ({ frames := 0, cells := 0, slots := 0, locals := 0 } : Room).slots) h0 0 0 61 #[rv a, rv b, iv 0, iv t, iv le, iv sl, iv sc, iv 1, iv ln1, iv co1, iv 0, iv 0, iv y0] [] := by
        intro hc
        refine C.aloadN d6_61 rfl rfl rfl ?_
        refine C.iload d6_62 rfl rfl ?_
        refine C.caload (.int y1) d6_64 rfl P5 (by decide) rfl ?_
        refine C.istore (Ls' := #[rv a, rv b, iv 0, iv t, iv le, iv sl, iv sc, iv 1, iv ln1, iv co1, iv 0, iv 0, iv y1]) d6_65 rfl rfl ?_
        refine C.iload d6_67 rfl rfl ?_
        refine C.bipush 10 d6_69 rfl rfl ?_
        refine C.icmp_ne d6_71 (by decide) rfl rfl (fun q71 => ?_) (fun q71 => ?_)
        · refine C.iload d6_85 rfl rfl ?_
          refine C.bipush 10 d6_87 rfl rfl ?_
          refine C.icmp_eq_f d6_89 rfl q71 ?_
          refine C.iload d6_92 rfl rfl ?_
          refine C.bipush 13 d6_94 rfl rfl ?_
          refine C.icmp_ne d6_96 (by decide) rfl rfl (fun q96 => ?_) (fun q96 => ?_)
          · refine C.iload d6_122 rfl rfl ?_
            refine C.if_ne_f d6_124 rfl (by decide) ?_
            refine C.iload d6_127 rfl rfl ?_
            refine C.ldcI d6_129 rfl (tw hw 47 rfl) ?_
            refine C.icmp_eq d6_131 (by decide) rfl rfl (fun q131 => ?_) (fun q131 => ?_)
            · refine C.iconst 1 d6_140 rfl rfl ?_
              refine C.istore (Ls' := #[rv a, rv b, iv 0, iv t, iv le, iv sl, iv sc, iv 1, iv ln1, iv co1, iv 0, iv 1, iv y1]) d6_141 rfl rfl ?_
              refine C.iinc (Ls' := #[rv a, rv b, iv 0, iv t, iv le, iv sl, iv sc, iv 2, iv ln1, iv co1, iv 0, iv 1, iv y1]) 1 d6_143 rfl rfl rfl rfl ?_
              refine C.goto d6_146 (by decide) rfl ?_
              have k1 : own_ln ln1 pv1 y1 = ln1 := by simp [own_ln, hp, hc, q71, q96, q131]
              have k2 : own_cl co1 pv1 y1 = co1 := by simp [own_cl, hp, hc, q71, q96, q131]
              have k3 : 0 = own_cr y1 := by simp [own_cr, hp, hc, q71, q96, q131]
              have k4 : 1 = own_bg y1 := by simp [own_bg, hy1]
              exact J27_2_270 ln1 co1 y1 0 1 k3 k4 (hE.trans ((own_go hc).trans (by rw [k1, k2]; rfl)))
            refine C.iinc (Ls' := #[rv a, rv b, iv 0, iv t, iv le, iv sl, iv sc, iv 1, iv ln1, iv (co1 + 1), iv 0, iv 0, iv y1]) 1 d6_134 rfl rfl rfl rfl ?_
            refine C.iconst 0 d6_137 rfl rfl ?_
            refine C.istore (Ls' := #[rv a, rv b, iv 0, iv t, iv le, iv sl, iv sc, iv 1, iv ln1, iv (co1 + 1), iv 0, iv 0, iv y1]) d6_138 rfl rfl ?_
            refine C.iconst 1 d6_140 rfl rfl ?_
            refine C.istore (Ls' := #[rv a, rv b, iv 0, iv t, iv le, iv sl, iv sc, iv 1, iv ln1, iv (co1 + 1), iv 0, iv 1, iv y1]) d6_141 rfl rfl ?_
            refine C.iinc (Ls' := #[rv a, rv b, iv 0, iv t, iv le, iv sl, iv sc, iv 2, iv ln1, iv (co1 + 1), iv 0, iv 1, iv y1]) 1 d6_143 rfl rfl rfl rfl ?_
            refine C.goto d6_146 (by decide) rfl ?_
            have k1 : own_ln ln1 pv1 y1 = ln1 := by simp [own_ln, hp, hc, q71, q96, q131]
            have k2 : own_cl co1 pv1 y1 = (co1 + 1) := by simp [own_cl, hp, hc, q71, q96, q131]
            have k3 : 0 = own_cr y1 := by simp [own_cr, hp, hc, q71, q96, q131]
            have k4 : 1 = own_bg y1 := by simp [own_bg, hy1]
            exact J27_2_270 ln1 (co1 + 1) y1 0 1 k3 k4 (hE.trans ((own_go hc).trans (by rw [k1, k2]; rfl)))
          refine C.iinc (Ls' := #[rv a, rv b, iv 0, iv t, iv le, iv sl, iv sc, iv 1, iv (ln1 + 1), iv co1, iv 0, iv 0, iv y1]) 1 d6_99 rfl rfl rfl rfl ?_
          refine C.iconst 1 d6_102 rfl rfl ?_
          refine C.istore (Ls' := #[rv a, rv b, iv 0, iv t, iv le, iv sl, iv sc, iv 1, iv (ln1 + 1), iv 1, iv 0, iv 0, iv y1]) d6_103 rfl rfl ?_
          refine C.iload d6_105 rfl rfl ?_
          refine C.bipush 13 d6_107 rfl rfl ?_
          refine C.icmp_ne_f d6_109 rfl q96 ?_
          refine C.iconst 1 d6_112 rfl rfl ?_
          refine C.goto d6_113 (by decide) rfl ?_
          refine C.istore (Ls' := #[rv a, rv b, iv 0, iv t, iv le, iv sl, iv sc, iv 1, iv (ln1 + 1), iv 1, iv 1, iv 0, iv y1]) d6_117 rfl rfl ?_
          refine C.goto d6_119 (by decide) rfl ?_
          refine C.iconst 1 d6_140 rfl rfl ?_
          refine C.istore (Ls' := #[rv a, rv b, iv 0, iv t, iv le, iv sl, iv sc, iv 1, iv (ln1 + 1), iv 1, iv 1, iv 1, iv y1]) d6_141 rfl rfl ?_
          refine C.iinc (Ls' := #[rv a, rv b, iv 0, iv t, iv le, iv sl, iv sc, iv 2, iv (ln1 + 1), iv 1, iv 1, iv 1, iv y1]) 1 d6_143 rfl rfl rfl rfl ?_
          refine C.goto d6_146 (by decide) rfl ?_
          have k1 : own_ln ln1 pv1 y1 = (ln1 + 1) := by simp [own_ln, hp, hc, q71, q96]
          have k2 : own_cl co1 pv1 y1 = 1 := by simp [own_cl, hp, hc, q71, q96]
          have k3 : 1 = own_cr y1 := by simp [own_cr, hp, hc, q71, q96]
          have k4 : 1 = own_bg y1 := by simp [own_bg, hy1]
          exact J27_2_270 (ln1 + 1) 1 y1 1 1 k3 k4 (hE.trans ((own_go hc).trans (by rw [k1, k2]; rfl)))
        refine C.iload d6_74 rfl rfl ?_
        refine C.if_eq_t d6_76 (by decide) rfl (by decide) ?_
        refine C.iload d6_85 rfl rfl ?_
        refine C.bipush 10 d6_87 rfl rfl ?_
        refine C.icmp_eq_t d6_89 (by decide) rfl q71 ?_
        refine C.iinc (Ls' := #[rv a, rv b, iv 0, iv t, iv le, iv sl, iv sc, iv 1, iv (ln1 + 1), iv co1, iv 0, iv 0, iv y1]) 1 d6_99 rfl rfl rfl rfl ?_
        refine C.iconst 1 d6_102 rfl rfl ?_
        refine C.istore (Ls' := #[rv a, rv b, iv 0, iv t, iv le, iv sl, iv sc, iv 1, iv (ln1 + 1), iv 1, iv 0, iv 0, iv y1]) d6_103 rfl rfl ?_
        refine C.iload d6_105 rfl rfl ?_
        refine C.bipush 13 d6_107 rfl rfl ?_
        refine C.icmp_ne_t d6_109 (by decide) rfl (by rw [q71]; decide) ?_
        refine C.iconst 0 d6_116 rfl rfl ?_
        refine C.istore (Ls' := #[rv a, rv b, iv 0, iv t, iv le, iv sl, iv sc, iv 1, iv (ln1 + 1), iv 1, iv 0, iv 0, iv y1]) d6_117 rfl rfl ?_
        refine C.goto d6_119 (by decide) rfl ?_
        refine C.iconst 1 d6_140 rfl rfl ?_
        refine C.istore (Ls' := #[rv a, rv b, iv 0, iv t, iv le, iv sl, iv sc, iv 1, iv (ln1 + 1), iv 1, iv 0, iv 1, iv y1]) d6_141 rfl rfl ?_
        refine C.iinc (Ls' := #[rv a, rv b, iv 0, iv t, iv le, iv sl, iv sc, iv 2, iv (ln1 + 1), iv 1, iv 0, iv 1, iv y1]) 1 d6_143 rfl rfl rfl rfl ?_
        refine C.goto d6_146 (by decide) rfl ?_
        have k1 : own_ln ln1 pv1 y1 = (ln1 + 1) := by simp [own_ln, hp, hc, q71]
        have k2 : own_cl co1 pv1 y1 = 1 := by simp [own_cl, hp, hc, q71]
        have k3 : 0 = own_cr y1 := by simp [own_cr, hp, hc, q71]
        have k4 : 1 = own_bg y1 := by simp [own_bg, hy1]
        exact J27_2_270 (ln1 + 1) 1 y1 0 1 k3 k4 (hE.trans ((own_go hc).trans (by rw [k1, k2]; rfl)))
      refine C.icmp_ge d6_30 (by decide) rfl rfl (fun q30 => ?_) (fun q30 => ?_)
      · exact J149 (hE.trans (own_no (fun h => q30 h.1)))
      refine C.iload d6_33 rfl rfl ?_
      refine C.iload d6_35 rfl rfl ?_
      refine C.icmp_lt d6_37 (by decide) rfl rfl (fun q37 => ?_) (fun q37 => ?_)
      · exact J61_340 ⟨q30, Or.inl q37⟩
      refine C.iload d6_40 rfl rfl ?_
      refine C.iload d6_42 rfl rfl ?_
      refine C.icmp_lt d6_44 (by decide) rfl rfl (fun q44 => ?_) (fun q44 => ?_)
      · exact J61_340 ⟨q30, Or.inr (Or.inl q44)⟩
      refine C.iload d6_47 rfl rfl ?_
      refine C.iload d6_49 rfl rfl ?_
      refine C.icmp_ne d6_51 (by decide) rfl rfl (fun q51 => ?_) (fun q51 => ?_)
      · exact J149 (hE.trans (own_no (fun h => h.2.elim q37 fun h => h.elim q44 fun h => q51 h.1)))
      refine C.iload d6_54 rfl rfl ?_
      refine C.iload d6_56 rfl rfl ?_
      refine C.icmp_ge d6_58 (by decide) rfl rfl (fun q58 => ?_) (fun q58 => ?_)
      · exact J149 (hE.trans (own_no (fun h => h.2.elim q37 fun h => h.elim q44 fun h => q58 h.2)))
      exact J61_340 ⟨q30, Or.inr (Or.inr ⟨q51, q58⟩)⟩
    rw [e1, e2] at J149 ⊢
    refine C.iload d6_27 rfl rfl ?_
    refine C.iloadN d6_29 rfl rfl ?_
    have J61_341 : ∀ (hc : 1 < t ∧ (1 < le ∨ ln1 < sl ∨ (ln1 = sl ∧ co1 < sc))), Go p l e ({ frames := 0, cells := 0, slots := 0, locals := 0 } : Room) s m #[(.ref a), (.ref b), (.int 0), (.int t), (.int le), (.int sl), (.int sc)] below meth c n0 (FinQ s n0 (Qcon_pass_3_0 Z n0 h0 a b t le sl sc ln co pv y0 y1 y2) ({ frames := 0, cells := 0, slots := 0, locals := 0 } : Room).cells ({ frames := 0, cells := 0, slots := 0, locals := 0 } : Room).slots) h0 0 0 61 #[rv a, rv b, iv 0, iv t, iv le, iv sl, iv sc, iv 1, iv ln1, iv co1, iv 0, iv 1, iv y0] [] := by
      intro hc
      refine C.aloadN d6_61 rfl rfl rfl ?_
      refine C.iload d6_62 rfl rfl ?_
      refine C.caload (.int y1) d6_64 rfl P5 (by decide) rfl ?_
      refine C.istore (Ls' := #[rv a, rv b, iv 0, iv t, iv le, iv sl, iv sc, iv 1, iv ln1, iv co1, iv 0, iv 1, iv y1]) d6_65 rfl rfl ?_
      refine C.iload d6_67 rfl rfl ?_
      refine C.bipush 10 d6_69 rfl rfl ?_
      refine C.icmp_ne d6_71 (by decide) rfl rfl (fun q71 => ?_) (fun q71 => ?_)
      · refine C.iload d6_85 rfl rfl ?_
        refine C.bipush 10 d6_87 rfl rfl ?_
        refine C.icmp_eq_f d6_89 rfl q71 ?_
        refine C.iload d6_92 rfl rfl ?_
        refine C.bipush 13 d6_94 rfl rfl ?_
        refine C.icmp_ne d6_96 (by decide) rfl rfl (fun q96 => ?_) (fun q96 => ?_)
        · refine C.iload d6_122 rfl rfl ?_
          refine C.if_ne_t d6_124 (by decide) rfl (by decide) ?_
          refine C.iinc (Ls' := #[rv a, rv b, iv 0, iv t, iv le, iv sl, iv sc, iv 1, iv ln1, iv (co1 + 1), iv 0, iv 1, iv y1]) 1 d6_134 rfl rfl rfl rfl ?_
          refine C.iconst 0 d6_137 rfl rfl ?_
          refine C.istore (Ls' := #[rv a, rv b, iv 0, iv t, iv le, iv sl, iv sc, iv 1, iv ln1, iv (co1 + 1), iv 0, iv 1, iv y1]) d6_138 rfl rfl ?_
          refine C.iconst 1 d6_140 rfl rfl ?_
          refine C.istore (Ls' := #[rv a, rv b, iv 0, iv t, iv le, iv sl, iv sc, iv 1, iv ln1, iv (co1 + 1), iv 0, iv 1, iv y1]) d6_141 rfl rfl ?_
          refine C.iinc (Ls' := #[rv a, rv b, iv 0, iv t, iv le, iv sl, iv sc, iv 2, iv ln1, iv (co1 + 1), iv 0, iv 1, iv y1]) 1 d6_143 rfl rfl rfl rfl ?_
          refine C.goto d6_146 (by decide) rfl ?_
          have k1 : own_ln ln1 pv1 y1 = ln1 := by simp [own_ln, hp.1, hp.2, hc, q71, q96]
          have k2 : own_cl co1 pv1 y1 = (co1 + 1) := by simp [own_cl, hp.1, hp.2, hc, q71, q96]
          have k3 : 0 = own_cr y1 := by simp [own_cr, hp.1, hp.2, hc, q71, q96]
          have k4 : 1 = own_bg y1 := by simp [own_bg, hy1]
          exact J27_2_270 ln1 (co1 + 1) y1 0 1 k3 k4 (hE.trans ((own_go hc).trans (by rw [k1, k2]; rfl)))
        refine C.iinc (Ls' := #[rv a, rv b, iv 0, iv t, iv le, iv sl, iv sc, iv 1, iv (ln1 + 1), iv co1, iv 0, iv 1, iv y1]) 1 d6_99 rfl rfl rfl rfl ?_
        refine C.iconst 1 d6_102 rfl rfl ?_
        refine C.istore (Ls' := #[rv a, rv b, iv 0, iv t, iv le, iv sl, iv sc, iv 1, iv (ln1 + 1), iv 1, iv 0, iv 1, iv y1]) d6_103 rfl rfl ?_
        refine C.iload d6_105 rfl rfl ?_
        refine C.bipush 13 d6_107 rfl rfl ?_
        refine C.icmp_ne_f d6_109 rfl q96 ?_
        refine C.iconst 1 d6_112 rfl rfl ?_
        refine C.goto d6_113 (by decide) rfl ?_
        refine C.istore (Ls' := #[rv a, rv b, iv 0, iv t, iv le, iv sl, iv sc, iv 1, iv (ln1 + 1), iv 1, iv 1, iv 1, iv y1]) d6_117 rfl rfl ?_
        refine C.goto d6_119 (by decide) rfl ?_
        refine C.iconst 1 d6_140 rfl rfl ?_
        refine C.istore (Ls' := #[rv a, rv b, iv 0, iv t, iv le, iv sl, iv sc, iv 1, iv (ln1 + 1), iv 1, iv 1, iv 1, iv y1]) d6_141 rfl rfl ?_
        refine C.iinc (Ls' := #[rv a, rv b, iv 0, iv t, iv le, iv sl, iv sc, iv 2, iv (ln1 + 1), iv 1, iv 1, iv 1, iv y1]) 1 d6_143 rfl rfl rfl rfl ?_
        refine C.goto d6_146 (by decide) rfl ?_
        have k1 : own_ln ln1 pv1 y1 = (ln1 + 1) := by simp [own_ln, hp.1, hp.2, hc, q71, q96]
        have k2 : own_cl co1 pv1 y1 = 1 := by simp [own_cl, hp.1, hp.2, hc, q71, q96]
        have k3 : 1 = own_cr y1 := by simp [own_cr, hp.1, hp.2, hc, q71, q96]
        have k4 : 1 = own_bg y1 := by simp [own_bg, hy1]
        exact J27_2_270 (ln1 + 1) 1 y1 1 1 k3 k4 (hE.trans ((own_go hc).trans (by rw [k1, k2]; rfl)))
      refine C.iload d6_74 rfl rfl ?_
      refine C.if_eq_t d6_76 (by decide) rfl (by decide) ?_
      refine C.iload d6_85 rfl rfl ?_
      refine C.bipush 10 d6_87 rfl rfl ?_
      refine C.icmp_eq_t d6_89 (by decide) rfl q71 ?_
      refine C.iinc (Ls' := #[rv a, rv b, iv 0, iv t, iv le, iv sl, iv sc, iv 1, iv (ln1 + 1), iv co1, iv 0, iv 1, iv y1]) 1 d6_99 rfl rfl rfl rfl ?_
      refine C.iconst 1 d6_102 rfl rfl ?_
      refine C.istore (Ls' := #[rv a, rv b, iv 0, iv t, iv le, iv sl, iv sc, iv 1, iv (ln1 + 1), iv 1, iv 0, iv 1, iv y1]) d6_103 rfl rfl ?_
      refine C.iload d6_105 rfl rfl ?_
      refine C.bipush 13 d6_107 rfl rfl ?_
      refine C.icmp_ne_t d6_109 (by decide) rfl (by rw [q71]; decide) ?_
      refine C.iconst 0 d6_116 rfl rfl ?_
      refine C.istore (Ls' := #[rv a, rv b, iv 0, iv t, iv le, iv sl, iv sc, iv 1, iv (ln1 + 1), iv 1, iv 0, iv 1, iv y1]) d6_117 rfl rfl ?_
      refine C.goto d6_119 (by decide) rfl ?_
      refine C.iconst 1 d6_140 rfl rfl ?_
      refine C.istore (Ls' := #[rv a, rv b, iv 0, iv t, iv le, iv sl, iv sc, iv 1, iv (ln1 + 1), iv 1, iv 0, iv 1, iv y1]) d6_141 rfl rfl ?_
      refine C.iinc (Ls' := #[rv a, rv b, iv 0, iv t, iv le, iv sl, iv sc, iv 2, iv (ln1 + 1), iv 1, iv 0, iv 1, iv y1]) 1 d6_143 rfl rfl rfl rfl ?_
      refine C.goto d6_146 (by decide) rfl ?_
      have k1 : own_ln ln1 pv1 y1 = (ln1 + 1) := by simp [own_ln, hp.1, hp.2, hc, q71]
      have k2 : own_cl co1 pv1 y1 = 1 := by simp [own_cl, hp.1, hp.2, hc, q71]
      have k3 : 0 = own_cr y1 := by simp [own_cr, hp.1, hp.2, hc, q71]
      have k4 : 1 = own_bg y1 := by simp [own_bg, hy1]
      exact J27_2_270 (ln1 + 1) 1 y1 0 1 k3 k4 (hE.trans ((own_go hc).trans (by rw [k1, k2]; rfl)))
    refine C.icmp_ge d6_30 (by decide) rfl rfl (fun q30 => ?_) (fun q30 => ?_)
    · exact J149 (hE.trans (own_no (fun h => q30 h.1)))
    refine C.iload d6_33 rfl rfl ?_
    refine C.iload d6_35 rfl rfl ?_
    refine C.icmp_lt d6_37 (by decide) rfl rfl (fun q37 => ?_) (fun q37 => ?_)
    · exact J61_341 ⟨q30, Or.inl q37⟩
    refine C.iload d6_40 rfl rfl ?_
    refine C.iload d6_42 rfl rfl ?_
    refine C.icmp_lt d6_44 (by decide) rfl rfl (fun q44 => ?_) (fun q44 => ?_)
    · exact J61_341 ⟨q30, Or.inr (Or.inl q44)⟩
    refine C.iload d6_47 rfl rfl ?_
    refine C.iload d6_49 rfl rfl ?_
    refine C.icmp_ne d6_51 (by decide) rfl rfl (fun q51 => ?_) (fun q51 => ?_)
    · exact J149 (hE.trans (own_no (fun h => h.2.elim q37 fun h => h.elim q44 fun h => q51 h.1)))
    refine C.iload d6_54 rfl rfl ?_
    refine C.iload d6_56 rfl rfl ?_
    refine C.icmp_ge d6_58 (by decide) rfl rfl (fun q58 => ?_) (fun q58 => ?_)
    · exact J149 (hE.trans (own_no (fun h => h.2.elim q37 fun h => h.elim q44 fun h => q58 h.2)))
    exact J61_341 ⟨q30, Or.inr (Or.inr ⟨q51, q58⟩)⟩
  have hE : (own_pass t le sl sc 0 [y0, y1, y2] ln co pv) = own_pass t le sl sc 0 [y0, y1, y2] ln co pv := rfl
  have J149 : ∀ (kE : (own_pass t le sl sc 0 [y0, y1, y2] ln co pv) = (0, ln, co, pv)), Go p l e ({ frames := 0, cells := 0, slots := 0, locals := 0 } : Room) s m #[(.ref a), (.ref b), (.int 0), (.int t), (.int le), (.int sl), (.int sc)] below meth c n0 (FinQ s n0 (Qcon_pass_3_0 Z n0 h0 a b t le sl sc ln co pv y0 y1 y2) ({ frames := 0, cells := 0, slots := 0, locals := 0 } : Room).cells ({ frames := 0, cells := 0, slots := 0, locals := 0 } : Room).slots) h0 0 0 149 #[rv a, rv b, iv 0, iv t, iv le, iv sl, iv sc, iv 0, iv ln, iv co, iv (own_cr pv), iv (own_bg pv), .unset] [] := by
    intro kE
    refine C.aloadN d6_149 rfl rfl rfl ?_
    refine C.iload d6_150 rfl rfl ?_
    refine C.putF d6_152 rfl (tw hw 16 rfl) P1 P0 (Or.inl (tw hw 17 rfl)) (tw hw 8 rfl) (ty := .int) (by decide) rfl rfl g_a (fun h342 W343 F344 => ?_)
    have F345 := Exa.wr W343 P0
    have F346 := Fld.other W343 P2 (Or.inr (slot_ne (C := "com/example/dodder/dodder/PlacedText$Counter") (t := .int) (t' := .int) (Or.inl (tw hw 19 rfl)) (Or.inl (tw hw 17 rfl)) (by decide) (by decide) (by decide)))
    have F347 := Fld.other W343 P3 (Or.inr (slot_ne (C := "com/example/dodder/dodder/PlacedText$Counter") (t := .boolean) (t' := .int) (Or.inl (tw hw 34 rfl)) (Or.inl (tw hw 17 rfl)) (by decide) (by decide) (by decide)))
    have F348 := Fld.other W343 P4 (Or.inr (slot_ne (C := "com/example/dodder/dodder/PlacedText$Counter") (t := .boolean) (t' := .int) (Or.inl (tw hw 36 rfl)) (Or.inl (tw hw 17 rfl)) (by decide) (by decide) (by decide)))
    have F349 := P5.other W343 (Ne.symm ne_a_b)
    refine C.aloadN d6_155 rfl rfl rfl ?_
    refine C.iload d6_156 rfl rfl ?_
    refine C.putF d6_158 rfl (tw hw 18 rfl) F346 F345 (Or.inl (tw hw 19 rfl)) (tw hw 8 rfl) (ty := .int) (by decide) rfl rfl g_a (fun h350 W351 F352 => ?_)
    have F353 := Exa.wr W351 F345
    have F354 := Fld.other W351 F347 (Or.inr (slot_ne (C := "com/example/dodder/dodder/PlacedText$Counter") (t := .boolean) (t' := .int) (Or.inl (tw hw 34 rfl)) (Or.inl (tw hw 19 rfl)) (by decide) (by decide) (by decide)))
    have F355 := Fld.other W351 F348 (Or.inr (slot_ne (C := "com/example/dodder/dodder/PlacedText$Counter") (t := .boolean) (t' := .int) (Or.inl (tw hw 36 rfl)) (Or.inl (tw hw 19 rfl)) (by decide) (by decide) (by decide)))
    have F356 := F349.other W351 (Ne.symm ne_a_b)
    have F357 := Fld.other W351 F344 (Or.inr (slot_ne (C := "com/example/dodder/dodder/PlacedText$Counter") (t := .int) (t' := .int) (Or.inl (tw hw 17 rfl)) (Or.inl (tw hw 19 rfl)) (by decide) (by decide) (by decide)))
    refine C.aloadN d6_161 rfl rfl rfl ?_
    refine C.iload d6_162 rfl rfl ?_
    refine C.putF d6_164 rfl (tw hw 33 rfl) F354 F353 (Or.inl (tw hw 34 rfl)) (tw hw 8 rfl) (ty := .boolean) (by decide) (own_crN pv) (own_crF pv) g_a (fun h358 W359 F360 => ?_)
    have F361 := Exa.wr W359 F353
    have F362 := Fld.other W359 F355 (Or.inr (slot_ne (C := "com/example/dodder/dodder/PlacedText$Counter") (t := .boolean) (t' := .boolean) (Or.inl (tw hw 36 rfl)) (Or.inl (tw hw 34 rfl)) (by decide) (by decide) (by decide)))
    have F363 := F356.other W359 (Ne.symm ne_a_b)
    have F364 := Fld.other W359 F357 (Or.inr (slot_ne (C := "com/example/dodder/dodder/PlacedText$Counter") (t := .int) (t' := .boolean) (Or.inl (tw hw 17 rfl)) (Or.inl (tw hw 34 rfl)) (by decide) (by decide) (by decide)))
    have F365 := Fld.other W359 F352 (Or.inr (slot_ne (C := "com/example/dodder/dodder/PlacedText$Counter") (t := .int) (t' := .boolean) (Or.inl (tw hw 19 rfl)) (Or.inl (tw hw 34 rfl)) (by decide) (by decide) (by decide)))
    refine C.aloadN d6_167 rfl rfl rfl ?_
    refine C.iload d6_168 rfl rfl ?_
    refine C.putF d6_170 rfl (tw hw 35 rfl) F362 F361 (Or.inl (tw hw 36 rfl)) (tw hw 8 rfl) (ty := .boolean) (by decide) (own_bgN pv) (own_bgF pv) g_a (fun h366 W367 F368 => ?_)
    have F369 := Exa.wr W367 F361
    have F370 := F363.other W367 (Ne.symm ne_a_b)
    have F371 := Fld.other W367 F364 (Or.inr (slot_ne (C := "com/example/dodder/dodder/PlacedText$Counter") (t := .int) (t' := .boolean) (Or.inl (tw hw 17 rfl)) (Or.inl (tw hw 36 rfl)) (by decide) (by decide) (by decide)))
    have F372 := Fld.other W367 F365 (Or.inr (slot_ne (C := "com/example/dodder/dodder/PlacedText$Counter") (t := .int) (t' := .boolean) (Or.inl (tw hw 19 rfl)) (Or.inl (tw hw 36 rfl)) (by decide) (by decide) (by decide)))
    have F373 := Fld.other W367 F360 (Or.inr (slot_ne (C := "com/example/dodder/dodder/PlacedText$Counter") (t := .boolean) (t' := .boolean) (Or.inl (tw hw 34 rfl)) (Or.inl (tw hw 36 rfl)) (by decide) (by decide) (by decide)))
    refine C.iload d6_173 rfl rfl ?_
    exact C.retI d6_175 (by decide) (by decide) ⟨(by rw [kE]), (((((Keep.refl h0 [a]).wr W343 (Or.inl (List.mem_of_getElem? (i := 0) rfl))).wr W351 (Or.inl (List.mem_of_getElem? (i := 0) rfl))).wr W359 (Or.inl (List.mem_of_getElem? (i := 0) rfl))).wr W367 (Or.inl (List.mem_of_getElem? (i := 0) rfl))), (by rw [kE]; exact F371), (by rw [kE]; exact F372), (by rw [kE]; exact F373), (by rw [kE]; exact F368)⟩
  rcases own_pv pv with ⟨hp, e1, e2⟩ | ⟨hp, e1, e2⟩ | ⟨hp, e1, e2⟩
  · rw [e1, e2] at J149 ⊢
    refine C.iload d6_27 rfl rfl ?_
    refine C.iloadN d6_29 rfl rfl ?_
    have J61_374 : ∀ (hc : 0 < t ∧ (0 < le ∨ ln < sl ∨ (ln = sl ∧ co < sc))), Go p l e ({ frames := 0, cells := 0, slots := 0, locals := 0 } : Room) s m #[(.ref a), (.ref b), (.int 0), (.int t), (.int le), (.int sl), (.int sc)] below meth c n0 (FinQ s n0 (Qcon_pass_3_0 Z n0 h0 a b t le sl sc ln co pv y0 y1 y2) ({ frames := 0, cells := 0, slots := 0, locals := 0 } : Room).cells ({ frames := 0, cells := 0, slots := 0, locals := 0 } : Room).slots) h0 0 0 61 #[rv a, rv b, iv 0, iv t, iv le, iv sl, iv sc, iv 0, iv ln, iv co, iv 1, iv 1, .unset] [] := by
      intro hc
      refine C.aloadN d6_61 rfl rfl rfl ?_
      refine C.iload d6_62 rfl rfl ?_
      refine C.caload (.int y0) d6_64 rfl P5 (by decide) rfl ?_
      refine C.istore (Ls' := #[rv a, rv b, iv 0, iv t, iv le, iv sl, iv sc, iv 0, iv ln, iv co, iv 1, iv 1, iv y0]) d6_65 rfl rfl ?_
      refine C.iload d6_67 rfl rfl ?_
      refine C.bipush 10 d6_69 rfl rfl ?_
      refine C.icmp_ne d6_71 (by decide) rfl rfl (fun q71 => ?_) (fun q71 => ?_)
      · refine C.iload d6_85 rfl rfl ?_
        refine C.bipush 10 d6_87 rfl rfl ?_
        refine C.icmp_eq_f d6_89 rfl q71 ?_
        refine C.iload d6_92 rfl rfl ?_
        refine C.bipush 13 d6_94 rfl rfl ?_
        refine C.icmp_ne d6_96 (by decide) rfl rfl (fun q96 => ?_) (fun q96 => ?_)
        · refine C.iload d6_122 rfl rfl ?_
          refine C.if_ne_t d6_124 (by decide) rfl (by decide) ?_
          refine C.iinc (Ls' := #[rv a, rv b, iv 0, iv t, iv le, iv sl, iv sc, iv 0, iv ln, iv (co + 1), iv 1, iv 1, iv y0]) 1 d6_134 rfl rfl rfl rfl ?_
          refine C.iconst 0 d6_137 rfl rfl ?_
          refine C.istore (Ls' := #[rv a, rv b, iv 0, iv t, iv le, iv sl, iv sc, iv 0, iv ln, iv (co + 1), iv 0, iv 1, iv y0]) d6_138 rfl rfl ?_
          refine C.iconst 1 d6_140 rfl rfl ?_
          refine C.istore (Ls' := #[rv a, rv b, iv 0, iv t, iv le, iv sl, iv sc, iv 0, iv ln, iv (co + 1), iv 0, iv 1, iv y0]) d6_141 rfl rfl ?_
          refine C.iinc (Ls' := #[rv a, rv b, iv 0, iv t, iv le, iv sl, iv sc, iv 1, iv ln, iv (co + 1), iv 0, iv 1, iv y0]) 1 d6_143 rfl rfl rfl rfl ?_
          refine C.goto d6_146 (by decide) rfl ?_
          have k1 : own_ln ln pv y0 = ln := by simp [own_ln, hp, hc, q71, q96]
          have k2 : own_cl co pv y0 = (co + 1) := by simp [own_cl, hp, hc, q71, q96]
          have k3 : 0 = own_cr y0 := by simp [own_cr, hp, hc, q71, q96]
          have k4 : 1 = own_bg y0 := by simp [own_bg, hy0]
          exact J27_1_306 ln (co + 1) y0 0 1 k3 k4 (hE.trans ((own_go hc).trans (by rw [k1, k2]; rfl)))
        refine C.iinc (Ls' := #[rv a, rv b, iv 0, iv t, iv le, iv sl, iv sc, iv 0, iv (ln + 1), iv co, iv 1, iv 1, iv y0]) 1 d6_99 rfl rfl rfl rfl ?_
        refine C.iconst 1 d6_102 rfl rfl ?_
        refine C.istore (Ls' := #[rv a, rv b, iv 0, iv t, iv le, iv sl, iv sc, iv 0, iv (ln + 1), iv 1, iv 1, iv 1, iv y0]) d6_103 rfl rfl ?_
        refine C.iload d6_105 rfl rfl ?_
        refine C.bipush 13 d6_107 rfl rfl ?_
        refine C.icmp_ne_f d6_109 rfl q96 ?_
        refine C.iconst 1 d6_112 rfl rfl ?_
        refine C.goto d6_113 (by decide) rfl ?_
        refine C.istore (Ls' := #[rv a, rv b, iv 0, iv t, iv le, iv sl, iv sc, iv 0, iv (ln + 1), iv 1, iv 1, iv 1, iv y0]) d6_117 rfl rfl ?_
        refine C.goto d6_119 (by decide) rfl ?_
        refine C.iconst 1 d6_140 rfl rfl ?_
        refine C.istore (Ls' := #[rv a, rv b, iv 0, iv t, iv le, iv sl, iv sc, iv 0, iv (ln + 1), iv 1, iv 1, iv 1, iv y0]) d6_141 rfl rfl ?_
        refine C.iinc (Ls' := #[rv a, rv b, iv 0, iv t, iv le, iv sl, iv sc, iv 1, iv (ln + 1), iv 1, iv 1, iv 1, iv y0]) 1 d6_143 rfl rfl rfl rfl ?_
        refine C.goto d6_146 (by decide) rfl ?_
        have k1 : own_ln ln pv y0 = (ln + 1) := by simp [own_ln, hp, hc, q71, q96]
        have k2 : own_cl co pv y0 = 1 := by simp [own_cl, hp, hc, q71, q96]
        have k3 : 1 = own_cr y0 := by simp [own_cr, hp, hc, q71, q96]
        have k4 : 1 = own_bg y0 := by simp [own_bg, hy0]
        exact J27_1_306 (ln + 1) 1 y0 1 1 k3 k4 (hE.trans ((own_go hc).trans (by rw [k1, k2]; rfl)))
      refine C.iload d6_74 rfl rfl ?_
      refine C.if_eq_f d6_76 rfl (by decide) ?_
      refine C.iconst 0 d6_79 rfl rfl ?_
      refine C.istore (Ls' := #[rv a, rv b, iv 0, iv t, iv le, iv sl, iv sc, iv 0, iv ln, iv co, iv 0, iv 1, iv y0]) d6_80 rfl rfl ?_
      refine C.goto d6_82 (by decide) rfl ?_
      refine C.iconst 1 d6_140 rfl rfl ?_
      refine C.istore (Ls' := #[rv a, rv b, iv 0, iv t, iv le, iv sl, iv sc, iv 0, iv ln, iv co, iv 0, iv 1, iv y0]) d6_141 rfl rfl ?_
      refine C.iinc (Ls' := #[rv a, rv b, iv 0, iv t, iv le, iv sl, iv sc, iv 1, iv ln, iv co, iv 0, iv 1, iv y0]) 1 d6_143 rfl rfl rfl rfl ?_
      refine C.goto d6_146 (by decide) rfl ?_
      have k1 : own_ln ln pv y0 = ln := by simp [own_ln, hp, hc, q71]
      have k2 : own_cl co pv y0 = co := by simp [own_cl, hp, hc, q71]
      have k3 : 0 = own_cr y0 := by simp [own_cr, hp, hc, q71]
      have k4 : 1 = own_bg y0 := by simp [own_bg, hy0]
      exact J27_1_306 ln co y0 0 1 k3 k4 (hE.trans ((own_go hc).trans (by rw [k1, k2]; rfl)))
    refine C.icmp_ge d6_30 (by decide) rfl rfl (fun q30 => ?_) (fun q30 => ?_)
    · exact J149 (hE.trans (own_no (fun h => q30 h.1)))
    refine C.iload d6_33 rfl rfl ?_
    refine C.iload d6_35 rfl rfl ?_
    refine C.icmp_lt d6_37 (by decide) rfl rfl (fun q37 => ?_) (fun q37 => ?_)
    · exact J61_374 ⟨q30, Or.inl q37⟩
    refine C.iload d6_40 rfl rfl ?_
    refine C.iload d6_42 rfl rfl ?_
    refine C.icmp_lt d6_44 (by decide) rfl rfl (fun q44 => ?_) (fun q44 => ?_)
    · exact J61_374 ⟨q30, Or.inr (Or.inl q44)⟩
    refine C.iload d6_47 rfl rfl ?_
    refine C.iload d6_49 rfl rfl ?_
    refine C.icmp_ne d6_51 (by decide) rfl rfl (fun q51 => ?_) (fun q51 => ?_)
    · exact J149 (hE.trans (own_no (fun h => h.2.elim q37 fun h => h.elim q44 fun h => q51 h.1)))
    refine C.iload d6_54 rfl rfl ?_
    refine C.iload d6_56 rfl rfl ?_
    refine C.icmp_ge d6_58 (by decide) rfl rfl (fun q58 => ?_) (fun q58 => ?_)
    · exact J149 (hE.trans (own_no (fun h => h.2.elim q37 fun h => h.elim q44 fun h => q58 h.2)))
    exact J61_374 ⟨q30, Or.inr (Or.inr ⟨q51, q58⟩)⟩
  · rw [e1, e2] at J149 ⊢
    refine C.iload d6_27 rfl rfl ?_
    refine C.iloadN d6_29 rfl rfl ?_
    have J61_375 : ∀ (hc : 0 < t ∧ (0 < le ∨ ln < sl ∨ (ln = sl ∧ co < sc))), Go p l e ({ frames := 0, cells := 0, slots := 0, locals := 0 } : Room) s m #[(.ref a), (.ref b), (.int 0), (.int t), (.int le), (.int sl), (.int sc)] below meth c n0 (FinQ s n0 (Qcon_pass_3_0 Z n0 h0 a b t le sl sc ln co pv y0 y1 y2) ({ frames := 0, cells := 0, slots := 0, locals := 0 } : Room).cells ({ frames := 0, cells := 0, slots := 0, locals := 0 } : Room).slots) h0 0 0 61 #[rv a, rv b, iv 0, iv t, iv le, iv sl, iv sc, iv 0, iv ln, iv co, iv 0, iv 0, .unset] [] := by
      intro hc
      refine C.aloadN d6_61 rfl rfl rfl ?_
      refine C.iload d6_62 rfl rfl ?_
      refine C.caload (.int y0) d6_64 rfl P5 (by decide) rfl ?_
      refine C.istore (Ls' := #[rv a, rv b, iv 0, iv t, iv le, iv sl, iv sc, iv 0, iv ln, iv co, iv 0, iv 0, iv y0]) d6_65 rfl rfl ?_
      refine C.iload d6_67 rfl rfl ?_
      refine C.bipush 10 d6_69 rfl rfl ?_
      refine C.icmp_ne d6_71 (by decide) rfl rfl (fun q71 => ?_) (fun q71 => ?_)
      · refine C.iload d6_85 rfl rfl ?_
        refine C.bipush 10 d6_87 rfl rfl ?_
        refine C.icmp_eq_f d6_89 rfl q71 ?_
        refine C.iload d6_92 rfl rfl ?_
        refine C.bipush 13 d6_94 rfl rfl ?_
        refine C.icmp_ne d6_96 (by decide) rfl rfl (fun q96 => ?_) (fun q96 => ?_)
        · refine C.iload d6_122 rfl rfl ?_
          refine C.if_ne_f d6_124 rfl (by decide) ?_
          refine C.iload d6_127 rfl rfl ?_
          refine C.ldcI d6_129 rfl (tw hw 47 rfl) ?_
          refine C.icmp_eq d6_131 (by decide) rfl rfl (fun q131 => ?_) (fun q131 => ?_)
          · refine C.iconst 1 d6_140 rfl rfl ?_
            refine C.istore (Ls' := #[rv a, rv b, iv 0, iv t, iv le, iv sl, iv sc, iv 0, iv ln, iv co, iv 0, iv 1, iv y0]) d6_141 rfl rfl ?_
            refine C.iinc (Ls' := #[rv a, rv b, iv 0, iv t, iv le, iv sl, iv sc, iv 1, iv ln, iv co, iv 0, iv 1, iv y0]) 1 d6_143 rfl rfl rfl rfl ?_
            refine C.goto d6_146 (by decide) rfl ?_
            have k1 : own_ln ln pv y0 = ln := by simp [own_ln, hp, hc, q71, q96, q131]
            have k2 : own_cl co pv y0 = co := by simp [own_cl, hp, hc, q71, q96, q131]
            have k3 : 0 = own_cr y0 := by simp [own_cr, hp, hc, q71, q96, q131]
            have k4 : 1 = own_bg y0 := by simp [own_bg, hy0]
            exact J27_1_306 ln co y0 0 1 k3 k4 (hE.trans ((own_go hc).trans (by rw [k1, k2]; rfl)))
          refine C.iinc (Ls' := #[rv a, rv b, iv 0, iv t, iv le, iv sl, iv sc, iv 0, iv ln, iv (co + 1), iv 0, iv 0, iv y0]) 1 d6_134 rfl rfl rfl rfl ?_
          refine C.iconst 0 d6_137 rfl rfl ?_
          refine C.istore (Ls' := #[rv a, rv b, iv 0, iv t, iv le, iv sl, iv sc, iv 0, iv ln, iv (co + 1), iv 0, iv 0, iv y0]) d6_138 rfl rfl ?_
          refine C.iconst 1 d6_140 rfl rfl ?_
          refine C.istore (Ls' := #[rv a, rv b, iv 0, iv t, iv le, iv sl, iv sc, iv 0, iv ln, iv (co + 1), iv 0, iv 1, iv y0]) d6_141 rfl rfl ?_
          refine C.iinc (Ls' := #[rv a, rv b, iv 0, iv t, iv le, iv sl, iv sc, iv 1, iv ln, iv (co + 1), iv 0, iv 1, iv y0]) 1 d6_143 rfl rfl rfl rfl ?_
          refine C.goto d6_146 (by decide) rfl ?_
          have k1 : own_ln ln pv y0 = ln := by simp [own_ln, hp, hc, q71, q96, q131]
          have k2 : own_cl co pv y0 = (co + 1) := by simp [own_cl, hp, hc, q71, q96, q131]
          have k3 : 0 = own_cr y0 := by simp [own_cr, hp, hc, q71, q96, q131]
          have k4 : 1 = own_bg y0 := by simp [own_bg, hy0]
          exact J27_1_306 ln (co + 1) y0 0 1 k3 k4 (hE.trans ((own_go hc).trans (by rw [k1, k2]; rfl)))
        refine C.iinc (Ls' := #[rv a, rv b, iv 0, iv t, iv le, iv sl, iv sc, iv 0, iv (ln + 1), iv co, iv 0, iv 0, iv y0]) 1 d6_99 rfl rfl rfl rfl ?_
        refine C.iconst 1 d6_102 rfl rfl ?_
        refine C.istore (Ls' := #[rv a, rv b, iv 0, iv t, iv le, iv sl, iv sc, iv 0, iv (ln + 1), iv 1, iv 0, iv 0, iv y0]) d6_103 rfl rfl ?_
        refine C.iload d6_105 rfl rfl ?_
        refine C.bipush 13 d6_107 rfl rfl ?_
        refine C.icmp_ne_f d6_109 rfl q96 ?_
        refine C.iconst 1 d6_112 rfl rfl ?_
        refine C.goto d6_113 (by decide) rfl ?_
        refine C.istore (Ls' := #[rv a, rv b, iv 0, iv t, iv le, iv sl, iv sc, iv 0, iv (ln + 1), iv 1, iv 1, iv 0, iv y0]) d6_117 rfl rfl ?_
        refine C.goto d6_119 (by decide) rfl ?_
        refine C.iconst 1 d6_140 rfl rfl ?_
        refine C.istore (Ls' := #[rv a, rv b, iv 0, iv t, iv le, iv sl, iv sc, iv 0, iv (ln + 1), iv 1, iv 1, iv 1, iv y0]) d6_141 rfl rfl ?_
        refine C.iinc (Ls' := #[rv a, rv b, iv 0, iv t, iv le, iv sl, iv sc, iv 1, iv (ln + 1), iv 1, iv 1, iv 1, iv y0]) 1 d6_143 rfl rfl rfl rfl ?_
        refine C.goto d6_146 (by decide) rfl ?_
        have k1 : own_ln ln pv y0 = (ln + 1) := by simp [own_ln, hp, hc, q71, q96]
        have k2 : own_cl co pv y0 = 1 := by simp [own_cl, hp, hc, q71, q96]
        have k3 : 1 = own_cr y0 := by simp [own_cr, hp, hc, q71, q96]
        have k4 : 1 = own_bg y0 := by simp [own_bg, hy0]
        exact J27_1_306 (ln + 1) 1 y0 1 1 k3 k4 (hE.trans ((own_go hc).trans (by rw [k1, k2]; rfl)))
      refine C.iload d6_74 rfl rfl ?_
      refine C.if_eq_t d6_76 (by decide) rfl (by decide) ?_
      refine C.iload d6_85 rfl rfl ?_
      refine C.bipush 10 d6_87 rfl rfl ?_
      refine C.icmp_eq_t d6_89 (by decide) rfl q71 ?_
      refine C.iinc (Ls' := #[rv a, rv b, iv 0, iv t, iv le, iv sl, iv sc, iv 0, iv (ln + 1), iv co, iv 0, iv 0, iv y0]) 1 d6_99 rfl rfl rfl rfl ?_
      refine C.iconst 1 d6_102 rfl rfl ?_
      refine C.istore (Ls' := #[rv a, rv b, iv 0, iv t, iv le, iv sl, iv sc, iv 0, iv (ln + 1), iv 1, iv 0, iv 0, iv y0]) d6_103 rfl rfl ?_
      refine C.iload d6_105 rfl rfl ?_
      refine C.bipush 13 d6_107 rfl rfl ?_
      refine C.icmp_ne_t d6_109 (by decide) rfl (by rw [q71]; decide) ?_
      refine C.iconst 0 d6_116 rfl rfl ?_
      refine C.istore (Ls' := #[rv a, rv b, iv 0, iv t, iv le, iv sl, iv sc, iv 0, iv (ln + 1), iv 1, iv 0, iv 0, iv y0]) d6_117 rfl rfl ?_
      refine C.goto d6_119 (by decide) rfl ?_
      refine C.iconst 1 d6_140 rfl rfl ?_
      refine C.istore (Ls' := #[rv a, rv b, iv 0, iv t, iv le, iv sl, iv sc, iv 0, iv (ln + 1), iv 1, iv 0, iv 1, iv y0]) d6_141 rfl rfl ?_
      refine C.iinc (Ls' := #[rv a, rv b, iv 0, iv t, iv le, iv sl, iv sc, iv 1, iv (ln + 1), iv 1, iv 0, iv 1, iv y0]) 1 d6_143 rfl rfl rfl rfl ?_
      refine C.goto d6_146 (by decide) rfl ?_
      have k1 : own_ln ln pv y0 = (ln + 1) := by simp [own_ln, hp, hc, q71]
      have k2 : own_cl co pv y0 = 1 := by simp [own_cl, hp, hc, q71]
      have k3 : 0 = own_cr y0 := by simp [own_cr, hp, hc, q71]
      have k4 : 1 = own_bg y0 := by simp [own_bg, hy0]
      exact J27_1_306 (ln + 1) 1 y0 0 1 k3 k4 (hE.trans ((own_go hc).trans (by rw [k1, k2]; rfl)))
    refine C.icmp_ge d6_30 (by decide) rfl rfl (fun q30 => ?_) (fun q30 => ?_)
    · exact J149 (hE.trans (own_no (fun h => q30 h.1)))
    refine C.iload d6_33 rfl rfl ?_
    refine C.iload d6_35 rfl rfl ?_
    refine C.icmp_lt d6_37 (by decide) rfl rfl (fun q37 => ?_) (fun q37 => ?_)
    · exact J61_375 ⟨q30, Or.inl q37⟩
    refine C.iload d6_40 rfl rfl ?_
    refine C.iload d6_42 rfl rfl ?_
    refine C.icmp_lt d6_44 (by decide) rfl rfl (fun q44 => ?_) (fun q44 => ?_)
    · exact J61_375 ⟨q30, Or.inr (Or.inl q44)⟩
    refine C.iload d6_47 rfl rfl ?_
    refine C.iload d6_49 rfl rfl ?_
    refine C.icmp_ne d6_51 (by decide) rfl rfl (fun q51 => ?_) (fun q51 => ?_)
    · exact J149 (hE.trans (own_no (fun h => h.2.elim q37 fun h => h.elim q44 fun h => q51 h.1)))
    refine C.iload d6_54 rfl rfl ?_
    refine C.iload d6_56 rfl rfl ?_
    refine C.icmp_ge d6_58 (by decide) rfl rfl (fun q58 => ?_) (fun q58 => ?_)
    · exact J149 (hE.trans (own_no (fun h => h.2.elim q37 fun h => h.elim q44 fun h => q58 h.2)))
    exact J61_375 ⟨q30, Or.inr (Or.inr ⟨q51, q58⟩)⟩
  rw [e1, e2] at J149 ⊢
  refine C.iload d6_27 rfl rfl ?_
  refine C.iloadN d6_29 rfl rfl ?_
  have J61_376 : ∀ (hc : 0 < t ∧ (0 < le ∨ ln < sl ∨ (ln = sl ∧ co < sc))), Go p l e ({ frames := 0, cells := 0, slots := 0, locals := 0 } : Room) s m #[(.ref a), (.ref b), (.int 0), (.int t), (.int le), (.int sl), (.int sc)] below meth c n0 (FinQ s n0 (Qcon_pass_3_0 Z n0 h0 a b t le sl sc ln co pv y0 y1 y2) ({ frames := 0, cells := 0, slots := 0, locals := 0 } : Room).cells ({ frames := 0, cells := 0, slots := 0, locals := 0 } : Room).slots) h0 0 0 61 #[rv a, rv b, iv 0, iv t, iv le, iv sl, iv sc, iv 0, iv ln, iv co, iv 0, iv 1, .unset] [] := by
    intro hc
    refine C.aloadN d6_61 rfl rfl rfl ?_
    refine C.iload d6_62 rfl rfl ?_
    refine C.caload (.int y0) d6_64 rfl P5 (by decide) rfl ?_
    refine C.istore (Ls' := #[rv a, rv b, iv 0, iv t, iv le, iv sl, iv sc, iv 0, iv ln, iv co, iv 0, iv 1, iv y0]) d6_65 rfl rfl ?_
    refine C.iload d6_67 rfl rfl ?_
    refine C.bipush 10 d6_69 rfl rfl ?_
    refine C.icmp_ne d6_71 (by decide) rfl rfl (fun q71 => ?_) (fun q71 => ?_)
    · refine C.iload d6_85 rfl rfl ?_
      refine C.bipush 10 d6_87 rfl rfl ?_
      refine C.icmp_eq_f d6_89 rfl q71 ?_
      refine C.iload d6_92 rfl rfl ?_
      refine C.bipush 13 d6_94 rfl rfl ?_
      refine C.icmp_ne d6_96 (by decide) rfl rfl (fun q96 => ?_) (fun q96 => ?_)
      · refine C.iload d6_122 rfl rfl ?_
        refine C.if_ne_t d6_124 (by decide) rfl (by decide) ?_
        refine C.iinc (Ls' := #[rv a, rv b, iv 0, iv t, iv le, iv sl, iv sc, iv 0, iv ln, iv (co + 1), iv 0, iv 1, iv y0]) 1 d6_134 rfl rfl rfl rfl ?_
        refine C.iconst 0 d6_137 rfl rfl ?_
        refine C.istore (Ls' := #[rv a, rv b, iv 0, iv t, iv le, iv sl, iv sc, iv 0, iv ln, iv (co + 1), iv 0, iv 1, iv y0]) d6_138 rfl rfl ?_
        refine C.iconst 1 d6_140 rfl rfl ?_
        refine C.istore (Ls' := #[rv a, rv b, iv 0, iv t, iv le, iv sl, iv sc, iv 0, iv ln, iv (co + 1), iv 0, iv 1, iv y0]) d6_141 rfl rfl ?_
        refine C.iinc (Ls' := #[rv a, rv b, iv 0, iv t, iv le, iv sl, iv sc, iv 1, iv ln, iv (co + 1), iv 0, iv 1, iv y0]) 1 d6_143 rfl rfl rfl rfl ?_
        refine C.goto d6_146 (by decide) rfl ?_
        have k1 : own_ln ln pv y0 = ln := by simp [own_ln, hp.1, hp.2, hc, q71, q96]
        have k2 : own_cl co pv y0 = (co + 1) := by simp [own_cl, hp.1, hp.2, hc, q71, q96]
        have k3 : 0 = own_cr y0 := by simp [own_cr, hp.1, hp.2, hc, q71, q96]
        have k4 : 1 = own_bg y0 := by simp [own_bg, hy0]
        exact J27_1_306 ln (co + 1) y0 0 1 k3 k4 (hE.trans ((own_go hc).trans (by rw [k1, k2]; rfl)))
      refine C.iinc (Ls' := #[rv a, rv b, iv 0, iv t, iv le, iv sl, iv sc, iv 0, iv (ln + 1), iv co, iv 0, iv 1, iv y0]) 1 d6_99 rfl rfl rfl rfl ?_
      refine C.iconst 1 d6_102 rfl rfl ?_
      refine C.istore (Ls' := #[rv a, rv b, iv 0, iv t, iv le, iv sl, iv sc, iv 0, iv (ln + 1), iv 1, iv 0, iv 1, iv y0]) d6_103 rfl rfl ?_
      refine C.iload d6_105 rfl rfl ?_
      refine C.bipush 13 d6_107 rfl rfl ?_
      refine C.icmp_ne_f d6_109 rfl q96 ?_
      refine C.iconst 1 d6_112 rfl rfl ?_
      refine C.goto d6_113 (by decide) rfl ?_
      refine C.istore (Ls' := #[rv a, rv b, iv 0, iv t, iv le, iv sl, iv sc, iv 0, iv (ln + 1), iv 1, iv 1, iv 1, iv y0]) d6_117 rfl rfl ?_
      refine C.goto d6_119 (by decide) rfl ?_
      refine C.iconst 1 d6_140 rfl rfl ?_
      refine C.istore (Ls' := #[rv a, rv b, iv 0, iv t, iv le, iv sl, iv sc, iv 0, iv (ln + 1), iv 1, iv 1, iv 1, iv y0]) d6_141 rfl rfl ?_
      refine C.iinc (Ls' := #[rv a, rv b, iv 0, iv t, iv le, iv sl, iv sc, iv 1, iv (ln + 1), iv 1, iv 1, iv 1, iv y0]) 1 d6_143 rfl rfl rfl rfl ?_
      refine C.goto d6_146 (by decide) rfl ?_
      have k1 : own_ln ln pv y0 = (ln + 1) := by simp [own_ln, hp.1, hp.2, hc, q71, q96]
      have k2 : own_cl co pv y0 = 1 := by simp [own_cl, hp.1, hp.2, hc, q71, q96]
      have k3 : 1 = own_cr y0 := by simp [own_cr, hp.1, hp.2, hc, q71, q96]
      have k4 : 1 = own_bg y0 := by simp [own_bg, hy0]
      exact J27_1_306 (ln + 1) 1 y0 1 1 k3 k4 (hE.trans ((own_go hc).trans (by rw [k1, k2]; rfl)))
    refine C.iload d6_74 rfl rfl ?_
    refine C.if_eq_t d6_76 (by decide) rfl (by decide) ?_
    refine C.iload d6_85 rfl rfl ?_
    refine C.bipush 10 d6_87 rfl rfl ?_
    refine C.icmp_eq_t d6_89 (by decide) rfl q71 ?_
    refine C.iinc (Ls' := #[rv a, rv b, iv 0, iv t, iv le, iv sl, iv sc, iv 0, iv (ln + 1), iv co, iv 0, iv 1, iv y0]) 1 d6_99 rfl rfl rfl rfl ?_
    refine C.iconst 1 d6_102 rfl rfl ?_
    refine C.istore (Ls' := #[rv a, rv b, iv 0, iv t, iv le, iv sl, iv sc, iv 0, iv (ln + 1), iv 1, iv 0, iv 1, iv y0]) d6_103 rfl rfl ?_
    refine C.iload d6_105 rfl rfl ?_
    refine C.bipush 13 d6_107 rfl rfl ?_
    refine C.icmp_ne_t d6_109 (by decide) rfl (by rw [q71]; decide) ?_
    refine C.iconst 0 d6_116 rfl rfl ?_
    refine C.istore (Ls' := #[rv a, rv b, iv 0, iv t, iv le, iv sl, iv sc, iv 0, iv (ln + 1), iv 1, iv 0, iv 1, iv y0]) d6_117 rfl rfl ?_
    refine C.goto d6_119 (by decide) rfl ?_
    refine C.iconst 1 d6_140 rfl rfl ?_
    refine C.istore (Ls' := #[rv a, rv b, iv 0, iv t, iv le, iv sl, iv sc, iv 0, iv (ln + 1), iv 1, iv 0, iv 1, iv y0]) d6_141 rfl rfl ?_
    refine C.iinc (Ls' := #[rv a, rv b, iv 0, iv t, iv le, iv sl, iv sc, iv 1, iv (ln + 1), iv 1, iv 0, iv 1, iv y0]) 1 d6_143 rfl rfl rfl rfl ?_
    refine C.goto d6_146 (by decide) rfl ?_
    have k1 : own_ln ln pv y0 = (ln + 1) := by simp [own_ln, hp.1, hp.2, hc, q71]
    have k2 : own_cl co pv y0 = 1 := by simp [own_cl, hp.1, hp.2, hc, q71]
    have k3 : 0 = own_cr y0 := by simp [own_cr, hp.1, hp.2, hc, q71]
    have k4 : 1 = own_bg y0 := by simp [own_bg, hy0]
    exact J27_1_306 (ln + 1) 1 y0 0 1 k3 k4 (hE.trans ((own_go hc).trans (by rw [k1, k2]; rfl)))
  refine C.icmp_ge d6_30 (by decide) rfl rfl (fun q30 => ?_) (fun q30 => ?_)
  · exact J149 (hE.trans (own_no (fun h => q30 h.1)))
  refine C.iload d6_33 rfl rfl ?_
  refine C.iload d6_35 rfl rfl ?_
  refine C.icmp_lt d6_37 (by decide) rfl rfl (fun q37 => ?_) (fun q37 => ?_)
  · exact J61_376 ⟨q30, Or.inl q37⟩
  refine C.iload d6_40 rfl rfl ?_
  refine C.iload d6_42 rfl rfl ?_
  refine C.icmp_lt d6_44 (by decide) rfl rfl (fun q44 => ?_) (fun q44 => ?_)
  · exact J61_376 ⟨q30, Or.inr (Or.inl q44)⟩
  refine C.iload d6_47 rfl rfl ?_
  refine C.iload d6_49 rfl rfl ?_
  refine C.icmp_ne d6_51 (by decide) rfl rfl (fun q51 => ?_) (fun q51 => ?_)
  · exact J149 (hE.trans (own_no (fun h => h.2.elim q37 fun h => h.elim q44 fun h => q51 h.1)))
  refine C.iload d6_54 rfl rfl ?_
  refine C.iload d6_56 rfl rfl ?_
  refine C.icmp_ge d6_58 (by decide) rfl rfl (fun q58 => ?_) (fun q58 => ?_)
  · exact J149 (hE.trans (own_no (fun h => h.2.elim q37 fun h => h.elim q44 fun h => q58 h.2)))
  exact J61_376 ⟨q30, Or.inr (Or.inr ⟨q51, q58⟩)⟩
def Qcon_pass_3_1 (Z : State) (n0 : Nat) (h0 : Heap) (a : Addr) (b : Addr) (t : Int32) (le : Int32) (sl : Int32) (sc : Int32) (ln : Int32) (co : Int32) (pv : Int32) (y0 : Int32) (y1 : Int32) (y2 : Int32) (v : Option Value) (h' : Heap) : Prop := (v = some (.int ((own_pass t le sl sc 1 [y1, y2] ln co pv).1))) ∧ (Keep h0 h' [a]) ∧ (Fld Z h' a "com/example/dodder/dodder/PlacedText$Counter" "line" "I" (.int ((own_pass t le sl sc 1 [y1, y2] ln co pv).2.1))) ∧ (Fld Z h' a "com/example/dodder/dodder/PlacedText$Counter" "column" "I" (.int ((own_pass t le sl sc 1 [y1, y2] ln co pv).2.2.1))) ∧ (Fld Z h' a "com/example/dodder/dodder/PlacedText$Counter" "afterCarriageReturn" "Z" (.int (own_cr (own_pass t le sl sc 1 [y1, y2] ln co pv).2.2.2))) ∧ (Fld Z h' a "com/example/dodder/dodder/PlacedText$Counter" "started" "Z" (.int (own_bg (own_pass t le sl sc 1 [y1, y2] ln co pv).2.2.2)))
theorem ef_con_pass_3_1 (m : MethodId) (a : Addr) (b : Addr) (t : Int32) (le : Int32) (sl : Int32) (sc : Int32) : entryFrame m #[(.ref a), (.ref b), (.int 1), (.int t), (.int le), (.int sl), (.int sc)] 13 = mkF m 0 #[rv a, rv b, iv 1, iv t, iv le, iv sl, iv sc, .unset, .unset, .unset, .unset, .unset, .unset] [] := by first | (simp [entryFrame, mkF, argsToLocals, Value.category]; done) | rfl
set_option maxRecDepth 65536 in
set_option maxHeartbeats 40000000 in
theorem con_pass_3_1 (l : Launch) (Z : State) (a0 : Array Value) (hw : ∀ d ∈ tables_1, d.before a0 Z = true) (n0 : Nat) (h0 : Heap) (hn0 : n0 ≤ h0.size) (a : Addr) (b : Addr) (t : Int32) (le : Int32) (sl : Int32) (sc : Int32) (ln : Int32) (co : Int32) (pv : Int32) (y0 : Int32) (y1 : Int32) (y2 : Int32) (P0 : Exa Z h0 a "com/example/dodder/dodder/PlacedText$Counter") (P1 : Fld Z h0 a "com/example/dodder/dodder/PlacedText$Counter" "line" "I" (.int ln)) (P2 : Fld Z h0 a "com/example/dodder/dodder/PlacedText$Counter" "column" "I" (.int co)) (P3 : Fld Z h0 a "com/example/dodder/dodder/PlacedText$Counter" "afterCarriageReturn" "Z" (.int (own_cr pv))) (P4 : Fld Z h0 a "com/example/dodder/dodder/PlacedText$Counter" "started" "Z" (.int (own_bg pv))) (P5 : Av Z h0 b .char ([.int y0, .int y1, .int y2])) (g_a : n0 ≤ a) (ne_a_b : a ≠ b) (hto : ¬ (3 : Int32) < t) (hy0 : ¬ y0 = -1) (hy1 : ¬ y1 = -1) (hy2 : ¬ y2 = -1) :
    Con l Z n0 [] (⟨"com/example/dodder/dodder/PlacedText$Counter", "pass", "([CIIIII)I"⟩ : MethodName) prog_122_method_6_code 13 (some .int) ({ frames := 0, cells := 0, slots := 0, locals := 0 } : Room) #[(.ref a), (.ref b), (.int 1), (.int t), (.int le), (.int sl), (.int sc)] h0 (Qcon_pass_3_1 Z n0 h0 a b t le sl sc ln co pv y0 y1 y2) := by
  refine Con.of pf_3 (fun m => ef_con_pass_3_1 m a b t le sl sc) hn0 ?_
  intro p e s m below meth c C
  refine C.iloadN d6_0 rfl rfl ?_
  refine C.istore (Ls' := #[rv a, rv b, iv 1, iv t, iv le, iv sl, iv sc, iv 1, .unset, .unset, .unset, .unset, .unset]) d6_1 rfl rfl ?_
  refine C.aloadN d6_3 rfl rfl rfl ?_
  refine C.getF d6_4 rfl (tw hw 16 rfl) P1 ?_
  refine C.istore (Ls' := #[rv a, rv b, iv 1, iv t, iv le, iv sl, iv sc, iv 1, iv ln, .unset, .unset, .unset, .unset]) d6_7 rfl rfl ?_
  refine C.aloadN d6_9 rfl rfl rfl ?_
  refine C.getF d6_10 rfl (tw hw 18 rfl) P2 ?_
  refine C.istore (Ls' := #[rv a, rv b, iv 1, iv t, iv le, iv sl, iv sc, iv 1, iv ln, iv co, .unset, .unset, .unset]) d6_13 rfl rfl ?_
  refine C.aloadN d6_15 rfl rfl rfl ?_
  refine C.getF d6_16 rfl (tw hw 33 rfl) P3 ?_
  refine C.istore (Ls' := #[rv a, rv b, iv 1, iv t, iv le, iv sl, iv sc, iv 1, iv ln, iv co, iv (own_cr pv), .unset, .unset]) d6_19 rfl rfl ?_
  refine C.aloadN d6_21 rfl rfl rfl ?_
  refine C.getF d6_22 rfl (tw hw 35 rfl) P4 ?_
  refine C.istore (Ls' := #[rv a, rv b, iv 1, iv t, iv le, iv sl, iv sc, iv 1, iv ln, iv co, iv (own_cr pv), iv (own_bg pv), .unset]) d6_25 rfl rfl ?_
  have J27_3_481 : ∀ (ln3 co3 pv3 cr3 bg3 : Int32) (hcr : cr3 = own_cr pv3) (hbg : bg3 = own_bg pv3) (hE : (own_pass t le sl sc 1 [y1, y2] ln co pv) = own_pass t le sl sc 3 [] ln3 co3 pv3), Go p l e ({ frames := 0, cells := 0, slots := 0, locals := 0 } : Room) s m #[(.ref a), (.ref b), (.int 1), (.int t), (.int le), (.int sl), (.int sc)] below meth c n0 (FinQ s n0 (Qcon_pass_3_1 Z n0 h0 a b t le sl sc ln co pv y0 y1 y2) ({ frames := 0, cells := 0, slots := 0, locals := 0 } : Room).cells ({ frames := 0, cells := 0, slots := 0, locals := 0 } : Room).slots) h0 0 0 27 #[rv a, rv b, iv 1, iv t, iv le, iv sl, iv sc, iv 3, iv ln3, iv co3, iv cr3, iv bg3, iv y2] [] := by
    intro ln3 co3 pv3 cr3 bg3 hcr hbg hE
    subst hcr hbg
    have J149 : ∀ (kE : (own_pass t le sl sc 1 [y1, y2] ln co pv) = (3, ln3, co3, pv3)), Go p l e ({ frames := 0, cells := 0, slots := 0, locals := 0 } : Room) s m #[(.ref a), (.ref b), (.int 1), (.int t), (.int le), (.int sl), (.int sc)] below meth c n0 (FinQ s n0 (Qcon_pass_3_1 Z n0 h0 a b t le sl sc ln co pv y0 y1 y2) ({ frames := 0, cells := 0, slots := 0, locals := 0 } : Room).cells ({ frames := 0, cells := 0, slots := 0, locals := 0 } : Room).slots) h0 0 0 149 #[rv a, rv b, iv 1, iv t, iv le, iv sl, iv sc, iv 3, iv ln3, iv co3, iv (own_cr pv3), iv (own_bg pv3), iv y2] [] := by
      intro kE
      refine C.aloadN d6_149 rfl rfl rfl ?_
      refine C.iload d6_150 rfl rfl ?_
      refine C.putF d6_152 rfl (tw hw 16 rfl) P1 P0 (Or.inl (tw hw 17 rfl)) (tw hw 8 rfl) (ty := .int) (by decide) rfl rfl g_a (fun h482 W483 F484 => ?_)
      have F485 := Exa.wr W483 P0
      have F486 := Fld.other W483 P2 (Or.inr (slot_ne (C := "com/example/dodder/dodder/PlacedText$Counter") (t := .int) (t' := .int) (Or.inl (tw hw 19 rfl)) (Or.inl (tw hw 17 rfl)) (by decide) (by decide) (by decide)))
      have F487 := Fld.other W483 P3 (Or.inr (slot_ne (C := "com/example/dodder/dodder/PlacedText$Counter") (t := .boolean) (t' := .int) (Or.inl (tw hw 34 rfl)) (Or.inl (tw hw 17 rfl)) (by decide) (by decide) (by decide)))
      have F488 := Fld.other W483 P4 (Or.inr (slot_ne (C := "com/example/dodder/dodder/PlacedText$Counter") (t := .boolean) (t' := .int) (Or.inl (tw hw 36 rfl)) (Or.inl (tw hw 17 rfl)) (by decide) (by decide) (by decide)))
      have F489 := P5.other W483 (Ne.symm ne_a_b)
      refine C.aloadN d6_155 rfl rfl rfl ?_
      refine C.iload d6_156 rfl rfl ?_
      refine C.putF d6_158 rfl (tw hw 18 rfl) F486 F485 (Or.inl (tw hw 19 rfl)) (tw hw 8 rfl) (ty := .int) (by decide) rfl rfl g_a (fun h490 W491 F492 => ?_)
      have F493 := Exa.wr W491 F485
      have F494 := Fld.other W491 F487 (Or.inr (slot_ne (C := "com/example/dodder/dodder/PlacedText$Counter") (t := .boolean) (t' := .int) (Or.inl (tw hw 34 rfl)) (Or.inl (tw hw 19 rfl)) (by decide) (by decide) (by decide)))
      have F495 := Fld.other W491 F488 (Or.inr (slot_ne (C := "com/example/dodder/dodder/PlacedText$Counter") (t := .boolean) (t' := .int) (Or.inl (tw hw 36 rfl)) (Or.inl (tw hw 19 rfl)) (by decide) (by decide) (by decide)))
      have F496 := F489.other W491 (Ne.symm ne_a_b)
      have F497 := Fld.other W491 F484 (Or.inr (slot_ne (C := "com/example/dodder/dodder/PlacedText$Counter") (t := .int) (t' := .int) (Or.inl (tw hw 17 rfl)) (Or.inl (tw hw 19 rfl)) (by decide) (by decide) (by decide)))
      refine C.aloadN d6_161 rfl rfl rfl ?_
      refine C.iload d6_162 rfl rfl ?_
      refine C.putF d6_164 rfl (tw hw 33 rfl) F494 F493 (Or.inl (tw hw 34 rfl)) (tw hw 8 rfl) (ty := .boolean) (by decide) (own_crN pv3) (own_crF pv3) g_a (fun h498 W499 F500 => ?_)
      have F501 := Exa.wr W499 F493
      have F502 := Fld.other W499 F495 (Or.inr (slot_ne (C := "com/example/dodder/dodder/PlacedText$Counter") (t := .boolean) (t' := .boolean) (Or.inl (tw hw 36 rfl)) (Or.inl (tw hw 34 rfl)) (by decide) (by decide) (by decide)))
      have F503 := F496.other W499 (Ne.symm ne_a_b)
      have F504 := Fld.other W499 F497 (Or.inr (slot_ne (C := "com/example/dodder/dodder/PlacedText$Counter") (t := .int) (t' := .boolean) (Or.inl (tw hw 17 rfl)) (Or.inl (tw hw 34 rfl)) (by decide) (by decide) (by decide)))
      have F505 := Fld.other W499 F492 (Or.inr (slot_ne (C := "com/example/dodder/dodder/PlacedText$Counter") (t := .int) (t' := .boolean) (Or.inl (tw hw 19 rfl)) (Or.inl (tw hw 34 rfl)) (by decide) (by decide) (by decide)))
      refine C.aloadN d6_167 rfl rfl rfl ?_
      refine C.iload d6_168 rfl rfl ?_
      refine C.putF d6_170 rfl (tw hw 35 rfl) F502 F501 (Or.inl (tw hw 36 rfl)) (tw hw 8 rfl) (ty := .boolean) (by decide) (own_bgN pv3) (own_bgF pv3) g_a (fun h506 W507 F508 => ?_)
      have F509 := Exa.wr W507 F501
      have F510 := F503.other W507 (Ne.symm ne_a_b)
      have F511 := Fld.other W507 F504 (Or.inr (slot_ne (C := "com/example/dodder/dodder/PlacedText$Counter") (t := .int) (t' := .boolean) (Or.inl (tw hw 17 rfl)) (Or.inl (tw hw 36 rfl)) (by decide) (by decide) (by decide)))
      have F512 := Fld.other W507 F505 (Or.inr (slot_ne (C := "com/example/dodder/dodder/PlacedText$Counter") (t := .int) (t' := .boolean) (Or.inl (tw hw 19 rfl)) (Or.inl (tw hw 36 rfl)) (by decide) (by decide) (by decide)))
      have F513 := Fld.other W507 F500 (Or.inr (slot_ne (C := "com/example/dodder/dodder/PlacedText$Counter") (t := .boolean) (t' := .boolean) (Or.inl (tw hw 34 rfl)) (Or.inl (tw hw 36 rfl)) (by decide) (by decide) (by decide)))
      refine C.iload d6_173 rfl rfl ?_
      exact C.retI d6_175 (by decide) (by decide) ⟨(by rw [kE]), (((((Keep.refl h0 [a]).wr W483 (Or.inl (List.mem_of_getElem? (i := 0) rfl))).wr W491 (Or.inl (List.mem_of_getElem? (i := 0) rfl))).wr W499 (Or.inl (List.mem_of_getElem? (i := 0) rfl))).wr W507 (Or.inl (List.mem_of_getElem? (i := 0) rfl))), (by rw [kE]; exact F511), (by rw [kE]; exact F512), (by rw [kE]; exact F513), (by rw [kE]; exact F508)⟩
    rcases own_pv pv3 with ⟨hp, e1, e2⟩ | ⟨hp, e1, e2⟩ | ⟨hp, e1, e2⟩
    · rw [e1, e2] at J149 ⊢
      refine C.iload d6_27 rfl rfl ?_
      refine C.iloadN d6_29 rfl rfl ?_
      refine C.icmp_ge_t d6_30 (by decide) rfl hto ?_
      exact J149 hE
    · rw [e1, e2] at J149 ⊢
      refine C.iload d6_27 rfl rfl ?_
      refine C.iloadN d6_29 rfl rfl ?_
      refine C.icmp_ge_t d6_30 (by decide) rfl hto ?_
      exact J149 hE
    rw [e1, e2] at J149 ⊢
    refine C.iload d6_27 rfl rfl ?_
    refine C.iloadN d6_29 rfl rfl ?_
    refine C.icmp_ge_t d6_30 (by decide) rfl hto ?_
    exact J149 hE
  have J27_2_514 : ∀ (ln2 co2 pv2 cr2 bg2 : Int32) (hcr : cr2 = own_cr pv2) (hbg : bg2 = own_bg pv2) (hE : (own_pass t le sl sc 1 [y1, y2] ln co pv) = own_pass t le sl sc 2 [y2] ln2 co2 pv2), Go p l e ({ frames := 0, cells := 0, slots := 0, locals := 0 } : Room) s m #[(.ref a), (.ref b), (.int 1), (.int t), (.int le), (.int sl), (.int sc)] below meth c n0 (FinQ s n0 (Qcon_pass_3_1 Z n0 h0 a b t le sl sc ln co pv y0 y1 y2) ({ frames := 0, cells := 0, slots := 0, locals := 0 } : Room).cells ({ frames := 0, cells := 0, slots := 0, locals := 0 } : Room).slots) h0 0 0 27 #[rv a, rv b, iv 1, iv t, iv le, iv sl, iv sc, iv 2, iv ln2, iv co2, iv cr2, iv bg2, iv y1] [] := by
    intro ln2 co2 pv2 cr2 bg2 hcr hbg hE
    subst hcr hbg
    have J149 : ∀ (kE : (own_pass t le sl sc 1 [y1, y2] ln co pv) = (2, ln2, co2, pv2)), Go p l e ({ frames := 0, cells := 0, slots := 0, locals := 0 } : Room) s m #[(.ref a), (.ref b), (.int 1), (.int t), (.int le), (.int sl), (.int sc)] below meth c n0 (FinQ s n0 (Qcon_pass_3_1 Z n0 h0 a b t le sl sc ln co pv y0 y1 y2) ({ frames := 0, cells := 0, slots := 0, locals := 0 } : Room).cells ({ frames := 0, cells := 0, slots := 0, locals := 0 } : Room).slots) h0 0 0 149 #[rv a, rv b, iv 1, iv t, iv le, iv sl, iv sc, iv 2, iv ln2, iv co2, iv (own_cr pv2), iv (own_bg pv2), iv y1] [] := by
      intro kE
      refine C.aloadN d6_149 rfl rfl rfl ?_
      refine C.iload d6_150 rfl rfl ?_
      refine C.putF d6_152 rfl (tw hw 16 rfl) P1 P0 (Or.inl (tw hw 17 rfl)) (tw hw 8 rfl) (ty := .int) (by decide) rfl rfl g_a (fun h515 W516 F517 => ?_)
      have F518 := Exa.wr W516 P0
      have F519 := Fld.other W516 P2 (Or.inr (slot_ne (C := "com/example/dodder/dodder/PlacedText$Counter") (t := .int) (t' := .int) (Or.inl (tw hw 19 rfl)) (Or.inl (tw hw 17 rfl)) (by decide) (by decide) (by decide)))
      have F520 := Fld.other W516 P3 (Or.inr (slot_ne (C := "com/example/dodder/dodder/PlacedText$Counter") (t := .boolean) (t' := .int) (Or.inl (tw hw 34 rfl)) (Or.inl (tw hw 17 rfl)) (by decide) (by decide) (by decide)))
      have F521 := Fld.other W516 P4 (Or.inr (slot_ne (C := "com/example/dodder/dodder/PlacedText$Counter") (t := .boolean) (t' := .int) (Or.inl (tw hw 36 rfl)) (Or.inl (tw hw 17 rfl)) (by decide) (by decide) (by decide)))
      have F522 := P5.other W516 (Ne.symm ne_a_b)
      refine C.aloadN d6_155 rfl rfl rfl ?_
      refine C.iload d6_156 rfl rfl ?_
      refine C.putF d6_158 rfl (tw hw 18 rfl) F519 F518 (Or.inl (tw hw 19 rfl)) (tw hw 8 rfl) (ty := .int) (by decide) rfl rfl g_a (fun h523 W524 F525 => ?_)
      have F526 := Exa.wr W524 F518
      have F527 := Fld.other W524 F520 (Or.inr (slot_ne (C := "com/example/dodder/dodder/PlacedText$Counter") (t := .boolean) (t' := .int) (Or.inl (tw hw 34 rfl)) (Or.inl (tw hw 19 rfl)) (by decide) (by decide) (by decide)))
      have F528 := Fld.other W524 F521 (Or.inr (slot_ne (C := "com/example/dodder/dodder/PlacedText$Counter") (t := .boolean) (t' := .int) (Or.inl (tw hw 36 rfl)) (Or.inl (tw hw 19 rfl)) (by decide) (by decide) (by decide)))
      have F529 := F522.other W524 (Ne.symm ne_a_b)
      have F530 := Fld.other W524 F517 (Or.inr (slot_ne (C := "com/example/dodder/dodder/PlacedText$Counter") (t := .int) (t' := .int) (Or.inl (tw hw 17 rfl)) (Or.inl (tw hw 19 rfl)) (by decide) (by decide) (by decide)))
      refine C.aloadN d6_161 rfl rfl rfl ?_
      refine C.iload d6_162 rfl rfl ?_
      refine C.putF d6_164 rfl (tw hw 33 rfl) F527 F526 (Or.inl (tw hw 34 rfl)) (tw hw 8 rfl) (ty := .boolean) (by decide) (own_crN pv2) (own_crF pv2) g_a (fun h531 W532 F533 => ?_)
      have F534 := Exa.wr W532 F526
      have F535 := Fld.other W532 F528 (Or.inr (slot_ne (C := "com/example/dodder/dodder/PlacedText$Counter") (t := .boolean) (t' := .boolean) (Or.inl (tw hw 36 rfl)) (Or.inl (tw hw 34 rfl)) (by decide) (by decide) (by decide)))
      have F536 := F529.other W532 (Ne.symm ne_a_b)
      have F537 := Fld.other W532 F530 (Or.inr (slot_ne (C := "com/example/dodder/dodder/PlacedText$Counter") (t := .int) (t' := .boolean) (Or.inl (tw hw 17 rfl)) (Or.inl (tw hw 34 rfl)) (by decide) (by decide) (by decide)))
      have F538 := Fld.other W532 F525 (Or.inr (slot_ne (C := "com/example/dodder/dodder/PlacedText$Counter") (t := .int) (t' := .boolean) (Or.inl (tw hw 19 rfl)) (Or.inl (tw hw 34 rfl)) (by decide) (by decide) (by decide)))
      refine C.aloadN d6_167 rfl rfl rfl ?_
      refine C.iload d6_168 rfl rfl ?_
      refine C.putF d6_170 rfl (tw hw 35 rfl) F535 F534 (Or.inl (tw hw 36 rfl)) (tw hw 8 rfl) (ty := .boolean) (by decide) (own_bgN pv2) (own_bgF pv2) g_a (fun h539 W540 F541 => ?_)
      have F542 := Exa.wr W540 F534
      have F543 := F536.other W540 (Ne.symm ne_a_b)
      have F544 := Fld.other W540 F537 (Or.inr (slot_ne (C := "com/example/dodder/dodder/PlacedText$Counter") (t := .int) (t' := .boolean) (Or.inl (tw hw 17 rfl)) (Or.inl (tw hw 36 rfl)) (by decide) (by decide) (by decide)))
      have F545 := Fld.other W540 F538 (Or.inr (slot_ne (C := "com/example/dodder/dodder/PlacedText$Counter") (t := .int) (t' := .boolean) (Or.inl (tw hw 19 rfl)) (Or.inl (tw hw 36 rfl)) (by decide) (by decide) (by decide)))
      have F546 := Fld.other W540 F533 (Or.inr (slot_ne (C := "com/example/dodder/dodder/PlacedText$Counter") (t := .boolean) (t' := .boolean) (Or.inl (tw hw 34 rfl)) (Or.inl (tw hw 36 rfl)) (by decide) (by decide) (by decide)))
      refine C.iload d6_173 rfl rfl ?_
      exact C.retI d6_175 (by decide) (by decide) ⟨(by rw [kE]), (((((Keep.refl h0 [a]).wr W516 (Or.inl (List.mem_of_getElem? (i := 0) rfl))).wr W524 (Or.inl (List.mem_of_getElem? (i := 0) rfl))).wr W532 (Or.inl (List.mem_of_getElem? (i := 0) rfl))).wr W540 (Or.inl (List.mem_of_getElem? (i := 0) rfl))), (by rw [kE]; exact F544), (by rw [kE]; exact F545), (by rw [kE]; exact F546), (by rw [kE]; exact F541)⟩
    rcases own_pv pv2 with ⟨hp, e1, e2⟩ | ⟨hp, e1, e2⟩ | ⟨hp, e1, e2⟩
    · rw [e1, e2] at J149 ⊢
      refine C.iload d6_27 rfl rfl ?_
      refine C.iloadN d6_29 rfl rfl ?_
      have J61_547 : ∀ (hc : 2 < t ∧ (2 < le ∨ ln2 < sl ∨ (ln2 = sl ∧ co2 < sc))), Go p l e ({ frames := 0, cells := 0, slots := 0, locals := 0 } : Room) s m #[(.ref a), (.ref b), (.int 1), (.int t), (.int le), (.int sl), (.int sc)] below meth c n0 (FinQ s n0 (Qcon_pass_3_1 Z n0 h0 a b t le sl sc ln co pv y0 y1 y2) ({ frames := 0, cells := 0, slots := 0, locals := 0 } : Room).cells ({ frames := 0, cells := 0, slots := 0, locals := 0 } : Room).slots) h0 0 0 61 #[rv a, rv b, iv 1, iv t, iv le, iv sl, iv sc, iv 2, iv ln2, iv co2, iv 1, iv 1, iv y1] [] := by
        intro hc
        refine C.aloadN d6_61 rfl rfl rfl ?_
        refine C.iload d6_62 rfl rfl ?_
        refine C.caload (.int y2) d6_64 rfl P5 (by decide) rfl ?_
        refine C.istore (Ls' := #[rv a, rv b, iv 1, iv t, iv le, iv sl, iv sc, iv 2, iv ln2, iv co2, iv 1, iv 1, iv y2]) d6_65 rfl rfl ?_
        refine C.iload d6_67 rfl rfl ?_
        refine C.bipush 10 d6_69 rfl rfl ?_
        refine C.icmp_ne d6_71 (by decide) rfl rfl (fun q71 => ?_) (fun q71 => ?_)
        · refine C.iload d6_85 rfl rfl ?_
          refine C.bipush 10 d6_87 rfl rfl ?_
          refine C.icmp_eq_f d6_89 rfl q71 ?_
          refine C.iload d6_92 rfl rfl ?_
          refine C.bipush 13 d6_94 rfl rfl ?_
          refine C.icmp_ne d6_96 (by decide) rfl rfl (fun q96 => ?_) (fun q96 => ?_)
          · refine C.iload d6_122 rfl rfl ?_
            refine C.if_ne_t d6_124 (by decide) rfl (by decide) ?_
            refine C.iinc (Ls' := #[rv a, rv b, iv 1, iv t, iv le, iv sl, iv sc, iv 2, iv ln2, iv (co2 + 1), iv 1, iv 1, iv y2]) 1 d6_134 rfl rfl rfl rfl ?_
            refine C.iconst 0 d6_137 rfl rfl ?_
            refine C.istore (Ls' := #[rv a, rv b, iv 1, iv t, iv le, iv sl, iv sc, iv 2, iv ln2, iv (co2 + 1), iv 0, iv 1, iv y2]) d6_138 rfl rfl ?_
            refine C.iconst 1 d6_140 rfl rfl ?_
            refine C.istore (Ls' := #[rv a, rv b, iv 1, iv t, iv le, iv sl, iv sc, iv 2, iv ln2, iv (co2 + 1), iv 0, iv 1, iv y2]) d6_141 rfl rfl ?_
            refine C.iinc (Ls' := #[rv a, rv b, iv 1, iv t, iv le, iv sl, iv sc, iv 3, iv ln2, iv (co2 + 1), iv 0, iv 1, iv y2]) 1 d6_143 rfl rfl rfl rfl ?_
            refine C.goto d6_146 (by decide) rfl ?_
            have k1 : own_ln ln2 pv2 y2 = ln2 := by simp [own_ln, hp, hc, q71, q96]
            have k2 : own_cl co2 pv2 y2 = (co2 + 1) := by simp [own_cl, hp, hc, q71, q96]
            have k3 : 0 = own_cr y2 := by simp [own_cr, hp, hc, q71, q96]
            have k4 : 1 = own_bg y2 := by simp [own_bg, hy2]
            exact J27_3_481 ln2 (co2 + 1) y2 0 1 k3 k4 (hE.trans ((own_go hc).trans (by rw [k1, k2]; rfl)))
          refine C.iinc (Ls' := #[rv a, rv b, iv 1, iv t, iv le, iv sl, iv sc, iv 2, iv (ln2 + 1), iv co2, iv 1, iv 1, iv y2]) 1 d6_99 rfl rfl rfl rfl ?_
          refine C.iconst 1 d6_102 rfl rfl ?_
          refine C.istore (Ls' := #[rv a, rv b, iv 1, iv t, iv le, iv sl, iv sc, iv 2, iv (ln2 + 1), iv 1, iv 1, iv 1, iv y2]) d6_103 rfl rfl ?_
          refine C.iload d6_105 rfl rfl ?_
          refine C.bipush 13 d6_107 rfl rfl ?_
          refine C.icmp_ne_f d6_109 rfl q96 ?_
          refine C.iconst 1 d6_112 rfl rfl ?_
          refine C.goto d6_113 (by decide) rfl ?_
          refine C.istore (Ls' := #[rv a, rv b, iv 1, iv t, iv le, iv sl, iv sc, iv 2, iv (ln2 + 1), iv 1, iv 1, iv 1, iv y2]) d6_117 rfl rfl ?_
          refine C.goto d6_119 (by decide) rfl ?_
          refine C.iconst 1 d6_140 rfl rfl ?_
          refine C.istore (Ls' := #[rv a, rv b, iv 1, iv t, iv le, iv sl, iv sc, iv 2, iv (ln2 + 1), iv 1, iv 1, iv 1, iv y2]) d6_141 rfl rfl ?_
          refine C.iinc (Ls' := #[rv a, rv b, iv 1, iv t, iv le, iv sl, iv sc, iv 3, iv (ln2 + 1), iv 1, iv 1, iv 1, iv y2]) 1 d6_143 rfl rfl rfl rfl ?_
          refine C.goto d6_146 (by decide) rfl ?_
          have k1 : own_ln ln2 pv2 y2 = (ln2 + 1) := by simp [own_ln, hp, hc, q71, q96]
          have k2 : own_cl co2 pv2 y2 = 1 := by simp [own_cl, hp, hc, q71, q96]
          have k3 : 1 = own_cr y2 := by simp [own_cr, hp, hc, q71, q96]
          have k4 : 1 = own_bg y2 := by simp [own_bg, hy2]
          exact J27_3_481 (ln2 + 1) 1 y2 1 1 k3 k4 (hE.trans ((own_go hc).trans (by rw [k1, k2]; rfl)))
        refine C.iload d6_74 rfl rfl ?_
        refine C.if_eq_f d6_76 rfl (by decide) ?_
        refine C.iconst 0 d6_79 rfl rfl ?_
        refine C.istore (Ls' := #[rv a, rv b, iv 1, iv t, iv le, iv sl, iv sc, iv 2, iv ln2, iv co2, iv 0, iv 1, iv y2]) d6_80 rfl rfl ?_
        refine C.goto d6_82 (by decide) rfl ?_
        refine C.iconst 1 d6_140 rfl rfl ?_
        refine C.istore (Ls' := #[rv a, rv b, iv 1, iv t, iv le, iv sl, iv sc, iv 2, iv ln2, iv co2, iv 0, iv 1, iv y2]) d6_141 rfl rfl ?_
        refine C.iinc (Ls' := #[rv a, rv b, iv 1, iv t, iv le, iv sl, iv sc, iv 3, iv ln2, iv co2, iv 0, iv 1, iv y2]) 1 d6_143 rfl rfl rfl rfl ?_
        refine C.goto d6_146 (by decide) rfl ?_
        have k1 : own_ln ln2 pv2 y2 = ln2 := by simp [own_ln, hp, hc, q71]
        have k2 : own_cl co2 pv2 y2 = co2 := by simp [own_cl, hp, hc, q71]
        have k3 : 0 = own_cr y2 := by simp [own_cr, hp, hc, q71]
        have k4 : 1 = own_bg y2 := by simp [own_bg, hy2]
        exact J27_3_481 ln2 co2 y2 0 1 k3 k4 (hE.trans ((own_go hc).trans (by rw [k1, k2]; rfl)))
      refine C.icmp_ge d6_30 (by decide) rfl rfl (fun q30 => ?_) (fun q30 => ?_)
      · exact J149 (hE.trans (own_no (fun h => q30 h.1)))
      refine C.iload d6_33 rfl rfl ?_
      refine C.iload d6_35 rfl rfl ?_
      refine C.icmp_lt d6_37 (by decide) rfl rfl (fun q37 => ?_) (fun q37 => ?_)
      · exact J61_547 ⟨q30, Or.inl q37⟩
      refine C.iload d6_40 rfl rfl ?_
      refine C.iload d6_42 rfl rfl ?_
      refine C.icmp_lt d6_44 (by decide) rfl rfl (fun q44 => ?_) (fun q44 => ?_)
      · exact J61_547 ⟨q30, Or.inr (Or.inl q44)⟩
      refine C.iload d6_47 rfl rfl ?_
      refine C.iload d6_49 rfl rfl ?_
      refine C.icmp_ne d6_51 (by decide) rfl rfl (fun q51 => ?_) (fun q51 => ?_)
      · exact J149 (hE.trans (own_no (fun h => h.2.elim q37 fun h => h.elim q44 fun h => q51 h.1)))
      refine C.iload d6_54 rfl rfl ?_
      refine C.iload d6_56 rfl rfl ?_
      refine C.icmp_ge d6_58 (by decide) rfl rfl (fun q58 => ?_) (fun q58 => ?_)
      · exact J149 (hE.trans (own_no (fun h => h.2.elim q37 fun h => h.elim q44 fun h => q58 h.2)))
      exact J61_547 ⟨q30, Or.inr (Or.inr ⟨q51, q58⟩)⟩
    · rw [e1, e2] at J149 ⊢
      refine C.iload d6_27 rfl rfl ?_
      refine C.iloadN d6_29 rfl rfl ?_
      have J61_548 : ∀ (hc : 2 < t ∧ (2 < le ∨ ln2 < sl ∨ (ln2 = sl ∧ co2 < sc))), Go p l e ({ frames := 0, cells := 0, slots := 0, locals := 0 } : Room) s m #[(.ref a), (.ref b), (.int 1), (.int t), (.int le), (.int sl), (.int sc)] below meth c n0 (FinQ s n0 (Qcon_pass_3_1 Z n0 h0 a b t le sl sc ln co pv y0 y1 y2) ({ frames := 0, cells := 0, slots := 0, locals := 0 } : Room).cells ({ frames := 0, cells := 0, slots := 0, locals := 0 } : Room).slots) h0 0 0 61 #[rv a, rv b, iv 1, iv t, iv le, iv sl, iv sc, iv 2, iv ln2, iv co2, iv 0, iv 0, iv y1] [] := by
        intro hc
        refine C.aloadN d6_61 rfl rfl rfl ?_
        refine C.iload d6_62 rfl rfl ?_
        refine C.caload (.int y2) d6_64 rfl P5 (by decide) rfl ?_
        refine C.istore (Ls' := #[rv a, rv b, iv 1, iv t, iv le, iv sl, iv sc, iv 2, iv ln2, iv co2, iv 0, iv 0, iv y2]) d6_65 rfl rfl ?_
        refine C.iload d6_67 rfl rfl ?_
        refine C.bipush 10 d6_69 rfl rfl ?_
        refine C.icmp_ne d6_71 (by decide) rfl rfl (fun q71 => ?_) (fun q71 => ?_)
        · refine C.iload d6_85 rfl rfl ?_
          refine C.bipush 10 d6_87 rfl rfl ?_
          refine C.icmp_eq_f d6_89 rfl q71 ?_
          refine C.iload d6_92 rfl rfl ?_
          refine C.bipush 13 d6_94 rfl rfl ?_
          refine C.icmp_ne d6_96 (by decide) rfl rfl (fun q96 => ?_) (fun q96 => ?_)
          · refine C.iload d6_122 rfl rfl ?_
            refine C.if_ne_f d6_124 rfl (by decide) ?_
            refine C.iload d6_127 rfl rfl ?_
            refine C.ldcI d6_129 rfl (tw hw 47 rfl) ?_
            refine C.icmp_eq d6_131 (by decide) rfl rfl (fun q131 => ?_) (fun q131 => ?_)
            · refine C.iconst 1 d6_140 rfl rfl ?_
              refine C.istore (Ls' := #[rv a, rv b, iv 1, iv t, iv le, iv sl, iv sc, iv 2, iv ln2, iv co2, iv 0, iv 1, iv y2]) d6_141 rfl rfl ?_
              refine C.iinc (Ls' := #[rv a, rv b, iv 1, iv t, iv le, iv sl, iv sc, iv 3, iv ln2, iv co2, iv 0, iv 1, iv y2]) 1 d6_143 rfl rfl rfl rfl ?_
              refine C.goto d6_146 (by decide) rfl ?_
              have k1 : own_ln ln2 pv2 y2 = ln2 := by simp [own_ln, hp, hc, q71, q96, q131]
              have k2 : own_cl co2 pv2 y2 = co2 := by simp [own_cl, hp, hc, q71, q96, q131]
              have k3 : 0 = own_cr y2 := by simp [own_cr, hp, hc, q71, q96, q131]
              have k4 : 1 = own_bg y2 := by simp [own_bg, hy2]
              exact J27_3_481 ln2 co2 y2 0 1 k3 k4 (hE.trans ((own_go hc).trans (by rw [k1, k2]; rfl)))
            refine C.iinc (Ls' := #[rv a, rv b, iv 1, iv t, iv le, iv sl, iv sc, iv 2, iv ln2, iv (co2 + 1), iv 0, iv 0, iv y2]) 1 d6_134 rfl rfl rfl rfl ?_
            refine C.iconst 0 d6_137 rfl rfl ?_
            refine C.istore (Ls' := #[rv a, rv b, iv 1, iv t, iv le, iv sl, iv sc, iv 2, iv ln2, iv (co2 + 1), iv 0, iv 0, iv y2]) d6_138 rfl rfl ?_
            refine C.iconst 1 d6_140 rfl rfl ?_
            refine C.istore (Ls' := #[rv a, rv b, iv 1, iv t, iv le, iv sl, iv sc, iv 2, iv ln2, iv (co2 + 1), iv 0, iv 1, iv y2]) d6_141 rfl rfl ?_
            refine C.iinc (Ls' := #[rv a, rv b, iv 1, iv t, iv le, iv sl, iv sc, iv 3, iv ln2, iv (co2 + 1), iv 0, iv 1, iv y2]) 1 d6_143 rfl rfl rfl rfl ?_
            refine C.goto d6_146 (by decide) rfl ?_
            have k1 : own_ln ln2 pv2 y2 = ln2 := by simp [own_ln, hp, hc, q71, q96, q131]
            have k2 : own_cl co2 pv2 y2 = (co2 + 1) := by simp [own_cl, hp, hc, q71, q96, q131]
            have k3 : 0 = own_cr y2 := by simp [own_cr, hp, hc, q71, q96, q131]
            have k4 : 1 = own_bg y2 := by simp [own_bg, hy2]
            exact J27_3_481 ln2 (co2 + 1) y2 0 1 k3 k4 (hE.trans ((own_go hc).trans (by rw [k1, k2]; rfl)))
          refine C.iinc (Ls' := #[rv a, rv b, iv 1, iv t, iv le, iv sl, iv sc, iv 2, iv (ln2 + 1), iv co2, iv 0, iv 0, iv y2]) 1 d6_99 rfl rfl rfl rfl ?_
          refine C.iconst 1 d6_102 rfl rfl ?_
          refine C.istore (Ls' := #[rv a, rv b, iv 1, iv t, iv le, iv sl, iv sc, iv 2, iv (ln2 + 1), iv 1, iv 0, iv 0, iv y2]) d6_103 rfl rfl ?_
          refine C.iload d6_105 rfl rfl ?_
          refine C.bipush 13 d6_107 rfl rfl ?_
          refine C.icmp_ne_f d6_109 rfl q96 ?_
          refine C.iconst 1 d6_112 rfl rfl ?_
          refine C.goto d6_113 (by decide) rfl ?_
          refine C.istore (Ls' := #[rv a, rv b, iv 1, iv t, iv le, iv sl, iv sc, iv 2, iv (ln2 + 1), iv 1, iv 1, iv 0, iv y2]) d6_117 rfl rfl ?_
          refine C.goto d6_119 (by decide) rfl ?_
          refine C.iconst 1 d6_140 rfl rfl ?_
          refine C.istore (Ls' := #[rv a, rv b, iv 1, iv t, iv le, iv sl, iv sc, iv 2, iv (ln2 + 1), iv 1, iv 1, iv 1, iv y2]) d6_141 rfl rfl ?_
          refine C.iinc (Ls' := #[rv a, rv b, iv 1, iv t, iv le, iv sl, iv sc, iv 3, iv (ln2 + 1), iv 1, iv 1, iv 1, iv y2]) 1 d6_143 rfl rfl rfl rfl ?_
          refine C.goto d6_146 (by decide) rfl ?_
          have k1 : own_ln ln2 pv2 y2 = (ln2 + 1) := by simp [own_ln, hp, hc, q71, q96]
          have k2 : own_cl co2 pv2 y2 = 1 := by simp [own_cl, hp, hc, q71, q96]
          have k3 : 1 = own_cr y2 := by simp [own_cr, hp, hc, q71, q96]
          have k4 : 1 = own_bg y2 := by simp [own_bg, hy2]
          exact J27_3_481 (ln2 + 1) 1 y2 1 1 k3 k4 (hE.trans ((own_go hc).trans (by rw [k1, k2]; rfl)))
        refine C.iload d6_74 rfl rfl ?_
        refine C.if_eq_t d6_76 (by decide) rfl (by decide) ?_
        refine C.iload d6_85 rfl rfl ?_
        refine C.bipush 10 d6_87 rfl rfl ?_
        refine C.icmp_eq_t d6_89 (by decide) rfl q71 ?_
        refine C.iinc (Ls' := #[rv a, rv b, iv 1, iv t, iv le, iv sl, iv sc, iv 2, iv (ln2 + 1), iv co2, iv 0, iv 0, iv y2]) 1 d6_99 rfl rfl rfl rfl ?_
        refine C.iconst 1 d6_102 rfl rfl ?_
        refine C.istore (Ls' := #[rv a, rv b, iv 1, iv t, iv le, iv sl, iv sc, iv 2, iv (ln2 + 1), iv 1, iv 0, iv 0, iv y2]) d6_103 rfl rfl ?_
        refine C.iload d6_105 rfl rfl ?_
        refine C.bipush 13 d6_107 rfl rfl ?_
        refine C.icmp_ne_t d6_109 (by decide) rfl (by rw [q71]; decide) ?_
        refine C.iconst 0 d6_116 rfl rfl ?_
        refine C.istore (Ls' := #[rv a, rv b, iv 1, iv t, iv le, iv sl, iv sc, iv 2, iv (ln2 + 1), iv 1, iv 0, iv 0, iv y2]) d6_117 rfl rfl ?_
        refine C.goto d6_119 (by decide) rfl ?_
        refine C.iconst 1 d6_140 rfl rfl ?_
        refine C.istore (Ls' := #[rv a, rv b, iv 1, iv t, iv le, iv sl, iv sc, iv 2, iv (ln2 + 1), iv 1, iv 0, iv 1, iv y2]) d6_141 rfl rfl ?_
        refine C.iinc (Ls' := #[rv a, rv b, iv 1, iv t, iv le, iv sl, iv sc, iv 3, iv (ln2 + 1), iv 1, iv 0, iv 1, iv y2]) 1 d6_143 rfl rfl rfl rfl ?_
        refine C.goto d6_146 (by decide) rfl ?_
        have k1 : own_ln ln2 pv2 y2 = (ln2 + 1) := by simp [own_ln, hp, hc, q71]
        have k2 : own_cl co2 pv2 y2 = 1 := by simp [own_cl, hp, hc, q71]
        have k3 : 0 = own_cr y2 := by simp [own_cr, hp, hc, q71]
        have k4 : 1 = own_bg y2 := by simp [own_bg, hy2]
        exact J27_3_481 (ln2 + 1) 1 y2 0 1 k3 k4 (hE.trans ((own_go hc).trans (by rw [k1, k2]; rfl)))
      refine C.icmp_ge d6_30 (by decide) rfl rfl (fun q30 => ?_) (fun q30 => ?_)
      · exact J149 (hE.trans (own_no (fun h => q30 h.1)))
      refine C.iload d6_33 rfl rfl ?_
      refine C.iload d6_35 rfl rfl ?_
      refine C.icmp_lt d6_37 (by decide) rfl rfl (fun q37 => ?_) (fun q37 => ?_)
      · exact J61_548 ⟨q30, Or.inl q37⟩
      refine C.iload d6_40 rfl rfl ?_
      refine C.iload d6_42 rfl rfl ?_
      refine C.icmp_lt d6_44 (by decide) rfl rfl (fun q44 => ?_) (fun q44 => ?_)
      · exact J61_548 ⟨q30, Or.inr (Or.inl q44)⟩
      refine C.iload d6_47 rfl rfl ?_
      refine C.iload d6_49 rfl rfl ?_
      refine C.icmp_ne d6_51 (by decide) rfl rfl (fun q51 => ?_) (fun q51 => ?_)
      · exact J149 (hE.trans (own_no (fun h => h.2.elim q37 fun h => h.elim q44 fun h => q51 h.1)))
      refine C.iload d6_54 rfl rfl ?_
      refine C.iload d6_56 rfl rfl ?_
      refine C.icmp_ge d6_58 (by decide) rfl rfl (fun q58 => ?_) (fun q58 => ?_)
      · exact J149 (hE.trans (own_no (fun h => h.2.elim q37 fun h => h.elim q44 fun h => q58 h.2)))
      exact J61_548 ⟨q30, Or.inr (Or.inr ⟨q51, q58⟩)⟩
    rw [e1, e2] at J149 ⊢
    refine C.iload d6_27 rfl rfl ?_
    refine C.iloadN d6_29 rfl rfl ?_
    have J61_549 : ∀ (hc : 2 < t ∧ (2 < le ∨ ln2 < sl ∨ (ln2 = sl ∧ co2 < sc))), Go p l e ({ frames := 0, cells := 0, slots := 0, locals := 0 } : Room) s m #[(.ref a), (.ref b), (.int 1), (.int t), (.int le), (.int sl), (.int sc)] below meth c n0 (FinQ s n0 (Qcon_pass_3_1 Z n0 h0 a b t le sl sc ln co pv y0 y1 y2) ({ frames := 0, cells := 0, slots := 0, locals := 0 } : Room).cells ({ frames := 0, cells := 0, slots := 0, locals := 0 } : Room).slots) h0 0 0 61 #[rv a, rv b, iv 1, iv t, iv le, iv sl, iv sc, iv 2, iv ln2, iv co2, iv 0, iv 1, iv y1] [] := by
      intro hc
      refine C.aloadN d6_61 rfl rfl rfl ?_
      refine C.iload d6_62 rfl rfl ?_
      refine C.caload (.int y2) d6_64 rfl P5 (by decide) rfl ?_
      refine C.istore (Ls' := #[rv a, rv b, iv 1, iv t, iv le, iv sl, iv sc, iv 2, iv ln2, iv co2, iv 0, iv 1, iv y2]) d6_65 rfl rfl ?_
      refine C.iload d6_67 rfl rfl ?_
      refine C.bipush 10 d6_69 rfl rfl ?_
      refine C.icmp_ne d6_71 (by decide) rfl rfl (fun q71 => ?_) (fun q71 => ?_)
      · refine C.iload d6_85 rfl rfl ?_
        refine C.bipush 10 d6_87 rfl rfl ?_
        refine C.icmp_eq_f d6_89 rfl q71 ?_
        refine C.iload d6_92 rfl rfl ?_
        refine C.bipush 13 d6_94 rfl rfl ?_
        refine C.icmp_ne d6_96 (by decide) rfl rfl (fun q96 => ?_) (fun q96 => ?_)
        · refine C.iload d6_122 rfl rfl ?_
          refine C.if_ne_t d6_124 (by decide) rfl (by decide) ?_
          refine C.iinc (Ls' := #[rv a, rv b, iv 1, iv t, iv le, iv sl, iv sc, iv 2, iv ln2, iv (co2 + 1), iv 0, iv 1, iv y2]) 1 d6_134 rfl rfl rfl rfl ?_
          refine C.iconst 0 d6_137 rfl rfl ?_
          refine C.istore (Ls' := #[rv a, rv b, iv 1, iv t, iv le, iv sl, iv sc, iv 2, iv ln2, iv (co2 + 1), iv 0, iv 1, iv y2]) d6_138 rfl rfl ?_
          refine C.iconst 1 d6_140 rfl rfl ?_
          refine C.istore (Ls' := #[rv a, rv b, iv 1, iv t, iv le, iv sl, iv sc, iv 2, iv ln2, iv (co2 + 1), iv 0, iv 1, iv y2]) d6_141 rfl rfl ?_
          refine C.iinc (Ls' := #[rv a, rv b, iv 1, iv t, iv le, iv sl, iv sc, iv 3, iv ln2, iv (co2 + 1), iv 0, iv 1, iv y2]) 1 d6_143 rfl rfl rfl rfl ?_
          refine C.goto d6_146 (by decide) rfl ?_
          have k1 : own_ln ln2 pv2 y2 = ln2 := by simp [own_ln, hp.1, hp.2, hc, q71, q96]
          have k2 : own_cl co2 pv2 y2 = (co2 + 1) := by simp [own_cl, hp.1, hp.2, hc, q71, q96]
          have k3 : 0 = own_cr y2 := by simp [own_cr, hp.1, hp.2, hc, q71, q96]
          have k4 : 1 = own_bg y2 := by simp [own_bg, hy2]
          exact J27_3_481 ln2 (co2 + 1) y2 0 1 k3 k4 (hE.trans ((own_go hc).trans (by rw [k1, k2]; rfl)))
        refine C.iinc (Ls' := #[rv a, rv b, iv 1, iv t, iv le, iv sl, iv sc, iv 2, iv (ln2 + 1), iv co2, iv 0, iv 1, iv y2]) 1 d6_99 rfl rfl rfl rfl ?_
        refine C.iconst 1 d6_102 rfl rfl ?_
        refine C.istore (Ls' := #[rv a, rv b, iv 1, iv t, iv le, iv sl, iv sc, iv 2, iv (ln2 + 1), iv 1, iv 0, iv 1, iv y2]) d6_103 rfl rfl ?_
        refine C.iload d6_105 rfl rfl ?_
        refine C.bipush 13 d6_107 rfl rfl ?_
        refine C.icmp_ne_f d6_109 rfl q96 ?_
        refine C.iconst 1 d6_112 rfl rfl ?_
        refine C.goto d6_113 (by decide) rfl ?_
        refine C.istore (Ls' := #[rv a, rv b, iv 1, iv t, iv le, iv sl, iv sc, iv 2, iv (ln2 + 1), iv 1, iv 1, iv 1, iv y2]) d6_117 rfl rfl ?_
        refine C.goto d6_119 (by decide) rfl ?_
        refine C.iconst 1 d6_140 rfl rfl ?_
        refine C.istore (Ls' := #[rv a, rv b, iv 1, iv t, iv le, iv sl, iv sc, iv 2, iv (ln2 + 1), iv 1, iv 1, iv 1, iv y2]) d6_141 rfl rfl ?_
        refine C.iinc (Ls' := #[rv a, rv b, iv 1, iv t, iv le, iv sl, iv sc, iv 3, iv (ln2 + 1), iv 1, iv 1, iv 1, iv y2]) 1 d6_143 rfl rfl rfl rfl ?_
        refine C.goto d6_146 (by decide) rfl ?_
        have k1 : own_ln ln2 pv2 y2 = (ln2 + 1) := by simp [own_ln, hp.1, hp.2, hc, q71, q96]
        have k2 : own_cl co2 pv2 y2 = 1 := by simp [own_cl, hp.1, hp.2, hc, q71, q96]
        have k3 : 1 = own_cr y2 := by simp [own_cr, hp.1, hp.2, hc, q71, q96]
        have k4 : 1 = own_bg y2 := by simp [own_bg, hy2]
        exact J27_3_481 (ln2 + 1) 1 y2 1 1 k3 k4 (hE.trans ((own_go hc).trans (by rw [k1, k2]; rfl)))
      refine C.iload d6_74 rfl rfl ?_
      refine C.if_eq_t d6_76 (by decide) rfl (by decide) ?_
      refine C.iload d6_85 rfl rfl ?_
      refine C.bipush 10 d6_87 rfl rfl ?_
      refine C.icmp_eq_t d6_89 (by decide) rfl q71 ?_
      refine C.iinc (Ls' := #[rv a, rv b, iv 1, iv t, iv le, iv sl, iv sc, iv 2, iv (ln2 + 1), iv co2, iv 0, iv 1, iv y2]) 1 d6_99 rfl rfl rfl rfl ?_
      refine C.iconst 1 d6_102 rfl rfl ?_
      refine C.istore (Ls' := #[rv a, rv b, iv 1, iv t, iv le, iv sl, iv sc, iv 2, iv (ln2 + 1), iv 1, iv 0, iv 1, iv y2]) d6_103 rfl rfl ?_
      refine C.iload d6_105 rfl rfl ?_
      refine C.bipush 13 d6_107 rfl rfl ?_
      refine C.icmp_ne_t d6_109 (by decide) rfl (by rw [q71]; decide) ?_
      refine C.iconst 0 d6_116 rfl rfl ?_
      refine C.istore (Ls' := #[rv a, rv b, iv 1, iv t, iv le, iv sl, iv sc, iv 2, iv (ln2 + 1), iv 1, iv 0, iv 1, iv y2]) d6_117 rfl rfl ?_
      refine C.goto d6_119 (by decide) rfl ?_
      refine C.iconst 1 d6_140 rfl rfl ?_
      refine C.istore (Ls' := #[rv a, rv b, iv 1, iv t, iv le, iv sl, iv sc, iv 2, iv (ln2 + 1), iv 1, iv 0, iv 1, iv y2]) d6_141 rfl rfl ?_
      refine C.iinc (Ls' := #[rv a, rv b, iv 1, iv t, iv le, iv sl, iv sc, iv 3, iv (ln2 + 1), iv 1, iv 0, iv 1, iv y2]) 1 d6_143 rfl rfl rfl rfl ?_
      refine C.goto d6_146 (by decide) rfl ?_
      have k1 : own_ln ln2 pv2 y2 = (ln2 + 1) := by simp [own_ln, hp.1, hp.2, hc, q71]
      have k2 : own_cl co2 pv2 y2 = 1 := by simp [own_cl, hp.1, hp.2, hc, q71]
      have k3 : 0 = own_cr y2 := by simp [own_cr, hp.1, hp.2, hc, q71]
      have k4 : 1 = own_bg y2 := by simp [own_bg, hy2]
      exact J27_3_481 (ln2 + 1) 1 y2 0 1 k3 k4 (hE.trans ((own_go hc).trans (by rw [k1, k2]; rfl)))
    refine C.icmp_ge d6_30 (by decide) rfl rfl (fun q30 => ?_) (fun q30 => ?_)
    · exact J149 (hE.trans (own_no (fun h => q30 h.1)))
    refine C.iload d6_33 rfl rfl ?_
    refine C.iload d6_35 rfl rfl ?_
    refine C.icmp_lt d6_37 (by decide) rfl rfl (fun q37 => ?_) (fun q37 => ?_)
    · exact J61_549 ⟨q30, Or.inl q37⟩
    refine C.iload d6_40 rfl rfl ?_
    refine C.iload d6_42 rfl rfl ?_
    refine C.icmp_lt d6_44 (by decide) rfl rfl (fun q44 => ?_) (fun q44 => ?_)
    · exact J61_549 ⟨q30, Or.inr (Or.inl q44)⟩
    refine C.iload d6_47 rfl rfl ?_
    refine C.iload d6_49 rfl rfl ?_
    refine C.icmp_ne d6_51 (by decide) rfl rfl (fun q51 => ?_) (fun q51 => ?_)
    · exact J149 (hE.trans (own_no (fun h => h.2.elim q37 fun h => h.elim q44 fun h => q51 h.1)))
    refine C.iload d6_54 rfl rfl ?_
    refine C.iload d6_56 rfl rfl ?_
    refine C.icmp_ge d6_58 (by decide) rfl rfl (fun q58 => ?_) (fun q58 => ?_)
    · exact J149 (hE.trans (own_no (fun h => h.2.elim q37 fun h => h.elim q44 fun h => q58 h.2)))
    exact J61_549 ⟨q30, Or.inr (Or.inr ⟨q51, q58⟩)⟩
  have hE : (own_pass t le sl sc 1 [y1, y2] ln co pv) = own_pass t le sl sc 1 [y1, y2] ln co pv := rfl
  have J149 : ∀ (kE : (own_pass t le sl sc 1 [y1, y2] ln co pv) = (1, ln, co, pv)), Go p l e ({ frames := 0, cells := 0, slots := 0, locals := 0 } : Room) s m #[(.ref a), (.ref b), (.int 1), (.int t), (.int le), (.int sl), (.int sc)] below meth c n0 (FinQ s n0 (Qcon_pass_3_1 Z n0 h0 a b t le sl sc ln co pv y0 y1 y2) ({ frames := 0, cells := 0, slots := 0, locals := 0 } : Room).cells ({ frames := 0, cells := 0, slots := 0, locals := 0 } : Room).slots) h0 0 0 149 #[rv a, rv b, iv 1, iv t, iv le, iv sl, iv sc, iv 1, iv ln, iv co, iv (own_cr pv), iv (own_bg pv), .unset] [] := by
    intro kE
    refine C.aloadN d6_149 rfl rfl rfl ?_
    refine C.iload d6_150 rfl rfl ?_
    refine C.putF d6_152 rfl (tw hw 16 rfl) P1 P0 (Or.inl (tw hw 17 rfl)) (tw hw 8 rfl) (ty := .int) (by decide) rfl rfl g_a (fun h550 W551 F552 => ?_)
    have F553 := Exa.wr W551 P0
    have F554 := Fld.other W551 P2 (Or.inr (slot_ne (C := "com/example/dodder/dodder/PlacedText$Counter") (t := .int) (t' := .int) (Or.inl (tw hw 19 rfl)) (Or.inl (tw hw 17 rfl)) (by decide) (by decide) (by decide)))
    have F555 := Fld.other W551 P3 (Or.inr (slot_ne (C := "com/example/dodder/dodder/PlacedText$Counter") (t := .boolean) (t' := .int) (Or.inl (tw hw 34 rfl)) (Or.inl (tw hw 17 rfl)) (by decide) (by decide) (by decide)))
    have F556 := Fld.other W551 P4 (Or.inr (slot_ne (C := "com/example/dodder/dodder/PlacedText$Counter") (t := .boolean) (t' := .int) (Or.inl (tw hw 36 rfl)) (Or.inl (tw hw 17 rfl)) (by decide) (by decide) (by decide)))
    have F557 := P5.other W551 (Ne.symm ne_a_b)
    refine C.aloadN d6_155 rfl rfl rfl ?_
    refine C.iload d6_156 rfl rfl ?_
    refine C.putF d6_158 rfl (tw hw 18 rfl) F554 F553 (Or.inl (tw hw 19 rfl)) (tw hw 8 rfl) (ty := .int) (by decide) rfl rfl g_a (fun h558 W559 F560 => ?_)
    have F561 := Exa.wr W559 F553
    have F562 := Fld.other W559 F555 (Or.inr (slot_ne (C := "com/example/dodder/dodder/PlacedText$Counter") (t := .boolean) (t' := .int) (Or.inl (tw hw 34 rfl)) (Or.inl (tw hw 19 rfl)) (by decide) (by decide) (by decide)))
    have F563 := Fld.other W559 F556 (Or.inr (slot_ne (C := "com/example/dodder/dodder/PlacedText$Counter") (t := .boolean) (t' := .int) (Or.inl (tw hw 36 rfl)) (Or.inl (tw hw 19 rfl)) (by decide) (by decide) (by decide)))
    have F564 := F557.other W559 (Ne.symm ne_a_b)
    have F565 := Fld.other W559 F552 (Or.inr (slot_ne (C := "com/example/dodder/dodder/PlacedText$Counter") (t := .int) (t' := .int) (Or.inl (tw hw 17 rfl)) (Or.inl (tw hw 19 rfl)) (by decide) (by decide) (by decide)))
    refine C.aloadN d6_161 rfl rfl rfl ?_
    refine C.iload d6_162 rfl rfl ?_
    refine C.putF d6_164 rfl (tw hw 33 rfl) F562 F561 (Or.inl (tw hw 34 rfl)) (tw hw 8 rfl) (ty := .boolean) (by decide) (own_crN pv) (own_crF pv) g_a (fun h566 W567 F568 => ?_)
    have F569 := Exa.wr W567 F561
    have F570 := Fld.other W567 F563 (Or.inr (slot_ne (C := "com/example/dodder/dodder/PlacedText$Counter") (t := .boolean) (t' := .boolean) (Or.inl (tw hw 36 rfl)) (Or.inl (tw hw 34 rfl)) (by decide) (by decide) (by decide)))
    have F571 := F564.other W567 (Ne.symm ne_a_b)
    have F572 := Fld.other W567 F565 (Or.inr (slot_ne (C := "com/example/dodder/dodder/PlacedText$Counter") (t := .int) (t' := .boolean) (Or.inl (tw hw 17 rfl)) (Or.inl (tw hw 34 rfl)) (by decide) (by decide) (by decide)))
    have F573 := Fld.other W567 F560 (Or.inr (slot_ne (C := "com/example/dodder/dodder/PlacedText$Counter") (t := .int) (t' := .boolean) (Or.inl (tw hw 19 rfl)) (Or.inl (tw hw 34 rfl)) (by decide) (by decide) (by decide)))
    refine C.aloadN d6_167 rfl rfl rfl ?_
    refine C.iload d6_168 rfl rfl ?_
    refine C.putF d6_170 rfl (tw hw 35 rfl) F570 F569 (Or.inl (tw hw 36 rfl)) (tw hw 8 rfl) (ty := .boolean) (by decide) (own_bgN pv) (own_bgF pv) g_a (fun h574 W575 F576 => ?_)
    have F577 := Exa.wr W575 F569
    have F578 := F571.other W575 (Ne.symm ne_a_b)
    have F579 := Fld.other W575 F572 (Or.inr (slot_ne (C := "com/example/dodder/dodder/PlacedText$Counter") (t := .int) (t' := .boolean) (Or.inl (tw hw 17 rfl)) (Or.inl (tw hw 36 rfl)) (by decide) (by decide) (by decide)))
    have F580 := Fld.other W575 F573 (Or.inr (slot_ne (C := "com/example/dodder/dodder/PlacedText$Counter") (t := .int) (t' := .boolean) (Or.inl (tw hw 19 rfl)) (Or.inl (tw hw 36 rfl)) (by decide) (by decide) (by decide)))
    have F581 := Fld.other W575 F568 (Or.inr (slot_ne (C := "com/example/dodder/dodder/PlacedText$Counter") (t := .boolean) (t' := .boolean) (Or.inl (tw hw 34 rfl)) (Or.inl (tw hw 36 rfl)) (by decide) (by decide) (by decide)))
    refine C.iload d6_173 rfl rfl ?_
    exact C.retI d6_175 (by decide) (by decide) ⟨(by rw [kE]), (((((Keep.refl h0 [a]).wr W551 (Or.inl (List.mem_of_getElem? (i := 0) rfl))).wr W559 (Or.inl (List.mem_of_getElem? (i := 0) rfl))).wr W567 (Or.inl (List.mem_of_getElem? (i := 0) rfl))).wr W575 (Or.inl (List.mem_of_getElem? (i := 0) rfl))), (by rw [kE]; exact F579), (by rw [kE]; exact F580), (by rw [kE]; exact F581), (by rw [kE]; exact F576)⟩
  rcases own_pv pv with ⟨hp, e1, e2⟩ | ⟨hp, e1, e2⟩ | ⟨hp, e1, e2⟩
  · rw [e1, e2] at J149 ⊢
    refine C.iload d6_27 rfl rfl ?_
    refine C.iloadN d6_29 rfl rfl ?_
    have J61_582 : ∀ (hc : 1 < t ∧ (1 < le ∨ ln < sl ∨ (ln = sl ∧ co < sc))), Go p l e ({ frames := 0, cells := 0, slots := 0, locals := 0 } : Room) s m #[(.ref a), (.ref b), (.int 1), (.int t), (.int le), (.int sl), (.int sc)] below meth c n0 (FinQ s n0 (Qcon_pass_3_1 Z n0 h0 a b t le sl sc ln co pv y0 y1 y2) ({ frames := 0, cells := 0, slots := 0, locals := 0 } : Room).cells ({ frames := 0, cells := 0, slots := 0, locals := 0 } : Room).slots) h0 0 0 61 #[rv a, rv b, iv 1, iv t, iv le, iv sl, iv sc, iv 1, iv ln, iv co, iv 1, iv 1, .unset] [] := by
      intro hc
      refine C.aloadN d6_61 rfl rfl rfl ?_
      refine C.iload d6_62 rfl rfl ?_
      refine C.caload (.int y1) d6_64 rfl P5 (by decide) rfl ?_
      refine C.istore (Ls' := #[rv a, rv b, iv 1, iv t, iv le, iv sl, iv sc, iv 1, iv ln, iv co, iv 1, iv 1, iv y1]) d6_65 rfl rfl ?_
      refine C.iload d6_67 rfl rfl ?_
      refine C.bipush 10 d6_69 rfl rfl ?_
      refine C.icmp_ne d6_71 (by decide) rfl rfl (fun q71 => ?_) (fun q71 => ?_)
      · refine C.iload d6_85 rfl rfl ?_
        refine C.bipush 10 d6_87 rfl rfl ?_
        refine C.icmp_eq_f d6_89 rfl q71 ?_
        refine C.iload d6_92 rfl rfl ?_
        refine C.bipush 13 d6_94 rfl rfl ?_
        refine C.icmp_ne d6_96 (by decide) rfl rfl (fun q96 => ?_) (fun q96 => ?_)
        · refine C.iload d6_122 rfl rfl ?_
          refine C.if_ne_t d6_124 (by decide) rfl (by decide) ?_
          refine C.iinc (Ls' := #[rv a, rv b, iv 1, iv t, iv le, iv sl, iv sc, iv 1, iv ln, iv (co + 1), iv 1, iv 1, iv y1]) 1 d6_134 rfl rfl rfl rfl ?_
          refine C.iconst 0 d6_137 rfl rfl ?_
          refine C.istore (Ls' := #[rv a, rv b, iv 1, iv t, iv le, iv sl, iv sc, iv 1, iv ln, iv (co + 1), iv 0, iv 1, iv y1]) d6_138 rfl rfl ?_
          refine C.iconst 1 d6_140 rfl rfl ?_
          refine C.istore (Ls' := #[rv a, rv b, iv 1, iv t, iv le, iv sl, iv sc, iv 1, iv ln, iv (co + 1), iv 0, iv 1, iv y1]) d6_141 rfl rfl ?_
          refine C.iinc (Ls' := #[rv a, rv b, iv 1, iv t, iv le, iv sl, iv sc, iv 2, iv ln, iv (co + 1), iv 0, iv 1, iv y1]) 1 d6_143 rfl rfl rfl rfl ?_
          refine C.goto d6_146 (by decide) rfl ?_
          have k1 : own_ln ln pv y1 = ln := by simp [own_ln, hp, hc, q71, q96]
          have k2 : own_cl co pv y1 = (co + 1) := by simp [own_cl, hp, hc, q71, q96]
          have k3 : 0 = own_cr y1 := by simp [own_cr, hp, hc, q71, q96]
          have k4 : 1 = own_bg y1 := by simp [own_bg, hy1]
          exact J27_2_514 ln (co + 1) y1 0 1 k3 k4 (hE.trans ((own_go hc).trans (by rw [k1, k2]; rfl)))
        refine C.iinc (Ls' := #[rv a, rv b, iv 1, iv t, iv le, iv sl, iv sc, iv 1, iv (ln + 1), iv co, iv 1, iv 1, iv y1]) 1 d6_99 rfl rfl rfl rfl ?_
        refine C.iconst 1 d6_102 rfl rfl ?_
        refine C.istore (Ls' := #[rv a, rv b, iv 1, iv t, iv le, iv sl, iv sc, iv 1, iv (ln + 1), iv 1, iv 1, iv 1, iv y1]) d6_103 rfl rfl ?_
        refine C.iload d6_105 rfl rfl ?_
        refine C.bipush 13 d6_107 rfl rfl ?_
        refine C.icmp_ne_f d6_109 rfl q96 ?_
        refine C.iconst 1 d6_112 rfl rfl ?_
        refine C.goto d6_113 (by decide) rfl ?_
        refine C.istore (Ls' := #[rv a, rv b, iv 1, iv t, iv le, iv sl, iv sc, iv 1, iv (ln + 1), iv 1, iv 1, iv 1, iv y1]) d6_117 rfl rfl ?_
        refine C.goto d6_119 (by decide) rfl ?_
        refine C.iconst 1 d6_140 rfl rfl ?_
        refine C.istore (Ls' := #[rv a, rv b, iv 1, iv t, iv le, iv sl, iv sc, iv 1, iv (ln + 1), iv 1, iv 1, iv 1, iv y1]) d6_141 rfl rfl ?_
        refine C.iinc (Ls' := #[rv a, rv b, iv 1, iv t, iv le, iv sl, iv sc, iv 2, iv (ln + 1), iv 1, iv 1, iv 1, iv y1]) 1 d6_143 rfl rfl rfl rfl ?_
        refine C.goto d6_146 (by decide) rfl ?_
        have k1 : own_ln ln pv y1 = (ln + 1) := by simp [own_ln, hp, hc, q71, q96]
        have k2 : own_cl co pv y1 = 1 := by simp [own_cl, hp, hc, q71, q96]
        have k3 : 1 = own_cr y1 := by simp [own_cr, hp, hc, q71, q96]
        have k4 : 1 = own_bg y1 := by simp [own_bg, hy1]
        exact J27_2_514 (ln + 1) 1 y1 1 1 k3 k4 (hE.trans ((own_go hc).trans (by rw [k1, k2]; rfl)))
      refine C.iload d6_74 rfl rfl ?_
      refine C.if_eq_f d6_76 rfl (by decide) ?_
      refine C.iconst 0 d6_79 rfl rfl ?_
      refine C.istore (Ls' := #[rv a, rv b, iv 1, iv t, iv le, iv sl, iv sc, iv 1, iv ln, iv co, iv 0, iv 1, iv y1]) d6_80 rfl rfl ?_
      refine C.goto d6_82 (by decide) rfl ?_
      refine C.iconst 1 d6_140 rfl rfl ?_
      refine C.istore (Ls' := #[rv a, rv b, iv 1, iv t, iv le, iv sl, iv sc, iv 1, iv ln, iv co, iv 0, iv 1, iv y1]) d6_141 rfl rfl ?_
      refine C.iinc (Ls' := #[rv a, rv b, iv 1, iv t, iv le, iv sl, iv sc, iv 2, iv ln, iv co, iv 0, iv 1, iv y1]) 1 d6_143 rfl rfl rfl rfl ?_
      refine C.goto d6_146 (by decide) rfl ?_
      have k1 : own_ln ln pv y1 = ln := by simp [own_ln, hp, hc, q71]
      have k2 : own_cl co pv y1 = co := by simp [own_cl, hp, hc, q71]
      have k3 : 0 = own_cr y1 := by simp [own_cr, hp, hc, q71]
      have k4 : 1 = own_bg y1 := by simp [own_bg, hy1]
      exact J27_2_514 ln co y1 0 1 k3 k4 (hE.trans ((own_go hc).trans (by rw [k1, k2]; rfl)))
    refine C.icmp_ge d6_30 (by decide) rfl rfl (fun q30 => ?_) (fun q30 => ?_)
    · exact J149 (hE.trans (own_no (fun h => q30 h.1)))
    refine C.iload d6_33 rfl rfl ?_
    refine C.iload d6_35 rfl rfl ?_
    refine C.icmp_lt d6_37 (by decide) rfl rfl (fun q37 => ?_) (fun q37 => ?_)
    · exact J61_582 ⟨q30, Or.inl q37⟩
    refine C.iload d6_40 rfl rfl ?_
    refine C.iload d6_42 rfl rfl ?_
    refine C.icmp_lt d6_44 (by decide) rfl rfl (fun q44 => ?_) (fun q44 => ?_)
    · exact J61_582 ⟨q30, Or.inr (Or.inl q44)⟩
    refine C.iload d6_47 rfl rfl ?_
    refine C.iload d6_49 rfl rfl ?_
    refine C.icmp_ne d6_51 (by decide) rfl rfl (fun q51 => ?_) (fun q51 => ?_)
    · exact J149 (hE.trans (own_no (fun h => h.2.elim q37 fun h => h.elim q44 fun h => q51 h.1)))
    refine C.iload d6_54 rfl rfl ?_
    refine C.iload d6_56 rfl rfl ?_
    refine C.icmp_ge d6_58 (by decide) rfl rfl (fun q58 => ?_) (fun q58 => ?_)
    · exact J149 (hE.trans (own_no (fun h => h.2.elim q37 fun h => h.elim q44 fun h => q58 h.2)))
    exact J61_582 ⟨q30, Or.inr (Or.inr ⟨q51, q58⟩)⟩
  · rw [e1, e2] at J149 ⊢
    refine C.iload d6_27 rfl rfl ?_
    refine C.iloadN d6_29 rfl rfl ?_
    have J61_583 : ∀ (hc : 1 < t ∧ (1 < le ∨ ln < sl ∨ (ln = sl ∧ co < sc))), Go p l e ({ frames := 0, cells := 0, slots := 0, locals := 0 } : Room) s m #[(.ref a), (.ref b), (.int 1), (.int t), (.int le), (.int sl), (.int sc)] below meth c n0 (FinQ s n0 (Qcon_pass_3_1 Z n0 h0 a b t le sl sc ln co pv y0 y1 y2) ({ frames := 0, cells := 0, slots := 0, locals := 0 } : Room).cells ({ frames := 0, cells := 0, slots := 0, locals := 0 } : Room).slots) h0 0 0 61 #[rv a, rv b, iv 1, iv t, iv le, iv sl, iv sc, iv 1, iv ln, iv co, iv 0, iv 0, .unset] [] := by
      intro hc
      refine C.aloadN d6_61 rfl rfl rfl ?_
      refine C.iload d6_62 rfl rfl ?_
      refine C.caload (.int y1) d6_64 rfl P5 (by decide) rfl ?_
      refine C.istore (Ls' := #[rv a, rv b, iv 1, iv t, iv le, iv sl, iv sc, iv 1, iv ln, iv co, iv 0, iv 0, iv y1]) d6_65 rfl rfl ?_
      refine C.iload d6_67 rfl rfl ?_
      refine C.bipush 10 d6_69 rfl rfl ?_
      refine C.icmp_ne d6_71 (by decide) rfl rfl (fun q71 => ?_) (fun q71 => ?_)
      · refine C.iload d6_85 rfl rfl ?_
        refine C.bipush 10 d6_87 rfl rfl ?_
        refine C.icmp_eq_f d6_89 rfl q71 ?_
        refine C.iload d6_92 rfl rfl ?_
        refine C.bipush 13 d6_94 rfl rfl ?_
        refine C.icmp_ne d6_96 (by decide) rfl rfl (fun q96 => ?_) (fun q96 => ?_)
        · refine C.iload d6_122 rfl rfl ?_
          refine C.if_ne_f d6_124 rfl (by decide) ?_
          refine C.iload d6_127 rfl rfl ?_
          refine C.ldcI d6_129 rfl (tw hw 47 rfl) ?_
          refine C.icmp_eq d6_131 (by decide) rfl rfl (fun q131 => ?_) (fun q131 => ?_)
          · refine C.iconst 1 d6_140 rfl rfl ?_
            refine C.istore (Ls' := #[rv a, rv b, iv 1, iv t, iv le, iv sl, iv sc, iv 1, iv ln, iv co, iv 0, iv 1, iv y1]) d6_141 rfl rfl ?_
            refine C.iinc (Ls' := #[rv a, rv b, iv 1, iv t, iv le, iv sl, iv sc, iv 2, iv ln, iv co, iv 0, iv 1, iv y1]) 1 d6_143 rfl rfl rfl rfl ?_
            refine C.goto d6_146 (by decide) rfl ?_
            have k1 : own_ln ln pv y1 = ln := by simp [own_ln, hp, hc, q71, q96, q131]
            have k2 : own_cl co pv y1 = co := by simp [own_cl, hp, hc, q71, q96, q131]
            have k3 : 0 = own_cr y1 := by simp [own_cr, hp, hc, q71, q96, q131]
            have k4 : 1 = own_bg y1 := by simp [own_bg, hy1]
            exact J27_2_514 ln co y1 0 1 k3 k4 (hE.trans ((own_go hc).trans (by rw [k1, k2]; rfl)))
          refine C.iinc (Ls' := #[rv a, rv b, iv 1, iv t, iv le, iv sl, iv sc, iv 1, iv ln, iv (co + 1), iv 0, iv 0, iv y1]) 1 d6_134 rfl rfl rfl rfl ?_
          refine C.iconst 0 d6_137 rfl rfl ?_
          refine C.istore (Ls' := #[rv a, rv b, iv 1, iv t, iv le, iv sl, iv sc, iv 1, iv ln, iv (co + 1), iv 0, iv 0, iv y1]) d6_138 rfl rfl ?_
          refine C.iconst 1 d6_140 rfl rfl ?_
          refine C.istore (Ls' := #[rv a, rv b, iv 1, iv t, iv le, iv sl, iv sc, iv 1, iv ln, iv (co + 1), iv 0, iv 1, iv y1]) d6_141 rfl rfl ?_
          refine C.iinc (Ls' := #[rv a, rv b, iv 1, iv t, iv le, iv sl, iv sc, iv 2, iv ln, iv (co + 1), iv 0, iv 1, iv y1]) 1 d6_143 rfl rfl rfl rfl ?_
          refine C.goto d6_146 (by decide) rfl ?_
          have k1 : own_ln ln pv y1 = ln := by simp [own_ln, hp, hc, q71, q96, q131]
          have k2 : own_cl co pv y1 = (co + 1) := by simp [own_cl, hp, hc, q71, q96, q131]
          have k3 : 0 = own_cr y1 := by simp [own_cr, hp, hc, q71, q96, q131]
          have k4 : 1 = own_bg y1 := by simp [own_bg, hy1]
          exact J27_2_514 ln (co + 1) y1 0 1 k3 k4 (hE.trans ((own_go hc).trans (by rw [k1, k2]; rfl)))
        refine C.iinc (Ls' := #[rv a, rv b, iv 1, iv t, iv le, iv sl, iv sc, iv 1, iv (ln + 1), iv co, iv 0, iv 0, iv y1]) 1 d6_99 rfl rfl rfl rfl ?_
        refine C.iconst 1 d6_102 rfl rfl ?_
        refine C.istore (Ls' := #[rv a, rv b, iv 1, iv t, iv le, iv sl, iv sc, iv 1, iv (ln + 1), iv 1, iv 0, iv 0, iv y1]) d6_103 rfl rfl ?_
        refine C.iload d6_105 rfl rfl ?_
        refine C.bipush 13 d6_107 rfl rfl ?_
        refine C.icmp_ne_f d6_109 rfl q96 ?_
        refine C.iconst 1 d6_112 rfl rfl ?_
        refine C.goto d6_113 (by decide) rfl ?_
        refine C.istore (Ls' := #[rv a, rv b, iv 1, iv t, iv le, iv sl, iv sc, iv 1, iv (ln + 1), iv 1, iv 1, iv 0, iv y1]) d6_117 rfl rfl ?_
        refine C.goto d6_119 (by decide) rfl ?_
        refine C.iconst 1 d6_140 rfl rfl ?_
        refine C.istore (Ls' := #[rv a, rv b, iv 1, iv t, iv le, iv sl, iv sc, iv 1, iv (ln + 1), iv 1, iv 1, iv 1, iv y1]) d6_141 rfl rfl ?_
        refine C.iinc (Ls' := #[rv a, rv b, iv 1, iv t, iv le, iv sl, iv sc, iv 2, iv (ln + 1), iv 1, iv 1, iv 1, iv y1]) 1 d6_143 rfl rfl rfl rfl ?_
        refine C.goto d6_146 (by decide) rfl ?_
        have k1 : own_ln ln pv y1 = (ln + 1) := by simp [own_ln, hp, hc, q71, q96]
        have k2 : own_cl co pv y1 = 1 := by simp [own_cl, hp, hc, q71, q96]
        have k3 : 1 = own_cr y1 := by simp [own_cr, hp, hc, q71, q96]
        have k4 : 1 = own_bg y1 := by simp [own_bg, hy1]
        exact J27_2_514 (ln + 1) 1 y1 1 1 k3 k4 (hE.trans ((own_go hc).trans (by rw [k1, k2]; rfl)))
      refine C.iload d6_74 rfl rfl ?_
      refine C.if_eq_t d6_76 (by decide) rfl (by decide) ?_
      refine C.iload d6_85 rfl rfl ?_
      refine C.bipush 10 d6_87 rfl rfl ?_
      refine C.icmp_eq_t d6_89 (by decide) rfl q71 ?_
      refine C.iinc (Ls' := #[rv a, rv b, iv 1, iv t, iv le, iv sl, iv sc, iv 1, iv (ln + 1), iv co, iv 0, iv 0, iv y1]) 1 d6_99 rfl rfl rfl rfl ?_
      refine C.iconst 1 d6_102 rfl rfl ?_
      refine C.istore (Ls' := #[rv a, rv b, iv 1, iv t, iv le, iv sl, iv sc, iv 1, iv (ln + 1), iv 1, iv 0, iv 0, iv y1]) d6_103 rfl rfl ?_
      refine C.iload d6_105 rfl rfl ?_
      refine C.bipush 13 d6_107 rfl rfl ?_
      refine C.icmp_ne_t d6_109 (by decide) rfl (by rw [q71]; decide) ?_
      refine C.iconst 0 d6_116 rfl rfl ?_
      refine C.istore (Ls' := #[rv a, rv b, iv 1, iv t, iv le, iv sl, iv sc, iv 1, iv (ln + 1), iv 1, iv 0, iv 0, iv y1]) d6_117 rfl rfl ?_
      refine C.goto d6_119 (by decide) rfl ?_
      refine C.iconst 1 d6_140 rfl rfl ?_
      refine C.istore (Ls' := #[rv a, rv b, iv 1, iv t, iv le, iv sl, iv sc, iv 1, iv (ln + 1), iv 1, iv 0, iv 1, iv y1]) d6_141 rfl rfl ?_
      refine C.iinc (Ls' := #[rv a, rv b, iv 1, iv t, iv le, iv sl, iv sc, iv 2, iv (ln + 1), iv 1, iv 0, iv 1, iv y1]) 1 d6_143 rfl rfl rfl rfl ?_
      refine C.goto d6_146 (by decide) rfl ?_
      have k1 : own_ln ln pv y1 = (ln + 1) := by simp [own_ln, hp, hc, q71]
      have k2 : own_cl co pv y1 = 1 := by simp [own_cl, hp, hc, q71]
      have k3 : 0 = own_cr y1 := by simp [own_cr, hp, hc, q71]
      have k4 : 1 = own_bg y1 := by simp [own_bg, hy1]
      exact J27_2_514 (ln + 1) 1 y1 0 1 k3 k4 (hE.trans ((own_go hc).trans (by rw [k1, k2]; rfl)))
    refine C.icmp_ge d6_30 (by decide) rfl rfl (fun q30 => ?_) (fun q30 => ?_)
    · exact J149 (hE.trans (own_no (fun h => q30 h.1)))
    refine C.iload d6_33 rfl rfl ?_
    refine C.iload d6_35 rfl rfl ?_
    refine C.icmp_lt d6_37 (by decide) rfl rfl (fun q37 => ?_) (fun q37 => ?_)
    · exact J61_583 ⟨q30, Or.inl q37⟩
    refine C.iload d6_40 rfl rfl ?_
    refine C.iload d6_42 rfl rfl ?_
    refine C.icmp_lt d6_44 (by decide) rfl rfl (fun q44 => ?_) (fun q44 => ?_)
    · exact J61_583 ⟨q30, Or.inr (Or.inl q44)⟩
    refine C.iload d6_47 rfl rfl ?_
    refine C.iload d6_49 rfl rfl ?_
    refine C.icmp_ne d6_51 (by decide) rfl rfl (fun q51 => ?_) (fun q51 => ?_)
    · exact J149 (hE.trans (own_no (fun h => h.2.elim q37 fun h => h.elim q44 fun h => q51 h.1)))
    refine C.iload d6_54 rfl rfl ?_
    refine C.iload d6_56 rfl rfl ?_
    refine C.icmp_ge d6_58 (by decide) rfl rfl (fun q58 => ?_) (fun q58 => ?_)
    · exact J149 (hE.trans (own_no (fun h => h.2.elim q37 fun h => h.elim q44 fun h => q58 h.2)))
    exact J61_583 ⟨q30, Or.inr (Or.inr ⟨q51, q58⟩)⟩
  rw [e1, e2] at J149 ⊢
  refine C.iload d6_27 rfl rfl ?_
  refine C.iloadN d6_29 rfl rfl ?_
  have J61_584 : ∀ (hc : 1 < t ∧ (1 < le ∨ ln < sl ∨ (ln = sl ∧ co < sc))), Go p l e ({ frames := 0, cells := 0, slots := 0, locals := 0 } : Room) s m #[(.ref a), (.ref b), (.int 1), (.int t), (.int le), (.int sl), (.int sc)] below meth c n0 (FinQ s n0 (Qcon_pass_3_1 Z n0 h0 a b t le sl sc ln co pv y0 y1 y2) ({ frames := 0, cells := 0, slots := 0, locals := 0 } : Room).cells ({ frames := 0, cells := 0, slots := 0, locals := 0 } : Room).slots) h0 0 0 61 #[rv a, rv b, iv 1, iv t, iv le, iv sl, iv sc, iv 1, iv ln, iv co, iv 0, iv 1, .unset] [] := by
    intro hc
    refine C.aloadN d6_61 rfl rfl rfl ?_
    refine C.iload d6_62 rfl rfl ?_
    refine C.caload (.int y1) d6_64 rfl P5 (by decide) rfl ?_
    refine C.istore (Ls' := #[rv a, rv b, iv 1, iv t, iv le, iv sl, iv sc, iv 1, iv ln, iv co, iv 0, iv 1, iv y1]) d6_65 rfl rfl ?_
    refine C.iload d6_67 rfl rfl ?_
    refine C.bipush 10 d6_69 rfl rfl ?_
    refine C.icmp_ne d6_71 (by decide) rfl rfl (fun q71 => ?_) (fun q71 => ?_)
    · refine C.iload d6_85 rfl rfl ?_
      refine C.bipush 10 d6_87 rfl rfl ?_
      refine C.icmp_eq_f d6_89 rfl q71 ?_
      refine C.iload d6_92 rfl rfl ?_
      refine C.bipush 13 d6_94 rfl rfl ?_
      refine C.icmp_ne d6_96 (by decide) rfl rfl (fun q96 => ?_) (fun q96 => ?_)
      · refine C.iload d6_122 rfl rfl ?_
        refine C.if_ne_t d6_124 (by decide) rfl (by decide) ?_
        refine C.iinc (Ls' := #[rv a, rv b, iv 1, iv t, iv le, iv sl, iv sc, iv 1, iv ln, iv (co + 1), iv 0, iv 1, iv y1]) 1 d6_134 rfl rfl rfl rfl ?_
        refine C.iconst 0 d6_137 rfl rfl ?_
        refine C.istore (Ls' := #[rv a, rv b, iv 1, iv t, iv le, iv sl, iv sc, iv 1, iv ln, iv (co + 1), iv 0, iv 1, iv y1]) d6_138 rfl rfl ?_
        refine C.iconst 1 d6_140 rfl rfl ?_
        refine C.istore (Ls' := #[rv a, rv b, iv 1, iv t, iv le, iv sl, iv sc, iv 1, iv ln, iv (co + 1), iv 0, iv 1, iv y1]) d6_141 rfl rfl ?_
        refine C.iinc (Ls' := #[rv a, rv b, iv 1, iv t, iv le, iv sl, iv sc, iv 2, iv ln, iv (co + 1), iv 0, iv 1, iv y1]) 1 d6_143 rfl rfl rfl rfl ?_
        refine C.goto d6_146 (by decide) rfl ?_
        have k1 : own_ln ln pv y1 = ln := by simp [own_ln, hp.1, hp.2, hc, q71, q96]
        have k2 : own_cl co pv y1 = (co + 1) := by simp [own_cl, hp.1, hp.2, hc, q71, q96]
        have k3 : 0 = own_cr y1 := by simp [own_cr, hp.1, hp.2, hc, q71, q96]
        have k4 : 1 = own_bg y1 := by simp [own_bg, hy1]
        exact J27_2_514 ln (co + 1) y1 0 1 k3 k4 (hE.trans ((own_go hc).trans (by rw [k1, k2]; rfl)))
      refine C.iinc (Ls' := #[rv a, rv b, iv 1, iv t, iv le, iv sl, iv sc, iv 1, iv (ln + 1), iv co, iv 0, iv 1, iv y1]) 1 d6_99 rfl rfl rfl rfl ?_
      refine C.iconst 1 d6_102 rfl rfl ?_
      refine C.istore (Ls' := #[rv a, rv b, iv 1, iv t, iv le, iv sl, iv sc, iv 1, iv (ln + 1), iv 1, iv 0, iv 1, iv y1]) d6_103 rfl rfl ?_
      refine C.iload d6_105 rfl rfl ?_
      refine C.bipush 13 d6_107 rfl rfl ?_
      refine C.icmp_ne_f d6_109 rfl q96 ?_
      refine C.iconst 1 d6_112 rfl rfl ?_
      refine C.goto d6_113 (by decide) rfl ?_
      refine C.istore (Ls' := #[rv a, rv b, iv 1, iv t, iv le, iv sl, iv sc, iv 1, iv (ln + 1), iv 1, iv 1, iv 1, iv y1]) d6_117 rfl rfl ?_
      refine C.goto d6_119 (by decide) rfl ?_
      refine C.iconst 1 d6_140 rfl rfl ?_
      refine C.istore (Ls' := #[rv a, rv b, iv 1, iv t, iv le, iv sl, iv sc, iv 1, iv (ln + 1), iv 1, iv 1, iv 1, iv y1]) d6_141 rfl rfl ?_
      refine C.iinc (Ls' := #[rv a, rv b, iv 1, iv t, iv le, iv sl, iv sc, iv 2, iv (ln + 1), iv 1, iv 1, iv 1, iv y1]) 1 d6_143 rfl rfl rfl rfl ?_
      refine C.goto d6_146 (by decide) rfl ?_
      have k1 : own_ln ln pv y1 = (ln + 1) := by simp [own_ln, hp.1, hp.2, hc, q71, q96]
      have k2 : own_cl co pv y1 = 1 := by simp [own_cl, hp.1, hp.2, hc, q71, q96]
      have k3 : 1 = own_cr y1 := by simp [own_cr, hp.1, hp.2, hc, q71, q96]
      have k4 : 1 = own_bg y1 := by simp [own_bg, hy1]
      exact J27_2_514 (ln + 1) 1 y1 1 1 k3 k4 (hE.trans ((own_go hc).trans (by rw [k1, k2]; rfl)))
    refine C.iload d6_74 rfl rfl ?_
    refine C.if_eq_t d6_76 (by decide) rfl (by decide) ?_
    refine C.iload d6_85 rfl rfl ?_
    refine C.bipush 10 d6_87 rfl rfl ?_
    refine C.icmp_eq_t d6_89 (by decide) rfl q71 ?_
    refine C.iinc (Ls' := #[rv a, rv b, iv 1, iv t, iv le, iv sl, iv sc, iv 1, iv (ln + 1), iv co, iv 0, iv 1, iv y1]) 1 d6_99 rfl rfl rfl rfl ?_
    refine C.iconst 1 d6_102 rfl rfl ?_
    refine C.istore (Ls' := #[rv a, rv b, iv 1, iv t, iv le, iv sl, iv sc, iv 1, iv (ln + 1), iv 1, iv 0, iv 1, iv y1]) d6_103 rfl rfl ?_
    refine C.iload d6_105 rfl rfl ?_
    refine C.bipush 13 d6_107 rfl rfl ?_
    refine C.icmp_ne_t d6_109 (by decide) rfl (by rw [q71]; decide) ?_
    refine C.iconst 0 d6_116 rfl rfl ?_
    refine C.istore (Ls' := #[rv a, rv b, iv 1, iv t, iv le, iv sl, iv sc, iv 1, iv (ln + 1), iv 1, iv 0, iv 1, iv y1]) d6_117 rfl rfl ?_
    refine C.goto d6_119 (by decide) rfl ?_
    refine C.iconst 1 d6_140 rfl rfl ?_
    refine C.istore (Ls' := #[rv a, rv b, iv 1, iv t, iv le, iv sl, iv sc, iv 1, iv (ln + 1), iv 1, iv 0, iv 1, iv y1]) d6_141 rfl rfl ?_
    refine C.iinc (Ls' := #[rv a, rv b, iv 1, iv t, iv le, iv sl, iv sc, iv 2, iv (ln + 1), iv 1, iv 0, iv 1, iv y1]) 1 d6_143 rfl rfl rfl rfl ?_
    refine C.goto d6_146 (by decide) rfl ?_
    have k1 : own_ln ln pv y1 = (ln + 1) := by simp [own_ln, hp.1, hp.2, hc, q71]
    have k2 : own_cl co pv y1 = 1 := by simp [own_cl, hp.1, hp.2, hc, q71]
    have k3 : 0 = own_cr y1 := by simp [own_cr, hp.1, hp.2, hc, q71]
    have k4 : 1 = own_bg y1 := by simp [own_bg, hy1]
    exact J27_2_514 (ln + 1) 1 y1 0 1 k3 k4 (hE.trans ((own_go hc).trans (by rw [k1, k2]; rfl)))
  refine C.icmp_ge d6_30 (by decide) rfl rfl (fun q30 => ?_) (fun q30 => ?_)
  · exact J149 (hE.trans (own_no (fun h => q30 h.1)))
  refine C.iload d6_33 rfl rfl ?_
  refine C.iload d6_35 rfl rfl ?_
  refine C.icmp_lt d6_37 (by decide) rfl rfl (fun q37 => ?_) (fun q37 => ?_)
  · exact J61_584 ⟨q30, Or.inl q37⟩
  refine C.iload d6_40 rfl rfl ?_
  refine C.iload d6_42 rfl rfl ?_
  refine C.icmp_lt d6_44 (by decide) rfl rfl (fun q44 => ?_) (fun q44 => ?_)
  · exact J61_584 ⟨q30, Or.inr (Or.inl q44)⟩
  refine C.iload d6_47 rfl rfl ?_
  refine C.iload d6_49 rfl rfl ?_
  refine C.icmp_ne d6_51 (by decide) rfl rfl (fun q51 => ?_) (fun q51 => ?_)
  · exact J149 (hE.trans (own_no (fun h => h.2.elim q37 fun h => h.elim q44 fun h => q51 h.1)))
  refine C.iload d6_54 rfl rfl ?_
  refine C.iload d6_56 rfl rfl ?_
  refine C.icmp_ge d6_58 (by decide) rfl rfl (fun q58 => ?_) (fun q58 => ?_)
  · exact J149 (hE.trans (own_no (fun h => h.2.elim q37 fun h => h.elim q44 fun h => q58 h.2)))
  exact J61_584 ⟨q30, Or.inr (Or.inr ⟨q51, q58⟩)⟩
def Qcon_pass_3_2 (Z : State) (n0 : Nat) (h0 : Heap) (a : Addr) (b : Addr) (t : Int32) (le : Int32) (sl : Int32) (sc : Int32) (ln : Int32) (co : Int32) (pv : Int32) (y0 : Int32) (y1 : Int32) (y2 : Int32) (v : Option Value) (h' : Heap) : Prop := (v = some (.int ((own_pass t le sl sc 2 [y2] ln co pv).1))) ∧ (Keep h0 h' [a]) ∧ (Fld Z h' a "com/example/dodder/dodder/PlacedText$Counter" "line" "I" (.int ((own_pass t le sl sc 2 [y2] ln co pv).2.1))) ∧ (Fld Z h' a "com/example/dodder/dodder/PlacedText$Counter" "column" "I" (.int ((own_pass t le sl sc 2 [y2] ln co pv).2.2.1))) ∧ (Fld Z h' a "com/example/dodder/dodder/PlacedText$Counter" "afterCarriageReturn" "Z" (.int (own_cr (own_pass t le sl sc 2 [y2] ln co pv).2.2.2))) ∧ (Fld Z h' a "com/example/dodder/dodder/PlacedText$Counter" "started" "Z" (.int (own_bg (own_pass t le sl sc 2 [y2] ln co pv).2.2.2)))
theorem ef_con_pass_3_2 (m : MethodId) (a : Addr) (b : Addr) (t : Int32) (le : Int32) (sl : Int32) (sc : Int32) : entryFrame m #[(.ref a), (.ref b), (.int 2), (.int t), (.int le), (.int sl), (.int sc)] 13 = mkF m 0 #[rv a, rv b, iv 2, iv t, iv le, iv sl, iv sc, .unset, .unset, .unset, .unset, .unset, .unset] [] := by first | (simp [entryFrame, mkF, argsToLocals, Value.category]; done) | rfl
set_option maxRecDepth 65536 in
set_option maxHeartbeats 40000000 in
theorem con_pass_3_2 (l : Launch) (Z : State) (a0 : Array Value) (hw : ∀ d ∈ tables_1, d.before a0 Z = true) (n0 : Nat) (h0 : Heap) (hn0 : n0 ≤ h0.size) (a : Addr) (b : Addr) (t : Int32) (le : Int32) (sl : Int32) (sc : Int32) (ln : Int32) (co : Int32) (pv : Int32) (y0 : Int32) (y1 : Int32) (y2 : Int32) (P0 : Exa Z h0 a "com/example/dodder/dodder/PlacedText$Counter") (P1 : Fld Z h0 a "com/example/dodder/dodder/PlacedText$Counter" "line" "I" (.int ln)) (P2 : Fld Z h0 a "com/example/dodder/dodder/PlacedText$Counter" "column" "I" (.int co)) (P3 : Fld Z h0 a "com/example/dodder/dodder/PlacedText$Counter" "afterCarriageReturn" "Z" (.int (own_cr pv))) (P4 : Fld Z h0 a "com/example/dodder/dodder/PlacedText$Counter" "started" "Z" (.int (own_bg pv))) (P5 : Av Z h0 b .char ([.int y0, .int y1, .int y2])) (g_a : n0 ≤ a) (ne_a_b : a ≠ b) (hto : ¬ (3 : Int32) < t) (hy0 : ¬ y0 = -1) (hy1 : ¬ y1 = -1) (hy2 : ¬ y2 = -1) :
    Con l Z n0 [] (⟨"com/example/dodder/dodder/PlacedText$Counter", "pass", "([CIIIII)I"⟩ : MethodName) prog_122_method_6_code 13 (some .int) ({ frames := 0, cells := 0, slots := 0, locals := 0 } : Room) #[(.ref a), (.ref b), (.int 2), (.int t), (.int le), (.int sl), (.int sc)] h0 (Qcon_pass_3_2 Z n0 h0 a b t le sl sc ln co pv y0 y1 y2) := by
  refine Con.of pf_3 (fun m => ef_con_pass_3_2 m a b t le sl sc) hn0 ?_
  intro p e s m below meth c C
  refine C.iloadN d6_0 rfl rfl ?_
  refine C.istore (Ls' := #[rv a, rv b, iv 2, iv t, iv le, iv sl, iv sc, iv 2, .unset, .unset, .unset, .unset, .unset]) d6_1 rfl rfl ?_
  refine C.aloadN d6_3 rfl rfl rfl ?_
  refine C.getF d6_4 rfl (tw hw 16 rfl) P1 ?_
  refine C.istore (Ls' := #[rv a, rv b, iv 2, iv t, iv le, iv sl, iv sc, iv 2, iv ln, .unset, .unset, .unset, .unset]) d6_7 rfl rfl ?_
  refine C.aloadN d6_9 rfl rfl rfl ?_
  refine C.getF d6_10 rfl (tw hw 18 rfl) P2 ?_
  refine C.istore (Ls' := #[rv a, rv b, iv 2, iv t, iv le, iv sl, iv sc, iv 2, iv ln, iv co, .unset, .unset, .unset]) d6_13 rfl rfl ?_
  refine C.aloadN d6_15 rfl rfl rfl ?_
  refine C.getF d6_16 rfl (tw hw 33 rfl) P3 ?_
  refine C.istore (Ls' := #[rv a, rv b, iv 2, iv t, iv le, iv sl, iv sc, iv 2, iv ln, iv co, iv (own_cr pv), .unset, .unset]) d6_19 rfl rfl ?_
  refine C.aloadN d6_21 rfl rfl rfl ?_
  refine C.getF d6_22 rfl (tw hw 35 rfl) P4 ?_
  refine C.istore (Ls' := #[rv a, rv b, iv 2, iv t, iv le, iv sl, iv sc, iv 2, iv ln, iv co, iv (own_cr pv), iv (own_bg pv), .unset]) d6_25 rfl rfl ?_
  have J27_3_653 : ∀ (ln3 co3 pv3 cr3 bg3 : Int32) (hcr : cr3 = own_cr pv3) (hbg : bg3 = own_bg pv3) (hE : (own_pass t le sl sc 2 [y2] ln co pv) = own_pass t le sl sc 3 [] ln3 co3 pv3), Go p l e ({ frames := 0, cells := 0, slots := 0, locals := 0 } : Room) s m #[(.ref a), (.ref b), (.int 2), (.int t), (.int le), (.int sl), (.int sc)] below meth c n0 (FinQ s n0 (Qcon_pass_3_2 Z n0 h0 a b t le sl sc ln co pv y0 y1 y2) ({ frames := 0, cells := 0, slots := 0, locals := 0 } : Room).cells ({ frames := 0, cells := 0, slots := 0, locals := 0 } : Room).slots) h0 0 0 27 #[rv a, rv b, iv 2, iv t, iv le, iv sl, iv sc, iv 3, iv ln3, iv co3, iv cr3, iv bg3, iv y2] [] := by
    intro ln3 co3 pv3 cr3 bg3 hcr hbg hE
    subst hcr hbg
    have J149 : ∀ (kE : (own_pass t le sl sc 2 [y2] ln co pv) = (3, ln3, co3, pv3)), Go p l e ({ frames := 0, cells := 0, slots := 0, locals := 0 } : Room) s m #[(.ref a), (.ref b), (.int 2), (.int t), (.int le), (.int sl), (.int sc)] below meth c n0 (FinQ s n0 (Qcon_pass_3_2 Z n0 h0 a b t le sl sc ln co pv y0 y1 y2) ({ frames := 0, cells := 0, slots := 0, locals := 0 } : Room).cells ({ frames := 0, cells := 0, slots := 0, locals := 0 } : Room).slots) h0 0 0 149 #[rv a, rv b, iv 2, iv t, iv le, iv sl, iv sc, iv 3, iv ln3, iv co3, iv (own_cr pv3), iv (own_bg pv3), iv y2] [] := by
      intro kE
      refine C.aloadN d6_149 rfl rfl rfl ?_
      refine C.iload d6_150 rfl rfl ?_
      refine C.putF d6_152 rfl (tw hw 16 rfl) P1 P0 (Or.inl (tw hw 17 rfl)) (tw hw 8 rfl) (ty := .int) (by decide) rfl rfl g_a (fun h654 W655 F656 => ?_)
      have F657 := Exa.wr W655 P0
      have F658 := Fld.other W655 P2 (Or.inr (slot_ne (C := "com/example/dodder/dodder/PlacedText$Counter") (t := .int) (t' := .int) (Or.inl (tw hw 19 rfl)) (Or.inl (tw hw 17 rfl)) (by decide) (by decide) (by decide)))
      have F659 := Fld.other W655 P3 (Or.inr (slot_ne (C := "com/example/dodder/dodder/PlacedText$Counter") (t := .boolean) (t' := .int) (Or.inl (tw hw 34 rfl)) (Or.inl (tw hw 17 rfl)) (by decide) (by decide) (by decide)))
      have F660 := Fld.other W655 P4 (Or.inr (slot_ne (C := "com/example/dodder/dodder/PlacedText$Counter") (t := .boolean) (t' := .int) (Or.inl (tw hw 36 rfl)) (Or.inl (tw hw 17 rfl)) (by decide) (by decide) (by decide)))
      have F661 := P5.other W655 (Ne.symm ne_a_b)
      refine C.aloadN d6_155 rfl rfl rfl ?_
      refine C.iload d6_156 rfl rfl ?_
      refine C.putF d6_158 rfl (tw hw 18 rfl) F658 F657 (Or.inl (tw hw 19 rfl)) (tw hw 8 rfl) (ty := .int) (by decide) rfl rfl g_a (fun h662 W663 F664 => ?_)
      have F665 := Exa.wr W663 F657
      have F666 := Fld.other W663 F659 (Or.inr (slot_ne (C := "com/example/dodder/dodder/PlacedText$Counter") (t := .boolean) (t' := .int) (Or.inl (tw hw 34 rfl)) (Or.inl (tw hw 19 rfl)) (by decide) (by decide) (by decide)))
      have F667 := Fld.other W663 F660 (Or.inr (slot_ne (C := "com/example/dodder/dodder/PlacedText$Counter") (t := .boolean) (t' := .int) (Or.inl (tw hw 36 rfl)) (Or.inl (tw hw 19 rfl)) (by decide) (by decide) (by decide)))
      have F668 := F661.other W663 (Ne.symm ne_a_b)
      have F669 := Fld.other W663 F656 (Or.inr (slot_ne (C := "com/example/dodder/dodder/PlacedText$Counter") (t := .int) (t' := .int) (Or.inl (tw hw 17 rfl)) (Or.inl (tw hw 19 rfl)) (by decide) (by decide) (by decide)))
      refine C.aloadN d6_161 rfl rfl rfl ?_
      refine C.iload d6_162 rfl rfl ?_
      refine C.putF d6_164 rfl (tw hw 33 rfl) F666 F665 (Or.inl (tw hw 34 rfl)) (tw hw 8 rfl) (ty := .boolean) (by decide) (own_crN pv3) (own_crF pv3) g_a (fun h670 W671 F672 => ?_)
      have F673 := Exa.wr W671 F665
      have F674 := Fld.other W671 F667 (Or.inr (slot_ne (C := "com/example/dodder/dodder/PlacedText$Counter") (t := .boolean) (t' := .boolean) (Or.inl (tw hw 36 rfl)) (Or.inl (tw hw 34 rfl)) (by decide) (by decide) (by decide)))
      have F675 := F668.other W671 (Ne.symm ne_a_b)
      have F676 := Fld.other W671 F669 (Or.inr (slot_ne (C := "com/example/dodder/dodder/PlacedText$Counter") (t := .int) (t' := .boolean) (Or.inl (tw hw 17 rfl)) (Or.inl (tw hw 34 rfl)) (by decide) (by decide) (by decide)))
      have F677 := Fld.other W671 F664 (Or.inr (slot_ne (C := "com/example/dodder/dodder/PlacedText$Counter") (t := .int) (t' := .boolean) (Or.inl (tw hw 19 rfl)) (Or.inl (tw hw 34 rfl)) (by decide) (by decide) (by decide)))
      refine C.aloadN d6_167 rfl rfl rfl ?_
      refine C.iload d6_168 rfl rfl ?_
      refine C.putF d6_170 rfl (tw hw 35 rfl) F674 F673 (Or.inl (tw hw 36 rfl)) (tw hw 8 rfl) (ty := .boolean) (by decide) (own_bgN pv3) (own_bgF pv3) g_a (fun h678 W679 F680 => ?_)
      have F681 := Exa.wr W679 F673
      have F682 := F675.other W679 (Ne.symm ne_a_b)
      have F683 := Fld.other W679 F676 (Or.inr (slot_ne (C := "com/example/dodder/dodder/PlacedText$Counter") (t := .int) (t' := .boolean) (Or.inl (tw hw 17 rfl)) (Or.inl (tw hw 36 rfl)) (by decide) (by decide) (by decide)))
      have F684 := Fld.other W679 F677 (Or.inr (slot_ne (C := "com/example/dodder/dodder/PlacedText$Counter") (t := .int) (t' := .boolean) (Or.inl (tw hw 19 rfl)) (Or.inl (tw hw 36 rfl)) (by decide) (by decide) (by decide)))
      have F685 := Fld.other W679 F672 (Or.inr (slot_ne (C := "com/example/dodder/dodder/PlacedText$Counter") (t := .boolean) (t' := .boolean) (Or.inl (tw hw 34 rfl)) (Or.inl (tw hw 36 rfl)) (by decide) (by decide) (by decide)))
      refine C.iload d6_173 rfl rfl ?_
      exact C.retI d6_175 (by decide) (by decide) ⟨(by rw [kE]), (((((Keep.refl h0 [a]).wr W655 (Or.inl (List.mem_of_getElem? (i := 0) rfl))).wr W663 (Or.inl (List.mem_of_getElem? (i := 0) rfl))).wr W671 (Or.inl (List.mem_of_getElem? (i := 0) rfl))).wr W679 (Or.inl (List.mem_of_getElem? (i := 0) rfl))), (by rw [kE]; exact F683), (by rw [kE]; exact F684), (by rw [kE]; exact F685), (by rw [kE]; exact F680)⟩
    rcases own_pv pv3 with ⟨hp, e1, e2⟩ | ⟨hp, e1, e2⟩ | ⟨hp, e1, e2⟩
    · rw [e1, e2] at J149 ⊢
      refine C.iload d6_27 rfl rfl ?_
      refine C.iloadN d6_29 rfl rfl ?_
      refine C.icmp_ge_t d6_30 (by decide) rfl hto ?_
      exact J149 hE
    · rw [e1, e2] at J149 ⊢
      refine C.iload d6_27 rfl rfl ?_
      refine C.iloadN d6_29 rfl rfl ?_
      refine C.icmp_ge_t d6_30 (by decide) rfl hto ?_
      exact J149 hE
    rw [e1, e2] at J149 ⊢
    refine C.iload d6_27 rfl rfl ?_
    refine C.iloadN d6_29 rfl rfl ?_
    refine C.icmp_ge_t d6_30 (by decide) rfl hto ?_
    exact J149 hE
  have hE : (own_pass t le sl sc 2 [y2] ln co pv) = own_pass t le sl sc 2 [y2] ln co pv := rfl
  have J149 : ∀ (kE : (own_pass t le sl sc 2 [y2] ln co pv) = (2, ln, co, pv)), Go p l e ({ frames := 0, cells := 0, slots := 0, locals := 0 } : Room) s m #[(.ref a), (.ref b), (.int 2), (.int t), (.int le), (.int sl), (.int sc)] below meth c n0 (FinQ s n0 (Qcon_pass_3_2 Z n0 h0 a b t le sl sc ln co pv y0 y1 y2) ({ frames := 0, cells := 0, slots := 0, locals := 0 } : Room).cells ({ frames := 0, cells := 0, slots := 0, locals := 0 } : Room).slots) h0 0 0 149 #[rv a, rv b, iv 2, iv t, iv le, iv sl, iv sc, iv 2, iv ln, iv co, iv (own_cr pv), iv (own_bg pv), .unset] [] := by
    intro kE
    refine C.aloadN d6_149 rfl rfl rfl ?_
    refine C.iload d6_150 rfl rfl ?_
    refine C.putF d6_152 rfl (tw hw 16 rfl) P1 P0 (Or.inl (tw hw 17 rfl)) (tw hw 8 rfl) (ty := .int) (by decide) rfl rfl g_a (fun h686 W687 F688 => ?_)
    have F689 := Exa.wr W687 P0
    have F690 := Fld.other W687 P2 (Or.inr (slot_ne (C := "com/example/dodder/dodder/PlacedText$Counter") (t := .int) (t' := .int) (Or.inl (tw hw 19 rfl)) (Or.inl (tw hw 17 rfl)) (by decide) (by decide) (by decide)))
    have F691 := Fld.other W687 P3 (Or.inr (slot_ne (C := "com/example/dodder/dodder/PlacedText$Counter") (t := .boolean) (t' := .int) (Or.inl (tw hw 34 rfl)) (Or.inl (tw hw 17 rfl)) (by decide) (by decide) (by decide)))
    have F692 := Fld.other W687 P4 (Or.inr (slot_ne (C := "com/example/dodder/dodder/PlacedText$Counter") (t := .boolean) (t' := .int) (Or.inl (tw hw 36 rfl)) (Or.inl (tw hw 17 rfl)) (by decide) (by decide) (by decide)))
    have F693 := P5.other W687 (Ne.symm ne_a_b)
    refine C.aloadN d6_155 rfl rfl rfl ?_
    refine C.iload d6_156 rfl rfl ?_
    refine C.putF d6_158 rfl (tw hw 18 rfl) F690 F689 (Or.inl (tw hw 19 rfl)) (tw hw 8 rfl) (ty := .int) (by decide) rfl rfl g_a (fun h694 W695 F696 => ?_)
    have F697 := Exa.wr W695 F689
    have F698 := Fld.other W695 F691 (Or.inr (slot_ne (C := "com/example/dodder/dodder/PlacedText$Counter") (t := .boolean) (t' := .int) (Or.inl (tw hw 34 rfl)) (Or.inl (tw hw 19 rfl)) (by decide) (by decide) (by decide)))
    have F699 := Fld.other W695 F692 (Or.inr (slot_ne (C := "com/example/dodder/dodder/PlacedText$Counter") (t := .boolean) (t' := .int) (Or.inl (tw hw 36 rfl)) (Or.inl (tw hw 19 rfl)) (by decide) (by decide) (by decide)))
    have F700 := F693.other W695 (Ne.symm ne_a_b)
    have F701 := Fld.other W695 F688 (Or.inr (slot_ne (C := "com/example/dodder/dodder/PlacedText$Counter") (t := .int) (t' := .int) (Or.inl (tw hw 17 rfl)) (Or.inl (tw hw 19 rfl)) (by decide) (by decide) (by decide)))
    refine C.aloadN d6_161 rfl rfl rfl ?_
    refine C.iload d6_162 rfl rfl ?_
    refine C.putF d6_164 rfl (tw hw 33 rfl) F698 F697 (Or.inl (tw hw 34 rfl)) (tw hw 8 rfl) (ty := .boolean) (by decide) (own_crN pv) (own_crF pv) g_a (fun h702 W703 F704 => ?_)
    have F705 := Exa.wr W703 F697
    have F706 := Fld.other W703 F699 (Or.inr (slot_ne (C := "com/example/dodder/dodder/PlacedText$Counter") (t := .boolean) (t' := .boolean) (Or.inl (tw hw 36 rfl)) (Or.inl (tw hw 34 rfl)) (by decide) (by decide) (by decide)))
    have F707 := F700.other W703 (Ne.symm ne_a_b)
    have F708 := Fld.other W703 F701 (Or.inr (slot_ne (C := "com/example/dodder/dodder/PlacedText$Counter") (t := .int) (t' := .boolean) (Or.inl (tw hw 17 rfl)) (Or.inl (tw hw 34 rfl)) (by decide) (by decide) (by decide)))
    have F709 := Fld.other W703 F696 (Or.inr (slot_ne (C := "com/example/dodder/dodder/PlacedText$Counter") (t := .int) (t' := .boolean) (Or.inl (tw hw 19 rfl)) (Or.inl (tw hw 34 rfl)) (by decide) (by decide) (by decide)))
    refine C.aloadN d6_167 rfl rfl rfl ?_
    refine C.iload d6_168 rfl rfl ?_
    refine C.putF d6_170 rfl (tw hw 35 rfl) F706 F705 (Or.inl (tw hw 36 rfl)) (tw hw 8 rfl) (ty := .boolean) (by decide) (own_bgN pv) (own_bgF pv) g_a (fun h710 W711 F712 => ?_)
    have F713 := Exa.wr W711 F705
    have F714 := F707.other W711 (Ne.symm ne_a_b)
    have F715 := Fld.other W711 F708 (Or.inr (slot_ne (C := "com/example/dodder/dodder/PlacedText$Counter") (t := .int) (t' := .boolean) (Or.inl (tw hw 17 rfl)) (Or.inl (tw hw 36 rfl)) (by decide) (by decide) (by decide)))
    have F716 := Fld.other W711 F709 (Or.inr (slot_ne (C := "com/example/dodder/dodder/PlacedText$Counter") (t := .int) (t' := .boolean) (Or.inl (tw hw 19 rfl)) (Or.inl (tw hw 36 rfl)) (by decide) (by decide) (by decide)))
    have F717 := Fld.other W711 F704 (Or.inr (slot_ne (C := "com/example/dodder/dodder/PlacedText$Counter") (t := .boolean) (t' := .boolean) (Or.inl (tw hw 34 rfl)) (Or.inl (tw hw 36 rfl)) (by decide) (by decide) (by decide)))
    refine C.iload d6_173 rfl rfl ?_
    exact C.retI d6_175 (by decide) (by decide) ⟨(by rw [kE]), (((((Keep.refl h0 [a]).wr W687 (Or.inl (List.mem_of_getElem? (i := 0) rfl))).wr W695 (Or.inl (List.mem_of_getElem? (i := 0) rfl))).wr W703 (Or.inl (List.mem_of_getElem? (i := 0) rfl))).wr W711 (Or.inl (List.mem_of_getElem? (i := 0) rfl))), (by rw [kE]; exact F715), (by rw [kE]; exact F716), (by rw [kE]; exact F717), (by rw [kE]; exact F712)⟩
  rcases own_pv pv with ⟨hp, e1, e2⟩ | ⟨hp, e1, e2⟩ | ⟨hp, e1, e2⟩
  · rw [e1, e2] at J149 ⊢
    refine C.iload d6_27 rfl rfl ?_
    refine C.iloadN d6_29 rfl rfl ?_
    have J61_718 : ∀ (hc : 2 < t ∧ (2 < le ∨ ln < sl ∨ (ln = sl ∧ co < sc))), Go p l e ({ frames := 0, cells := 0, slots := 0, locals := 0 } : Room) s m #[(.ref a), (.ref b), (.int 2), (.int t), (.int le), (.int sl), (.int sc)] below meth c n0 (FinQ s n0 (Qcon_pass_3_2 Z n0 h0 a b t le sl sc ln co pv y0 y1 y2) ({ frames := 0, cells := 0, slots := 0, locals := 0 } : Room).cells ({ frames := 0, cells := 0, slots := 0, locals := 0 } : Room).slots) h0 0 0 61 #[rv a, rv b, iv 2, iv t, iv le, iv sl, iv sc, iv 2, iv ln, iv co, iv 1, iv 1, .unset] [] := by
      intro hc
      refine C.aloadN d6_61 rfl rfl rfl ?_
      refine C.iload d6_62 rfl rfl ?_
      refine C.caload (.int y2) d6_64 rfl P5 (by decide) rfl ?_
      refine C.istore (Ls' := #[rv a, rv b, iv 2, iv t, iv le, iv sl, iv sc, iv 2, iv ln, iv co, iv 1, iv 1, iv y2]) d6_65 rfl rfl ?_
      refine C.iload d6_67 rfl rfl ?_
      refine C.bipush 10 d6_69 rfl rfl ?_
      refine C.icmp_ne d6_71 (by decide) rfl rfl (fun q71 => ?_) (fun q71 => ?_)
      · refine C.iload d6_85 rfl rfl ?_
        refine C.bipush 10 d6_87 rfl rfl ?_
        refine C.icmp_eq_f d6_89 rfl q71 ?_
        refine C.iload d6_92 rfl rfl ?_
        refine C.bipush 13 d6_94 rfl rfl ?_
        refine C.icmp_ne d6_96 (by decide) rfl rfl (fun q96 => ?_) (fun q96 => ?_)
        · refine C.iload d6_122 rfl rfl ?_
          refine C.if_ne_t d6_124 (by decide) rfl (by decide) ?_
          refine C.iinc (Ls' := #[rv a, rv b, iv 2, iv t, iv le, iv sl, iv sc, iv 2, iv ln, iv (co + 1), iv 1, iv 1, iv y2]) 1 d6_134 rfl rfl rfl rfl ?_
          refine C.iconst 0 d6_137 rfl rfl ?_
          refine C.istore (Ls' := #[rv a, rv b, iv 2, iv t, iv le, iv sl, iv sc, iv 2, iv ln, iv (co + 1), iv 0, iv 1, iv y2]) d6_138 rfl rfl ?_
          refine C.iconst 1 d6_140 rfl rfl ?_
          refine C.istore (Ls' := #[rv a, rv b, iv 2, iv t, iv le, iv sl, iv sc, iv 2, iv ln, iv (co + 1), iv 0, iv 1, iv y2]) d6_141 rfl rfl ?_
          refine C.iinc (Ls' := #[rv a, rv b, iv 2, iv t, iv le, iv sl, iv sc, iv 3, iv ln, iv (co + 1), iv 0, iv 1, iv y2]) 1 d6_143 rfl rfl rfl rfl ?_
          refine C.goto d6_146 (by decide) rfl ?_
          have k1 : own_ln ln pv y2 = ln := by simp [own_ln, hp, hc, q71, q96]
          have k2 : own_cl co pv y2 = (co + 1) := by simp [own_cl, hp, hc, q71, q96]
          have k3 : 0 = own_cr y2 := by simp [own_cr, hp, hc, q71, q96]
          have k4 : 1 = own_bg y2 := by simp [own_bg, hy2]
          exact J27_3_653 ln (co + 1) y2 0 1 k3 k4 (hE.trans ((own_go hc).trans (by rw [k1, k2]; rfl)))
        refine C.iinc (Ls' := #[rv a, rv b, iv 2, iv t, iv le, iv sl, iv sc, iv 2, iv (ln + 1), iv co, iv 1, iv 1, iv y2]) 1 d6_99 rfl rfl rfl rfl ?_
        refine C.iconst 1 d6_102 rfl rfl ?_
        refine C.istore (Ls' := #[rv a, rv b, iv 2, iv t, iv le, iv sl, iv sc, iv 2, iv (ln + 1), iv 1, iv 1, iv 1, iv y2]) d6_103 rfl rfl ?_
        refine C.iload d6_105 rfl rfl ?_
        refine C.bipush 13 d6_107 rfl rfl ?_
        refine C.icmp_ne_f d6_109 rfl q96 ?_
        refine C.iconst 1 d6_112 rfl rfl ?_
        refine C.goto d6_113 (by decide) rfl ?_
        refine C.istore (Ls' := #[rv a, rv b, iv 2, iv t, iv le, iv sl, iv sc, iv 2, iv (ln + 1), iv 1, iv 1, iv 1, iv y2]) d6_117 rfl rfl ?_
        refine C.goto d6_119 (by decide) rfl ?_
        refine C.iconst 1 d6_140 rfl rfl ?_
        refine C.istore (Ls' := #[rv a, rv b, iv 2, iv t, iv le, iv sl, iv sc, iv 2, iv (ln + 1), iv 1, iv 1, iv 1, iv y2]) d6_141 rfl rfl ?_
        refine C.iinc (Ls' := #[rv a, rv b, iv 2, iv t, iv le, iv sl, iv sc, iv 3, iv (ln + 1), iv 1, iv 1, iv 1, iv y2]) 1 d6_143 rfl rfl rfl rfl ?_
        refine C.goto d6_146 (by decide) rfl ?_
        have k1 : own_ln ln pv y2 = (ln + 1) := by simp [own_ln, hp, hc, q71, q96]
        have k2 : own_cl co pv y2 = 1 := by simp [own_cl, hp, hc, q71, q96]
        have k3 : 1 = own_cr y2 := by simp [own_cr, hp, hc, q71, q96]
        have k4 : 1 = own_bg y2 := by simp [own_bg, hy2]
        exact J27_3_653 (ln + 1) 1 y2 1 1 k3 k4 (hE.trans ((own_go hc).trans (by rw [k1, k2]; rfl)))
      refine C.iload d6_74 rfl rfl ?_
      refine C.if_eq_f d6_76 rfl (by decide) ?_
      refine C.iconst 0 d6_79 rfl rfl ?_
      refine C.istore (Ls' := #[rv a, rv b, iv 2, iv t, iv le, iv sl, iv sc, iv 2, iv ln, iv co, iv 0, iv 1, iv y2]) d6_80 rfl rfl ?_
      refine C.goto d6_82 (by decide) rfl ?_
      refine C.iconst 1 d6_140 rfl rfl ?_
      refine C.istore (Ls' := #[rv a, rv b, iv 2, iv t, iv le, iv sl, iv sc, iv 2, iv ln, iv co, iv 0, iv 1, iv y2]) d6_141 rfl rfl ?_
      refine C.iinc (Ls' := #[rv a, rv b, iv 2, iv t, iv le, iv sl, iv sc, iv 3, iv ln, iv co, iv 0, iv 1, iv y2]) 1 d6_143 rfl rfl rfl rfl ?_
      refine C.goto d6_146 (by decide) rfl ?_
      have k1 : own_ln ln pv y2 = ln := by simp [own_ln, hp, hc, q71]
      have k2 : own_cl co pv y2 = co := by simp [own_cl, hp, hc, q71]
      have k3 : 0 = own_cr y2 := by simp [own_cr, hp, hc, q71]
      have k4 : 1 = own_bg y2 := by simp [own_bg, hy2]
      exact J27_3_653 ln co y2 0 1 k3 k4 (hE.trans ((own_go hc).trans (by rw [k1, k2]; rfl)))
    refine C.icmp_ge d6_30 (by decide) rfl rfl (fun q30 => ?_) (fun q30 => ?_)
    · exact J149 (hE.trans (own_no (fun h => q30 h.1)))
    refine C.iload d6_33 rfl rfl ?_
    refine C.iload d6_35 rfl rfl ?_
    refine C.icmp_lt d6_37 (by decide) rfl rfl (fun q37 => ?_) (fun q37 => ?_)
    · exact J61_718 ⟨q30, Or.inl q37⟩
    refine C.iload d6_40 rfl rfl ?_
    refine C.iload d6_42 rfl rfl ?_
    refine C.icmp_lt d6_44 (by decide) rfl rfl (fun q44 => ?_) (fun q44 => ?_)
    · exact J61_718 ⟨q30, Or.inr (Or.inl q44)⟩
    refine C.iload d6_47 rfl rfl ?_
    refine C.iload d6_49 rfl rfl ?_
    refine C.icmp_ne d6_51 (by decide) rfl rfl (fun q51 => ?_) (fun q51 => ?_)
    · exact J149 (hE.trans (own_no (fun h => h.2.elim q37 fun h => h.elim q44 fun h => q51 h.1)))
    refine C.iload d6_54 rfl rfl ?_
    refine C.iload d6_56 rfl rfl ?_
    refine C.icmp_ge d6_58 (by decide) rfl rfl (fun q58 => ?_) (fun q58 => ?_)
    · exact J149 (hE.trans (own_no (fun h => h.2.elim q37 fun h => h.elim q44 fun h => q58 h.2)))
    exact J61_718 ⟨q30, Or.inr (Or.inr ⟨q51, q58⟩)⟩
  · rw [e1, e2] at J149 ⊢
    refine C.iload d6_27 rfl rfl ?_
    refine C.iloadN d6_29 rfl rfl ?_
    have J61_719 : ∀ (hc : 2 < t ∧ (2 < le ∨ ln < sl ∨ (ln = sl ∧ co < sc))), Go p l e ({ frames := 0, cells := 0, slots := 0, locals := 0 } : Room) s m #[(.ref a), (.ref b), (.int 2), (.int t), (.int le), (.int sl), (.int sc)] below meth c n0 (FinQ s n0 (Qcon_pass_3_2 Z n0 h0 a b t le sl sc ln co pv y0 y1 y2) ({ frames := 0, cells := 0, slots := 0, locals := 0 } : Room).cells ({ frames := 0, cells := 0, slots := 0, locals := 0 } : Room).slots) h0 0 0 61 #[rv a, rv b, iv 2, iv t, iv le, iv sl, iv sc, iv 2, iv ln, iv co, iv 0, iv 0, .unset] [] := by
      intro hc
      refine C.aloadN d6_61 rfl rfl rfl ?_
      refine C.iload d6_62 rfl rfl ?_
      refine C.caload (.int y2) d6_64 rfl P5 (by decide) rfl ?_
      refine C.istore (Ls' := #[rv a, rv b, iv 2, iv t, iv le, iv sl, iv sc, iv 2, iv ln, iv co, iv 0, iv 0, iv y2]) d6_65 rfl rfl ?_
      refine C.iload d6_67 rfl rfl ?_
      refine C.bipush 10 d6_69 rfl rfl ?_
      refine C.icmp_ne d6_71 (by decide) rfl rfl (fun q71 => ?_) (fun q71 => ?_)
      · refine C.iload d6_85 rfl rfl ?_
        refine C.bipush 10 d6_87 rfl rfl ?_
        refine C.icmp_eq_f d6_89 rfl q71 ?_
        refine C.iload d6_92 rfl rfl ?_
        refine C.bipush 13 d6_94 rfl rfl ?_
        refine C.icmp_ne d6_96 (by decide) rfl rfl (fun q96 => ?_) (fun q96 => ?_)
        · refine C.iload d6_122 rfl rfl ?_
          refine C.if_ne_f d6_124 rfl (by decide) ?_
          refine C.iload d6_127 rfl rfl ?_
          refine C.ldcI d6_129 rfl (tw hw 47 rfl) ?_
          refine C.icmp_eq d6_131 (by decide) rfl rfl (fun q131 => ?_) (fun q131 => ?_)
          · refine C.iconst 1 d6_140 rfl rfl ?_
            refine C.istore (Ls' := #[rv a, rv b, iv 2, iv t, iv le, iv sl, iv sc, iv 2, iv ln, iv co, iv 0, iv 1, iv y2]) d6_141 rfl rfl ?_
            refine C.iinc (Ls' := #[rv a, rv b, iv 2, iv t, iv le, iv sl, iv sc, iv 3, iv ln, iv co, iv 0, iv 1, iv y2]) 1 d6_143 rfl rfl rfl rfl ?_
            refine C.goto d6_146 (by decide) rfl ?_
            have k1 : own_ln ln pv y2 = ln := by simp [own_ln, hp, hc, q71, q96, q131]
            have k2 : own_cl co pv y2 = co := by simp [own_cl, hp, hc, q71, q96, q131]
            have k3 : 0 = own_cr y2 := by simp [own_cr, hp, hc, q71, q96, q131]
            have k4 : 1 = own_bg y2 := by simp [own_bg, hy2]
            exact J27_3_653 ln co y2 0 1 k3 k4 (hE.trans ((own_go hc).trans (by rw [k1, k2]; rfl)))
          refine C.iinc (Ls' := #[rv a, rv b, iv 2, iv t, iv le, iv sl, iv sc, iv 2, iv ln, iv (co + 1), iv 0, iv 0, iv y2]) 1 d6_134 rfl rfl rfl rfl ?_
          refine C.iconst 0 d6_137 rfl rfl ?_
          refine C.istore (Ls' := #[rv a, rv b, iv 2, iv t, iv le, iv sl, iv sc, iv 2, iv ln, iv (co + 1), iv 0, iv 0, iv y2]) d6_138 rfl rfl ?_
          refine C.iconst 1 d6_140 rfl rfl ?_
          refine C.istore (Ls' := #[rv a, rv b, iv 2, iv t, iv le, iv sl, iv sc, iv 2, iv ln, iv (co + 1), iv 0, iv 1, iv y2]) d6_141 rfl rfl ?_
          refine C.iinc (Ls' := #[rv a, rv b, iv 2, iv t, iv le, iv sl, iv sc, iv 3, iv ln, iv (co + 1), iv 0, iv 1, iv y2]) 1 d6_143 rfl rfl rfl rfl ?_
          refine C.goto d6_146 (by decide) rfl ?_
          have k1 : own_ln ln pv y2 = ln := by simp [own_ln, hp, hc, q71, q96, q131]
          have k2 : own_cl co pv y2 = (co + 1) := by simp [own_cl, hp, hc, q71, q96, q131]
          have k3 : 0 = own_cr y2 := by simp [own_cr, hp, hc, q71, q96, q131]
          have k4 : 1 = own_bg y2 := by simp [own_bg, hy2]
          exact J27_3_653 ln (co + 1) y2 0 1 k3 k4 (hE.trans ((own_go hc).trans (by rw [k1, k2]; rfl)))
        refine C.iinc (Ls' := #[rv a, rv b, iv 2, iv t, iv le, iv sl, iv sc, iv 2, iv (ln + 1), iv co, iv 0, iv 0, iv y2]) 1 d6_99 rfl rfl rfl rfl ?_
        refine C.iconst 1 d6_102 rfl rfl ?_
        refine C.istore (Ls' := #[rv a, rv b, iv 2, iv t, iv le, iv sl, iv sc, iv 2, iv (ln + 1), iv 1, iv 0, iv 0, iv y2]) d6_103 rfl rfl ?_
        refine C.iload d6_105 rfl rfl ?_
        refine C.bipush 13 d6_107 rfl rfl ?_
        refine C.icmp_ne_f d6_109 rfl q96 ?_
        refine C.iconst 1 d6_112 rfl rfl ?_
        refine C.goto d6_113 (by decide) rfl ?_
        refine C.istore (Ls' := #[rv a, rv b, iv 2, iv t, iv le, iv sl, iv sc, iv 2, iv (ln + 1), iv 1, iv 1, iv 0, iv y2]) d6_117 rfl rfl ?_
        refine C.goto d6_119 (by decide) rfl ?_
        refine C.iconst 1 d6_140 rfl rfl ?_
        refine C.istore (Ls' := #[rv a, rv b, iv 2, iv t, iv le, iv sl, iv sc, iv 2, iv (ln + 1), iv 1, iv 1, iv 1, iv y2]) d6_141 rfl rfl ?_
        refine C.iinc (Ls' := #[rv a, rv b, iv 2, iv t, iv le, iv sl, iv sc, iv 3, iv (ln + 1), iv 1, iv 1, iv 1, iv y2]) 1 d6_143 rfl rfl rfl rfl ?_
        refine C.goto d6_146 (by decide) rfl ?_
        have k1 : own_ln ln pv y2 = (ln + 1) := by simp [own_ln, hp, hc, q71, q96]
        have k2 : own_cl co pv y2 = 1 := by simp [own_cl, hp, hc, q71, q96]
        have k3 : 1 = own_cr y2 := by simp [own_cr, hp, hc, q71, q96]
        have k4 : 1 = own_bg y2 := by simp [own_bg, hy2]
        exact J27_3_653 (ln + 1) 1 y2 1 1 k3 k4 (hE.trans ((own_go hc).trans (by rw [k1, k2]; rfl)))
      refine C.iload d6_74 rfl rfl ?_
      refine C.if_eq_t d6_76 (by decide) rfl (by decide) ?_
      refine C.iload d6_85 rfl rfl ?_
      refine C.bipush 10 d6_87 rfl rfl ?_
      refine C.icmp_eq_t d6_89 (by decide) rfl q71 ?_
      refine C.iinc (Ls' := #[rv a, rv b, iv 2, iv t, iv le, iv sl, iv sc, iv 2, iv (ln + 1), iv co, iv 0, iv 0, iv y2]) 1 d6_99 rfl rfl rfl rfl ?_
      refine C.iconst 1 d6_102 rfl rfl ?_
      refine C.istore (Ls' := #[rv a, rv b, iv 2, iv t, iv le, iv sl, iv sc, iv 2, iv (ln + 1), iv 1, iv 0, iv 0, iv y2]) d6_103 rfl rfl ?_
      refine C.iload d6_105 rfl rfl ?_
      refine C.bipush 13 d6_107 rfl rfl ?_
      refine C.icmp_ne_t d6_109 (by decide) rfl (by rw [q71]; decide) ?_
      refine C.iconst 0 d6_116 rfl rfl ?_
      refine C.istore (Ls' := #[rv a, rv b, iv 2, iv t, iv le, iv sl, iv sc, iv 2, iv (ln + 1), iv 1, iv 0, iv 0, iv y2]) d6_117 rfl rfl ?_
      refine C.goto d6_119 (by decide) rfl ?_
      refine C.iconst 1 d6_140 rfl rfl ?_
      refine C.istore (Ls' := #[rv a, rv b, iv 2, iv t, iv le, iv sl, iv sc, iv 2, iv (ln + 1), iv 1, iv 0, iv 1, iv y2]) d6_141 rfl rfl ?_
      refine C.iinc (Ls' := #[rv a, rv b, iv 2, iv t, iv le, iv sl, iv sc, iv 3, iv (ln + 1), iv 1, iv 0, iv 1, iv y2]) 1 d6_143 rfl rfl rfl rfl ?_
      refine C.goto d6_146 (by decide) rfl ?_
      have k1 : own_ln ln pv y2 = (ln + 1) := by simp [own_ln, hp, hc, q71]
      have k2 : own_cl co pv y2 = 1 := by simp [own_cl, hp, hc, q71]
      have k3 : 0 = own_cr y2 := by simp [own_cr, hp, hc, q71]
      have k4 : 1 = own_bg y2 := by simp [own_bg, hy2]
      exact J27_3_653 (ln + 1) 1 y2 0 1 k3 k4 (hE.trans ((own_go hc).trans (by rw [k1, k2]; rfl)))
    refine C.icmp_ge d6_30 (by decide) rfl rfl (fun q30 => ?_) (fun q30 => ?_)
    · exact J149 (hE.trans (own_no (fun h => q30 h.1)))
    refine C.iload d6_33 rfl rfl ?_
    refine C.iload d6_35 rfl rfl ?_
    refine C.icmp_lt d6_37 (by decide) rfl rfl (fun q37 => ?_) (fun q37 => ?_)
    · exact J61_719 ⟨q30, Or.inl q37⟩
    refine C.iload d6_40 rfl rfl ?_
    refine C.iload d6_42 rfl rfl ?_
    refine C.icmp_lt d6_44 (by decide) rfl rfl (fun q44 => ?_) (fun q44 => ?_)
    · exact J61_719 ⟨q30, Or.inr (Or.inl q44)⟩
    refine C.iload d6_47 rfl rfl ?_
    refine C.iload d6_49 rfl rfl ?_
    refine C.icmp_ne d6_51 (by decide) rfl rfl (fun q51 => ?_) (fun q51 => ?_)
    · exact J149 (hE.trans (own_no (fun h => h.2.elim q37 fun h => h.elim q44 fun h => q51 h.1)))
    refine C.iload d6_54 rfl rfl ?_
    refine C.iload d6_56 rfl rfl ?_
    refine C.icmp_ge d6_58 (by decide) rfl rfl (fun q58 => ?_) (fun q58 => ?_)
    · exact J149 (hE.trans (own_no (fun h => h.2.elim q37 fun h => h.elim q44 fun h => q58 h.2)))
    exact J61_719 ⟨q30, Or.inr (Or.inr ⟨q51, q58⟩)⟩
  rw [e1, e2] at J149 ⊢
  refine C.iload d6_27 rfl rfl ?_
  refine C.iloadN d6_29 rfl rfl ?_
  have J61_720 : ∀ (hc : 2 < t ∧ (2 < le ∨ ln < sl ∨ (ln = sl ∧ co < sc))), Go p l e ({ frames := 0, cells := 0, slots := 0, locals := 0 } : Room) s m #[(.ref a), (.ref b), (.int 2), (.int t), (.int le), (.int sl), (.int sc)] below meth c n0 (FinQ s n0 (Qcon_pass_3_2 Z n0 h0 a b t le sl sc ln co pv y0 y1 y2) ({ frames := 0, cells := 0, slots := 0, locals := 0 } : Room).cells ({ frames := 0, cells := 0, slots := 0, locals := 0 } : Room).slots) h0 0 0 61 #[rv a, rv b, iv 2, iv t, iv le, iv sl, iv sc, iv 2, iv ln, iv co, iv 0, iv 1, .unset] [] := by
    intro hc
    refine C.aloadN d6_61 rfl rfl rfl ?_
    refine C.iload d6_62 rfl rfl ?_
    refine C.caload (.int y2) d6_64 rfl P5 (by decide) rfl ?_
    refine C.istore (Ls' := #[rv a, rv b, iv 2, iv t, iv le, iv sl, iv sc, iv 2, iv ln, iv co, iv 0, iv 1, iv y2]) d6_65 rfl rfl ?_
    refine C.iload d6_67 rfl rfl ?_
    refine C.bipush 10 d6_69 rfl rfl ?_
    refine C.icmp_ne d6_71 (by decide) rfl rfl (fun q71 => ?_) (fun q71 => ?_)
    · refine C.iload d6_85 rfl rfl ?_
      refine C.bipush 10 d6_87 rfl rfl ?_
      refine C.icmp_eq_f d6_89 rfl q71 ?_
      refine C.iload d6_92 rfl rfl ?_
      refine C.bipush 13 d6_94 rfl rfl ?_
      refine C.icmp_ne d6_96 (by decide) rfl rfl (fun q96 => ?_) (fun q96 => ?_)
      · refine C.iload d6_122 rfl rfl ?_
        refine C.if_ne_t d6_124 (by decide) rfl (by decide) ?_
        refine C.iinc (Ls' := #[rv a, rv b, iv 2, iv t, iv le, iv sl, iv sc, iv 2, iv ln, iv (co + 1), iv 0, iv 1, iv y2]) 1 d6_134 rfl rfl rfl rfl ?_
        refine C.iconst 0 d6_137 rfl rfl ?_
        refine C.istore (Ls' := #[rv a, rv b, iv 2, iv t, iv le, iv sl, iv sc, iv 2, iv ln, iv (co + 1), iv 0, iv 1, iv y2]) d6_138 rfl rfl ?_
        refine C.iconst 1 d6_140 rfl rfl ?_
        refine C.istore (Ls' := #[rv a, rv b, iv 2, iv t, iv le, iv sl, iv sc, iv 2, iv ln, iv (co + 1), iv 0, iv 1, iv y2]) d6_141 rfl rfl ?_
        refine C.iinc (Ls' := #[rv a, rv b, iv 2, iv t, iv le, iv sl, iv sc, iv 3, iv ln, iv (co + 1), iv 0, iv 1, iv y2]) 1 d6_143 rfl rfl rfl rfl ?_
        refine C.goto d6_146 (by decide) rfl ?_
        have k1 : own_ln ln pv y2 = ln := by simp [own_ln, hp.1, hp.2, hc, q71, q96]
        have k2 : own_cl co pv y2 = (co + 1) := by simp [own_cl, hp.1, hp.2, hc, q71, q96]
        have k3 : 0 = own_cr y2 := by simp [own_cr, hp.1, hp.2, hc, q71, q96]
        have k4 : 1 = own_bg y2 := by simp [own_bg, hy2]
        exact J27_3_653 ln (co + 1) y2 0 1 k3 k4 (hE.trans ((own_go hc).trans (by rw [k1, k2]; rfl)))
      refine C.iinc (Ls' := #[rv a, rv b, iv 2, iv t, iv le, iv sl, iv sc, iv 2, iv (ln + 1), iv co, iv 0, iv 1, iv y2]) 1 d6_99 rfl rfl rfl rfl ?_
      refine C.iconst 1 d6_102 rfl rfl ?_
      refine C.istore (Ls' := #[rv a, rv b, iv 2, iv t, iv le, iv sl, iv sc, iv 2, iv (ln + 1), iv 1, iv 0, iv 1, iv y2]) d6_103 rfl rfl ?_
      refine C.iload d6_105 rfl rfl ?_
      refine C.bipush 13 d6_107 rfl rfl ?_
      refine C.icmp_ne_f d6_109 rfl q96 ?_
      refine C.iconst 1 d6_112 rfl rfl ?_
      refine C.goto d6_113 (by decide) rfl ?_
      refine C.istore (Ls' := #[rv a, rv b, iv 2, iv t, iv le, iv sl, iv sc, iv 2, iv (ln + 1), iv 1, iv 1, iv 1, iv y2]) d6_117 rfl rfl ?_
      refine C.goto d6_119 (by decide) rfl ?_
      refine C.iconst 1 d6_140 rfl rfl ?_
      refine C.istore (Ls' := #[rv a, rv b, iv 2, iv t, iv le, iv sl, iv sc, iv 2, iv (ln + 1), iv 1, iv 1, iv 1, iv y2]) d6_141 rfl rfl ?_
      refine C.iinc (Ls' := #[rv a, rv b, iv 2, iv t, iv le, iv sl, iv sc, iv 3, iv (ln + 1), iv 1, iv 1, iv 1, iv y2]) 1 d6_143 rfl rfl rfl rfl ?_
      refine C.goto d6_146 (by decide) rfl ?_
      have k1 : own_ln ln pv y2 = (ln + 1) := by simp [own_ln, hp.1, hp.2, hc, q71, q96]
      have k2 : own_cl co pv y2 = 1 := by simp [own_cl, hp.1, hp.2, hc, q71, q96]
      have k3 : 1 = own_cr y2 := by simp [own_cr, hp.1, hp.2, hc, q71, q96]
      have k4 : 1 = own_bg y2 := by simp [own_bg, hy2]
      exact J27_3_653 (ln + 1) 1 y2 1 1 k3 k4 (hE.trans ((own_go hc).trans (by rw [k1, k2]; rfl)))
    refine C.iload d6_74 rfl rfl ?_
    refine C.if_eq_t d6_76 (by decide) rfl (by decide) ?_
    refine C.iload d6_85 rfl rfl ?_
    refine C.bipush 10 d6_87 rfl rfl ?_
    refine C.icmp_eq_t d6_89 (by decide) rfl q71 ?_
    refine C.iinc (Ls' := #[rv a, rv b, iv 2, iv t, iv le, iv sl, iv sc, iv 2, iv (ln + 1), iv co, iv 0, iv 1, iv y2]) 1 d6_99 rfl rfl rfl rfl ?_
    refine C.iconst 1 d6_102 rfl rfl ?_
    refine C.istore (Ls' := #[rv a, rv b, iv 2, iv t, iv le, iv sl, iv sc, iv 2, iv (ln + 1), iv 1, iv 0, iv 1, iv y2]) d6_103 rfl rfl ?_
    refine C.iload d6_105 rfl rfl ?_
    refine C.bipush 13 d6_107 rfl rfl ?_
    refine C.icmp_ne_t d6_109 (by decide) rfl (by rw [q71]; decide) ?_
    refine C.iconst 0 d6_116 rfl rfl ?_
    refine C.istore (Ls' := #[rv a, rv b, iv 2, iv t, iv le, iv sl, iv sc, iv 2, iv (ln + 1), iv 1, iv 0, iv 1, iv y2]) d6_117 rfl rfl ?_
    refine C.goto d6_119 (by decide) rfl ?_
    refine C.iconst 1 d6_140 rfl rfl ?_
    refine C.istore (Ls' := #[rv a, rv b, iv 2, iv t, iv le, iv sl, iv sc, iv 2, iv (ln + 1), iv 1, iv 0, iv 1, iv y2]) d6_141 rfl rfl ?_
    refine C.iinc (Ls' := #[rv a, rv b, iv 2, iv t, iv le, iv sl, iv sc, iv 3, iv (ln + 1), iv 1, iv 0, iv 1, iv y2]) 1 d6_143 rfl rfl rfl rfl ?_
    refine C.goto d6_146 (by decide) rfl ?_
    have k1 : own_ln ln pv y2 = (ln + 1) := by simp [own_ln, hp.1, hp.2, hc, q71]
    have k2 : own_cl co pv y2 = 1 := by simp [own_cl, hp.1, hp.2, hc, q71]
    have k3 : 0 = own_cr y2 := by simp [own_cr, hp.1, hp.2, hc, q71]
    have k4 : 1 = own_bg y2 := by simp [own_bg, hy2]
    exact J27_3_653 (ln + 1) 1 y2 0 1 k3 k4 (hE.trans ((own_go hc).trans (by rw [k1, k2]; rfl)))
  refine C.icmp_ge d6_30 (by decide) rfl rfl (fun q30 => ?_) (fun q30 => ?_)
  · exact J149 (hE.trans (own_no (fun h => q30 h.1)))
  refine C.iload d6_33 rfl rfl ?_
  refine C.iload d6_35 rfl rfl ?_
  refine C.icmp_lt d6_37 (by decide) rfl rfl (fun q37 => ?_) (fun q37 => ?_)
  · exact J61_720 ⟨q30, Or.inl q37⟩
  refine C.iload d6_40 rfl rfl ?_
  refine C.iload d6_42 rfl rfl ?_
  refine C.icmp_lt d6_44 (by decide) rfl rfl (fun q44 => ?_) (fun q44 => ?_)
  · exact J61_720 ⟨q30, Or.inr (Or.inl q44)⟩
  refine C.iload d6_47 rfl rfl ?_
  refine C.iload d6_49 rfl rfl ?_
  refine C.icmp_ne d6_51 (by decide) rfl rfl (fun q51 => ?_) (fun q51 => ?_)
  · exact J149 (hE.trans (own_no (fun h => h.2.elim q37 fun h => h.elim q44 fun h => q51 h.1)))
  refine C.iload d6_54 rfl rfl ?_
  refine C.iload d6_56 rfl rfl ?_
  refine C.icmp_ge d6_58 (by decide) rfl rfl (fun q58 => ?_) (fun q58 => ?_)
  · exact J149 (hE.trans (own_no (fun h => h.2.elim q37 fun h => h.elim q44 fun h => q58 h.2)))
  exact J61_720 ⟨q30, Or.inr (Or.inr ⟨q51, q58⟩)⟩
def Qcon_pass_3_3 (Z : State) (n0 : Nat) (h0 : Heap) (a : Addr) (b : Addr) (t : Int32) (le : Int32) (sl : Int32) (sc : Int32) (ln : Int32) (co : Int32) (pv : Int32) (y0 : Int32) (y1 : Int32) (y2 : Int32) (v : Option Value) (h' : Heap) : Prop := (v = some (.int ((own_pass t le sl sc 3 [] ln co pv).1))) ∧ (Keep h0 h' [a]) ∧ (Fld Z h' a "com/example/dodder/dodder/PlacedText$Counter" "line" "I" (.int ((own_pass t le sl sc 3 [] ln co pv).2.1))) ∧ (Fld Z h' a "com/example/dodder/dodder/PlacedText$Counter" "column" "I" (.int ((own_pass t le sl sc 3 [] ln co pv).2.2.1))) ∧ (Fld Z h' a "com/example/dodder/dodder/PlacedText$Counter" "afterCarriageReturn" "Z" (.int (own_cr (own_pass t le sl sc 3 [] ln co pv).2.2.2))) ∧ (Fld Z h' a "com/example/dodder/dodder/PlacedText$Counter" "started" "Z" (.int (own_bg (own_pass t le sl sc 3 [] ln co pv).2.2.2)))
theorem ef_con_pass_3_3 (m : MethodId) (a : Addr) (b : Addr) (t : Int32) (le : Int32) (sl : Int32) (sc : Int32) : entryFrame m #[(.ref a), (.ref b), (.int 3), (.int t), (.int le), (.int sl), (.int sc)] 13 = mkF m 0 #[rv a, rv b, iv 3, iv t, iv le, iv sl, iv sc, .unset, .unset, .unset, .unset, .unset, .unset] [] := by first | (simp [entryFrame, mkF, argsToLocals, Value.category]; done) | rfl
set_option maxRecDepth 65536 in
set_option maxHeartbeats 40000000 in
theorem con_pass_3_3 (l : Launch) (Z : State) (a0 : Array Value) (hw : ∀ d ∈ tables_1, d.before a0 Z = true) (n0 : Nat) (h0 : Heap) (hn0 : n0 ≤ h0.size) (a : Addr) (b : Addr) (t : Int32) (le : Int32) (sl : Int32) (sc : Int32) (ln : Int32) (co : Int32) (pv : Int32) (y0 : Int32) (y1 : Int32) (y2 : Int32) (P0 : Exa Z h0 a "com/example/dodder/dodder/PlacedText$Counter") (P1 : Fld Z h0 a "com/example/dodder/dodder/PlacedText$Counter" "line" "I" (.int ln)) (P2 : Fld Z h0 a "com/example/dodder/dodder/PlacedText$Counter" "column" "I" (.int co)) (P3 : Fld Z h0 a "com/example/dodder/dodder/PlacedText$Counter" "afterCarriageReturn" "Z" (.int (own_cr pv))) (P4 : Fld Z h0 a "com/example/dodder/dodder/PlacedText$Counter" "started" "Z" (.int (own_bg pv))) (P5 : Av Z h0 b .char ([.int y0, .int y1, .int y2])) (g_a : n0 ≤ a) (ne_a_b : a ≠ b) (hto : ¬ (3 : Int32) < t) (hy0 : ¬ y0 = -1) (hy1 : ¬ y1 = -1) (hy2 : ¬ y2 = -1) :
    Con l Z n0 [] (⟨"com/example/dodder/dodder/PlacedText$Counter", "pass", "([CIIIII)I"⟩ : MethodName) prog_122_method_6_code 13 (some .int) ({ frames := 0, cells := 0, slots := 0, locals := 0 } : Room) #[(.ref a), (.ref b), (.int 3), (.int t), (.int le), (.int sl), (.int sc)] h0 (Qcon_pass_3_3 Z n0 h0 a b t le sl sc ln co pv y0 y1 y2) := by
  refine Con.of pf_3 (fun m => ef_con_pass_3_3 m a b t le sl sc) hn0 ?_
  intro p e s m below meth c C
  refine C.iloadN d6_0 rfl rfl ?_
  refine C.istore (Ls' := #[rv a, rv b, iv 3, iv t, iv le, iv sl, iv sc, iv 3, .unset, .unset, .unset, .unset, .unset]) d6_1 rfl rfl ?_
  refine C.aloadN d6_3 rfl rfl rfl ?_
  refine C.getF d6_4 rfl (tw hw 16 rfl) P1 ?_
  refine C.istore (Ls' := #[rv a, rv b, iv 3, iv t, iv le, iv sl, iv sc, iv 3, iv ln, .unset, .unset, .unset, .unset]) d6_7 rfl rfl ?_
  refine C.aloadN d6_9 rfl rfl rfl ?_
  refine C.getF d6_10 rfl (tw hw 18 rfl) P2 ?_
  refine C.istore (Ls' := #[rv a, rv b, iv 3, iv t, iv le, iv sl, iv sc, iv 3, iv ln, iv co, .unset, .unset, .unset]) d6_13 rfl rfl ?_
  refine C.aloadN d6_15 rfl rfl rfl ?_
  refine C.getF d6_16 rfl (tw hw 33 rfl) P3 ?_
  refine C.istore (Ls' := #[rv a, rv b, iv 3, iv t, iv le, iv sl, iv sc, iv 3, iv ln, iv co, iv (own_cr pv), .unset, .unset]) d6_19 rfl rfl ?_
  refine C.aloadN d6_21 rfl rfl rfl ?_
  refine C.getF d6_22 rfl (tw hw 35 rfl) P4 ?_
  refine C.istore (Ls' := #[rv a, rv b, iv 3, iv t, iv le, iv sl, iv sc, iv 3, iv ln, iv co, iv (own_cr pv), iv (own_bg pv), .unset]) d6_25 rfl rfl ?_
  have hE : (own_pass t le sl sc 3 [] ln co pv) = own_pass t le sl sc 3 [] ln co pv := rfl
  have J149 : ∀ (kE : (own_pass t le sl sc 3 [] ln co pv) = (3, ln, co, pv)), Go p l e ({ frames := 0, cells := 0, slots := 0, locals := 0 } : Room) s m #[(.ref a), (.ref b), (.int 3), (.int t), (.int le), (.int sl), (.int sc)] below meth c n0 (FinQ s n0 (Qcon_pass_3_3 Z n0 h0 a b t le sl sc ln co pv y0 y1 y2) ({ frames := 0, cells := 0, slots := 0, locals := 0 } : Room).cells ({ frames := 0, cells := 0, slots := 0, locals := 0 } : Room).slots) h0 0 0 149 #[rv a, rv b, iv 3, iv t, iv le, iv sl, iv sc, iv 3, iv ln, iv co, iv (own_cr pv), iv (own_bg pv), .unset] [] := by
    intro kE
    refine C.aloadN d6_149 rfl rfl rfl ?_
    refine C.iload d6_150 rfl rfl ?_
    refine C.putF d6_152 rfl (tw hw 16 rfl) P1 P0 (Or.inl (tw hw 17 rfl)) (tw hw 8 rfl) (ty := .int) (by decide) rfl rfl g_a (fun h753 W754 F755 => ?_)
    have F756 := Exa.wr W754 P0
    have F757 := Fld.other W754 P2 (Or.inr (slot_ne (C := "com/example/dodder/dodder/PlacedText$Counter") (t := .int) (t' := .int) (Or.inl (tw hw 19 rfl)) (Or.inl (tw hw 17 rfl)) (by decide) (by decide) (by decide)))
    have F758 := Fld.other W754 P3 (Or.inr (slot_ne (C := "com/example/dodder/dodder/PlacedText$Counter") (t := .boolean) (t' := .int) (Or.inl (tw hw 34 rfl)) (Or.inl (tw hw 17 rfl)) (by decide) (by decide) (by decide)))
    have F759 := Fld.other W754 P4 (Or.inr (slot_ne (C := "com/example/dodder/dodder/PlacedText$Counter") (t := .boolean) (t' := .int) (Or.inl (tw hw 36 rfl)) (Or.inl (tw hw 17 rfl)) (by decide) (by decide) (by decide)))
    have F760 := P5.other W754 (Ne.symm ne_a_b)
    refine C.aloadN d6_155 rfl rfl rfl ?_
    refine C.iload d6_156 rfl rfl ?_
    refine C.putF d6_158 rfl (tw hw 18 rfl) F757 F756 (Or.inl (tw hw 19 rfl)) (tw hw 8 rfl) (ty := .int) (by decide) rfl rfl g_a (fun h761 W762 F763 => ?_)
    have F764 := Exa.wr W762 F756
    have F765 := Fld.other W762 F758 (Or.inr (slot_ne (C := "com/example/dodder/dodder/PlacedText$Counter") (t := .boolean) (t' := .int) (Or.inl (tw hw 34 rfl)) (Or.inl (tw hw 19 rfl)) (by decide) (by decide) (by decide)))
    have F766 := Fld.other W762 F759 (Or.inr (slot_ne (C := "com/example/dodder/dodder/PlacedText$Counter") (t := .boolean) (t' := .int) (Or.inl (tw hw 36 rfl)) (Or.inl (tw hw 19 rfl)) (by decide) (by decide) (by decide)))
    have F767 := F760.other W762 (Ne.symm ne_a_b)
    have F768 := Fld.other W762 F755 (Or.inr (slot_ne (C := "com/example/dodder/dodder/PlacedText$Counter") (t := .int) (t' := .int) (Or.inl (tw hw 17 rfl)) (Or.inl (tw hw 19 rfl)) (by decide) (by decide) (by decide)))
    refine C.aloadN d6_161 rfl rfl rfl ?_
    refine C.iload d6_162 rfl rfl ?_
    refine C.putF d6_164 rfl (tw hw 33 rfl) F765 F764 (Or.inl (tw hw 34 rfl)) (tw hw 8 rfl) (ty := .boolean) (by decide) (own_crN pv) (own_crF pv) g_a (fun h769 W770 F771 => ?_)
    have F772 := Exa.wr W770 F764
    have F773 := Fld.other W770 F766 (Or.inr (slot_ne (C := "com/example/dodder/dodder/PlacedText$Counter") (t := .boolean) (t' := .boolean) (Or.inl (tw hw 36 rfl)) (Or.inl (tw hw 34 rfl)) (by decide) (by decide) (by decide)))
    have F774 := F767.other W770 (Ne.symm ne_a_b)
    have F775 := Fld.other W770 F768 (Or.inr (slot_ne (C := "com/example/dodder/dodder/PlacedText$Counter") (t := .int) (t' := .boolean) (Or.inl (tw hw 17 rfl)) (Or.inl (tw hw 34 rfl)) (by decide) (by decide) (by decide)))
    have F776 := Fld.other W770 F763 (Or.inr (slot_ne (C := "com/example/dodder/dodder/PlacedText$Counter") (t := .int) (t' := .boolean) (Or.inl (tw hw 19 rfl)) (Or.inl (tw hw 34 rfl)) (by decide) (by decide) (by decide)))
    refine C.aloadN d6_167 rfl rfl rfl ?_
    refine C.iload d6_168 rfl rfl ?_
    refine C.putF d6_170 rfl (tw hw 35 rfl) F773 F772 (Or.inl (tw hw 36 rfl)) (tw hw 8 rfl) (ty := .boolean) (by decide) (own_bgN pv) (own_bgF pv) g_a (fun h777 W778 F779 => ?_)
    have F780 := Exa.wr W778 F772
    have F781 := F774.other W778 (Ne.symm ne_a_b)
    have F782 := Fld.other W778 F775 (Or.inr (slot_ne (C := "com/example/dodder/dodder/PlacedText$Counter") (t := .int) (t' := .boolean) (Or.inl (tw hw 17 rfl)) (Or.inl (tw hw 36 rfl)) (by decide) (by decide) (by decide)))
    have F783 := Fld.other W778 F776 (Or.inr (slot_ne (C := "com/example/dodder/dodder/PlacedText$Counter") (t := .int) (t' := .boolean) (Or.inl (tw hw 19 rfl)) (Or.inl (tw hw 36 rfl)) (by decide) (by decide) (by decide)))
    have F784 := Fld.other W778 F771 (Or.inr (slot_ne (C := "com/example/dodder/dodder/PlacedText$Counter") (t := .boolean) (t' := .boolean) (Or.inl (tw hw 34 rfl)) (Or.inl (tw hw 36 rfl)) (by decide) (by decide) (by decide)))
    refine C.iload d6_173 rfl rfl ?_
    exact C.retI d6_175 (by decide) (by decide) ⟨(by rw [kE]), (((((Keep.refl h0 [a]).wr W754 (Or.inl (List.mem_of_getElem? (i := 0) rfl))).wr W762 (Or.inl (List.mem_of_getElem? (i := 0) rfl))).wr W770 (Or.inl (List.mem_of_getElem? (i := 0) rfl))).wr W778 (Or.inl (List.mem_of_getElem? (i := 0) rfl))), (by rw [kE]; exact F782), (by rw [kE]; exact F783), (by rw [kE]; exact F784), (by rw [kE]; exact F779)⟩
  rcases own_pv pv with ⟨hp, e1, e2⟩ | ⟨hp, e1, e2⟩ | ⟨hp, e1, e2⟩
  · rw [e1, e2] at J149 ⊢
    refine C.iload d6_27 rfl rfl ?_
    refine C.iloadN d6_29 rfl rfl ?_
    refine C.icmp_ge_t d6_30 (by decide) rfl hto ?_
    exact J149 hE
  · rw [e1, e2] at J149 ⊢
    refine C.iload d6_27 rfl rfl ?_
    refine C.iloadN d6_29 rfl rfl ?_
    refine C.icmp_ge_t d6_30 (by decide) rfl hto ?_
    exact J149 hE
  rw [e1, e2] at J149 ⊢
  refine C.iload d6_27 rfl rfl ?_
  refine C.iloadN d6_29 rfl rfl ?_
  refine C.icmp_ge_t d6_30 (by decide) rfl hto ?_
  exact J149 hE
def Qcon_pass_1_0 (Z : State) (n0 : Nat) (h0 : Heap) (a : Addr) (b : Addr) (t : Int32) (le : Int32) (sl : Int32) (sc : Int32) (ln : Int32) (co : Int32) (pv : Int32) (y0 : Int32) (v : Option Value) (h' : Heap) : Prop := (v = some (.int ((own_pass t le sl sc 0 [y0] ln co pv).1))) ∧ (Keep h0 h' [a]) ∧ (Fld Z h' a "com/example/dodder/dodder/PlacedText$Counter" "line" "I" (.int ((own_pass t le sl sc 0 [y0] ln co pv).2.1))) ∧ (Fld Z h' a "com/example/dodder/dodder/PlacedText$Counter" "column" "I" (.int ((own_pass t le sl sc 0 [y0] ln co pv).2.2.1))) ∧ (Fld Z h' a "com/example/dodder/dodder/PlacedText$Counter" "afterCarriageReturn" "Z" (.int (own_cr (own_pass t le sl sc 0 [y0] ln co pv).2.2.2))) ∧ (Fld Z h' a "com/example/dodder/dodder/PlacedText$Counter" "started" "Z" (.int (own_bg (own_pass t le sl sc 0 [y0] ln co pv).2.2.2)))
theorem ef_con_pass_1_0 (m : MethodId) (a : Addr) (b : Addr) (t : Int32) (le : Int32) (sl : Int32) (sc : Int32) : entryFrame m #[(.ref a), (.ref b), (.int 0), (.int t), (.int le), (.int sl), (.int sc)] 13 = mkF m 0 #[rv a, rv b, iv 0, iv t, iv le, iv sl, iv sc, .unset, .unset, .unset, .unset, .unset, .unset] [] := by first | (simp [entryFrame, mkF, argsToLocals, Value.category]; done) | rfl
set_option maxRecDepth 65536 in
set_option maxHeartbeats 40000000 in
theorem con_pass_1_0 (l : Launch) (Z : State) (a0 : Array Value) (hw : ∀ d ∈ tables_1, d.before a0 Z = true) (n0 : Nat) (h0 : Heap) (hn0 : n0 ≤ h0.size) (a : Addr) (b : Addr) (t : Int32) (le : Int32) (sl : Int32) (sc : Int32) (ln : Int32) (co : Int32) (pv : Int32) (y0 : Int32) (P0 : Exa Z h0 a "com/example/dodder/dodder/PlacedText$Counter") (P1 : Fld Z h0 a "com/example/dodder/dodder/PlacedText$Counter" "line" "I" (.int ln)) (P2 : Fld Z h0 a "com/example/dodder/dodder/PlacedText$Counter" "column" "I" (.int co)) (P3 : Fld Z h0 a "com/example/dodder/dodder/PlacedText$Counter" "afterCarriageReturn" "Z" (.int (own_cr pv))) (P4 : Fld Z h0 a "com/example/dodder/dodder/PlacedText$Counter" "started" "Z" (.int (own_bg pv))) (P5 : Av Z h0 b .char ([.int y0])) (g_a : n0 ≤ a) (ne_a_b : a ≠ b) (hto : ¬ (1 : Int32) < t) (hy0 : ¬ y0 = -1) :
    Con l Z n0 [] (⟨"com/example/dodder/dodder/PlacedText$Counter", "pass", "([CIIIII)I"⟩ : MethodName) prog_122_method_6_code 13 (some .int) ({ frames := 0, cells := 0, slots := 0, locals := 0 } : Room) #[(.ref a), (.ref b), (.int 0), (.int t), (.int le), (.int sl), (.int sc)] h0 (Qcon_pass_1_0 Z n0 h0 a b t le sl sc ln co pv y0) := by
  refine Con.of pf_3 (fun m => ef_con_pass_1_0 m a b t le sl sc) hn0 ?_
  intro p e s m below meth c C
  refine C.iloadN d6_0 rfl rfl ?_
  refine C.istore (Ls' := #[rv a, rv b, iv 0, iv t, iv le, iv sl, iv sc, iv 0, .unset, .unset, .unset, .unset, .unset]) d6_1 rfl rfl ?_
  refine C.aloadN d6_3 rfl rfl rfl ?_
  refine C.getF d6_4 rfl (tw hw 16 rfl) P1 ?_
  refine C.istore (Ls' := #[rv a, rv b, iv 0, iv t, iv le, iv sl, iv sc, iv 0, iv ln, .unset, .unset, .unset, .unset]) d6_7 rfl rfl ?_
  refine C.aloadN d6_9 rfl rfl rfl ?_
  refine C.getF d6_10 rfl (tw hw 18 rfl) P2 ?_
  refine C.istore (Ls' := #[rv a, rv b, iv 0, iv t, iv le, iv sl, iv sc, iv 0, iv ln, iv co, .unset, .unset, .unset]) d6_13 rfl rfl ?_
  refine C.aloadN d6_15 rfl rfl rfl ?_
  refine C.getF d6_16 rfl (tw hw 33 rfl) P3 ?_
  refine C.istore (Ls' := #[rv a, rv b, iv 0, iv t, iv le, iv sl, iv sc, iv 0, iv ln, iv co, iv (own_cr pv), .unset, .unset]) d6_19 rfl rfl ?_
  refine C.aloadN d6_21 rfl rfl rfl ?_
  refine C.getF d6_22 rfl (tw hw 35 rfl) P4 ?_
  refine C.istore (Ls' := #[rv a, rv b, iv 0, iv t, iv le, iv sl, iv sc, iv 0, iv ln, iv co, iv (own_cr pv), iv (own_bg pv), .unset]) d6_25 rfl rfl ?_
  have J27_1_853 : ∀ (ln1 co1 pv1 cr1 bg1 : Int32) (hcr : cr1 = own_cr pv1) (hbg : bg1 = own_bg pv1) (hE : (own_pass t le sl sc 0 [y0] ln co pv) = own_pass t le sl sc 1 [] ln1 co1 pv1), Go p l e ({ frames := 0, cells := 0, slots := 0, locals := 0 } : Room) s m #[(.ref a), (.ref b), (.int 0), (.int t), (.int le), (.int sl), (.int sc)] below meth c n0 (FinQ s n0 (Qcon_pass_1_0 Z n0 h0 a b t le sl sc ln co pv y0) ({ frames := 0, cells := 0, slots := 0, locals := 0 } : Room).cells ({ frames := 0, cells := 0, slots := 0, locals := 0 } : Room).slots) h0 0 0 27 #[rv a, rv b, iv 0, iv t, iv le, iv sl, iv sc, iv 1, iv ln1, iv co1, iv cr1, iv bg1, iv y0] [] := by
    intro ln1 co1 pv1 cr1 bg1 hcr hbg hE
    subst hcr hbg
    have J149 : ∀ (kE : (own_pass t le sl sc 0 [y0] ln co pv) = (1, ln1, co1, pv1)), Go p l e ({ frames := 0, cells := 0, slots := 0, locals := 0 } : Room) s m #[(.ref a), (.ref b), (.int 0), (.int t), (.int le), (.int sl), (.int sc)] below meth c n0 (FinQ s n0 (Qcon_pass_1_0 Z n0 h0 a b t le sl sc ln co pv y0) ({ frames := 0, cells := 0, slots := 0, locals := 0 } : Room).cells ({ frames := 0, cells := 0, slots := 0, locals := 0 } : Room).slots) h0 0 0 149 #[rv a, rv b, iv 0, iv t, iv le, iv sl, iv sc, iv 1, iv ln1, iv co1, iv (own_cr pv1), iv (own_bg pv1), iv y0] [] := by
      intro kE
      refine C.aloadN d6_149 rfl rfl rfl ?_
      refine C.iload d6_150 rfl rfl ?_
      refine C.putF d6_152 rfl (tw hw 16 rfl) P1 P0 (Or.inl (tw hw 17 rfl)) (tw hw 8 rfl) (ty := .int) (by decide) rfl rfl g_a (fun h854 W855 F856 => ?_)
      have F857 := Exa.wr W855 P0
      have F858 := Fld.other W855 P2 (Or.inr (slot_ne (C := "com/example/dodder/dodder/PlacedText$Counter") (t := .int) (t' := .int) (Or.inl (tw hw 19 rfl)) (Or.inl (tw hw 17 rfl)) (by decide) (by decide) (by decide)))
      have F859 := Fld.other W855 P3 (Or.inr (slot_ne (C := "com/example/dodder/dodder/PlacedText$Counter") (t := .boolean) (t' := .int) (Or.inl (tw hw 34 rfl)) (Or.inl (tw hw 17 rfl)) (by decide) (by decide) (by decide)))
      have F860 := Fld.other W855 P4 (Or.inr (slot_ne (C := "com/example/dodder/dodder/PlacedText$Counter") (t := .boolean) (t' := .int) (Or.inl (tw hw 36 rfl)) (Or.inl (tw hw 17 rfl)) (by decide) (by decide) (by decide)))
      have F861 := P5.other W855 (Ne.symm ne_a_b)
      refine C.aloadN d6_155 rfl rfl rfl ?_
      refine C.iload d6_156 rfl rfl ?_
      refine C.putF d6_158 rfl (tw hw 18 rfl) F858 F857 (Or.inl (tw hw 19 rfl)) (tw hw 8 rfl) (ty := .int) (by decide) rfl rfl g_a (fun h862 W863 F864 => ?_)
      have F865 := Exa.wr W863 F857
      have F866 := Fld.other W863 F859 (Or.inr (slot_ne (C := "com/example/dodder/dodder/PlacedText$Counter") (t := .boolean) (t' := .int) (Or.inl (tw hw 34 rfl)) (Or.inl (tw hw 19 rfl)) (by decide) (by decide) (by decide)))
      have F867 := Fld.other W863 F860 (Or.inr (slot_ne (C := "com/example/dodder/dodder/PlacedText$Counter") (t := .boolean) (t' := .int) (Or.inl (tw hw 36 rfl)) (Or.inl (tw hw 19 rfl)) (by decide) (by decide) (by decide)))
      have F868 := F861.other W863 (Ne.symm ne_a_b)
      have F869 := Fld.other W863 F856 (Or.inr (slot_ne (C := "com/example/dodder/dodder/PlacedText$Counter") (t := .int) (t' := .int) (Or.inl (tw hw 17 rfl)) (Or.inl (tw hw 19 rfl)) (by decide) (by decide) (by decide)))
      refine C.aloadN d6_161 rfl rfl rfl ?_
      refine C.iload d6_162 rfl rfl ?_
      refine C.putF d6_164 rfl (tw hw 33 rfl) F866 F865 (Or.inl (tw hw 34 rfl)) (tw hw 8 rfl) (ty := .boolean) (by decide) (own_crN pv1) (own_crF pv1) g_a (fun h870 W871 F872 => ?_)
      have F873 := Exa.wr W871 F865
      have F874 := Fld.other W871 F867 (Or.inr (slot_ne (C := "com/example/dodder/dodder/PlacedText$Counter") (t := .boolean) (t' := .boolean) (Or.inl (tw hw 36 rfl)) (Or.inl (tw hw 34 rfl)) (by decide) (by decide) (by decide)))
      have F875 := F868.other W871 (Ne.symm ne_a_b)
      have F876 := Fld.other W871 F869 (Or.inr (slot_ne (C := "com/example/dodder/dodder/PlacedText$Counter") (t := .int) (t' := .boolean) (Or.inl (tw hw 17 rfl)) (Or.inl (tw hw 34 rfl)) (by decide) (by decide) (by decide)))
      have F877 := Fld.other W871 F864 (Or.inr (slot_ne (C := "com/example/dodder/dodder/PlacedText$Counter") (t := .int) (t' := .boolean) (Or.inl (tw hw 19 rfl)) (Or.inl (tw hw 34 rfl)) (by decide) (by decide) (by decide)))
      refine C.aloadN d6_167 rfl rfl rfl ?_
      refine C.iload d6_168 rfl rfl ?_
      refine C.putF d6_170 rfl (tw hw 35 rfl) F874 F873 (Or.inl (tw hw 36 rfl)) (tw hw 8 rfl) (ty := .boolean) (by decide) (own_bgN pv1) (own_bgF pv1) g_a (fun h878 W879 F880 => ?_)
      have F881 := Exa.wr W879 F873
      have F882 := F875.other W879 (Ne.symm ne_a_b)
      have F883 := Fld.other W879 F876 (Or.inr (slot_ne (C := "com/example/dodder/dodder/PlacedText$Counter") (t := .int) (t' := .boolean) (Or.inl (tw hw 17 rfl)) (Or.inl (tw hw 36 rfl)) (by decide) (by decide) (by decide)))
      have F884 := Fld.other W879 F877 (Or.inr (slot_ne (C := "com/example/dodder/dodder/PlacedText$Counter") (t := .int) (t' := .boolean) (Or.inl (tw hw 19 rfl)) (Or.inl (tw hw 36 rfl)) (by decide) (by decide) (by decide)))
      have F885 := Fld.other W879 F872 (Or.inr (slot_ne (C := "com/example/dodder/dodder/PlacedText$Counter") (t := .boolean) (t' := .boolean) (Or.inl (tw hw 34 rfl)) (Or.inl (tw hw 36 rfl)) (by decide) (by decide) (by decide)))
      refine C.iload d6_173 rfl rfl ?_
      exact C.retI d6_175 (by decide) (by decide) ⟨(by rw [kE]), (((((Keep.refl h0 [a]).wr W855 (Or.inl (List.mem_of_getElem? (i := 0) rfl))).wr W863 (Or.inl (List.mem_of_getElem? (i := 0) rfl))).wr W871 (Or.inl (List.mem_of_getElem? (i := 0) rfl))).wr W879 (Or.inl (List.mem_of_getElem? (i := 0) rfl))), (by rw [kE]; exact F883), (by rw [kE]; exact F884), (by rw [kE]; exact F885), (by rw [kE]; exact F880)⟩
    rcases own_pv pv1 with ⟨hp, e1, e2⟩ | ⟨hp, e1, e2⟩ | ⟨hp, e1, e2⟩
    · rw [e1, e2] at J149 ⊢
      refine C.iload d6_27 rfl rfl ?_
      refine C.iloadN d6_29 rfl rfl ?_
      refine C.icmp_ge_t d6_30 (by decide) rfl hto ?_
      exact J149 hE
    · rw [e1, e2] at J149 ⊢
      refine C.iload d6_27 rfl rfl ?_
      refine C.iloadN d6_29 rfl rfl ?_
      refine C.icmp_ge_t d6_30 (by decide) rfl hto ?_
      exact J149 hE
    rw [e1, e2] at J149 ⊢
    refine C.iload d6_27 rfl rfl ?_
    refine C.iloadN d6_29 rfl rfl ?_
    refine C.icmp_ge_t d6_30 (by decide) rfl hto ?_
    exact J149 hE
  have hE : (own_pass t le sl sc 0 [y0] ln co pv) = own_pass t le sl sc 0 [y0] ln co pv := rfl
  have J149 : ∀ (kE : (own_pass t le sl sc 0 [y0] ln co pv) = (0, ln, co, pv)), Go p l e ({ frames := 0, cells := 0, slots := 0, locals := 0 } : Room) s m #[(.ref a), (.ref b), (.int 0), (.int t), (.int le), (.int sl), (.int sc)] below meth c n0 (FinQ s n0 (Qcon_pass_1_0 Z n0 h0 a b t le sl sc ln co pv y0) ({ frames := 0, cells := 0, slots := 0, locals := 0 } : Room).cells ({ frames := 0, cells := 0, slots := 0, locals := 0 } : Room).slots) h0 0 0 149 #[rv a, rv b, iv 0, iv t, iv le, iv sl, iv sc, iv 0, iv ln, iv co, iv (own_cr pv), iv (own_bg pv), .unset] [] := by
    intro kE
    refine C.aloadN d6_149 rfl rfl rfl ?_
    refine C.iload d6_150 rfl rfl ?_
    refine C.putF d6_152 rfl (tw hw 16 rfl) P1 P0 (Or.inl (tw hw 17 rfl)) (tw hw 8 rfl) (ty := .int) (by decide) rfl rfl g_a (fun h886 W887 F888 => ?_)
    have F889 := Exa.wr W887 P0
    have F890 := Fld.other W887 P2 (Or.inr (slot_ne (C := "com/example/dodder/dodder/PlacedText$Counter") (t := .int) (t' := .int) (Or.inl (tw hw 19 rfl)) (Or.inl (tw hw 17 rfl)) (by decide) (by decide) (by decide)))
    have F891 := Fld.other W887 P3 (Or.inr (slot_ne (C := "com/example/dodder/dodder/PlacedText$Counter") (t := .boolean) (t' := .int) (Or.inl (tw hw 34 rfl)) (Or.inl (tw hw 17 rfl)) (by decide) (by decide) (by decide)))
    have F892 := Fld.other W887 P4 (Or.inr (slot_ne (C := "com/example/dodder/dodder/PlacedText$Counter") (t := .boolean) (t' := .int) (Or.inl (tw hw 36 rfl)) (Or.inl (tw hw 17 rfl)) (by decide) (by decide) (by decide)))
    have F893 := P5.other W887 (Ne.symm ne_a_b)
    refine C.aloadN d6_155 rfl rfl rfl ?_
    refine C.iload d6_156 rfl rfl ?_
    refine C.putF d6_158 rfl (tw hw 18 rfl) F890 F889 (Or.inl (tw hw 19 rfl)) (tw hw 8 rfl) (ty := .int) (by decide) rfl rfl g_a (fun h894 W895 F896 => ?_)
    have F897 := Exa.wr W895 F889
    have F898 := Fld.other W895 F891 (Or.inr (slot_ne (C := "com/example/dodder/dodder/PlacedText$Counter") (t := .boolean) (t' := .int) (Or.inl (tw hw 34 rfl)) (Or.inl (tw hw 19 rfl)) (by decide) (by decide) (by decide)))
    have F899 := Fld.other W895 F892 (Or.inr (slot_ne (C := "com/example/dodder/dodder/PlacedText$Counter") (t := .boolean) (t' := .int) (Or.inl (tw hw 36 rfl)) (Or.inl (tw hw 19 rfl)) (by decide) (by decide) (by decide)))
    have F900 := F893.other W895 (Ne.symm ne_a_b)
    have F901 := Fld.other W895 F888 (Or.inr (slot_ne (C := "com/example/dodder/dodder/PlacedText$Counter") (t := .int) (t' := .int) (Or.inl (tw hw 17 rfl)) (Or.inl (tw hw 19 rfl)) (by decide) (by decide) (by decide)))
    refine C.aloadN d6_161 rfl rfl rfl ?_
    refine C.iload d6_162 rfl rfl ?_
    refine C.putF d6_164 rfl (tw hw 33 rfl) F898 F897 (Or.inl (tw hw 34 rfl)) (tw hw 8 rfl) (ty := .boolean) (by decide) (own_crN pv) (own_crF pv) g_a (fun h902 W903 F904 => ?_)
    have F905 := Exa.wr W903 F897
    have F906 := Fld.other W903 F899 (Or.inr (slot_ne (C := "com/example/dodder/dodder/PlacedText$Counter") (t := .boolean) (t' := .boolean) (Or.inl (tw hw 36 rfl)) (Or.inl (tw hw 34 rfl)) (by decide) (by decide) (by decide)))
    have F907 := F900.other W903 (Ne.symm ne_a_b)
    have F908 := Fld.other W903 F901 (Or.inr (slot_ne (C := "com/example/dodder/dodder/PlacedText$Counter") (t := .int) (t' := .boolean) (Or.inl (tw hw 17 rfl)) (Or.inl (tw hw 34 rfl)) (by decide) (by decide) (by decide)))
    have F909 := Fld.other W903 F896 (Or.inr (slot_ne (C := "com/example/dodder/dodder/PlacedText$Counter") (t := .int) (t' := .boolean) (Or.inl (tw hw 19 rfl)) (Or.inl (tw hw 34 rfl)) (by decide) (by decide) (by decide)))
    refine C.aloadN d6_167 rfl rfl rfl ?_
    refine C.iload d6_168 rfl rfl ?_
    refine C.putF d6_170 rfl (tw hw 35 rfl) F906 F905 (Or.inl (tw hw 36 rfl)) (tw hw 8 rfl) (ty := .boolean) (by decide) (own_bgN pv) (own_bgF pv) g_a (fun h910 W911 F912 => ?_)
    have F913 := Exa.wr W911 F905
    have F914 := F907.other W911 (Ne.symm ne_a_b)
    have F915 := Fld.other W911 F908 (Or.inr (slot_ne (C := "com/example/dodder/dodder/PlacedText$Counter") (t := .int) (t' := .boolean) (Or.inl (tw hw 17 rfl)) (Or.inl (tw hw 36 rfl)) (by decide) (by decide) (by decide)))
    have F916 := Fld.other W911 F909 (Or.inr (slot_ne (C := "com/example/dodder/dodder/PlacedText$Counter") (t := .int) (t' := .boolean) (Or.inl (tw hw 19 rfl)) (Or.inl (tw hw 36 rfl)) (by decide) (by decide) (by decide)))
    have F917 := Fld.other W911 F904 (Or.inr (slot_ne (C := "com/example/dodder/dodder/PlacedText$Counter") (t := .boolean) (t' := .boolean) (Or.inl (tw hw 34 rfl)) (Or.inl (tw hw 36 rfl)) (by decide) (by decide) (by decide)))
    refine C.iload d6_173 rfl rfl ?_
    exact C.retI d6_175 (by decide) (by decide) ⟨(by rw [kE]), (((((Keep.refl h0 [a]).wr W887 (Or.inl (List.mem_of_getElem? (i := 0) rfl))).wr W895 (Or.inl (List.mem_of_getElem? (i := 0) rfl))).wr W903 (Or.inl (List.mem_of_getElem? (i := 0) rfl))).wr W911 (Or.inl (List.mem_of_getElem? (i := 0) rfl))), (by rw [kE]; exact F915), (by rw [kE]; exact F916), (by rw [kE]; exact F917), (by rw [kE]; exact F912)⟩
  rcases own_pv pv with ⟨hp, e1, e2⟩ | ⟨hp, e1, e2⟩ | ⟨hp, e1, e2⟩
  · rw [e1, e2] at J149 ⊢
    refine C.iload d6_27 rfl rfl ?_
    refine C.iloadN d6_29 rfl rfl ?_
    have J61_918 : ∀ (hc : 0 < t ∧ (0 < le ∨ ln < sl ∨ (ln = sl ∧ co < sc))), Go p l e ({ frames := 0, cells := 0, slots := 0, locals := 0 } : Room) s m #[(.ref a), (.ref b), (.int 0), (.int t), (.int le), (.int sl), (.int sc)] below meth c n0 (FinQ s n0 (Qcon_pass_1_0 Z n0 h0 a b t le sl sc ln co pv y0) ({ frames := 0, cells := 0, slots := 0, locals := 0 } : Room).cells ({ frames := 0, cells := 0, slots := 0, locals := 0 } : Room).slots) h0 0 0 61 #[rv a, rv b, iv 0, iv t, iv le, iv sl, iv sc, iv 0, iv ln, iv co, iv 1, iv 1, .unset] [] := by
      intro hc
      refine C.aloadN d6_61 rfl rfl rfl ?_
      refine C.iload d6_62 rfl rfl ?_
      refine C.caload (.int y0) d6_64 rfl P5 (by decide) rfl ?_
      refine C.istore (Ls' := #[rv a, rv b, iv 0, iv t, iv le, iv sl, iv sc, iv 0, iv ln, iv co, iv 1, iv 1, iv y0]) d6_65 rfl rfl ?_
      refine C.iload d6_67 rfl rfl ?_
      refine C.bipush 10 d6_69 rfl rfl ?_
      refine C.icmp_ne d6_71 (by decide) rfl rfl (fun q71 => ?_) (fun q71 => ?_)
      · refine C.iload d6_85 rfl rfl ?_
        refine C.bipush 10 d6_87 rfl rfl ?_
        refine C.icmp_eq_f d6_89 rfl q71 ?_
        refine C.iload d6_92 rfl rfl ?_
        refine C.bipush 13 d6_94 rfl rfl ?_
        refine C.icmp_ne d6_96 (by decide) rfl rfl (fun q96 => ?_) (fun q96 => ?_)
        · refine C.iload d6_122 rfl rfl ?_
          refine C.if_ne_t d6_124 (by decide) rfl (by decide) ?_
          refine C.iinc (Ls' := #[rv a, rv b, iv 0, iv t, iv le, iv sl, iv sc, iv 0, iv ln, iv (co + 1), iv 1, iv 1, iv y0]) 1 d6_134 rfl rfl rfl rfl ?_
          refine C.iconst 0 d6_137 rfl rfl ?_
          refine C.istore (Ls' := #[rv a, rv b, iv 0, iv t, iv le, iv sl, iv sc, iv 0, iv ln, iv (co + 1), iv 0, iv 1, iv y0]) d6_138 rfl rfl ?_
          refine C.iconst 1 d6_140 rfl rfl ?_
          refine C.istore (Ls' := #[rv a, rv b, iv 0, iv t, iv le, iv sl, iv sc, iv 0, iv ln, iv (co + 1), iv 0, iv 1, iv y0]) d6_141 rfl rfl ?_
          refine C.iinc (Ls' := #[rv a, rv b, iv 0, iv t, iv le, iv sl, iv sc, iv 1, iv ln, iv (co + 1), iv 0, iv 1, iv y0]) 1 d6_143 rfl rfl rfl rfl ?_
          refine C.goto d6_146 (by decide) rfl ?_
          have k1 : own_ln ln pv y0 = ln := by simp [own_ln, hp, hc, q71, q96]
          have k2 : own_cl co pv y0 = (co + 1) := by simp [own_cl, hp, hc, q71, q96]
          have k3 : 0 = own_cr y0 := by simp [own_cr, hp, hc, q71, q96]
          have k4 : 1 = own_bg y0 := by simp [own_bg, hy0]
          exact J27_1_853 ln (co + 1) y0 0 1 k3 k4 (hE.trans ((own_go hc).trans (by rw [k1, k2]; rfl)))
        refine C.iinc (Ls' := #[rv a, rv b, iv 0, iv t, iv le, iv sl, iv sc, iv 0, iv (ln + 1), iv co, iv 1, iv 1, iv y0]) 1 d6_99 rfl rfl rfl rfl ?_
        refine C.iconst 1 d6_102 rfl rfl ?_
        refine C.istore (Ls' := #[rv a, rv b, iv 0, iv t, iv le, iv sl, iv sc, iv 0, iv (ln + 1), iv 1, iv 1, iv 1, iv y0]) d6_103 rfl rfl ?_
        refine C.iload d6_105 rfl rfl ?_
        refine C.bipush 13 d6_107 rfl rfl ?_
        refine C.icmp_ne_f d6_109 rfl q96 ?_
        refine C.iconst 1 d6_112 rfl rfl ?_
        refine C.goto d6_113 (by decide) rfl ?_
        refine C.istore (Ls' := #[rv a, rv b, iv 0, iv t, iv le, iv sl, iv sc, iv 0, iv (ln + 1), iv 1, iv 1, iv 1, iv y0]) d6_117 rfl rfl ?_
        refine C.goto d6_119 (by decide) rfl ?_
        refine C.iconst 1 d6_140 rfl rfl ?_
        refine C.istore (Ls' := #[rv a, rv b, iv 0, iv t, iv le, iv sl, iv sc, iv 0, iv (ln + 1), iv 1, iv 1, iv 1, iv y0]) d6_141 rfl rfl ?_
        refine C.iinc (Ls' := #[rv a, rv b, iv 0, iv t, iv le, iv sl, iv sc, iv 1, iv (ln + 1), iv 1, iv 1, iv 1, iv y0]) 1 d6_143 rfl rfl rfl rfl ?_
        refine C.goto d6_146 (by decide) rfl ?_
        have k1 : own_ln ln pv y0 = (ln + 1) := by simp [own_ln, hp, hc, q71, q96]
        have k2 : own_cl co pv y0 = 1 := by simp [own_cl, hp, hc, q71, q96]
        have k3 : 1 = own_cr y0 := by simp [own_cr, hp, hc, q71, q96]
        have k4 : 1 = own_bg y0 := by simp [own_bg, hy0]
        exact J27_1_853 (ln + 1) 1 y0 1 1 k3 k4 (hE.trans ((own_go hc).trans (by rw [k1, k2]; rfl)))
      refine C.iload d6_74 rfl rfl ?_
      refine C.if_eq_f d6_76 rfl (by decide) ?_
      refine C.iconst 0 d6_79 rfl rfl ?_
      refine C.istore (Ls' := #[rv a, rv b, iv 0, iv t, iv le, iv sl, iv sc, iv 0, iv ln, iv co, iv 0, iv 1, iv y0]) d6_80 rfl rfl ?_
      refine C.goto d6_82 (by decide) rfl ?_
      refine C.iconst 1 d6_140 rfl rfl ?_
      refine C.istore (Ls' := #[rv a, rv b, iv 0, iv t, iv le, iv sl, iv sc, iv 0, iv ln, iv co, iv 0, iv 1, iv y0]) d6_141 rfl rfl ?_
      refine C.iinc (Ls' := #[rv a, rv b, iv 0, iv t, iv le, iv sl, iv sc, iv 1, iv ln, iv co, iv 0, iv 1, iv y0]) 1 d6_143 rfl rfl rfl rfl ?_
      refine C.goto d6_146 (by decide) rfl ?_
      have k1 : own_ln ln pv y0 = ln := by simp [own_ln, hp, hc, q71]
      have k2 : own_cl co pv y0 = co := by simp [own_cl, hp, hc, q71]
      have k3 : 0 = own_cr y0 := by simp [own_cr, hp, hc, q71]
      have k4 : 1 = own_bg y0 := by simp [own_bg, hy0]
      exact J27_1_853 ln co y0 0 1 k3 k4 (hE.trans ((own_go hc).trans (by rw [k1, k2]; rfl)))
    refine C.icmp_ge d6_30 (by decide) rfl rfl (fun q30 => ?_) (fun q30 => ?_)
    · exact J149 (hE.trans (own_no (fun h => q30 h.1)))
    refine C.iload d6_33 rfl rfl ?_
    refine C.iload d6_35 rfl rfl ?_
    refine C.icmp_lt d6_37 (by decide) rfl rfl (fun q37 => ?_) (fun q37 => ?_)
    · exact J61_918 ⟨q30, Or.inl q37⟩
    refine C.iload d6_40 rfl rfl ?_
    refine C.iload d6_42 rfl rfl ?_
    refine C.icmp_lt d6_44 (by decide) rfl rfl (fun q44 => ?_) (fun q44 => ?_)
    · exact J61_918 ⟨q30, Or.inr (Or.inl q44)⟩
    refine C.iload d6_47 rfl rfl ?_
    refine C.iload d6_49 rfl rfl ?_
    refine C.icmp_ne d6_51 (by decide) rfl rfl (fun q51 => ?_) (fun q51 => ?_)
    · exact J149 (hE.trans (own_no (fun h => h.2.elim q37 fun h => h.elim q44 fun h => q51 h.1)))
    refine C.iload d6_54 rfl rfl ?_
    refine C.iload d6_56 rfl rfl ?_
    refine C.icmp_ge d6_58 (by decide) rfl rfl (fun q58 => ?_) (fun q58 => ?_)
    · exact J149 (hE.trans (own_no (fun h => h.2.elim q37 fun h => h.elim q44 fun h => q58 h.2)))
    exact J61_918 ⟨q30, Or.inr (Or.inr ⟨q51, q58⟩)⟩
  · rw [e1, e2] at J149 ⊢
    refine C.iload d6_27 rfl rfl ?_
    refine C.iloadN d6_29 rfl rfl ?_
    have J61_919 : ∀ (hc : 0 < t ∧ (0 < le ∨ ln < sl ∨ (ln = sl ∧ co < sc))), Go p l e ({ frames := 0, cells := 0, slots := 0, locals := 0 } : Room) s m #[(.ref a), (.ref b), (.int 0), (.int t), (.int le), (.int sl), (.int sc)] below meth c n0 (FinQ s n0 (Qcon_pass_1_0 Z n0 h0 a b t le sl sc ln co pv y0) ({ frames := 0, cells := 0, slots := 0, locals := 0 } : Room).cells ({ frames := 0, cells := 0, slots := 0, locals := 0 } : Room).slots) h0 0 0 61 #[rv a, rv b, iv 0, iv t, iv le, iv sl, iv sc, iv 0, iv ln, iv co, iv 0, iv 0, .unset] [] := by
      intro hc
      refine C.aloadN d6_61 rfl rfl rfl ?_
      refine C.iload d6_62 rfl rfl ?_
      refine C.caload (.int y0) d6_64 rfl P5 (by decide) rfl ?_
      refine C.istore (Ls' := #[rv a, rv b, iv 0, iv t, iv le, iv sl, iv sc, iv 0, iv ln, iv co, iv 0, iv 0, iv y0]) d6_65 rfl rfl ?_
      refine C.iload d6_67 rfl rfl ?_
      refine C.bipush 10 d6_69 rfl rfl ?_
      refine C.icmp_ne d6_71 (by decide) rfl rfl (fun q71 => ?_) (fun q71 => ?_)
      · refine C.iload d6_85 rfl rfl ?_
        refine C.bipush 10 d6_87 rfl rfl ?_
        refine C.icmp_eq_f d6_89 rfl q71 ?_
        refine C.iload d6_92 rfl rfl ?_
        refine C.bipush 13 d6_94 rfl rfl ?_
        refine C.icmp_ne d6_96 (by decide) rfl rfl (fun q96 => ?_) (fun q96 => ?_)
        · refine C.iload d6_122 rfl rfl ?_
          refine C.if_ne_f d6_124 rfl (by decide) ?_
          refine C.iload d6_127 rfl rfl ?_
          refine C.ldcI d6_129 rfl (tw hw 47 rfl) ?_
          refine C.icmp_eq d6_131 (by decide) rfl rfl (fun q131 => ?_) (fun q131 => ?_)
          · refine C.iconst 1 d6_140 rfl rfl ?_
            refine C.istore (Ls' := #[rv a, rv b, iv 0, iv t, iv le, iv sl, iv sc, iv 0, iv ln, iv co, iv 0, iv 1, iv y0]) d6_141 rfl rfl ?_
            refine C.iinc (Ls' := #[rv a, rv b, iv 0, iv t, iv le, iv sl, iv sc, iv 1, iv ln, iv co, iv 0, iv 1, iv y0]) 1 d6_143 rfl rfl rfl rfl ?_
            refine C.goto d6_146 (by decide) rfl ?_
            have k1 : own_ln ln pv y0 = ln := by simp [own_ln, hp, hc, q71, q96, q131]
            have k2 : own_cl co pv y0 = co := by simp [own_cl, hp, hc, q71, q96, q131]
            have k3 : 0 = own_cr y0 := by simp [own_cr, hp, hc, q71, q96, q131]
            have k4 : 1 = own_bg y0 := by simp [own_bg, hy0]
            exact J27_1_853 ln co y0 0 1 k3 k4 (hE.trans ((own_go hc).trans (by rw [k1, k2]; rfl)))
          refine C.iinc (Ls' := #[rv a, rv b, iv 0, iv t, iv le, iv sl, iv sc, iv 0, iv ln, iv (co + 1), iv 0, iv 0, iv y0]) 1 d6_134 rfl rfl rfl rfl ?_
          refine C.iconst 0 d6_137 rfl rfl ?_
          refine C.istore (Ls' := #[rv a, rv b, iv 0, iv t, iv le, iv sl, iv sc, iv 0, iv ln, iv (co + 1), iv 0, iv 0, iv y0]) d6_138 rfl rfl ?_
          refine C.iconst 1 d6_140 rfl rfl ?_
          refine C.istore (Ls' := #[rv a, rv b, iv 0, iv t, iv le, iv sl, iv sc, iv 0, iv ln, iv (co + 1), iv 0, iv 1, iv y0]) d6_141 rfl rfl ?_
          refine C.iinc (Ls' := #[rv a, rv b, iv 0, iv t, iv le, iv sl, iv sc, iv 1, iv ln, iv (co + 1), iv 0, iv 1, iv y0]) 1 d6_143 rfl rfl rfl rfl ?_
          refine C.goto d6_146 (by decide) rfl ?_
          have k1 : own_ln ln pv y0 = ln := by simp [own_ln, hp, hc, q71, q96, q131]
          have k2 : own_cl co pv y0 = (co + 1) := by simp [own_cl, hp, hc, q71, q96, q131]
          have k3 : 0 = own_cr y0 := by simp [own_cr, hp, hc, q71, q96, q131]
          have k4 : 1 = own_bg y0 := by simp [own_bg, hy0]
          exact J27_1_853 ln (co + 1) y0 0 1 k3 k4 (hE.trans ((own_go hc).trans (by rw [k1, k2]; rfl)))
        refine C.iinc (Ls' := #[rv a, rv b, iv 0, iv t, iv le, iv sl, iv sc, iv 0, iv (ln + 1), iv co, iv 0, iv 0, iv y0]) 1 d6_99 rfl rfl rfl rfl ?_
        refine C.iconst 1 d6_102 rfl rfl ?_
        refine C.istore (Ls' := #[rv a, rv b, iv 0, iv t, iv le, iv sl, iv sc, iv 0, iv (ln + 1), iv 1, iv 0, iv 0, iv y0]) d6_103 rfl rfl ?_
        refine C.iload d6_105 rfl rfl ?_
        refine C.bipush 13 d6_107 rfl rfl ?_
        refine C.icmp_ne_f d6_109 rfl q96 ?_
        refine C.iconst 1 d6_112 rfl rfl ?_
        refine C.goto d6_113 (by decide) rfl ?_
        refine C.istore (Ls' := #[rv a, rv b, iv 0, iv t, iv le, iv sl, iv sc, iv 0, iv (ln + 1), iv 1, iv 1, iv 0, iv y0]) d6_117 rfl rfl ?_
        refine C.goto d6_119 (by decide) rfl ?_
        refine C.iconst 1 d6_140 rfl rfl ?_
        refine C.istore (Ls' := #[rv a, rv b, iv 0, iv t, iv le, iv sl, iv sc, iv 0, iv (ln + 1), iv 1, iv 1, iv 1, iv y0]) d6_141 rfl rfl ?_
        refine C.iinc (Ls' := #[rv a, rv b, iv 0, iv t, iv le, iv sl, iv sc, iv 1, iv (ln + 1), iv 1, iv 1, iv 1, iv y0]) 1 d6_143 rfl rfl rfl rfl ?_
        refine C.goto d6_146 (by decide) rfl ?_
        have k1 : own_ln ln pv y0 = (ln + 1) := by simp [own_ln, hp, hc, q71, q96]
        have k2 : own_cl co pv y0 = 1 := by simp [own_cl, hp, hc, q71, q96]
        have k3 : 1 = own_cr y0 := by simp [own_cr, hp, hc, q71, q96]
        have k4 : 1 = own_bg y0 := by simp [own_bg, hy0]
        exact J27_1_853 (ln + 1) 1 y0 1 1 k3 k4 (hE.trans ((own_go hc).trans (by rw [k1, k2]; rfl)))
      refine C.iload d6_74 rfl rfl ?_
      refine C.if_eq_t d6_76 (by decide) rfl (by decide) ?_
      refine C.iload d6_85 rfl rfl ?_
      refine C.bipush 10 d6_87 rfl rfl ?_
      refine C.icmp_eq_t d6_89 (by decide) rfl q71 ?_
      refine C.iinc (Ls' := #[rv a, rv b, iv 0, iv t, iv le, iv sl, iv sc, iv 0, iv (ln + 1), iv co, iv 0, iv 0, iv y0]) 1 d6_99 rfl rfl rfl rfl ?_
      refine C.iconst 1 d6_102 rfl rfl ?_
      refine C.istore (Ls' := #[rv a, rv b, iv 0, iv t, iv le, iv sl, iv sc, iv 0, iv (ln + 1), iv 1, iv 0, iv 0, iv y0]) d6_103 rfl rfl ?_
      refine C.iload d6_105 rfl rfl ?_
      refine C.bipush 13 d6_107 rfl rfl ?_
      refine C.icmp_ne_t d6_109 (by decide) rfl (by rw [q71]; decide) ?_
      refine C.iconst 0 d6_116 rfl rfl ?_
      refine C.istore (Ls' := #[rv a, rv b, iv 0, iv t, iv le, iv sl, iv sc, iv 0, iv (ln + 1), iv 1, iv 0, iv 0, iv y0]) d6_117 rfl rfl ?_
      refine C.goto d6_119 (by decide) rfl ?_
      refine C.iconst 1 d6_140 rfl rfl ?_
      refine C.istore (Ls' := #[rv a, rv b, iv 0, iv t, iv le, iv sl, iv sc, iv 0, iv (ln + 1), iv 1, iv 0, iv 1, iv y0]) d6_141 rfl rfl ?_
      refine C.iinc (Ls' := #[rv a, rv b, iv 0, iv t, iv le, iv sl, iv sc, iv 1, iv (ln + 1), iv 1, iv 0, iv 1, iv y0]) 1 d6_143 rfl rfl rfl rfl ?_
      refine C.goto d6_146 (by decide) rfl ?_
      have k1 : own_ln ln pv y0 = (ln + 1) := by simp [own_ln, hp, hc, q71]
      have k2 : own_cl co pv y0 = 1 := by simp [own_cl, hp, hc, q71]
      have k3 : 0 = own_cr y0 := by simp [own_cr, hp, hc, q71]
      have k4 : 1 = own_bg y0 := by simp [own_bg, hy0]
      exact J27_1_853 (ln + 1) 1 y0 0 1 k3 k4 (hE.trans ((own_go hc).trans (by rw [k1, k2]; rfl)))
    refine C.icmp_ge d6_30 (by decide) rfl rfl (fun q30 => ?_) (fun q30 => ?_)
    · exact J149 (hE.trans (own_no (fun h => q30 h.1)))
    refine C.iload d6_33 rfl rfl ?_
    refine C.iload d6_35 rfl rfl ?_
    refine C.icmp_lt d6_37 (by decide) rfl rfl (fun q37 => ?_) (fun q37 => ?_)
    · exact J61_919 ⟨q30, Or.inl q37⟩
    refine C.iload d6_40 rfl rfl ?_
    refine C.iload d6_42 rfl rfl ?_
    refine C.icmp_lt d6_44 (by decide) rfl rfl (fun q44 => ?_) (fun q44 => ?_)
    · exact J61_919 ⟨q30, Or.inr (Or.inl q44)⟩
    refine C.iload d6_47 rfl rfl ?_
    refine C.iload d6_49 rfl rfl ?_
    refine C.icmp_ne d6_51 (by decide) rfl rfl (fun q51 => ?_) (fun q51 => ?_)
    · exact J149 (hE.trans (own_no (fun h => h.2.elim q37 fun h => h.elim q44 fun h => q51 h.1)))
    refine C.iload d6_54 rfl rfl ?_
    refine C.iload d6_56 rfl rfl ?_
    refine C.icmp_ge d6_58 (by decide) rfl rfl (fun q58 => ?_) (fun q58 => ?_)
    · exact J149 (hE.trans (own_no (fun h => h.2.elim q37 fun h => h.elim q44 fun h => q58 h.2)))
    exact J61_919 ⟨q30, Or.inr (Or.inr ⟨q51, q58⟩)⟩
  rw [e1, e2] at J149 ⊢
  refine C.iload d6_27 rfl rfl ?_
  refine C.iloadN d6_29 rfl rfl ?_
  have J61_920 : ∀ (hc : 0 < t ∧ (0 < le ∨ ln < sl ∨ (ln = sl ∧ co < sc))), Go p l e ({ frames := 0, cells := 0, slots := 0, locals := 0 } : Room) s m #[(.ref a), (.ref b), (.int 0), (.int t), (.int le), (.int sl), (.int sc)] below meth c n0 (FinQ s n0 (Qcon_pass_1_0 Z n0 h0 a b t le sl sc ln co pv y0) ({ frames := 0, cells := 0, slots := 0, locals := 0 } : Room).cells ({ frames := 0, cells := 0, slots := 0, locals := 0 } : Room).slots) h0 0 0 61 #[rv a, rv b, iv 0, iv t, iv le, iv sl, iv sc, iv 0, iv ln, iv co, iv 0, iv 1, .unset] [] := by
    intro hc
    refine C.aloadN d6_61 rfl rfl rfl ?_
    refine C.iload d6_62 rfl rfl ?_
    refine C.caload (.int y0) d6_64 rfl P5 (by decide) rfl ?_
    refine C.istore (Ls' := #[rv a, rv b, iv 0, iv t, iv le, iv sl, iv sc, iv 0, iv ln, iv co, iv 0, iv 1, iv y0]) d6_65 rfl rfl ?_
    refine C.iload d6_67 rfl rfl ?_
    refine C.bipush 10 d6_69 rfl rfl ?_
    refine C.icmp_ne d6_71 (by decide) rfl rfl (fun q71 => ?_) (fun q71 => ?_)
    · refine C.iload d6_85 rfl rfl ?_
      refine C.bipush 10 d6_87 rfl rfl ?_
      refine C.icmp_eq_f d6_89 rfl q71 ?_
      refine C.iload d6_92 rfl rfl ?_
      refine C.bipush 13 d6_94 rfl rfl ?_
      refine C.icmp_ne d6_96 (by decide) rfl rfl (fun q96 => ?_) (fun q96 => ?_)
      · refine C.iload d6_122 rfl rfl ?_
        refine C.if_ne_t d6_124 (by decide) rfl (by decide) ?_
        refine C.iinc (Ls' := #[rv a, rv b, iv 0, iv t, iv le, iv sl, iv sc, iv 0, iv ln, iv (co + 1), iv 0, iv 1, iv y0]) 1 d6_134 rfl rfl rfl rfl ?_
        refine C.iconst 0 d6_137 rfl rfl ?_
        refine C.istore (Ls' := #[rv a, rv b, iv 0, iv t, iv le, iv sl, iv sc, iv 0, iv ln, iv (co + 1), iv 0, iv 1, iv y0]) d6_138 rfl rfl ?_
        refine C.iconst 1 d6_140 rfl rfl ?_
        refine C.istore (Ls' := #[rv a, rv b, iv 0, iv t, iv le, iv sl, iv sc, iv 0, iv ln, iv (co + 1), iv 0, iv 1, iv y0]) d6_141 rfl rfl ?_
        refine C.iinc (Ls' := #[rv a, rv b, iv 0, iv t, iv le, iv sl, iv sc, iv 1, iv ln, iv (co + 1), iv 0, iv 1, iv y0]) 1 d6_143 rfl rfl rfl rfl ?_
        refine C.goto d6_146 (by decide) rfl ?_
        have k1 : own_ln ln pv y0 = ln := by simp [own_ln, hp.1, hp.2, hc, q71, q96]
        have k2 : own_cl co pv y0 = (co + 1) := by simp [own_cl, hp.1, hp.2, hc, q71, q96]
        have k3 : 0 = own_cr y0 := by simp [own_cr, hp.1, hp.2, hc, q71, q96]
        have k4 : 1 = own_bg y0 := by simp [own_bg, hy0]
        exact J27_1_853 ln (co + 1) y0 0 1 k3 k4 (hE.trans ((own_go hc).trans (by rw [k1, k2]; rfl)))
      refine C.iinc (Ls' := #[rv a, rv b, iv 0, iv t, iv le, iv sl, iv sc, iv 0, iv (ln + 1), iv co, iv 0, iv 1, iv y0]) 1 d6_99 rfl rfl rfl rfl ?_
      refine C.iconst 1 d6_102 rfl rfl ?_
      refine C.istore (Ls' := #[rv a, rv b, iv 0, iv t, iv le, iv sl, iv sc, iv 0, iv (ln + 1), iv 1, iv 0, iv 1, iv y0]) d6_103 rfl rfl ?_
      refine C.iload d6_105 rfl rfl ?_
      refine C.bipush 13 d6_107 rfl rfl ?_
      refine C.icmp_ne_f d6_109 rfl q96 ?_
      refine C.iconst 1 d6_112 rfl rfl ?_
      refine C.goto d6_113 (by decide) rfl ?_
      refine C.istore (Ls' := #[rv a, rv b, iv 0, iv t, iv le, iv sl, iv sc, iv 0, iv (ln + 1), iv 1, iv 1, iv 1, iv y0]) d6_117 rfl rfl ?_
      refine C.goto d6_119 (by decide) rfl ?_
      refine C.iconst 1 d6_140 rfl rfl ?_
      refine C.istore (Ls' := #[rv a, rv b, iv 0, iv t, iv le, iv sl, iv sc, iv 0, iv (ln + 1), iv 1, iv 1, iv 1, iv y0]) d6_141 rfl rfl ?_
      refine C.iinc (Ls' := #[rv a, rv b, iv 0, iv t, iv le, iv sl, iv sc, iv 1, iv (ln + 1), iv 1, iv 1, iv 1, iv y0]) 1 d6_143 rfl rfl rfl rfl ?_
      refine C.goto d6_146 (by decide) rfl ?_
      have k1 : own_ln ln pv y0 = (ln + 1) := by simp [own_ln, hp.1, hp.2, hc, q71, q96]
      have k2 : own_cl co pv y0 = 1 := by simp [own_cl, hp.1, hp.2, hc, q71, q96]
      have k3 : 1 = own_cr y0 := by simp [own_cr, hp.1, hp.2, hc, q71, q96]
      have k4 : 1 = own_bg y0 := by simp [own_bg, hy0]
      exact J27_1_853 (ln + 1) 1 y0 1 1 k3 k4 (hE.trans ((own_go hc).trans (by rw [k1, k2]; rfl)))
    refine C.iload d6_74 rfl rfl ?_
    refine C.if_eq_t d6_76 (by decide) rfl (by decide) ?_
    refine C.iload d6_85 rfl rfl ?_
    refine C.bipush 10 d6_87 rfl rfl ?_
    refine C.icmp_eq_t d6_89 (by decide) rfl q71 ?_
    refine C.iinc (Ls' := #[rv a, rv b, iv 0, iv t, iv le, iv sl, iv sc, iv 0, iv (ln + 1), iv co, iv 0, iv 1, iv y0]) 1 d6_99 rfl rfl rfl rfl ?_
    refine C.iconst 1 d6_102 rfl rfl ?_
    refine C.istore (Ls' := #[rv a, rv b, iv 0, iv t, iv le, iv sl, iv sc, iv 0, iv (ln + 1), iv 1, iv 0, iv 1, iv y0]) d6_103 rfl rfl ?_
    refine C.iload d6_105 rfl rfl ?_
    refine C.bipush 13 d6_107 rfl rfl ?_
    refine C.icmp_ne_t d6_109 (by decide) rfl (by rw [q71]; decide) ?_
    refine C.iconst 0 d6_116 rfl rfl ?_
    refine C.istore (Ls' := #[rv a, rv b, iv 0, iv t, iv le, iv sl, iv sc, iv 0, iv (ln + 1), iv 1, iv 0, iv 1, iv y0]) d6_117 rfl rfl ?_
    refine C.goto d6_119 (by decide) rfl ?_
    refine C.iconst 1 d6_140 rfl rfl ?_
    refine C.istore (Ls' := #[rv a, rv b, iv 0, iv t, iv le, iv sl, iv sc, iv 0, iv (ln + 1), iv 1, iv 0, iv 1, iv y0]) d6_141 rfl rfl ?_
    refine C.iinc (Ls' := #[rv a, rv b, iv 0, iv t, iv le, iv sl, iv sc, iv 1, iv (ln + 1), iv 1, iv 0, iv 1, iv y0]) 1 d6_143 rfl rfl rfl rfl ?_
    refine C.goto d6_146 (by decide) rfl ?_
    have k1 : own_ln ln pv y0 = (ln + 1) := by simp [own_ln, hp.1, hp.2, hc, q71]
    have k2 : own_cl co pv y0 = 1 := by simp [own_cl, hp.1, hp.2, hc, q71]
    have k3 : 0 = own_cr y0 := by simp [own_cr, hp.1, hp.2, hc, q71]
    have k4 : 1 = own_bg y0 := by simp [own_bg, hy0]
    exact J27_1_853 (ln + 1) 1 y0 0 1 k3 k4 (hE.trans ((own_go hc).trans (by rw [k1, k2]; rfl)))
  refine C.icmp_ge d6_30 (by decide) rfl rfl (fun q30 => ?_) (fun q30 => ?_)
  · exact J149 (hE.trans (own_no (fun h => q30 h.1)))
  refine C.iload d6_33 rfl rfl ?_
  refine C.iload d6_35 rfl rfl ?_
  refine C.icmp_lt d6_37 (by decide) rfl rfl (fun q37 => ?_) (fun q37 => ?_)
  · exact J61_920 ⟨q30, Or.inl q37⟩
  refine C.iload d6_40 rfl rfl ?_
  refine C.iload d6_42 rfl rfl ?_
  refine C.icmp_lt d6_44 (by decide) rfl rfl (fun q44 => ?_) (fun q44 => ?_)
  · exact J61_920 ⟨q30, Or.inr (Or.inl q44)⟩
  refine C.iload d6_47 rfl rfl ?_
  refine C.iload d6_49 rfl rfl ?_
  refine C.icmp_ne d6_51 (by decide) rfl rfl (fun q51 => ?_) (fun q51 => ?_)
  · exact J149 (hE.trans (own_no (fun h => h.2.elim q37 fun h => h.elim q44 fun h => q51 h.1)))
  refine C.iload d6_54 rfl rfl ?_
  refine C.iload d6_56 rfl rfl ?_
  refine C.icmp_ge d6_58 (by decide) rfl rfl (fun q58 => ?_) (fun q58 => ?_)
  · exact J149 (hE.trans (own_no (fun h => h.2.elim q37 fun h => h.elim q44 fun h => q58 h.2)))
  exact J61_920 ⟨q30, Or.inr (Or.inr ⟨q51, q58⟩)⟩
theorem own_four (x : Int32) : x &&& (3 : Int32) = 0 ∨ x &&& (3 : Int32) = 1 ∨ x &&& (3 : Int32) = 2 ∨ x &&& (3 : Int32) = 3 := by
  have e : (x &&& 3).toInt = x.toInt % 2 ^ 2 := Jvm.Kit.i32_mask x 3 (k := 2) (by decide) (by decide)
  simp only [← Int32.toInt_inj, Int32.reduceToInt]; omega
theorem own_to (x : Int32) : ¬ (3 : Int32) < x &&& (3 : Int32) := by
  rcases own_four x with h | h | h | h <;> rw [h] <;> decide
theorem pf_4 : plainFor x = true := by first | exact plainFor_of_name (by first | (simp [plainName, overriddenIn]; done) | decide +kernel) | decide +kernel
theorem pd_0 : parseMethodDescriptor "(J)C" = some ⟨[.long], some .char⟩ := by decide +kernel
theorem d2_0 : decode prog_122_method_1_code 0 = .ok (.aload_n 0, 1) := by decide +kernel
theorem d2_1 : decode prog_122_method_1_code 1 = .ok (.invokespecial 1, 3) := by decide +kernel
theorem d2_4 : decode prog_122_method_1_code 4 = .ok (.aload_n 0, 1) := by decide +kernel
theorem d2_5 : decode prog_122_method_1_code 5 = .ok (.iconst 1, 1) := by decide +kernel
theorem d2_6 : decode prog_122_method_1_code 6 = .ok (.putfield 7, 3) := by decide +kernel
theorem d2_9 : decode prog_122_method_1_code 9 = .ok (.aload_n 0, 1) := by decide +kernel
theorem d2_10 : decode prog_122_method_1_code 10 = .ok (.iconst 1, 1) := by decide +kernel
theorem d2_11 : decode prog_122_method_1_code 11 = .ok (.putfield 13, 3) := by decide +kernel
theorem d2_14 : decode prog_122_method_1_code 14 = .ok (.return_, 1) := by decide +kernel
theorem pf_5 : plainFor (⟨"com/example/dodder/dodder/PlacedText$Counter", "<init>", "()V"⟩ : MethodName) = true := by first | exact plainFor_of_name (by first | (simp [plainName, overriddenIn]; done) | decide +kernel) | decide +kernel
def Qau1018_2 (Z : State) (n0 : Nat) (h0 : Heap) (o0 : Addr) (v : Option Value) (h' : Heap) : Prop := (v = none) ∧ (Keep h0 h' [o0]) ∧ (Fld Z h' o0 "com/example/dodder/dodder/PlacedText$Counter" "afterCarriageReturn" "Z" (.int 0)) ∧ (Fld Z h' o0 "com/example/dodder/dodder/PlacedText$Counter" "column" "I" (.int 1)) ∧ (Fld Z h' o0 "com/example/dodder/dodder/PlacedText$Counter" "line" "I" (.int 1)) ∧ (Fld Z h' o0 "com/example/dodder/dodder/PlacedText$Counter" "started" "Z" (.int 0))
theorem ef_au1018_2 (m : MethodId) (o0 : Addr) : entryFrame m #[(.ref o0)] 1 = mkF m 0 #[rv o0] [] := by first | (simp [entryFrame, mkF, argsToLocals, Value.category]; done) | rfl
set_option maxRecDepth 65536 in
set_option maxHeartbeats 40000000 in
theorem au1018_2 (l : Launch) (Z : State) (a0 : Array Value) (hw : ∀ d ∈ tables_1, d.before a0 Z = true) (n0 : Nat) (h0 : Heap) (hn0 : n0 ≤ h0.size) (o0 : Addr) (P0 : Exa Z h0 o0 "com/example/dodder/dodder/PlacedText$Counter") (P1 : Fld Z h0 o0 "com/example/dodder/dodder/PlacedText$Counter" "afterCarriageReturn" "Z" (.int 0)) (P2 : Fld Z h0 o0 "com/example/dodder/dodder/PlacedText$Counter" "column" "I" (.int 0)) (P3 : Fld Z h0 o0 "com/example/dodder/dodder/PlacedText$Counter" "line" "I" (.int 0)) (P4 : Fld Z h0 o0 "com/example/dodder/dodder/PlacedText$Counter" "started" "Z" (.int 0)) (g_o0 : n0 ≤ o0) :
    Con l Z n0 [] (⟨"com/example/dodder/dodder/PlacedText$Counter", "<init>", "()V"⟩ : MethodName) prog_122_method_1_code 1 none ({ frames := 1, cells := 0, slots := 0, locals := 12 } : Room) #[(.ref o0)] h0 (Qau1018_2 Z n0 h0 o0) := by
  refine Con.of pf_5 (fun m => ef_au1018_2 m o0) hn0 ?_
  intro p e s m below meth c C
  refine C.aloadN d2_0 rfl rfl rfl ?_
  refine C.initO 0 d2_1 rfl (tw hw 13 rfl) (tw hw 14 rfl) (tw hw 15 rfl) rfl (by decide) (Nat.le_of_eq rfl) (by decide) ?_
  refine C.aloadN d2_4 rfl rfl rfl ?_
  refine C.iconst 1 d2_5 rfl rfl ?_
  refine C.putF d2_6 rfl (tw hw 16 rfl) P3 P0 (Or.inl (tw hw 17 rfl)) (tw hw 8 rfl) (ty := .int) (by decide) rfl rfl g_o0 (fun h1047 W1048 F1049 => ?_)
  have F1050 := Exa.wr W1048 P0
  have F1051 := Fld.other W1048 P1 (Or.inr (slot_ne (C := "com/example/dodder/dodder/PlacedText$Counter") (t := .boolean) (t' := .int) (Or.inl (tw hw 34 rfl)) (Or.inl (tw hw 17 rfl)) (by decide) (by decide) (by decide)))
  have F1052 := Fld.other W1048 P2 (Or.inr (slot_ne (C := "com/example/dodder/dodder/PlacedText$Counter") (t := .int) (t' := .int) (Or.inl (tw hw 19 rfl)) (Or.inl (tw hw 17 rfl)) (by decide) (by decide) (by decide)))
  have F1053 := Fld.other W1048 P4 (Or.inr (slot_ne (C := "com/example/dodder/dodder/PlacedText$Counter") (t := .boolean) (t' := .int) (Or.inl (tw hw 36 rfl)) (Or.inl (tw hw 17 rfl)) (by decide) (by decide) (by decide)))
  refine C.aloadN d2_9 rfl rfl rfl ?_
  refine C.iconst 1 d2_10 rfl rfl ?_
  refine C.putF d2_11 rfl (tw hw 18 rfl) F1052 F1050 (Or.inl (tw hw 19 rfl)) (tw hw 8 rfl) (ty := .int) (by decide) rfl rfl g_o0 (fun h1054 W1055 F1056 => ?_)
  have F1057 := Exa.wr W1055 F1050
  have F1058 := Fld.other W1055 F1051 (Or.inr (slot_ne (C := "com/example/dodder/dodder/PlacedText$Counter") (t := .boolean) (t' := .int) (Or.inl (tw hw 34 rfl)) (Or.inl (tw hw 19 rfl)) (by decide) (by decide) (by decide)))
  have F1059 := Fld.other W1055 F1053 (Or.inr (slot_ne (C := "com/example/dodder/dodder/PlacedText$Counter") (t := .boolean) (t' := .int) (Or.inl (tw hw 36 rfl)) (Or.inl (tw hw 19 rfl)) (by decide) (by decide) (by decide)))
  have F1060 := Fld.other W1055 F1049 (Or.inr (slot_ne (C := "com/example/dodder/dodder/PlacedText$Counter") (t := .int) (t' := .int) (Or.inl (tw hw 17 rfl)) (Or.inl (tw hw 19 rfl)) (by decide) (by decide) (by decide)))
  exact C.ret0 d2_14 (by decide) (by decide) ⟨rfl, (((Keep.refl h0 [o0]).wr W1048 (Or.inl (List.mem_of_getElem? (i := 0) rfl))).wr W1055 (Or.inl (List.mem_of_getElem? (i := 0) rfl))), F1058, F1056, F1060, F1059⟩
theorem pd_1 : parseMethodDescriptor "()V" = some ⟨[], none⟩ := by decide +kernel
theorem pd_2 : parseMethodDescriptor "([IC)V" = some ⟨[(.array .int), .char], none⟩ := by decide +kernel
theorem pd_3 : parseMethodDescriptor "(IIIIIII)Z" = some ⟨[.int, .int, .int, .int, .int, .int, .int], some .boolean⟩ := by decide +kernel
theorem pd_4 : parseMethodDescriptor "([CIIIII)I" = some ⟨[(.array .char), .int, .int, .int, .int, .int], some .int⟩ := by decide +kernel
theorem d7_0 : decode prog_122_method_2_code 0 = .ok (.aload_n 0, 1) := by decide +kernel
theorem d7_1 : decode prog_122_method_2_code 1 = .ok (.getfield 7, 3) := by decide +kernel
theorem d7_4 : decode prog_122_method_2_code 4 = .ok (.ireturn, 1) := by decide +kernel
theorem pf_6 : plainFor (⟨"com/example/dodder/dodder/PlacedText$Counter", "line", "()I"⟩ : MethodName) = true := by first | exact plainFor_of_name (by first | (simp [plainName, overriddenIn]; done) | decide +kernel) | decide +kernel
def Qau1460_7 (Z : State) (n0 : Nat) (h0 : Heap) (o0 : Addr) (i0 : Int32) (i1 : Int32) (i2 : Int32) (i3 : Int32) (v : Option Value) (h' : Heap) : Prop := (v = some (.int i2)) ∧ (h0 = h')
theorem ef_au1460_7 (m : MethodId) (o0 : Addr) : entryFrame m #[(.ref o0)] 1 = mkF m 0 #[rv o0] [] := by first | (simp [entryFrame, mkF, argsToLocals, Value.category]; done) | rfl
set_option maxRecDepth 65536 in
set_option maxHeartbeats 40000000 in
theorem au1460_7 (l : Launch) (Z : State) (a0 : Array Value) (hw : ∀ d ∈ tables_1, d.before a0 Z = true) (n0 : Nat) (h0 : Heap) (hn0 : n0 ≤ h0.size) (o0 : Addr) (i0 : Int32) (i1 : Int32) (i2 : Int32) (i3 : Int32) (P0 : Exa Z h0 o0 "com/example/dodder/dodder/PlacedText$Counter") (P1 : Fld Z h0 o0 "com/example/dodder/dodder/PlacedText$Counter" "afterCarriageReturn" "Z" (.int i0)) (P2 : Fld Z h0 o0 "com/example/dodder/dodder/PlacedText$Counter" "column" "I" (.int i1)) (P3 : Fld Z h0 o0 "com/example/dodder/dodder/PlacedText$Counter" "line" "I" (.int i2)) (P4 : Fld Z h0 o0 "com/example/dodder/dodder/PlacedText$Counter" "started" "Z" (.int i3)) (g_o0 : n0 ≤ o0) :
    Con l Z n0 [] (⟨"com/example/dodder/dodder/PlacedText$Counter", "line", "()I"⟩ : MethodName) prog_122_method_2_code 1 (some .int) ({ frames := 0, cells := 0, slots := 0, locals := 0 } : Room) #[(.ref o0)] h0 (Qau1460_7 Z n0 h0 o0 i0 i1 i2 i3) := by
  refine Con.of pf_6 (fun m => ef_au1460_7 m o0) hn0 ?_
  intro p e s m below meth c C
  refine C.aloadN d7_0 rfl rfl rfl ?_
  refine C.getF d7_1 rfl (tw hw 16 rfl) P3 ?_
  exact C.retI d7_4 (by decide) (by decide) ⟨rfl, rfl⟩
theorem pd_5 : parseMethodDescriptor "()I" = some ⟨[], some .int⟩ := by decide +kernel
theorem d8_0 : decode prog_122_method_3_code 0 = .ok (.aload_n 0, 1) := by decide +kernel
theorem d8_1 : decode prog_122_method_3_code 1 = .ok (.getfield 13, 3) := by decide +kernel
theorem d8_4 : decode prog_122_method_3_code 4 = .ok (.ireturn, 1) := by decide +kernel
theorem pf_7 : plainFor (⟨"com/example/dodder/dodder/PlacedText$Counter", "column", "()I"⟩ : MethodName) = true := by first | exact plainFor_of_name (by first | (simp [plainName, overriddenIn]; done) | decide +kernel) | decide +kernel
def Qau1465_8 (Z : State) (n0 : Nat) (h0 : Heap) (o0 : Addr) (i0 : Int32) (i1 : Int32) (i2 : Int32) (i3 : Int32) (v : Option Value) (h' : Heap) : Prop := (v = some (.int i1)) ∧ (h0 = h')
theorem ef_au1465_8 (m : MethodId) (o0 : Addr) : entryFrame m #[(.ref o0)] 1 = mkF m 0 #[rv o0] [] := by first | (simp [entryFrame, mkF, argsToLocals, Value.category]; done) | rfl
set_option maxRecDepth 65536 in
set_option maxHeartbeats 40000000 in
theorem au1465_8 (l : Launch) (Z : State) (a0 : Array Value) (hw : ∀ d ∈ tables_1, d.before a0 Z = true) (n0 : Nat) (h0 : Heap) (hn0 : n0 ≤ h0.size) (o0 : Addr) (i0 : Int32) (i1 : Int32) (i2 : Int32) (i3 : Int32) (P0 : Exa Z h0 o0 "com/example/dodder/dodder/PlacedText$Counter") (P1 : Fld Z h0 o0 "com/example/dodder/dodder/PlacedText$Counter" "afterCarriageReturn" "Z" (.int i0)) (P2 : Fld Z h0 o0 "com/example/dodder/dodder/PlacedText$Counter" "column" "I" (.int i1)) (P3 : Fld Z h0 o0 "com/example/dodder/dodder/PlacedText$Counter" "line" "I" (.int i2)) (P4 : Fld Z h0 o0 "com/example/dodder/dodder/PlacedText$Counter" "started" "Z" (.int i3)) (g_o0 : n0 ≤ o0) :
    Con l Z n0 [] (⟨"com/example/dodder/dodder/PlacedText$Counter", "column", "()I"⟩ : MethodName) prog_122_method_3_code 1 (some .int) ({ frames := 0, cells := 0, slots := 0, locals := 0 } : Room) #[(.ref o0)] h0 (Qau1465_8 Z n0 h0 o0 i0 i1 i2 i3) := by
  refine Con.of pf_7 (fun m => ef_au1465_8 m o0) hn0 ?_
  intro p e s m below meth c C
  refine C.aloadN d8_0 rfl rfl rfl ?_
  refine C.getF d8_1 rfl (tw hw 18 rfl) P2 ?_
  exact C.retI d8_4 (by decide) (by decide) ⟨rfl, rfl⟩
def Qcon0 (Z : State) (n0 : Nat) (h0 : Heap) (x0 : Int64) (x1 : Int64) (x2 : Int32) (x3 : Int32) (x4 : Int32) (x5 : Int32) (v : Option Value) (h' : Heap) : Prop := v = some (.int 1) ∧ True
theorem ef_con0 (m : MethodId) (x0 : Int64) (x1 : Int64) (x2 : Int32) (x3 : Int32) (x4 : Int32) (x5 : Int32) : entryFrame m #[(.long x0), (.long x1), (.int x2), (.int x3), (.int x4), (.int x5)] maxLocals = mkF m 0 #[.val (.long x0), .second, .val (.long x1), .second, iv x2, iv x3, iv x4, iv x5, .unset, .unset, .unset, .unset, .unset, .unset, .unset, .unset, .unset, .unset, .unset, .unset, .unset, .unset, .unset, .unset] [] := by first | (simp [entryFrame, mkF, argsToLocals, Value.category, maxLocals]; done) | rfl
set_option maxRecDepth 65536 in
set_option maxHeartbeats 40000000 in
theorem con0 (l : Launch) (Z : State) (a0 : Array Value) (hw : ∀ d ∈ tables_1, d.before a0 Z = true) (n0 : Nat) (h0 : Heap) (hn0 : n0 ≤ h0.size) (x0 : Int64) (x1 : Int64) (x2 : Int32) (x3 : Int32) (x4 : Int32) (x5 : Int32) :
    Con l Z n0 tables_1 x code maxLocals ret room_1 #[(.long x0), (.long x1), (.int x2), (.int x3), (.int x4), (.int x5)] h0 (Qcon0 Z n0 h0 x0 x1 x2 x3 x4 x5) := by
  refine Con.of pf_4 (fun m => ef_con0 m x0 x1 x2 x3 x4 x5) hn0 ?_
  intro p e s m below meth c C
  refine C.iconst 3 at_0 rfl rfl ?_
  refine C.newarr 3 at_1 rfl rfl (tw hw 0 rfl) (by decide) (by decide) (by decide) (by decide) (by decide) (fun a921 h922 z925 g926 X923 F924 => ?_)
  have F927 : Av Z h922 a921 .char ([.int 0, .int 0, .int 0]) := F924
  refine C.dup at_3 rfl rfl ?_
  refine C.iconst 0 at_4 rfl rfl ?_
  refine C.lloadN at_5 rfl rfl ?_
  refine C.callS (argsL := [(.long x0)]) (rest := [(.int 0), (.ref a921), (.ref a921)]) 3 (fun zz => con_pick l Z a0 hw n0 h922 zz x0 ) at_6 rfl (tw hw 1 rfl) (tw hw 2 rfl) (tw hw 3 rfl) (tw hw 4 rfl) (by decide) pd_0 rfl rfl rfl (Nat.le_of_eq rfl) (by decide) (by decide) (by decide) (by decide) (fun v928 h929 r930 => ?_)
  obtain ⟨rfl, rfl⟩ := r930
  refine C.castore at_9 rfl F927 g926 (by decide) (Nat.le_of_ble_eq_true rfl) (fun h932 W933 F934 => ?_)
  have F935 : Av Z h932 a921 .char ([.int (nar .char (own_pick x0)), .int 0, .int 0]) := F934
  refine C.dup at_10 rfl rfl ?_
  refine C.iconst 1 at_11 rfl rfl ?_
  refine C.lloadN at_12 rfl rfl ?_
  refine C.bipush 18 at_13 rfl rfl ?_
  refine C.lushr at_15 rfl ?_
  refine C.callS (argsL := [(.long (XT.ushrL x0 18))]) (rest := [(.int 1), (.ref a921), (.ref a921)]) 3 (fun zz => con_pick l Z a0 hw n0 h932 zz (XT.ushrL x0 18) ) at_16 rfl (tw hw 1 rfl) (tw hw 2 rfl) (tw hw 3 rfl) (tw hw 4 rfl) (by decide) pd_0 rfl rfl rfl (Nat.le_of_eq rfl) (by decide) (by decide) (by decide) (by decide) (fun v936 h937 r938 => ?_)
  obtain ⟨rfl, rfl⟩ := r938
  refine C.castore at_19 rfl F935 g926 (by decide) (Nat.le_of_ble_eq_true rfl) (fun h940 W941 F942 => ?_)
  have F943 : Av Z h940 a921 .char ([.int (nar .char (own_pick x0)), .int (nar .char (own_pick (XT.ushrL x0 18))), .int 0]) := F942
  refine C.dup at_20 rfl rfl ?_
  refine C.iconst 2 at_21 rfl rfl ?_
  refine C.lloadN at_22 rfl rfl ?_
  refine C.bipush 36 at_23 rfl rfl ?_
  refine C.lushr at_25 rfl ?_
  refine C.callS (argsL := [(.long (XT.ushrL x0 36))]) (rest := [(.int 2), (.ref a921), (.ref a921)]) 3 (fun zz => con_pick l Z a0 hw n0 h940 zz (XT.ushrL x0 36) ) at_26 rfl (tw hw 1 rfl) (tw hw 2 rfl) (tw hw 3 rfl) (tw hw 4 rfl) (by decide) pd_0 rfl rfl rfl (Nat.le_of_eq rfl) (by decide) (by decide) (by decide) (by decide) (fun v944 h945 r946 => ?_)
  obtain ⟨rfl, rfl⟩ := r946
  refine C.castore at_29 rfl F943 g926 (by decide) (Nat.le_of_ble_eq_true rfl) (fun h948 W949 F950 => ?_)
  have F951 : Av Z h948 a921 .char ([.int (nar .char (own_pick x0)), .int (nar .char (own_pick (XT.ushrL x0 18))), .int (nar .char (own_pick (XT.ushrL x0 36)))]) := F950
  refine C.astore (Ls' := #[.val (.long x0), .second, .val (.long x1), .second, iv x2, iv x3, iv x4, iv x5, rv a921, .unset, .unset, .unset, .unset, .unset, .unset, .unset, .unset, .unset, .unset, .unset, .unset, .unset, .unset, .unset]) at_30 rfl rfl rfl ?_
  refine C.iconst 1 at_32 rfl rfl ?_
  refine C.newarr 1 at_33 rfl rfl (tw hw 0 rfl) (by decide) (by decide) (by decide) (by decide) (by decide) (fun a952 h953 z956 g957 X954 F955 => ?_)
  have ne958 : a921 ≠ a952 := by rw [z956]; exact Nat.ne_of_lt F951.lt
  have F959 := F951.ext X954
  have F960 : Av Z h953 a952 .char ([.int 0]) := F955
  refine C.dup at_35 rfl rfl ?_
  refine C.iconst 0 at_36 rfl rfl ?_
  refine C.lloadN at_37 rfl rfl ?_
  refine C.callS (argsL := [(.long x1)]) (rest := [(.int 0), (.ref a952), (.ref a952)]) 3 (fun zz => con_pick l Z a0 hw n0 h953 zz x1 ) at_38 rfl (tw hw 1 rfl) (tw hw 2 rfl) (tw hw 3 rfl) (tw hw 4 rfl) (by decide) pd_0 rfl rfl rfl (Nat.le_of_eq rfl) (by decide) (by decide) (by decide) (by decide) (fun v961 h962 r963 => ?_)
  obtain ⟨rfl, rfl⟩ := r963
  refine C.castore at_41 rfl F960 g957 (by decide) (Nat.le_of_ble_eq_true rfl) (fun h965 W966 F967 => ?_)
  have F968 := F959.other W966 ne958
  have F969 : Av Z h965 a952 .char ([.int (nar .char (own_pick x1))]) := F967
  refine C.astore (Ls' := #[.val (.long x0), .second, .val (.long x1), .second, iv x2, iv x3, iv x4, iv x5, rv a921, rv a952, .unset, .unset, .unset, .unset, .unset, .unset, .unset, .unset, .unset, .unset, .unset, .unset, .unset, .unset]) at_42 rfl rfl rfl ?_
  refine C.iconst 1 at_44 rfl rfl ?_
  refine C.newarr 1 at_45 rfl rfl (tw hw 0 rfl) (by decide) (by decide) (by decide) (by decide) (by decide) (fun a970 h971 z974 g975 X972 F973 => ?_)
  have ne976 : a921 ≠ a970 := by rw [z974]; exact Nat.ne_of_lt F968.lt
  have ne977 : a952 ≠ a970 := by rw [z974]; exact Nat.ne_of_lt F969.lt
  have F978 := F968.ext X972
  have F979 := F969.ext X972
  have F980 : Av Z h971 a970 .char ([.int 0]) := F973
  refine C.dup at_47 rfl rfl ?_
  refine C.iconst 0 at_48 rfl rfl ?_
  refine C.lloadN at_49 rfl rfl ?_
  refine C.bipush 18 at_50 rfl rfl ?_
  refine C.lushr at_52 rfl ?_
  refine C.callS (argsL := [(.long (XT.ushrL x1 18))]) (rest := [(.int 0), (.ref a970), (.ref a970)]) 3 (fun zz => con_pick l Z a0 hw n0 h971 zz (XT.ushrL x1 18) ) at_53 rfl (tw hw 1 rfl) (tw hw 2 rfl) (tw hw 3 rfl) (tw hw 4 rfl) (by decide) pd_0 rfl rfl rfl (Nat.le_of_eq rfl) (by decide) (by decide) (by decide) (by decide) (fun v981 h982 r983 => ?_)
  obtain ⟨rfl, rfl⟩ := r983
  refine C.castore at_56 rfl F980 g975 (by decide) (Nat.le_of_ble_eq_true rfl) (fun h985 W986 F987 => ?_)
  have F988 := F978.other W986 ne976
  have F989 := F979.other W986 ne977
  have F990 : Av Z h985 a970 .char ([.int (nar .char (own_pick (XT.ushrL x1 18)))]) := F987
  refine C.astore (Ls' := #[.val (.long x0), .second, .val (.long x1), .second, iv x2, iv x3, iv x4, iv x5, rv a921, rv a952, rv a970, .unset, .unset, .unset, .unset, .unset, .unset, .unset, .unset, .unset, .unset, .unset, .unset, .unset]) at_57 rfl rfl rfl ?_
  have F991 : Av Z h985 a921 .char ([.int (own_pick x0), .int (own_pick (XT.ushrL x0 18)), .int (own_pick (XT.ushrL x0 36))]) := by have q := F988; simp only [own_nar] at q; exact q
  have F992 : Av Z h985 a952 .char ([.int (own_pick x1)]) := by have q := F989; simp only [own_nar] at q; exact q
  have F993 : Av Z h985 a970 .char ([.int (own_pick (XT.ushrL x1 18))]) := by have q := F990; simp only [own_nar] at q; exact q
  have J59_994 : ∀ (hJ995 : Heap) (c0 : Int32) (c1 : Int32) (c2 : Int32) (cp : Int32) (cq : Int32) (nc0 : ¬ c0 = -1) (nc1 : ¬ c1 = -1) (nc2 : ¬ c2 = -1) (ncp : ¬ cp = -1) (ncq : ¬ cq = -1) (F997 : Av Z hJ995 a921 .char ([.int c0, .int c1, .int c2])) (F998 : Av Z hJ995 a952 .char ([.int cp])) (F999 : Av Z hJ995 a970 .char ([.int cq])), Go p l e room_1 s m #[(.long x0), (.long x1), (.int x2), (.int x3), (.int x4), (.int x5)] below meth c n0 (FinQ s n0 (Qcon0 Z n0 h0 x0 x1 x2 x3 x4 x5) room_1.cells room_1.slots) hJ995 3 5 59 #[.val (.long x0), .second, .val (.long x1), .second, iv x2, iv x3, iv x4, iv x5, rv a921, rv a952, rv a970, .unset, .unset, .unset, .unset, .unset, .unset, .unset, .unset, .unset, .unset, .unset, .unset, .unset] [] := by
    intro hJ995 c0 c1 c2 cp cq nc0 nc1 nc2 ncp ncq F997 F998 F999
    refine C.lloadN at_59 rfl rfl ?_
    refine C.bipush 36 at_60 rfl rfl ?_
    refine C.lushr at_62 rfl ?_
    refine C.lconst 1 at_63 rfl rfl ?_
    refine C.land at_64 rfl ?_
    refine C.lconst 0 at_65 rfl rfl ?_
    refine C.lcmp at_66 rfl ?_
    have J75_1000 : ∀ (b11 : Int32) , Go p l e room_1 s m #[(.long x0), (.long x1), (.int x2), (.int x3), (.int x4), (.int x5)] below meth c n0 (FinQ s n0 (Qcon0 Z n0 h0 x0 x1 x2 x3 x4 x5) room_1.cells room_1.slots) hJ995 3 5 75 #[.val (.long x0), .second, .val (.long x1), .second, iv x2, iv x3, iv x4, iv x5, rv a921, rv a952, rv a970, .unset, .unset, .unset, .unset, .unset, .unset, .unset, .unset, .unset, .unset, .unset, .unset, .unset] [(.int b11)] := by
      intro b11
      refine C.istore (Ls' := #[.val (.long x0), .second, .val (.long x1), .second, iv x2, iv x3, iv x4, iv x5, rv a921, rv a952, rv a970, iv b11, .unset, .unset, .unset, .unset, .unset, .unset, .unset, .unset, .unset, .unset, .unset, .unset]) at_75 rfl rfl ?_
      refine C.iload at_77 rfl rfl ?_
      refine C.iconst 3 at_79 rfl rfl ?_
      refine C.iand at_80 rfl ?_
      refine C.istore (Ls' := #[.val (.long x0), .second, .val (.long x1), .second, iv x2, iv x3, iv x4, iv x5, rv a921, rv a952, rv a970, iv b11, iv (x2 &&& 3), .unset, .unset, .unset, .unset, .unset, .unset, .unset, .unset, .unset, .unset, .unset]) at_81 rfl rfl ?_
      refine C.iload at_83 rfl rfl ?_
      refine C.iconst 2 at_85 rfl rfl ?_
      refine C.iushr at_86 rfl ?_
      refine C.iconst 3 at_87 rfl rfl ?_
      refine C.iand at_88 rfl ?_
      refine C.istore (Ls' := #[.val (.long x0), .second, .val (.long x1), .second, iv x2, iv x3, iv x4, iv x5, rv a921, rv a952, rv a970, iv b11, iv (x2 &&& 3), iv ((XT.ushr x2 2) &&& 3), .unset, .unset, .unset, .unset, .unset, .unset, .unset, .unset, .unset, .unset]) at_89 rfl rfl ?_
      refine C.new at_91 rfl (tw hw 7 rfl) (tw hw 8 rfl) (tw hw 9 rfl) (by decide) (by decide) (fun a1001 h1002 z1006 g1007 X1004 E1003 D1005 => ?_)
      have ne1008 : a921 ≠ a1001 := by rw [z1006]; exact Nat.ne_of_lt F997.lt
      have ne1009 : a952 ≠ a1001 := by rw [z1006]; exact Nat.ne_of_lt F998.lt
      have ne1010 : a970 ≠ a1001 := by rw [z1006]; exact Nat.ne_of_lt F999.lt
      have F1011 := F997.ext X1004
      have F1012 := F998.ext X1004
      have F1013 := F999.ext X1004
      have F1014 : Fld Z h1002 a1001 "com/example/dodder/dodder/PlacedText$Counter" "line" "I" (.int 0) := D1005 (Or.inl (tw hw 17 rfl)) (ty := .int) (by decide)
      have F1015 : Fld Z h1002 a1001 "com/example/dodder/dodder/PlacedText$Counter" "column" "I" (.int 0) := D1005 (Or.inl (tw hw 19 rfl)) (ty := .int) (by decide)
      have F1016 : Fld Z h1002 a1001 "com/example/dodder/dodder/PlacedText$Counter" "afterCarriageReturn" "Z" (.int 0) := D1005 (Or.inl (tw hw 34 rfl)) (ty := .boolean) (by decide)
      have F1017 : Fld Z h1002 a1001 "com/example/dodder/dodder/PlacedText$Counter" "started" "Z" (.int 0) := D1005 (Or.inl (tw hw 36 rfl)) (ty := .boolean) (by decide)
      refine C.dup at_94 rfl rfl ?_
      refine C.callN (argsL := []) (rest := [(.ref a1001)]) 1 (fun zz => au1018_2 l Z a0 hw n0 h1002 zz a1001 E1003 F1016 F1015 F1014 F1017 g1007) at_95 rfl rfl (tw hw 10 rfl) (tw hw 11 rfl) (tw hw 9 rfl) (tw hw 12 rfl) (by decide) pd_1 rfl rfl rfl (Nat.le_of_eq rfl) (by decide) (by decide) (by decide) (by decide) (fun v1061 h1062 r1063 => ?_)
      obtain ⟨rfl, K1064, F1065, F1066, F1067, F1068⟩ := r1063
      have F1069 := F1011.keep K1064 (ninS ne1008 nin0)
      have F1070 := F1012.keep K1064 (ninS ne1009 nin0)
      have F1071 := F1013.keep K1064 (ninS ne1010 nin0)
      have F1072 := E1003.keep K1064
      refine C.astore (Ls' := #[.val (.long x0), .second, .val (.long x1), .second, iv x2, iv x3, iv x4, iv x5, rv a921, rv a952, rv a970, iv b11, iv (x2 &&& 3), iv ((XT.ushr x2 2) &&& 3), rv a1001, .unset, .unset, .unset, .unset, .unset, .unset, .unset, .unset, .unset]) at_98 rfl rfl rfl ?_
      refine C.iconst 3 at_100 rfl rfl ?_
      refine C.newarr 3 at_101 rfl rfl (tw hw 20 rfl) (by decide) (by decide) (by decide) (by decide) (by decide) (fun a1077 h1078 z1081 g1082 X1079 F1080 => ?_)
      have ne1083 : a921 ≠ a1077 := by rw [z1081]; exact Nat.ne_of_lt F1069.lt
      have ne1084 : a952 ≠ a1077 := by rw [z1081]; exact Nat.ne_of_lt F1070.lt
      have ne1085 : a970 ≠ a1077 := by rw [z1081]; exact Nat.ne_of_lt F1071.lt
      have ne1086 : a1001 ≠ a1077 := by rw [z1081]; exact Nat.ne_of_lt F1072.lt
      have F1087 := F1069.ext X1079
      have F1088 := F1070.ext X1079
      have F1089 := F1071.ext X1079
      have F1090 := Exa.ext X1079 F1072
      have F1091 := Fld.ext X1079 F1065
      have F1092 := Fld.ext X1079 F1066
      have F1093 := Fld.ext X1079 F1067
      have F1094 := Fld.ext X1079 F1068
      have F1095 : Av Z h1078 a1077 .int ([.int 0, .int 0, .int 0]) := F1080
      refine C.dup at_103 rfl rfl ?_
      refine C.iconst 0 at_104 rfl rfl ?_
      refine C.iconst 1 at_105 rfl rfl ?_
      refine C.iastore at_106 rfl F1095 g1082 (by decide) (Nat.le_of_ble_eq_true rfl) (fun h1096 W1097 F1098 => ?_)
      have F1099 := F1087.other W1097 ne1083
      have F1100 := F1088.other W1097 ne1084
      have F1101 := F1089.other W1097 ne1085
      have F1102 := Exa.wr W1097 F1090
      have F1103 := Fld.other W1097 F1091 (Or.inl ne1086)
      have F1104 := Fld.other W1097 F1092 (Or.inl ne1086)
      have F1105 := Fld.other W1097 F1093 (Or.inl ne1086)
      have F1106 := Fld.other W1097 F1094 (Or.inl ne1086)
      have F1107 : Av Z h1096 a1077 .int ([.int 1, .int 0, .int 0]) := F1098
      refine C.dup at_107 rfl rfl ?_
      refine C.iconst 1 at_108 rfl rfl ?_
      refine C.iconst 1 at_109 rfl rfl ?_
      refine C.iastore at_110 rfl F1107 g1082 (by decide) (Nat.le_of_ble_eq_true rfl) (fun h1108 W1109 F1110 => ?_)
      have F1111 := F1099.other W1109 ne1083
      have F1112 := F1100.other W1109 ne1084
      have F1113 := F1101.other W1109 ne1085
      have F1114 := Exa.wr W1109 F1102
      have F1115 := Fld.other W1109 F1103 (Or.inl ne1086)
      have F1116 := Fld.other W1109 F1104 (Or.inl ne1086)
      have F1117 := Fld.other W1109 F1105 (Or.inl ne1086)
      have F1118 := Fld.other W1109 F1106 (Or.inl ne1086)
      have F1119 : Av Z h1108 a1077 .int ([.int 1, .int 1, .int 0]) := F1110
      refine C.dup at_111 rfl rfl ?_
      refine C.iconst 2 at_112 rfl rfl ?_
      refine C.iconst (-1) at_113 rfl rfl ?_
      refine C.iastore at_114 rfl F1119 g1082 (by decide) (Nat.le_of_ble_eq_true rfl) (fun h1120 W1121 F1122 => ?_)
      have F1123 := F1111.other W1121 ne1083
      have F1124 := F1112.other W1121 ne1084
      have F1125 := F1113.other W1121 ne1085
      have F1126 := Exa.wr W1121 F1114
      have F1127 := Fld.other W1121 F1115 (Or.inl ne1086)
      have F1128 := Fld.other W1121 F1116 (Or.inl ne1086)
      have F1129 := Fld.other W1121 F1117 (Or.inl ne1086)
      have F1130 := Fld.other W1121 F1118 (Or.inl ne1086)
      have F1131 : Av Z h1120 a1077 .int ([.int 1, .int 1, .int (-1)]) := F1122
      refine C.astore (Ls' := #[.val (.long x0), .second, .val (.long x1), .second, iv x2, iv x3, iv x4, iv x5, rv a921, rv a952, rv a970, iv b11, iv (x2 &&& 3), iv ((XT.ushr x2 2) &&& 3), rv a1001, rv a1077, .unset, .unset, .unset, .unset, .unset, .unset, .unset, .unset]) at_115 rfl rfl rfl ?_
      refine C.iconst 1 at_117 rfl rfl ?_
      refine C.istore (Ls' := #[.val (.long x0), .second, .val (.long x1), .second, iv x2, iv x3, iv x4, iv x5, rv a921, rv a952, rv a970, iv b11, iv (x2 &&& 3), iv ((XT.ushr x2 2) &&& 3), rv a1001, rv a1077, iv 1, .unset, .unset, .unset, .unset, .unset, .unset, .unset]) at_118 rfl rfl ?_
      have F1132 : Fld Z h1120 a1001 "com/example/dodder/dodder/PlacedText$Counter" "afterCarriageReturn" "Z" (.int (own_cr (-1))) := F1127
      have F1133 : Fld Z h1120 a1001 "com/example/dodder/dodder/PlacedText$Counter" "started" "Z" (.int (own_bg (-1))) := F1130
      have J157_1134 : ∀ (hJ1135 : Heap) (ln : Int32) (co : Int32) (pv : Int32) (F1137 : Exa Z hJ1135 a1001 "com/example/dodder/dodder/PlacedText$Counter") (F1138 : Fld Z hJ1135 a1001 "com/example/dodder/dodder/PlacedText$Counter" "line" "I" (.int ln)) (F1139 : Fld Z hJ1135 a1001 "com/example/dodder/dodder/PlacedText$Counter" "column" "I" (.int co)) (F1140 : Fld Z hJ1135 a1001 "com/example/dodder/dodder/PlacedText$Counter" "afterCarriageReturn" "Z" (.int (own_cr pv))) (F1141 : Fld Z hJ1135 a1001 "com/example/dodder/dodder/PlacedText$Counter" "started" "Z" (.int (own_bg pv))) (F1142 : Av Z hJ1135 a1077 .int ([.int ln, .int co, .int pv])) (F1143 : Av Z hJ1135 a921 .char ([.int c0, .int c1, .int c2])) (F1144 : Av Z hJ1135 a970 .char ([.int cq])), Go p l e room_1 s m #[(.long x0), (.long x1), (.int x2), (.int x3), (.int x4), (.int x5)] below meth c n0 (FinQ s n0 (Qcon0 Z n0 h0 x0 x1 x2 x3 x4 x5) room_1.cells room_1.slots) hJ1135 5 12 157 #[.val (.long x0), .second, .val (.long x1), .second, iv x2, iv x3, iv x4, iv x5, rv a921, rv a952, rv a970, iv b11, iv (x2 &&& 3), iv ((XT.ushr x2 2) &&& 3), rv a1001, rv a1077, iv 1, .unset, .unset, .unset, .unset, .unset, .unset, .unset] [] := by
        intro hJ1135 ln co pv F1137 F1138 F1139 F1140 F1141 F1142 F1143 F1144
        refine C.iconst 4 at_157 rfl rfl ?_
        refine C.newarr 4 at_158 rfl rfl (tw hw 20 rfl) (by decide) (by decide) (by decide) (by decide) (by decide) (fun a1145 h1146 z1149 g1150 X1147 F1148 => ?_)
        have ne1151 : a921 ≠ a1145 := by rw [z1149]; exact Nat.ne_of_lt F1143.lt
        have ne1152 : a970 ≠ a1145 := by rw [z1149]; exact Nat.ne_of_lt F1144.lt
        have ne1153 : a1001 ≠ a1145 := by rw [z1149]; exact Nat.ne_of_lt F1137.lt
        have ne1154 : a1077 ≠ a1145 := by rw [z1149]; exact Nat.ne_of_lt F1142.lt
        have F1155 := Exa.ext X1147 F1137
        have F1156 := Fld.ext X1147 F1138
        have F1157 := Fld.ext X1147 F1139
        have F1158 := Fld.ext X1147 F1140
        have F1159 := Fld.ext X1147 F1141
        have F1160 := F1142.ext X1147
        have F1161 := F1143.ext X1147
        have F1162 := F1144.ext X1147
        have F1163 : Av Z h1146 a1145 .int ([.int 0, .int 0, .int 0, .int 0]) := F1148
        refine C.astore (Ls' := #[.val (.long x0), .second, .val (.long x1), .second, iv x2, iv x3, iv x4, iv x5, rv a921, rv a952, rv a970, iv b11, iv (x2 &&& 3), iv ((XT.ushr x2 2) &&& 3), rv a1001, rv a1077, iv 1, rv a1145, .unset, .unset, .unset, .unset, .unset, .unset]) at_160 rfl rfl rfl ?_
        rcases own_four x2 with qc | qc | qc | qc
        · rw [qc]
          refine C.iconst 4 at_162 rfl rfl ?_
          refine C.newarr 4 at_163 rfl rfl (tw hw 20 rfl) (by decide) (by decide) (by decide) (by decide) (by decide) (fun a1164 h1165 z1168 g1169 X1166 F1167 => ?_)
          have ne1170 : a921 ≠ a1164 := by rw [z1168]; exact Nat.ne_of_lt F1161.lt
          have ne1171 : a970 ≠ a1164 := by rw [z1168]; exact Nat.ne_of_lt F1162.lt
          have ne1172 : a1001 ≠ a1164 := by rw [z1168]; exact Nat.ne_of_lt F1155.lt
          have ne1173 : a1077 ≠ a1164 := by rw [z1168]; exact Nat.ne_of_lt F1160.lt
          have ne1174 : a1145 ≠ a1164 := by rw [z1168]; exact Nat.ne_of_lt F1163.lt
          have F1175 := Exa.ext X1166 F1155
          have F1176 := Fld.ext X1166 F1156
          have F1177 := Fld.ext X1166 F1157
          have F1178 := Fld.ext X1166 F1158
          have F1179 := Fld.ext X1166 F1159
          have F1180 := F1160.ext X1166
          have F1181 := F1161.ext X1166
          have F1182 := F1162.ext X1166
          have F1183 := F1163.ext X1166
          have F1184 : Av Z h1165 a1164 .int ([.int 0, .int 0, .int 0, .int 0]) := F1167
          refine C.astore (Ls' := #[.val (.long x0), .second, .val (.long x1), .second, iv x2, iv x3, iv x4, iv x5, rv a921, rv a952, rv a970, iv b11, iv 0, iv ((XT.ushr x2 2) &&& 3), rv a1001, rv a1077, iv 1, rv a1145, rv a1164, .unset, .unset, .unset, .unset, .unset]) at_165 rfl rfl rfl ?_
          refine C.iconst 4 at_167 rfl rfl ?_
          refine C.newarr 4 at_168 rfl rfl (tw hw 20 rfl) (by decide) (by decide) (by decide) (by decide) (by decide) (fun a1185 h1186 z1189 g1190 X1187 F1188 => ?_)
          have ne1191 : a921 ≠ a1185 := by rw [z1189]; exact Nat.ne_of_lt F1181.lt
          have ne1192 : a970 ≠ a1185 := by rw [z1189]; exact Nat.ne_of_lt F1182.lt
          have ne1193 : a1001 ≠ a1185 := by rw [z1189]; exact Nat.ne_of_lt F1175.lt
          have ne1194 : a1077 ≠ a1185 := by rw [z1189]; exact Nat.ne_of_lt F1180.lt
          have ne1195 : a1145 ≠ a1185 := by rw [z1189]; exact Nat.ne_of_lt F1183.lt
          have ne1196 : a1164 ≠ a1185 := by rw [z1189]; exact Nat.ne_of_lt F1184.lt
          have F1197 := Exa.ext X1187 F1175
          have F1198 := Fld.ext X1187 F1176
          have F1199 := Fld.ext X1187 F1177
          have F1200 := Fld.ext X1187 F1178
          have F1201 := Fld.ext X1187 F1179
          have F1202 := F1180.ext X1187
          have F1203 := F1181.ext X1187
          have F1204 := F1182.ext X1187
          have F1205 := F1183.ext X1187
          have F1206 := F1184.ext X1187
          have F1207 : Av Z h1186 a1185 .int ([.int 0, .int 0, .int 0, .int 0]) := F1188
          refine C.astore (Ls' := #[.val (.long x0), .second, .val (.long x1), .second, iv x2, iv x3, iv x4, iv x5, rv a921, rv a952, rv a970, iv b11, iv 0, iv ((XT.ushr x2 2) &&& 3), rv a1001, rv a1077, iv 1, rv a1145, rv a1164, rv a1185, .unset, .unset, .unset, .unset]) at_170 rfl rfl rfl ?_
          refine C.aload at_172 rfl rfl rfl ?_
          refine C.iload at_174 rfl rfl ?_
          refine C.aload at_176 rfl rfl rfl ?_
          refine C.iconst 0 at_178 rfl rfl ?_
          refine C.iaload (.int ln) at_179 rfl F1202 (by decide) rfl ?_
          refine C.iastore at_180 rfl F1205 g1150 (by decide) (Nat.le_of_ble_eq_true rfl) (fun h1208 W1209 F1210 => ?_)
          have F1211 := Exa.wr W1209 F1197
          have F1212 := Fld.other W1209 F1198 (Or.inl ne1153)
          have F1213 := Fld.other W1209 F1199 (Or.inl ne1153)
          have F1214 := Fld.other W1209 F1200 (Or.inl ne1153)
          have F1215 := Fld.other W1209 F1201 (Or.inl ne1153)
          have F1216 := F1202.other W1209 ne1154
          have F1217 := F1203.other W1209 ne1151
          have F1218 := F1204.other W1209 ne1152
          have F1219 := F1206.other W1209 (Ne.symm ne1174)
          have F1220 := F1207.other W1209 (Ne.symm ne1195)
          have F1221 : Av Z h1208 a1145 .int ([.int ln, .int 0, .int 0, .int 0]) := F1210
          refine C.aload at_181 rfl rfl rfl ?_
          refine C.iload at_183 rfl rfl ?_
          refine C.aload at_185 rfl rfl rfl ?_
          refine C.iconst 1 at_187 rfl rfl ?_
          refine C.iaload (.int co) at_188 rfl F1216 (by decide) rfl ?_
          refine C.iastore at_189 rfl F1219 g1169 (by decide) (Nat.le_of_ble_eq_true rfl) (fun h1222 W1223 F1224 => ?_)
          have F1225 := Exa.wr W1223 F1211
          have F1226 := Fld.other W1223 F1212 (Or.inl ne1172)
          have F1227 := Fld.other W1223 F1213 (Or.inl ne1172)
          have F1228 := Fld.other W1223 F1214 (Or.inl ne1172)
          have F1229 := Fld.other W1223 F1215 (Or.inl ne1172)
          have F1230 := F1216.other W1223 ne1173
          have F1231 := F1217.other W1223 ne1170
          have F1232 := F1218.other W1223 ne1171
          have F1233 := F1220.other W1223 (Ne.symm ne1196)
          have F1234 := F1221.other W1223 ne1174
          have F1235 : Av Z h1222 a1164 .int ([.int co, .int 0, .int 0, .int 0]) := F1224
          refine C.aload at_190 rfl rfl rfl ?_
          refine C.iload at_192 rfl rfl ?_
          refine C.aload at_194 rfl rfl rfl ?_
          refine C.iconst 2 at_196 rfl rfl ?_
          refine C.iaload (.int pv) at_197 rfl F1230 (by decide) rfl ?_
          refine C.iastore at_198 rfl F1233 g1190 (by decide) (Nat.le_of_ble_eq_true rfl) (fun h1236 W1237 F1238 => ?_)
          have F1239 := Exa.wr W1237 F1225
          have F1240 := Fld.other W1237 F1226 (Or.inl ne1193)
          have F1241 := Fld.other W1237 F1227 (Or.inl ne1193)
          have F1242 := Fld.other W1237 F1228 (Or.inl ne1193)
          have F1243 := Fld.other W1237 F1229 (Or.inl ne1193)
          have F1244 := F1230.other W1237 ne1194
          have F1245 := F1231.other W1237 ne1191
          have F1246 := F1232.other W1237 ne1192
          have F1247 := F1234.other W1237 ne1195
          have F1248 := F1235.other W1237 ne1196
          have F1249 : Av Z h1236 a1185 .int ([.int pv, .int 0, .int 0, .int 0]) := F1238
          refine C.iload at_199 rfl rfl ?_
          refine C.if_gt_f at_201 rfl (by decide) ?_
          refine C.aload at_204 rfl rfl rfl ?_
          refine C.aload at_206 rfl rfl rfl ?_
          refine C.iconst 0 at_208 rfl rfl ?_
          refine C.caload (.int c0) at_209 rfl F1245 (by decide) rfl ?_
          refine C.callS (argsL := [(.ref a1077), (.int c0)]) (rest := []) 0 (fun zz => con_step l Z a0 hw n0 h1236 zz a1077 c0 ln co pv F1244 g1082) at_210 rfl (tw hw 21 rfl) (tw hw 22 rfl) (tw hw 3 rfl) (tw hw 23 rfl) (by decide) pd_2 rfl rfl rfl (Nat.le_of_eq rfl) (by decide) (by decide) (by decide) (by decide) (fun v1250 h1251 r1252 => ?_)
          obtain ⟨rfl, K1253, F1254⟩ := r1252
          have F1255 := F1239.keep K1253
          have F1256 := F1240.keep K1253 (ninS ne1086 nin0)
          have F1257 := F1241.keep K1253 (ninS ne1086 nin0)
          have F1258 := F1242.keep K1253 (ninS ne1086 nin0)
          have F1259 := F1243.keep K1253 (ninS ne1086 nin0)
          have F1261 := F1245.keep K1253 (ninS ne1083 nin0)
          have F1262 := F1246.keep K1253 (ninS ne1085 nin0)
          have F1263 := F1247.keep K1253 (ninS (Ne.symm ne1154) nin0)
          have F1264 := F1248.keep K1253 (ninS (Ne.symm ne1173) nin0)
          have F1265 := F1249.keep K1253 (ninS (Ne.symm ne1194) nin0)
          refine C.aload at_213 rfl rfl rfl ?_
          refine C.iconst 1 at_215 rfl rfl ?_
          refine C.aload at_216 rfl rfl rfl ?_
          refine C.iconst 0 at_218 rfl rfl ?_
          refine C.iaload (.int (own_ln ln pv c0)) at_219 rfl F1254 (by decide) rfl ?_
          refine C.iastore at_220 rfl F1263 g1150 (by decide) (Nat.le_of_ble_eq_true rfl) (fun h1266 W1267 F1268 => ?_)
          have F1269 := Exa.wr W1267 F1255
          have F1270 := Fld.other W1267 F1256 (Or.inl ne1153)
          have F1271 := Fld.other W1267 F1257 (Or.inl ne1153)
          have F1272 := Fld.other W1267 F1258 (Or.inl ne1153)
          have F1273 := Fld.other W1267 F1259 (Or.inl ne1153)
          have F1274 := F1261.other W1267 ne1151
          have F1275 := F1262.other W1267 ne1152
          have F1276 := F1264.other W1267 (Ne.symm ne1174)
          have F1277 := F1265.other W1267 (Ne.symm ne1195)
          have F1278 := F1254.other W1267 ne1154
          have F1279 : Av Z h1266 a1145 .int ([.int ln, .int (own_ln ln pv c0), .int 0, .int 0]) := F1268
          refine C.aload at_221 rfl rfl rfl ?_
          refine C.iconst 1 at_223 rfl rfl ?_
          refine C.aload at_224 rfl rfl rfl ?_
          refine C.iconst 1 at_226 rfl rfl ?_
          refine C.iaload (.int (own_cl co pv c0)) at_227 rfl F1278 (by decide) rfl ?_
          refine C.iastore at_228 rfl F1276 g1169 (by decide) (Nat.le_of_ble_eq_true rfl) (fun h1280 W1281 F1282 => ?_)
          have F1283 := Exa.wr W1281 F1269
          have F1284 := Fld.other W1281 F1270 (Or.inl ne1172)
          have F1285 := Fld.other W1281 F1271 (Or.inl ne1172)
          have F1286 := Fld.other W1281 F1272 (Or.inl ne1172)
          have F1287 := Fld.other W1281 F1273 (Or.inl ne1172)
          have F1288 := F1274.other W1281 ne1170
          have F1289 := F1275.other W1281 ne1171
          have F1290 := F1277.other W1281 (Ne.symm ne1196)
          have F1291 := F1278.other W1281 ne1173
          have F1292 := F1279.other W1281 ne1174
          have F1293 : Av Z h1280 a1164 .int ([.int co, .int (own_cl co pv c0), .int 0, .int 0]) := F1282
          refine C.aload at_229 rfl rfl rfl ?_
          refine C.iconst 1 at_231 rfl rfl ?_
          refine C.aload at_232 rfl rfl rfl ?_
          refine C.iconst 2 at_234 rfl rfl ?_
          refine C.iaload (.int c0) at_235 rfl F1291 (by decide) rfl ?_
          refine C.iastore at_236 rfl F1290 g1190 (by decide) (Nat.le_of_ble_eq_true rfl) (fun h1294 W1295 F1296 => ?_)
          have F1297 := Exa.wr W1295 F1283
          have F1298 := Fld.other W1295 F1284 (Or.inl ne1193)
          have F1299 := Fld.other W1295 F1285 (Or.inl ne1193)
          have F1300 := Fld.other W1295 F1286 (Or.inl ne1193)
          have F1301 := Fld.other W1295 F1287 (Or.inl ne1193)
          have F1302 := F1288.other W1295 ne1191
          have F1303 := F1289.other W1295 ne1192
          have F1304 := F1291.other W1295 ne1194
          have F1305 := F1292.other W1295 ne1195
          have F1306 := F1293.other W1295 ne1196
          have F1307 : Av Z h1294 a1185 .int ([.int pv, .int c0, .int 0, .int 0]) := F1296
          refine C.iload at_237 rfl rfl ?_
          refine C.iconst 1 at_239 rfl rfl ?_
          refine C.icmp_gt_f at_240 rfl (by decide) ?_
          refine C.aload at_243 rfl rfl rfl ?_
          refine C.aload at_245 rfl rfl rfl ?_
          refine C.iconst 1 at_247 rfl rfl ?_
          refine C.caload (.int c1) at_248 rfl F1302 (by decide) rfl ?_
          refine C.callS (argsL := [(.ref a1077), (.int c1)]) (rest := []) 0 (fun zz => con_step l Z a0 hw n0 h1294 zz a1077 c1 (own_ln ln pv c0) (own_cl co pv c0) c0 F1304 g1082) at_249 rfl (tw hw 21 rfl) (tw hw 22 rfl) (tw hw 3 rfl) (tw hw 23 rfl) (by decide) pd_2 rfl rfl rfl (Nat.le_of_eq rfl) (by decide) (by decide) (by decide) (by decide) (fun v1308 h1309 r1310 => ?_)
          obtain ⟨rfl, K1311, F1312⟩ := r1310
          have F1313 := F1297.keep K1311
          have F1314 := F1298.keep K1311 (ninS ne1086 nin0)
          have F1315 := F1299.keep K1311 (ninS ne1086 nin0)
          have F1316 := F1300.keep K1311 (ninS ne1086 nin0)
          have F1317 := F1301.keep K1311 (ninS ne1086 nin0)
          have F1318 := F1302.keep K1311 (ninS ne1083 nin0)
          have F1319 := F1303.keep K1311 (ninS ne1085 nin0)
          have F1321 := F1305.keep K1311 (ninS (Ne.symm ne1154) nin0)
          have F1322 := F1306.keep K1311 (ninS (Ne.symm ne1173) nin0)
          have F1323 := F1307.keep K1311 (ninS (Ne.symm ne1194) nin0)
          refine C.aload at_252 rfl rfl rfl ?_
          refine C.iconst 2 at_254 rfl rfl ?_
          refine C.aload at_255 rfl rfl rfl ?_
          refine C.iconst 0 at_257 rfl rfl ?_
          refine C.iaload (.int (own_ln (own_ln ln pv c0) c0 c1)) at_258 rfl F1312 (by decide) rfl ?_
          refine C.iastore at_259 rfl F1321 g1150 (by decide) (Nat.le_of_ble_eq_true rfl) (fun h1324 W1325 F1326 => ?_)
          have F1327 := Exa.wr W1325 F1313
          have F1328 := Fld.other W1325 F1314 (Or.inl ne1153)
          have F1329 := Fld.other W1325 F1315 (Or.inl ne1153)
          have F1330 := Fld.other W1325 F1316 (Or.inl ne1153)
          have F1331 := Fld.other W1325 F1317 (Or.inl ne1153)
          have F1332 := F1318.other W1325 ne1151
          have F1333 := F1319.other W1325 ne1152
          have F1334 := F1322.other W1325 (Ne.symm ne1174)
          have F1335 := F1323.other W1325 (Ne.symm ne1195)
          have F1336 := F1312.other W1325 ne1154
          have F1337 : Av Z h1324 a1145 .int ([.int ln, .int (own_ln ln pv c0), .int (own_ln (own_ln ln pv c0) c0 c1), .int 0]) := F1326
          refine C.aload at_260 rfl rfl rfl ?_
          refine C.iconst 2 at_262 rfl rfl ?_
          refine C.aload at_263 rfl rfl rfl ?_
          refine C.iconst 1 at_265 rfl rfl ?_
          refine C.iaload (.int (own_cl (own_cl co pv c0) c0 c1)) at_266 rfl F1336 (by decide) rfl ?_
          refine C.iastore at_267 rfl F1334 g1169 (by decide) (Nat.le_of_ble_eq_true rfl) (fun h1338 W1339 F1340 => ?_)
          have F1341 := Exa.wr W1339 F1327
          have F1342 := Fld.other W1339 F1328 (Or.inl ne1172)
          have F1343 := Fld.other W1339 F1329 (Or.inl ne1172)
          have F1344 := Fld.other W1339 F1330 (Or.inl ne1172)
          have F1345 := Fld.other W1339 F1331 (Or.inl ne1172)
          have F1346 := F1332.other W1339 ne1170
          have F1347 := F1333.other W1339 ne1171
          have F1348 := F1335.other W1339 (Ne.symm ne1196)
          have F1349 := F1336.other W1339 ne1173
          have F1350 := F1337.other W1339 ne1174
          have F1351 : Av Z h1338 a1164 .int ([.int co, .int (own_cl co pv c0), .int (own_cl (own_cl co pv c0) c0 c1), .int 0]) := F1340
          refine C.aload at_268 rfl rfl rfl ?_
          refine C.iconst 2 at_270 rfl rfl ?_
          refine C.aload at_271 rfl rfl rfl ?_
          refine C.iconst 2 at_273 rfl rfl ?_
          refine C.iaload (.int c1) at_274 rfl F1349 (by decide) rfl ?_
          refine C.iastore at_275 rfl F1348 g1190 (by decide) (Nat.le_of_ble_eq_true rfl) (fun h1352 W1353 F1354 => ?_)
          have F1355 := Exa.wr W1353 F1341
          have F1356 := Fld.other W1353 F1342 (Or.inl ne1193)
          have F1357 := Fld.other W1353 F1343 (Or.inl ne1193)
          have F1358 := Fld.other W1353 F1344 (Or.inl ne1193)
          have F1359 := Fld.other W1353 F1345 (Or.inl ne1193)
          have F1360 := F1346.other W1353 ne1191
          have F1361 := F1347.other W1353 ne1192
          have F1362 := F1349.other W1353 ne1194
          have F1363 := F1350.other W1353 ne1195
          have F1364 := F1351.other W1353 ne1196
          have F1365 : Av Z h1352 a1185 .int ([.int pv, .int c0, .int c1, .int 0]) := F1354
          refine C.iload at_276 rfl rfl ?_
          refine C.iconst 2 at_278 rfl rfl ?_
          refine C.icmp_gt_f at_279 rfl (by decide) ?_
          refine C.aload at_282 rfl rfl rfl ?_
          refine C.aload at_284 rfl rfl rfl ?_
          refine C.iconst 2 at_286 rfl rfl ?_
          refine C.caload (.int c2) at_287 rfl F1360 (by decide) rfl ?_
          refine C.callS (argsL := [(.ref a1077), (.int c2)]) (rest := []) 0 (fun zz => con_step l Z a0 hw n0 h1352 zz a1077 c2 (own_ln (own_ln ln pv c0) c0 c1) (own_cl (own_cl co pv c0) c0 c1) c1 F1362 g1082) at_288 rfl (tw hw 21 rfl) (tw hw 22 rfl) (tw hw 3 rfl) (tw hw 23 rfl) (by decide) pd_2 rfl rfl rfl (Nat.le_of_eq rfl) (by decide) (by decide) (by decide) (by decide) (fun v1366 h1367 r1368 => ?_)
          obtain ⟨rfl, K1369, F1370⟩ := r1368
          have F1371 := F1355.keep K1369
          have F1372 := F1356.keep K1369 (ninS ne1086 nin0)
          have F1373 := F1357.keep K1369 (ninS ne1086 nin0)
          have F1374 := F1358.keep K1369 (ninS ne1086 nin0)
          have F1375 := F1359.keep K1369 (ninS ne1086 nin0)
          have F1376 := F1360.keep K1369 (ninS ne1083 nin0)
          have F1377 := F1361.keep K1369 (ninS ne1085 nin0)
          have F1379 := F1363.keep K1369 (ninS (Ne.symm ne1154) nin0)
          have F1380 := F1364.keep K1369 (ninS (Ne.symm ne1173) nin0)
          have F1381 := F1365.keep K1369 (ninS (Ne.symm ne1194) nin0)
          refine C.aload at_291 rfl rfl rfl ?_
          refine C.iconst 3 at_293 rfl rfl ?_
          refine C.aload at_294 rfl rfl rfl ?_
          refine C.iconst 0 at_296 rfl rfl ?_
          refine C.iaload (.int (own_ln (own_ln (own_ln ln pv c0) c0 c1) c1 c2)) at_297 rfl F1370 (by decide) rfl ?_
          refine C.iastore at_298 rfl F1379 g1150 (by decide) (Nat.le_of_ble_eq_true rfl) (fun h1382 W1383 F1384 => ?_)
          have F1385 := Exa.wr W1383 F1371
          have F1386 := Fld.other W1383 F1372 (Or.inl ne1153)
          have F1387 := Fld.other W1383 F1373 (Or.inl ne1153)
          have F1388 := Fld.other W1383 F1374 (Or.inl ne1153)
          have F1389 := Fld.other W1383 F1375 (Or.inl ne1153)
          have F1390 := F1376.other W1383 ne1151
          have F1391 := F1377.other W1383 ne1152
          have F1392 := F1380.other W1383 (Ne.symm ne1174)
          have F1393 := F1381.other W1383 (Ne.symm ne1195)
          have F1394 := F1370.other W1383 ne1154
          have F1395 : Av Z h1382 a1145 .int ([.int ln, .int (own_ln ln pv c0), .int (own_ln (own_ln ln pv c0) c0 c1), .int (own_ln (own_ln (own_ln ln pv c0) c0 c1) c1 c2)]) := F1384
          refine C.aload at_299 rfl rfl rfl ?_
          refine C.iconst 3 at_301 rfl rfl ?_
          refine C.aload at_302 rfl rfl rfl ?_
          refine C.iconst 1 at_304 rfl rfl ?_
          refine C.iaload (.int (own_cl (own_cl (own_cl co pv c0) c0 c1) c1 c2)) at_305 rfl F1394 (by decide) rfl ?_
          refine C.iastore at_306 rfl F1392 g1169 (by decide) (Nat.le_of_ble_eq_true rfl) (fun h1396 W1397 F1398 => ?_)
          have F1399 := Exa.wr W1397 F1385
          have F1400 := Fld.other W1397 F1386 (Or.inl ne1172)
          have F1401 := Fld.other W1397 F1387 (Or.inl ne1172)
          have F1402 := Fld.other W1397 F1388 (Or.inl ne1172)
          have F1403 := Fld.other W1397 F1389 (Or.inl ne1172)
          have F1404 := F1390.other W1397 ne1170
          have F1405 := F1391.other W1397 ne1171
          have F1406 := F1393.other W1397 (Ne.symm ne1196)
          have F1407 := F1394.other W1397 ne1173
          have F1408 := F1395.other W1397 ne1174
          have F1409 : Av Z h1396 a1164 .int ([.int co, .int (own_cl co pv c0), .int (own_cl (own_cl co pv c0) c0 c1), .int (own_cl (own_cl (own_cl co pv c0) c0 c1) c1 c2)]) := F1398
          refine C.aload at_307 rfl rfl rfl ?_
          refine C.iconst 3 at_309 rfl rfl ?_
          refine C.aload at_310 rfl rfl rfl ?_
          refine C.iconst 2 at_312 rfl rfl ?_
          refine C.iaload (.int c2) at_313 rfl F1407 (by decide) rfl ?_
          refine C.iastore at_314 rfl F1406 g1190 (by decide) (Nat.le_of_ble_eq_true rfl) (fun h1410 W1411 F1412 => ?_)
          have F1413 := Exa.wr W1411 F1399
          have F1414 := Fld.other W1411 F1400 (Or.inl ne1193)
          have F1415 := Fld.other W1411 F1401 (Or.inl ne1193)
          have F1416 := Fld.other W1411 F1402 (Or.inl ne1193)
          have F1417 := Fld.other W1411 F1403 (Or.inl ne1193)
          have F1418 := F1404.other W1411 ne1191
          have F1419 := F1405.other W1411 ne1192
          have F1420 := F1407.other W1411 ne1194
          have F1421 := F1408.other W1411 ne1195
          have F1422 := F1409.other W1411 ne1196
          have F1423 : Av Z h1410 a1185 .int ([.int pv, .int c0, .int c1, .int c2]) := F1412
          refine C.iconst 3 at_315 rfl rfl ?_
          refine C.istore (Ls' := #[.val (.long x0), .second, .val (.long x1), .second, iv x2, iv x3, iv x4, iv x5, rv a921, rv a952, rv a970, iv b11, iv 0, iv ((XT.ushr x2 2) &&& 3), rv a1001, rv a1077, iv 1, rv a1145, rv a1164, rv a1185, iv 3, .unset, .unset, .unset]) at_316 rfl rfl ?_
          refine C.iload at_318 rfl rfl ?_
          refine C.iconst 2 at_320 rfl rfl ?_
          refine C.icmp_gt_f at_321 rfl (by decide) ?_
          refine C.iconst 2 at_324 rfl rfl ?_
          refine C.iload at_325 rfl rfl ?_
          refine C.iload at_327 rfl rfl ?_
          refine C.aload at_329 rfl rfl rfl ?_
          refine C.iconst 2 at_331 rfl rfl ?_
          refine C.iaload (.int (own_ln (own_ln ln pv c0) c0 c1)) at_332 rfl F1421 (by decide) rfl ?_
          refine C.aload at_333 rfl rfl rfl ?_
          refine C.iconst 2 at_335 rfl rfl ?_
          refine C.iaload (.int (own_cl (own_cl co pv c0) c0 c1)) at_336 rfl F1422 (by decide) rfl ?_
          refine C.iload at_337 rfl rfl ?_
          refine C.iload at_339 rfl rfl ?_
          refine C.callS (argsL := [(.int 2), (.int ((XT.ushr x2 2) &&& 3)), (.int x3), (.int (own_ln (own_ln ln pv c0) c0 c1)), (.int (own_cl (own_cl co pv c0) c0 c1)), (.int x4), (.int x5)]) (rest := []) 0 (fun zz => con_stops l Z a0 hw n0 h1410 zz 2 ((XT.ushr x2 2) &&& 3) x3 (own_ln (own_ln ln pv c0) c0 c1) (own_cl (own_cl co pv c0) c0 c1) x4 x5 ) at_341 rfl (tw hw 25 rfl) (tw hw 26 rfl) (tw hw 3 rfl) (tw hw 27 rfl) (by decide) pd_3 rfl rfl rfl (Nat.le_of_eq rfl) (by decide) (by decide) (by decide) (by decide) (fun v1424 h1425 r1426 => ?_)
          obtain ⟨rfl, rfl⟩ := r1426
          refine C.if_eq at_344 (by decide) rfl rfl (fun q344 => ?_) (fun q344 => ?_)
          · refine C.iload at_350 rfl rfl ?_
            refine C.iconst 1 at_352 rfl rfl ?_
            refine C.icmp_gt_f at_353 rfl (by decide) ?_
            refine C.iconst 1 at_356 rfl rfl ?_
            refine C.iload at_357 rfl rfl ?_
            refine C.iload at_359 rfl rfl ?_
            refine C.aload at_361 rfl rfl rfl ?_
            refine C.iconst 1 at_363 rfl rfl ?_
            refine C.iaload (.int (own_ln ln pv c0)) at_364 rfl F1421 (by decide) rfl ?_
            refine C.aload at_365 rfl rfl rfl ?_
            refine C.iconst 1 at_367 rfl rfl ?_
            refine C.iaload (.int (own_cl co pv c0)) at_368 rfl F1422 (by decide) rfl ?_
            refine C.iload at_369 rfl rfl ?_
            refine C.iload at_371 rfl rfl ?_
            refine C.callS (argsL := [(.int 1), (.int ((XT.ushr x2 2) &&& 3)), (.int x3), (.int (own_ln ln pv c0)), (.int (own_cl co pv c0)), (.int x4), (.int x5)]) (rest := []) 0 (fun zz => con_stops l Z a0 hw n0 h1410 zz 1 ((XT.ushr x2 2) &&& 3) x3 (own_ln ln pv c0) (own_cl co pv c0) x4 x5 ) at_373 rfl (tw hw 25 rfl) (tw hw 26 rfl) (tw hw 3 rfl) (tw hw 27 rfl) (by decide) pd_3 rfl rfl rfl (Nat.le_of_eq rfl) (by decide) (by decide) (by decide) (by decide) (fun v1428 h1429 r1430 => ?_)
            obtain ⟨rfl, rfl⟩ := r1430
            refine C.if_eq at_376 (by decide) rfl rfl (fun q376 => ?_) (fun q376 => ?_)
            · refine C.iload at_382 rfl rfl ?_
              refine C.if_gt_f at_384 rfl (by decide) ?_
              refine C.iconst 0 at_387 rfl rfl ?_
              refine C.iload at_388 rfl rfl ?_
              refine C.iload at_390 rfl rfl ?_
              refine C.aload at_392 rfl rfl rfl ?_
              refine C.iconst 0 at_394 rfl rfl ?_
              refine C.iaload (.int ln) at_395 rfl F1421 (by decide) rfl ?_
              refine C.aload at_396 rfl rfl rfl ?_
              refine C.iconst 0 at_398 rfl rfl ?_
              refine C.iaload (.int co) at_399 rfl F1422 (by decide) rfl ?_
              refine C.iload at_400 rfl rfl ?_
              refine C.iload at_402 rfl rfl ?_
              refine C.callS (argsL := [(.int 0), (.int ((XT.ushr x2 2) &&& 3)), (.int x3), (.int ln), (.int co), (.int x4), (.int x5)]) (rest := []) 0 (fun zz => con_stops l Z a0 hw n0 h1410 zz 0 ((XT.ushr x2 2) &&& 3) x3 ln co x4 x5 ) at_404 rfl (tw hw 25 rfl) (tw hw 26 rfl) (tw hw 3 rfl) (tw hw 27 rfl) (by decide) pd_3 rfl rfl rfl (Nat.le_of_eq rfl) (by decide) (by decide) (by decide) (by decide) (fun v1432 h1433 r1434 => ?_)
              obtain ⟨rfl, rfl⟩ := r1434
              refine C.if_eq at_407 (by decide) rfl rfl (fun q407 => ?_) (fun q407 => ?_)
              · refine C.aload at_413 rfl rfl rfl ?_
                refine C.aload at_415 rfl rfl rfl ?_
                refine C.iload at_417 rfl rfl ?_
                refine C.iload at_419 rfl rfl ?_
                refine C.iload at_421 rfl rfl ?_
                refine C.iload at_423 rfl rfl ?_
                refine C.iload at_425 rfl rfl ?_
                refine C.callV (argsL := [(.ref a921), (.int 0), (.int ((XT.ushr x2 2) &&& 3)), (.int x3), (.int x4), (.int x5)]) (rest := []) 0 (fun zz => con_pass_3_0 l Z a0 hw n0 h1410 zz a1001 a921 ((XT.ushr x2 2) &&& 3) x3 x4 x5 ln co pv c0 c1 c2 F1413 F1414 F1415 F1416 F1417 F1418 g1007 (Ne.symm ne1008) (own_to _) nc0 nc1 nc2) F1413 at_427 rfl (tw hw 28 rfl) (tw hw 29 rfl) (tw hw 30 rfl) (tw hw 31 rfl) (tw hw 9 rfl) (tw hw 32 rfl) (by decide) pd_4 rfl rfl rfl (Nat.le_of_eq rfl) (by decide) (by decide) (by decide) (by decide) (fun v1436 h1437 r1438 => ?_)
                obtain ⟨rfl, K1439, F1440, F1441, F1442, F1443⟩ := r1438
                have F1444 := F1413.keep K1439
                have F1449 := F1418.keep K1439 (ninS ne1008 nin0)
                have F1450 := F1419.keep K1439 (ninS ne1010 nin0)
                have F1451 := F1420.keep K1439 (ninS (Ne.symm ne1086) nin0)
                have F1452 := F1421.keep K1439 (ninS (Ne.symm ne1153) nin0)
                have F1453 := F1422.keep K1439 (ninS (Ne.symm ne1172) nin0)
                have F1454 := F1423.keep K1439 (ninS (Ne.symm ne1193) nin0)
                have kE1455 : (own_pass ((XT.ushr x2 2) &&& 3) x3 x4 x5 0 [c0, c1, c2] ln co pv) = (3, (own_ln (own_ln (own_ln ln pv c0) c0 c1) c1 c2), (own_cl (own_cl (own_cl co pv c0) c0 c1) c1 c2), c2) := ((own_go (own_stop0.mp q407)).trans ((own_go (own_stop0.mp q376)).trans (own_go (own_stop0.mp q344))))
                have F1456 : Fld Z h1437 a1001 "com/example/dodder/dodder/PlacedText$Counter" "line" "I" (.int (own_ln (own_ln (own_ln ln pv c0) c0 c1) c1 c2)) := by have q := F1440; rw [kE1455] at q; exact q
                have F1457 : Fld Z h1437 a1001 "com/example/dodder/dodder/PlacedText$Counter" "column" "I" (.int (own_cl (own_cl (own_cl co pv c0) c0 c1) c1 c2)) := by have q := F1441; rw [kE1455] at q; exact q
                have F1458 : Fld Z h1437 a1001 "com/example/dodder/dodder/PlacedText$Counter" "afterCarriageReturn" "Z" (.int (own_cr c2)) := by have q := F1442; rw [kE1455] at q; exact q
                have F1459 : Fld Z h1437 a1001 "com/example/dodder/dodder/PlacedText$Counter" "started" "Z" (.int (own_bg c2)) := by have q := F1443; rw [kE1455] at q; exact q
                rw [kE1455]
                show Go p l e room_1 s m #[(.long x0), (.long x1), (.int x2), (.int x3), (.int x4), (.int x5)] below meth c n0 (FinQ s n0 (Qcon0 Z n0 h0 x0 x1 x2 x3 x4 x5) room_1.cells room_1.slots) h1437 8 24 430 #[.val (.long x0), .second, .val (.long x1), .second, iv x2, iv x3, iv x4, iv x5, rv a921, rv a952, rv a970, iv b11, iv 0, iv ((XT.ushr x2 2) &&& 3), rv a1001, rv a1077, iv 1, rv a1145, rv a1164, rv a1185, iv 3, .unset, .unset, .unset] [(.int 3)]
                refine C.istore (Ls' := #[.val (.long x0), .second, .val (.long x1), .second, iv x2, iv x3, iv x4, iv x5, rv a921, rv a952, rv a970, iv b11, iv 0, iv ((XT.ushr x2 2) &&& 3), rv a1001, rv a1077, iv 1, rv a1145, rv a1164, rv a1185, iv 3, iv 3, .unset, .unset]) at_430 rfl rfl ?_
                refine C.iload at_432 rfl rfl ?_
                refine C.if_eq_f at_434 rfl (by decide) ?_
                refine C.iload at_437 rfl rfl ?_
                refine C.iload at_439 rfl rfl ?_
                refine C.icmp_ne_f at_441 rfl (by decide) ?_
                refine C.aload at_444 rfl rfl rfl ?_
                refine C.callV (argsL := []) (rest := []) 0 (fun zz => au1460_7 l Z a0 hw n0 h1437 zz a1001 (own_cr c2) (own_cl (own_cl (own_cl co pv c0) c0 c1) c1 c2) (own_ln (own_ln (own_ln ln pv c0) c0 c1) c1 c2) (own_bg c2) F1444 F1458 F1457 F1456 F1459 g1007) F1444 at_446 rfl (tw hw 37 rfl) (tw hw 38 rfl) (tw hw 39 rfl) (tw hw 40 rfl) (tw hw 9 rfl) (tw hw 41 rfl) (by decide) pd_5 rfl rfl rfl (Nat.le_of_eq rfl) (by decide) (by decide) (by decide) (by decide) (fun v1461 h1462 r1463 => ?_)
                obtain ⟨rfl, rfl⟩ := r1463
                refine C.aload at_449 rfl rfl rfl ?_
                refine C.iload at_451 rfl rfl ?_
                refine C.iaload (.int (own_ln (own_ln (own_ln ln pv c0) c0 c1) c1 c2)) at_453 rfl F1452 (by decide) rfl ?_
                refine C.icmp_ne_f at_454 rfl rfl ?_
                refine C.aload at_457 rfl rfl rfl ?_
                refine C.callV (argsL := []) (rest := []) 0 (fun zz => au1465_8 l Z a0 hw n0 h1437 zz a1001 (own_cr c2) (own_cl (own_cl (own_cl co pv c0) c0 c1) c1 c2) (own_ln (own_ln (own_ln ln pv c0) c0 c1) c1 c2) (own_bg c2) F1444 F1458 F1457 F1456 F1459 g1007) F1444 at_459 rfl (tw hw 42 rfl) (tw hw 43 rfl) (tw hw 44 rfl) (tw hw 45 rfl) (tw hw 9 rfl) (tw hw 46 rfl) (by decide) pd_5 rfl rfl rfl (Nat.le_of_eq rfl) (by decide) (by decide) (by decide) (by decide) (fun v1466 h1467 r1468 => ?_)
                obtain ⟨rfl, rfl⟩ := r1468
                refine C.aload at_462 rfl rfl rfl ?_
                refine C.iload at_464 rfl rfl ?_
                refine C.iaload (.int (own_cl (own_cl (own_cl co pv c0) c0 c1) c1 c2)) at_466 rfl F1453 (by decide) rfl ?_
                refine C.icmp_ne_f at_467 rfl rfl ?_
                refine C.iconst 1 at_470 rfl rfl ?_
                refine C.goto at_471 (by decide) rfl ?_
                refine C.istore (Ls' := #[.val (.long x0), .second, .val (.long x1), .second, iv x2, iv x3, iv x4, iv x5, rv a921, rv a952, rv a970, iv b11, iv 0, iv ((XT.ushr x2 2) &&& 3), rv a1001, rv a1077, iv 1, rv a1145, rv a1164, rv a1185, iv 3, iv 3, .unset, .unset]) at_475 rfl rfl ?_
                refine C.iconst 3 at_477 rfl rfl ?_
                refine C.newarr 3 at_478 rfl rfl (tw hw 20 rfl) (by decide) (by decide) (by decide) (by decide) (by decide) (fun a1470 h1471 z1474 g1475 X1472 F1473 => ?_)
                have ne1476 : a921 ≠ a1470 := by rw [z1474]; exact Nat.ne_of_lt F1449.lt
                have ne1477 : a970 ≠ a1470 := by rw [z1474]; exact Nat.ne_of_lt F1450.lt
                have ne1478 : a1001 ≠ a1470 := by rw [z1474]; exact Nat.ne_of_lt F1444.lt
                have ne1479 : a1077 ≠ a1470 := by rw [z1474]; exact Nat.ne_of_lt F1451.lt
                have ne1480 : a1145 ≠ a1470 := by rw [z1474]; exact Nat.ne_of_lt F1452.lt
                have ne1481 : a1164 ≠ a1470 := by rw [z1474]; exact Nat.ne_of_lt F1453.lt
                have ne1482 : a1185 ≠ a1470 := by rw [z1474]; exact Nat.ne_of_lt F1454.lt
                have F1483 := Exa.ext X1472 F1444
                have F1484 := F1449.ext X1472
                have F1485 := F1450.ext X1472
                have F1486 := F1451.ext X1472
                have F1487 := F1452.ext X1472
                have F1488 := F1453.ext X1472
                have F1489 := F1454.ext X1472
                have F1490 := Fld.ext X1472 F1456
                have F1491 := Fld.ext X1472 F1457
                have F1492 := Fld.ext X1472 F1458
                have F1493 := Fld.ext X1472 F1459
                have F1494 : Av Z h1471 a1470 .int ([.int 0, .int 0, .int 0]) := F1473
                refine C.dup at_480 rfl rfl ?_
                refine C.iconst 0 at_481 rfl rfl ?_
                refine C.aload at_482 rfl rfl rfl ?_
                refine C.iload at_484 rfl rfl ?_
                refine C.iaload (.int (own_ln (own_ln (own_ln ln pv c0) c0 c1) c1 c2)) at_486 rfl F1487 (by decide) rfl ?_
                refine C.iastore at_487 rfl F1494 g1475 (by decide) (Nat.le_of_ble_eq_true rfl) (fun h1495 W1496 F1497 => ?_)
                have F1498 := Exa.wr W1496 F1483
                have F1499 := F1484.other W1496 ne1476
                have F1500 := F1485.other W1496 ne1477
                have F1501 := F1486.other W1496 ne1479
                have F1502 := F1487.other W1496 ne1480
                have F1503 := F1488.other W1496 ne1481
                have F1504 := F1489.other W1496 ne1482
                have F1505 := Fld.other W1496 F1490 (Or.inl ne1478)
                have F1506 := Fld.other W1496 F1491 (Or.inl ne1478)
                have F1507 := Fld.other W1496 F1492 (Or.inl ne1478)
                have F1508 := Fld.other W1496 F1493 (Or.inl ne1478)
                have F1509 : Av Z h1495 a1470 .int ([.int (own_ln (own_ln (own_ln ln pv c0) c0 c1) c1 c2), .int 0, .int 0]) := F1497
                refine C.dup at_488 rfl rfl ?_
                refine C.iconst 1 at_489 rfl rfl ?_
                refine C.aload at_490 rfl rfl rfl ?_
                refine C.iload at_492 rfl rfl ?_
                refine C.iaload (.int (own_cl (own_cl (own_cl co pv c0) c0 c1) c1 c2)) at_494 rfl F1503 (by decide) rfl ?_
                refine C.iastore at_495 rfl F1509 g1475 (by decide) (Nat.le_of_ble_eq_true rfl) (fun h1510 W1511 F1512 => ?_)
                have F1513 := Exa.wr W1511 F1498
                have F1514 := F1499.other W1511 ne1476
                have F1515 := F1500.other W1511 ne1477
                have F1516 := F1501.other W1511 ne1479
                have F1517 := F1502.other W1511 ne1480
                have F1518 := F1503.other W1511 ne1481
                have F1519 := F1504.other W1511 ne1482
                have F1520 := Fld.other W1511 F1505 (Or.inl ne1478)
                have F1521 := Fld.other W1511 F1506 (Or.inl ne1478)
                have F1522 := Fld.other W1511 F1507 (Or.inl ne1478)
                have F1523 := Fld.other W1511 F1508 (Or.inl ne1478)
                have F1524 : Av Z h1510 a1470 .int ([.int (own_ln (own_ln (own_ln ln pv c0) c0 c1) c1 c2), .int (own_cl (own_cl (own_cl co pv c0) c0 c1) c1 c2), .int 0]) := F1512
                refine C.dup at_496 rfl rfl ?_
                refine C.iconst 2 at_497 rfl rfl ?_
                refine C.aload at_498 rfl rfl rfl ?_
                refine C.iload at_500 rfl rfl ?_
                refine C.iaload (.int c2) at_502 rfl F1519 (by decide) rfl ?_
                refine C.iastore at_503 rfl F1524 g1475 (by decide) (Nat.le_of_ble_eq_true rfl) (fun h1525 W1526 F1527 => ?_)
                have F1528 := Exa.wr W1526 F1513
                have F1529 := F1514.other W1526 ne1476
                have F1530 := F1515.other W1526 ne1477
                have F1531 := F1516.other W1526 ne1479
                have F1532 := F1517.other W1526 ne1480
                have F1533 := F1518.other W1526 ne1481
                have F1534 := F1519.other W1526 ne1482
                have F1535 := Fld.other W1526 F1520 (Or.inl ne1478)
                have F1536 := Fld.other W1526 F1521 (Or.inl ne1478)
                have F1537 := Fld.other W1526 F1522 (Or.inl ne1478)
                have F1538 := Fld.other W1526 F1523 (Or.inl ne1478)
                have F1539 : Av Z h1525 a1470 .int ([.int (own_ln (own_ln (own_ln ln pv c0) c0 c1) c1 c2), .int (own_cl (own_cl (own_cl co pv c0) c0 c1) c1 c2), .int c2]) := F1527
                refine C.astore (Ls' := #[.val (.long x0), .second, .val (.long x1), .second, iv x2, iv x3, iv x4, iv x5, rv a921, rv a952, rv a970, iv b11, iv 0, iv ((XT.ushr x2 2) &&& 3), rv a1001, rv a1077, iv 1, rv a1145, rv a1164, rv a1185, iv 3, iv 3, rv a1470, .unset]) at_504 rfl rfl rfl ?_
                refine C.aload at_506 rfl rfl rfl ?_
                refine C.aload at_508 rfl rfl rfl ?_
                refine C.iconst 0 at_510 rfl rfl ?_
                refine C.caload (.int cq) at_511 rfl F1530 (by decide) rfl ?_
                refine C.callS (argsL := [(.ref a1470), (.int cq)]) (rest := []) 0 (fun zz => con_step l Z a0 hw n0 h1525 zz a1470 cq (own_ln (own_ln (own_ln ln pv c0) c0 c1) c1 c2) (own_cl (own_cl (own_cl co pv c0) c0 c1) c1 c2) c2 F1539 g1475) at_512 rfl (tw hw 21 rfl) (tw hw 22 rfl) (tw hw 3 rfl) (tw hw 23 rfl) (by decide) pd_2 rfl rfl rfl (Nat.le_of_eq rfl) (by decide) (by decide) (by decide) (by decide) (fun v1540 h1541 r1542 => ?_)
                obtain ⟨rfl, K1543, F1544⟩ := r1542
                have F1545 := F1528.keep K1543
                have F1546 := F1529.keep K1543 (ninS ne1476 nin0)
                have F1547 := F1530.keep K1543 (ninS ne1477 nin0)
                have F1548 := F1531.keep K1543 (ninS ne1479 nin0)
                have F1549 := F1532.keep K1543 (ninS ne1480 nin0)
                have F1550 := F1533.keep K1543 (ninS ne1481 nin0)
                have F1551 := F1534.keep K1543 (ninS ne1482 nin0)
                have F1552 := F1535.keep K1543 (ninS ne1478 nin0)
                have F1553 := F1536.keep K1543 (ninS ne1478 nin0)
                have F1554 := F1537.keep K1543 (ninS ne1478 nin0)
                have F1555 := F1538.keep K1543 (ninS ne1478 nin0)
                refine C.aload at_515 rfl rfl rfl ?_
                refine C.aload at_517 rfl rfl rfl ?_
                refine C.iconst 0 at_519 rfl rfl ?_
                refine C.iconst 1 at_520 rfl rfl ?_
                refine C.iconst 1 at_521 rfl rfl ?_
                refine C.iconst 0 at_522 rfl rfl ?_
                refine C.iconst 0 at_523 rfl rfl ?_
                refine C.callV (argsL := [(.ref a970), (.int 0), (.int 1), (.int 1), (.int 0), (.int 0)]) (rest := []) 0 (fun zz => con_pass_1_0 l Z a0 hw n0 h1541 zz a1001 a970 1 1 0 0 (own_ln (own_ln (own_ln ln pv c0) c0 c1) c1 c2) (own_cl (own_cl (own_cl co pv c0) c0 c1) c1 c2) c2 cq F1545 F1552 F1553 F1554 F1555 F1547 g1007 (Ne.symm ne1010) (by decide) ncq) F1545 at_524 rfl (tw hw 28 rfl) (tw hw 29 rfl) (tw hw 30 rfl) (tw hw 31 rfl) (tw hw 9 rfl) (tw hw 32 rfl) (by decide) pd_4 rfl rfl rfl (Nat.le_of_eq rfl) (by decide) (by decide) (by decide) (by decide) (fun v1557 h1558 r1559 => ?_)
                obtain ⟨rfl, K1560, F1561, F1562, F1563, F1564⟩ := r1559
                have F1565 := F1545.keep K1560
                have F1566 := F1546.keep K1560 (ninS ne1008 nin0)
                have F1567 := F1547.keep K1560 (ninS ne1010 nin0)
                have F1568 := F1548.keep K1560 (ninS (Ne.symm ne1086) nin0)
                have F1569 := F1549.keep K1560 (ninS (Ne.symm ne1153) nin0)
                have F1570 := F1550.keep K1560 (ninS (Ne.symm ne1172) nin0)
                have F1571 := F1551.keep K1560 (ninS (Ne.symm ne1193) nin0)
                have F1576 := F1544.keep K1560 (ninS (Ne.symm ne1478) nin0)
                have kE1577 : (own_pass 1 1 0 0 0 [cq] (own_ln (own_ln (own_ln ln pv c0) c0 c1) c1 c2) (own_cl (own_cl (own_cl co pv c0) c0 c1) c1 c2) c2) = (1, own_ln (own_ln (own_ln (own_ln ln pv c0) c0 c1) c1 c2) c2 cq, own_cl (own_cl (own_cl (own_cl co pv c0) c0 c1) c1 c2) c2 cq, cq) := own_go ⟨by decide, Or.inl (by decide)⟩
                have F1578 : Fld Z h1558 a1001 "com/example/dodder/dodder/PlacedText$Counter" "line" "I" (.int (own_ln (own_ln (own_ln (own_ln ln pv c0) c0 c1) c1 c2) c2 cq)) := by have q := F1561; rw [kE1577] at q; exact q
                have F1579 : Fld Z h1558 a1001 "com/example/dodder/dodder/PlacedText$Counter" "column" "I" (.int (own_cl (own_cl (own_cl (own_cl co pv c0) c0 c1) c1 c2) c2 cq)) := by have q := F1562; rw [kE1577] at q; exact q
                have F1580 : Fld Z h1558 a1001 "com/example/dodder/dodder/PlacedText$Counter" "afterCarriageReturn" "Z" (.int (own_cr cq)) := by have q := F1563; rw [kE1577] at q; exact q
                have F1581 : Fld Z h1558 a1001 "com/example/dodder/dodder/PlacedText$Counter" "started" "Z" (.int (own_bg cq)) := by have q := F1564; rw [kE1577] at q; exact q
                rw [kE1577]
                show Go p l e room_1 s m #[(.long x0), (.long x1), (.int x2), (.int x3), (.int x4), (.int x5)] below meth c n0 (FinQ s n0 (Qcon0 Z n0 h0 x0 x1 x2 x3 x4 x5) room_1.cells room_1.slots) h1558 9 27 527 #[.val (.long x0), .second, .val (.long x1), .second, iv x2, iv x3, iv x4, iv x5, rv a921, rv a952, rv a970, iv b11, iv 0, iv ((XT.ushr x2 2) &&& 3), rv a1001, rv a1077, iv 1, rv a1145, rv a1164, rv a1185, iv 3, iv 3, rv a1470, .unset] [(.int 1)]
                refine C.istore (Ls' := #[.val (.long x0), .second, .val (.long x1), .second, iv x2, iv x3, iv x4, iv x5, rv a921, rv a952, rv a970, iv b11, iv 0, iv ((XT.ushr x2 2) &&& 3), rv a1001, rv a1077, iv 1, rv a1145, rv a1164, rv a1185, iv 3, iv 3, rv a1470, iv 1]) at_527 rfl rfl ?_
                refine C.iload at_529 rfl rfl ?_
                refine C.if_eq_f at_531 rfl (by decide) ?_
                refine C.iload at_534 rfl rfl ?_
                refine C.iconst 1 at_536 rfl rfl ?_
                refine C.icmp_ne_f at_537 rfl (by decide) ?_
                refine C.aload at_540 rfl rfl rfl ?_
                refine C.callV (argsL := []) (rest := []) 0 (fun zz => au1460_7 l Z a0 hw n0 h1558 zz a1001 (own_cr cq) (own_cl (own_cl (own_cl (own_cl co pv c0) c0 c1) c1 c2) c2 cq) (own_ln (own_ln (own_ln (own_ln ln pv c0) c0 c1) c1 c2) c2 cq) (own_bg cq) F1565 F1580 F1579 F1578 F1581 g1007) F1565 at_542 rfl (tw hw 37 rfl) (tw hw 38 rfl) (tw hw 39 rfl) (tw hw 40 rfl) (tw hw 9 rfl) (tw hw 41 rfl) (by decide) pd_5 rfl rfl rfl (Nat.le_of_eq rfl) (by decide) (by decide) (by decide) (by decide) (fun v1582 h1583 r1584 => ?_)
                obtain ⟨rfl, rfl⟩ := r1584
                refine C.aload at_545 rfl rfl rfl ?_
                refine C.iconst 0 at_547 rfl rfl ?_
                refine C.iaload (.int (own_ln (own_ln (own_ln (own_ln ln pv c0) c0 c1) c1 c2) c2 cq)) at_548 rfl F1576 (by decide) rfl ?_
                refine C.icmp_ne_f at_549 rfl rfl ?_
                refine C.aload at_552 rfl rfl rfl ?_
                refine C.callV (argsL := []) (rest := []) 0 (fun zz => au1465_8 l Z a0 hw n0 h1558 zz a1001 (own_cr cq) (own_cl (own_cl (own_cl (own_cl co pv c0) c0 c1) c1 c2) c2 cq) (own_ln (own_ln (own_ln (own_ln ln pv c0) c0 c1) c1 c2) c2 cq) (own_bg cq) F1565 F1580 F1579 F1578 F1581 g1007) F1565 at_554 rfl (tw hw 42 rfl) (tw hw 43 rfl) (tw hw 44 rfl) (tw hw 45 rfl) (tw hw 9 rfl) (tw hw 46 rfl) (by decide) pd_5 rfl rfl rfl (Nat.le_of_eq rfl) (by decide) (by decide) (by decide) (by decide) (fun v1586 h1587 r1588 => ?_)
                obtain ⟨rfl, rfl⟩ := r1588
                refine C.aload at_557 rfl rfl rfl ?_
                refine C.iconst 1 at_559 rfl rfl ?_
                refine C.iaload (.int (own_cl (own_cl (own_cl (own_cl co pv c0) c0 c1) c1 c2) c2 cq)) at_560 rfl F1576 (by decide) rfl ?_
                refine C.icmp_ne_f at_561 rfl rfl ?_
                refine C.iconst 1 at_564 rfl rfl ?_
                refine C.goto at_565 (by decide) rfl ?_
                exact C.retZ at_569 rfl (by decide) (by decide) ⟨rfl, trivial⟩
              refine C.iconst 0 at_410 rfl rfl ?_
              refine C.istore (Ls' := #[.val (.long x0), .second, .val (.long x1), .second, iv x2, iv x3, iv x4, iv x5, rv a921, rv a952, rv a970, iv b11, iv 0, iv ((XT.ushr x2 2) &&& 3), rv a1001, rv a1077, iv 1, rv a1145, rv a1164, rv a1185, iv 0, .unset, .unset, .unset]) at_411 rfl rfl ?_
              refine C.aload at_413 rfl rfl rfl ?_
              refine C.aload at_415 rfl rfl rfl ?_
              refine C.iload at_417 rfl rfl ?_
              refine C.iload at_419 rfl rfl ?_
              refine C.iload at_421 rfl rfl ?_
              refine C.iload at_423 rfl rfl ?_
              refine C.iload at_425 rfl rfl ?_
              refine C.callV (argsL := [(.ref a921), (.int 0), (.int ((XT.ushr x2 2) &&& 3)), (.int x3), (.int x4), (.int x5)]) (rest := []) 0 (fun zz => con_pass_3_0 l Z a0 hw n0 h1410 zz a1001 a921 ((XT.ushr x2 2) &&& 3) x3 x4 x5 ln co pv c0 c1 c2 F1413 F1414 F1415 F1416 F1417 F1418 g1007 (Ne.symm ne1008) (own_to _) nc0 nc1 nc2) F1413 at_427 rfl (tw hw 28 rfl) (tw hw 29 rfl) (tw hw 30 rfl) (tw hw 31 rfl) (tw hw 9 rfl) (tw hw 32 rfl) (by decide) pd_4 rfl rfl rfl (Nat.le_of_eq rfl) (by decide) (by decide) (by decide) (by decide) (fun v1590 h1591 r1592 => ?_)
              obtain ⟨rfl, K1593, F1594, F1595, F1596, F1597⟩ := r1592
              have F1598 := F1413.keep K1593
              have F1603 := F1418.keep K1593 (ninS ne1008 nin0)
              have F1604 := F1419.keep K1593 (ninS ne1010 nin0)
              have F1605 := F1420.keep K1593 (ninS (Ne.symm ne1086) nin0)
              have F1606 := F1421.keep K1593 (ninS (Ne.symm ne1153) nin0)
              have F1607 := F1422.keep K1593 (ninS (Ne.symm ne1172) nin0)
              have F1608 := F1423.keep K1593 (ninS (Ne.symm ne1193) nin0)
              have kE1609 : (own_pass ((XT.ushr x2 2) &&& 3) x3 x4 x5 0 [c0, c1, c2] ln co pv) = (0, ln, co, pv) := (own_no (fun h => q407 (own_stop0.mpr h)))
              have F1610 : Fld Z h1591 a1001 "com/example/dodder/dodder/PlacedText$Counter" "line" "I" (.int ln) := by have q := F1594; rw [kE1609] at q; exact q
              have F1611 : Fld Z h1591 a1001 "com/example/dodder/dodder/PlacedText$Counter" "column" "I" (.int co) := by have q := F1595; rw [kE1609] at q; exact q
              have F1612 : Fld Z h1591 a1001 "com/example/dodder/dodder/PlacedText$Counter" "afterCarriageReturn" "Z" (.int (own_cr pv)) := by have q := F1596; rw [kE1609] at q; exact q
              have F1613 : Fld Z h1591 a1001 "com/example/dodder/dodder/PlacedText$Counter" "started" "Z" (.int (own_bg pv)) := by have q := F1597; rw [kE1609] at q; exact q
              rw [kE1609]
              show Go p l e room_1 s m #[(.long x0), (.long x1), (.int x2), (.int x3), (.int x4), (.int x5)] below meth c n0 (FinQ s n0 (Qcon0 Z n0 h0 x0 x1 x2 x3 x4 x5) room_1.cells room_1.slots) h1591 8 24 430 #[.val (.long x0), .second, .val (.long x1), .second, iv x2, iv x3, iv x4, iv x5, rv a921, rv a952, rv a970, iv b11, iv 0, iv ((XT.ushr x2 2) &&& 3), rv a1001, rv a1077, iv 1, rv a1145, rv a1164, rv a1185, iv 0, .unset, .unset, .unset] [(.int 0)]
              refine C.istore (Ls' := #[.val (.long x0), .second, .val (.long x1), .second, iv x2, iv x3, iv x4, iv x5, rv a921, rv a952, rv a970, iv b11, iv 0, iv ((XT.ushr x2 2) &&& 3), rv a1001, rv a1077, iv 1, rv a1145, rv a1164, rv a1185, iv 0, iv 0, .unset, .unset]) at_430 rfl rfl ?_
              refine C.iload at_432 rfl rfl ?_
              refine C.if_eq_f at_434 rfl (by decide) ?_
              refine C.iload at_437 rfl rfl ?_
              refine C.iload at_439 rfl rfl ?_
              refine C.icmp_ne_f at_441 rfl (by decide) ?_
              refine C.aload at_444 rfl rfl rfl ?_
              refine C.callV (argsL := []) (rest := []) 0 (fun zz => au1460_7 l Z a0 hw n0 h1591 zz a1001 (own_cr pv) co ln (own_bg pv) F1598 F1612 F1611 F1610 F1613 g1007) F1598 at_446 rfl (tw hw 37 rfl) (tw hw 38 rfl) (tw hw 39 rfl) (tw hw 40 rfl) (tw hw 9 rfl) (tw hw 41 rfl) (by decide) pd_5 rfl rfl rfl (Nat.le_of_eq rfl) (by decide) (by decide) (by decide) (by decide) (fun v1614 h1615 r1616 => ?_)
              obtain ⟨rfl, rfl⟩ := r1616
              refine C.aload at_449 rfl rfl rfl ?_
              refine C.iload at_451 rfl rfl ?_
              refine C.iaload (.int ln) at_453 rfl F1606 (by decide) rfl ?_
              refine C.icmp_ne_f at_454 rfl rfl ?_
              refine C.aload at_457 rfl rfl rfl ?_
              refine C.callV (argsL := []) (rest := []) 0 (fun zz => au1465_8 l Z a0 hw n0 h1591 zz a1001 (own_cr pv) co ln (own_bg pv) F1598 F1612 F1611 F1610 F1613 g1007) F1598 at_459 rfl (tw hw 42 rfl) (tw hw 43 rfl) (tw hw 44 rfl) (tw hw 45 rfl) (tw hw 9 rfl) (tw hw 46 rfl) (by decide) pd_5 rfl rfl rfl (Nat.le_of_eq rfl) (by decide) (by decide) (by decide) (by decide) (fun v1618 h1619 r1620 => ?_)
              obtain ⟨rfl, rfl⟩ := r1620
              refine C.aload at_462 rfl rfl rfl ?_
              refine C.iload at_464 rfl rfl ?_
              refine C.iaload (.int co) at_466 rfl F1607 (by decide) rfl ?_
              refine C.icmp_ne_f at_467 rfl rfl ?_
              refine C.iconst 1 at_470 rfl rfl ?_
              refine C.goto at_471 (by decide) rfl ?_
              refine C.istore (Ls' := #[.val (.long x0), .second, .val (.long x1), .second, iv x2, iv x3, iv x4, iv x5, rv a921, rv a952, rv a970, iv b11, iv 0, iv ((XT.ushr x2 2) &&& 3), rv a1001, rv a1077, iv 1, rv a1145, rv a1164, rv a1185, iv 0, iv 0, .unset, .unset]) at_475 rfl rfl ?_
              refine C.iconst 3 at_477 rfl rfl ?_
              refine C.newarr 3 at_478 rfl rfl (tw hw 20 rfl) (by decide) (by decide) (by decide) (by decide) (by decide) (fun a1622 h1623 z1626 g1627 X1624 F1625 => ?_)
              have ne1628 : a921 ≠ a1622 := by rw [z1626]; exact Nat.ne_of_lt F1603.lt
              have ne1629 : a970 ≠ a1622 := by rw [z1626]; exact Nat.ne_of_lt F1604.lt
              have ne1630 : a1001 ≠ a1622 := by rw [z1626]; exact Nat.ne_of_lt F1598.lt
              have ne1631 : a1077 ≠ a1622 := by rw [z1626]; exact Nat.ne_of_lt F1605.lt
              have ne1632 : a1145 ≠ a1622 := by rw [z1626]; exact Nat.ne_of_lt F1606.lt
              have ne1633 : a1164 ≠ a1622 := by rw [z1626]; exact Nat.ne_of_lt F1607.lt
              have ne1634 : a1185 ≠ a1622 := by rw [z1626]; exact Nat.ne_of_lt F1608.lt
              have F1635 := Exa.ext X1624 F1598
              have F1636 := F1603.ext X1624
              have F1637 := F1604.ext X1624
              have F1638 := F1605.ext X1624
              have F1639 := F1606.ext X1624
              have F1640 := F1607.ext X1624
              have F1641 := F1608.ext X1624
              have F1642 := Fld.ext X1624 F1610
              have F1643 := Fld.ext X1624 F1611
              have F1644 := Fld.ext X1624 F1612
              have F1645 := Fld.ext X1624 F1613
              have F1646 : Av Z h1623 a1622 .int ([.int 0, .int 0, .int 0]) := F1625
              refine C.dup at_480 rfl rfl ?_
              refine C.iconst 0 at_481 rfl rfl ?_
              refine C.aload at_482 rfl rfl rfl ?_
              refine C.iload at_484 rfl rfl ?_
              refine C.iaload (.int ln) at_486 rfl F1639 (by decide) rfl ?_
              refine C.iastore at_487 rfl F1646 g1627 (by decide) (Nat.le_of_ble_eq_true rfl) (fun h1647 W1648 F1649 => ?_)
              have F1650 := Exa.wr W1648 F1635
              have F1651 := F1636.other W1648 ne1628
              have F1652 := F1637.other W1648 ne1629
              have F1653 := F1638.other W1648 ne1631
              have F1654 := F1639.other W1648 ne1632
              have F1655 := F1640.other W1648 ne1633
              have F1656 := F1641.other W1648 ne1634
              have F1657 := Fld.other W1648 F1642 (Or.inl ne1630)
              have F1658 := Fld.other W1648 F1643 (Or.inl ne1630)
              have F1659 := Fld.other W1648 F1644 (Or.inl ne1630)
              have F1660 := Fld.other W1648 F1645 (Or.inl ne1630)
              have F1661 : Av Z h1647 a1622 .int ([.int ln, .int 0, .int 0]) := F1649
              refine C.dup at_488 rfl rfl ?_
              refine C.iconst 1 at_489 rfl rfl ?_
              refine C.aload at_490 rfl rfl rfl ?_
              refine C.iload at_492 rfl rfl ?_
              refine C.iaload (.int co) at_494 rfl F1655 (by decide) rfl ?_
              refine C.iastore at_495 rfl F1661 g1627 (by decide) (Nat.le_of_ble_eq_true rfl) (fun h1662 W1663 F1664 => ?_)
              have F1665 := Exa.wr W1663 F1650
              have F1666 := F1651.other W1663 ne1628
              have F1667 := F1652.other W1663 ne1629
              have F1668 := F1653.other W1663 ne1631
              have F1669 := F1654.other W1663 ne1632
              have F1670 := F1655.other W1663 ne1633
              have F1671 := F1656.other W1663 ne1634
              have F1672 := Fld.other W1663 F1657 (Or.inl ne1630)
              have F1673 := Fld.other W1663 F1658 (Or.inl ne1630)
              have F1674 := Fld.other W1663 F1659 (Or.inl ne1630)
              have F1675 := Fld.other W1663 F1660 (Or.inl ne1630)
              have F1676 : Av Z h1662 a1622 .int ([.int ln, .int co, .int 0]) := F1664
              refine C.dup at_496 rfl rfl ?_
              refine C.iconst 2 at_497 rfl rfl ?_
              refine C.aload at_498 rfl rfl rfl ?_
              refine C.iload at_500 rfl rfl ?_
              refine C.iaload (.int pv) at_502 rfl F1671 (by decide) rfl ?_
              refine C.iastore at_503 rfl F1676 g1627 (by decide) (Nat.le_of_ble_eq_true rfl) (fun h1677 W1678 F1679 => ?_)
              have F1680 := Exa.wr W1678 F1665
              have F1681 := F1666.other W1678 ne1628
              have F1682 := F1667.other W1678 ne1629
              have F1683 := F1668.other W1678 ne1631
              have F1684 := F1669.other W1678 ne1632
              have F1685 := F1670.other W1678 ne1633
              have F1686 := F1671.other W1678 ne1634
              have F1687 := Fld.other W1678 F1672 (Or.inl ne1630)
              have F1688 := Fld.other W1678 F1673 (Or.inl ne1630)
              have F1689 := Fld.other W1678 F1674 (Or.inl ne1630)
              have F1690 := Fld.other W1678 F1675 (Or.inl ne1630)
              have F1691 : Av Z h1677 a1622 .int ([.int ln, .int co, .int pv]) := F1679
              refine C.astore (Ls' := #[.val (.long x0), .second, .val (.long x1), .second, iv x2, iv x3, iv x4, iv x5, rv a921, rv a952, rv a970, iv b11, iv 0, iv ((XT.ushr x2 2) &&& 3), rv a1001, rv a1077, iv 1, rv a1145, rv a1164, rv a1185, iv 0, iv 0, rv a1622, .unset]) at_504 rfl rfl rfl ?_
              refine C.aload at_506 rfl rfl rfl ?_
              refine C.aload at_508 rfl rfl rfl ?_
              refine C.iconst 0 at_510 rfl rfl ?_
              refine C.caload (.int cq) at_511 rfl F1682 (by decide) rfl ?_
              refine C.callS (argsL := [(.ref a1622), (.int cq)]) (rest := []) 0 (fun zz => con_step l Z a0 hw n0 h1677 zz a1622 cq ln co pv F1691 g1627) at_512 rfl (tw hw 21 rfl) (tw hw 22 rfl) (tw hw 3 rfl) (tw hw 23 rfl) (by decide) pd_2 rfl rfl rfl (Nat.le_of_eq rfl) (by decide) (by decide) (by decide) (by decide) (fun v1692 h1693 r1694 => ?_)
              obtain ⟨rfl, K1695, F1696⟩ := r1694
              have F1697 := F1680.keep K1695
              have F1698 := F1681.keep K1695 (ninS ne1628 nin0)
              have F1699 := F1682.keep K1695 (ninS ne1629 nin0)
              have F1700 := F1683.keep K1695 (ninS ne1631 nin0)
              have F1701 := F1684.keep K1695 (ninS ne1632 nin0)
              have F1702 := F1685.keep K1695 (ninS ne1633 nin0)
              have F1703 := F1686.keep K1695 (ninS ne1634 nin0)
              have F1704 := F1687.keep K1695 (ninS ne1630 nin0)
              have F1705 := F1688.keep K1695 (ninS ne1630 nin0)
              have F1706 := F1689.keep K1695 (ninS ne1630 nin0)
              have F1707 := F1690.keep K1695 (ninS ne1630 nin0)
              refine C.aload at_515 rfl rfl rfl ?_
              refine C.aload at_517 rfl rfl rfl ?_
              refine C.iconst 0 at_519 rfl rfl ?_
              refine C.iconst 1 at_520 rfl rfl ?_
              refine C.iconst 1 at_521 rfl rfl ?_
              refine C.iconst 0 at_522 rfl rfl ?_
              refine C.iconst 0 at_523 rfl rfl ?_
              refine C.callV (argsL := [(.ref a970), (.int 0), (.int 1), (.int 1), (.int 0), (.int 0)]) (rest := []) 0 (fun zz => con_pass_1_0 l Z a0 hw n0 h1693 zz a1001 a970 1 1 0 0 ln co pv cq F1697 F1704 F1705 F1706 F1707 F1699 g1007 (Ne.symm ne1010) (by decide) ncq) F1697 at_524 rfl (tw hw 28 rfl) (tw hw 29 rfl) (tw hw 30 rfl) (tw hw 31 rfl) (tw hw 9 rfl) (tw hw 32 rfl) (by decide) pd_4 rfl rfl rfl (Nat.le_of_eq rfl) (by decide) (by decide) (by decide) (by decide) (fun v1709 h1710 r1711 => ?_)
              obtain ⟨rfl, K1712, F1713, F1714, F1715, F1716⟩ := r1711
              have F1717 := F1697.keep K1712
              have F1718 := F1698.keep K1712 (ninS ne1008 nin0)
              have F1719 := F1699.keep K1712 (ninS ne1010 nin0)
              have F1720 := F1700.keep K1712 (ninS (Ne.symm ne1086) nin0)
              have F1721 := F1701.keep K1712 (ninS (Ne.symm ne1153) nin0)
              have F1722 := F1702.keep K1712 (ninS (Ne.symm ne1172) nin0)
              have F1723 := F1703.keep K1712 (ninS (Ne.symm ne1193) nin0)
              have F1728 := F1696.keep K1712 (ninS (Ne.symm ne1630) nin0)
              have kE1729 : (own_pass 1 1 0 0 0 [cq] ln co pv) = (1, own_ln ln pv cq, own_cl co pv cq, cq) := own_go ⟨by decide, Or.inl (by decide)⟩
              have F1730 : Fld Z h1710 a1001 "com/example/dodder/dodder/PlacedText$Counter" "line" "I" (.int (own_ln ln pv cq)) := by have q := F1713; rw [kE1729] at q; exact q
              have F1731 : Fld Z h1710 a1001 "com/example/dodder/dodder/PlacedText$Counter" "column" "I" (.int (own_cl co pv cq)) := by have q := F1714; rw [kE1729] at q; exact q
              have F1732 : Fld Z h1710 a1001 "com/example/dodder/dodder/PlacedText$Counter" "afterCarriageReturn" "Z" (.int (own_cr cq)) := by have q := F1715; rw [kE1729] at q; exact q
              have F1733 : Fld Z h1710 a1001 "com/example/dodder/dodder/PlacedText$Counter" "started" "Z" (.int (own_bg cq)) := by have q := F1716; rw [kE1729] at q; exact q
              rw [kE1729]
              show Go p l e room_1 s m #[(.long x0), (.long x1), (.int x2), (.int x3), (.int x4), (.int x5)] below meth c n0 (FinQ s n0 (Qcon0 Z n0 h0 x0 x1 x2 x3 x4 x5) room_1.cells room_1.slots) h1710 9 27 527 #[.val (.long x0), .second, .val (.long x1), .second, iv x2, iv x3, iv x4, iv x5, rv a921, rv a952, rv a970, iv b11, iv 0, iv ((XT.ushr x2 2) &&& 3), rv a1001, rv a1077, iv 1, rv a1145, rv a1164, rv a1185, iv 0, iv 0, rv a1622, .unset] [(.int 1)]
              refine C.istore (Ls' := #[.val (.long x0), .second, .val (.long x1), .second, iv x2, iv x3, iv x4, iv x5, rv a921, rv a952, rv a970, iv b11, iv 0, iv ((XT.ushr x2 2) &&& 3), rv a1001, rv a1077, iv 1, rv a1145, rv a1164, rv a1185, iv 0, iv 0, rv a1622, iv 1]) at_527 rfl rfl ?_
              refine C.iload at_529 rfl rfl ?_
              refine C.if_eq_f at_531 rfl (by decide) ?_
              refine C.iload at_534 rfl rfl ?_
              refine C.iconst 1 at_536 rfl rfl ?_
              refine C.icmp_ne_f at_537 rfl (by decide) ?_
              refine C.aload at_540 rfl rfl rfl ?_
              refine C.callV (argsL := []) (rest := []) 0 (fun zz => au1460_7 l Z a0 hw n0 h1710 zz a1001 (own_cr cq) (own_cl co pv cq) (own_ln ln pv cq) (own_bg cq) F1717 F1732 F1731 F1730 F1733 g1007) F1717 at_542 rfl (tw hw 37 rfl) (tw hw 38 rfl) (tw hw 39 rfl) (tw hw 40 rfl) (tw hw 9 rfl) (tw hw 41 rfl) (by decide) pd_5 rfl rfl rfl (Nat.le_of_eq rfl) (by decide) (by decide) (by decide) (by decide) (fun v1734 h1735 r1736 => ?_)
              obtain ⟨rfl, rfl⟩ := r1736
              refine C.aload at_545 rfl rfl rfl ?_
              refine C.iconst 0 at_547 rfl rfl ?_
              refine C.iaload (.int (own_ln ln pv cq)) at_548 rfl F1728 (by decide) rfl ?_
              refine C.icmp_ne_f at_549 rfl rfl ?_
              refine C.aload at_552 rfl rfl rfl ?_
              refine C.callV (argsL := []) (rest := []) 0 (fun zz => au1465_8 l Z a0 hw n0 h1710 zz a1001 (own_cr cq) (own_cl co pv cq) (own_ln ln pv cq) (own_bg cq) F1717 F1732 F1731 F1730 F1733 g1007) F1717 at_554 rfl (tw hw 42 rfl) (tw hw 43 rfl) (tw hw 44 rfl) (tw hw 45 rfl) (tw hw 9 rfl) (tw hw 46 rfl) (by decide) pd_5 rfl rfl rfl (Nat.le_of_eq rfl) (by decide) (by decide) (by decide) (by decide) (fun v1738 h1739 r1740 => ?_)
              obtain ⟨rfl, rfl⟩ := r1740
              refine C.aload at_557 rfl rfl rfl ?_
              refine C.iconst 1 at_559 rfl rfl ?_
              refine C.iaload (.int (own_cl co pv cq)) at_560 rfl F1728 (by decide) rfl ?_
              refine C.icmp_ne_f at_561 rfl rfl ?_
              refine C.iconst 1 at_564 rfl rfl ?_
              refine C.goto at_565 (by decide) rfl ?_
              exact C.retZ at_569 rfl (by decide) (by decide) ⟨rfl, trivial⟩
            refine C.iconst 1 at_379 rfl rfl ?_
            refine C.istore (Ls' := #[.val (.long x0), .second, .val (.long x1), .second, iv x2, iv x3, iv x4, iv x5, rv a921, rv a952, rv a970, iv b11, iv 0, iv ((XT.ushr x2 2) &&& 3), rv a1001, rv a1077, iv 1, rv a1145, rv a1164, rv a1185, iv 1, .unset, .unset, .unset]) at_380 rfl rfl ?_
            refine C.iload at_382 rfl rfl ?_
            refine C.if_gt_f at_384 rfl (by decide) ?_
            refine C.iconst 0 at_387 rfl rfl ?_
            refine C.iload at_388 rfl rfl ?_
            refine C.iload at_390 rfl rfl ?_
            refine C.aload at_392 rfl rfl rfl ?_
            refine C.iconst 0 at_394 rfl rfl ?_
            refine C.iaload (.int ln) at_395 rfl F1421 (by decide) rfl ?_
            refine C.aload at_396 rfl rfl rfl ?_
            refine C.iconst 0 at_398 rfl rfl ?_
            refine C.iaload (.int co) at_399 rfl F1422 (by decide) rfl ?_
            refine C.iload at_400 rfl rfl ?_
            refine C.iload at_402 rfl rfl ?_
            refine C.callS (argsL := [(.int 0), (.int ((XT.ushr x2 2) &&& 3)), (.int x3), (.int ln), (.int co), (.int x4), (.int x5)]) (rest := []) 0 (fun zz => con_stops l Z a0 hw n0 h1410 zz 0 ((XT.ushr x2 2) &&& 3) x3 ln co x4 x5 ) at_404 rfl (tw hw 25 rfl) (tw hw 26 rfl) (tw hw 3 rfl) (tw hw 27 rfl) (by decide) pd_3 rfl rfl rfl (Nat.le_of_eq rfl) (by decide) (by decide) (by decide) (by decide) (fun v1742 h1743 r1744 => ?_)
            obtain ⟨rfl, rfl⟩ := r1744
            refine C.if_eq at_407 (by decide) rfl rfl (fun q407 => ?_) (fun q407 => ?_)
            · refine C.aload at_413 rfl rfl rfl ?_
              refine C.aload at_415 rfl rfl rfl ?_
              refine C.iload at_417 rfl rfl ?_
              refine C.iload at_419 rfl rfl ?_
              refine C.iload at_421 rfl rfl ?_
              refine C.iload at_423 rfl rfl ?_
              refine C.iload at_425 rfl rfl ?_
              refine C.callV (argsL := [(.ref a921), (.int 0), (.int ((XT.ushr x2 2) &&& 3)), (.int x3), (.int x4), (.int x5)]) (rest := []) 0 (fun zz => con_pass_3_0 l Z a0 hw n0 h1410 zz a1001 a921 ((XT.ushr x2 2) &&& 3) x3 x4 x5 ln co pv c0 c1 c2 F1413 F1414 F1415 F1416 F1417 F1418 g1007 (Ne.symm ne1008) (own_to _) nc0 nc1 nc2) F1413 at_427 rfl (tw hw 28 rfl) (tw hw 29 rfl) (tw hw 30 rfl) (tw hw 31 rfl) (tw hw 9 rfl) (tw hw 32 rfl) (by decide) pd_4 rfl rfl rfl (Nat.le_of_eq rfl) (by decide) (by decide) (by decide) (by decide) (fun v1746 h1747 r1748 => ?_)
              obtain ⟨rfl, K1749, F1750, F1751, F1752, F1753⟩ := r1748
              have F1754 := F1413.keep K1749
              have F1759 := F1418.keep K1749 (ninS ne1008 nin0)
              have F1760 := F1419.keep K1749 (ninS ne1010 nin0)
              have F1761 := F1420.keep K1749 (ninS (Ne.symm ne1086) nin0)
              have F1762 := F1421.keep K1749 (ninS (Ne.symm ne1153) nin0)
              have F1763 := F1422.keep K1749 (ninS (Ne.symm ne1172) nin0)
              have F1764 := F1423.keep K1749 (ninS (Ne.symm ne1193) nin0)
              have kE1765 : (own_pass ((XT.ushr x2 2) &&& 3) x3 x4 x5 0 [c0, c1, c2] ln co pv) = (1, (own_ln ln pv c0), (own_cl co pv c0), c0) := ((own_go (own_stop0.mp q407)).trans (own_no (fun h => q376 (own_stop0.mpr h))))
              have F1766 : Fld Z h1747 a1001 "com/example/dodder/dodder/PlacedText$Counter" "line" "I" (.int (own_ln ln pv c0)) := by have q := F1750; rw [kE1765] at q; exact q
              have F1767 : Fld Z h1747 a1001 "com/example/dodder/dodder/PlacedText$Counter" "column" "I" (.int (own_cl co pv c0)) := by have q := F1751; rw [kE1765] at q; exact q
              have F1768 : Fld Z h1747 a1001 "com/example/dodder/dodder/PlacedText$Counter" "afterCarriageReturn" "Z" (.int (own_cr c0)) := by have q := F1752; rw [kE1765] at q; exact q
              have F1769 : Fld Z h1747 a1001 "com/example/dodder/dodder/PlacedText$Counter" "started" "Z" (.int (own_bg c0)) := by have q := F1753; rw [kE1765] at q; exact q
              rw [kE1765]
              show Go p l e room_1 s m #[(.long x0), (.long x1), (.int x2), (.int x3), (.int x4), (.int x5)] below meth c n0 (FinQ s n0 (Qcon0 Z n0 h0 x0 x1 x2 x3 x4 x5) room_1.cells room_1.slots) h1747 8 24 430 #[.val (.long x0), .second, .val (.long x1), .second, iv x2, iv x3, iv x4, iv x5, rv a921, rv a952, rv a970, iv b11, iv 0, iv ((XT.ushr x2 2) &&& 3), rv a1001, rv a1077, iv 1, rv a1145, rv a1164, rv a1185, iv 1, .unset, .unset, .unset] [(.int 1)]
              refine C.istore (Ls' := #[.val (.long x0), .second, .val (.long x1), .second, iv x2, iv x3, iv x4, iv x5, rv a921, rv a952, rv a970, iv b11, iv 0, iv ((XT.ushr x2 2) &&& 3), rv a1001, rv a1077, iv 1, rv a1145, rv a1164, rv a1185, iv 1, iv 1, .unset, .unset]) at_430 rfl rfl ?_
              refine C.iload at_432 rfl rfl ?_
              refine C.if_eq_f at_434 rfl (by decide) ?_
              refine C.iload at_437 rfl rfl ?_
              refine C.iload at_439 rfl rfl ?_
              refine C.icmp_ne_f at_441 rfl (by decide) ?_
              refine C.aload at_444 rfl rfl rfl ?_
              refine C.callV (argsL := []) (rest := []) 0 (fun zz => au1460_7 l Z a0 hw n0 h1747 zz a1001 (own_cr c0) (own_cl co pv c0) (own_ln ln pv c0) (own_bg c0) F1754 F1768 F1767 F1766 F1769 g1007) F1754 at_446 rfl (tw hw 37 rfl) (tw hw 38 rfl) (tw hw 39 rfl) (tw hw 40 rfl) (tw hw 9 rfl) (tw hw 41 rfl) (by decide) pd_5 rfl rfl rfl (Nat.le_of_eq rfl) (by decide) (by decide) (by decide) (by decide) (fun v1770 h1771 r1772 => ?_)
              obtain ⟨rfl, rfl⟩ := r1772
              refine C.aload at_449 rfl rfl rfl ?_
              refine C.iload at_451 rfl rfl ?_
              refine C.iaload (.int (own_ln ln pv c0)) at_453 rfl F1762 (by decide) rfl ?_
              refine C.icmp_ne_f at_454 rfl rfl ?_
              refine C.aload at_457 rfl rfl rfl ?_
              refine C.callV (argsL := []) (rest := []) 0 (fun zz => au1465_8 l Z a0 hw n0 h1747 zz a1001 (own_cr c0) (own_cl co pv c0) (own_ln ln pv c0) (own_bg c0) F1754 F1768 F1767 F1766 F1769 g1007) F1754 at_459 rfl (tw hw 42 rfl) (tw hw 43 rfl) (tw hw 44 rfl) (tw hw 45 rfl) (tw hw 9 rfl) (tw hw 46 rfl) (by decide) pd_5 rfl rfl rfl (Nat.le_of_eq rfl) (by decide) (by decide) (by decide) (by decide) (fun v1774 h1775 r1776 => ?_)
              obtain ⟨rfl, rfl⟩ := r1776
              refine C.aload at_462 rfl rfl rfl ?_
              refine C.iload at_464 rfl rfl ?_
              refine C.iaload (.int (own_cl co pv c0)) at_466 rfl F1763 (by decide) rfl ?_
              refine C.icmp_ne_f at_467 rfl rfl ?_
              refine C.iconst 1 at_470 rfl rfl ?_
              refine C.goto at_471 (by decide) rfl ?_
              refine C.istore (Ls' := #[.val (.long x0), .second, .val (.long x1), .second, iv x2, iv x3, iv x4, iv x5, rv a921, rv a952, rv a970, iv b11, iv 0, iv ((XT.ushr x2 2) &&& 3), rv a1001, rv a1077, iv 1, rv a1145, rv a1164, rv a1185, iv 1, iv 1, .unset, .unset]) at_475 rfl rfl ?_
              refine C.iconst 3 at_477 rfl rfl ?_
              refine C.newarr 3 at_478 rfl rfl (tw hw 20 rfl) (by decide) (by decide) (by decide) (by decide) (by decide) (fun a1778 h1779 z1782 g1783 X1780 F1781 => ?_)
              have ne1784 : a921 ≠ a1778 := by rw [z1782]; exact Nat.ne_of_lt F1759.lt
              have ne1785 : a970 ≠ a1778 := by rw [z1782]; exact Nat.ne_of_lt F1760.lt
              have ne1786 : a1001 ≠ a1778 := by rw [z1782]; exact Nat.ne_of_lt F1754.lt
              have ne1787 : a1077 ≠ a1778 := by rw [z1782]; exact Nat.ne_of_lt F1761.lt
              have ne1788 : a1145 ≠ a1778 := by rw [z1782]; exact Nat.ne_of_lt F1762.lt
              have ne1789 : a1164 ≠ a1778 := by rw [z1782]; exact Nat.ne_of_lt F1763.lt
              have ne1790 : a1185 ≠ a1778 := by rw [z1782]; exact Nat.ne_of_lt F1764.lt
              have F1791 := Exa.ext X1780 F1754
              have F1792 := F1759.ext X1780
              have F1793 := F1760.ext X1780
              have F1794 := F1761.ext X1780
              have F1795 := F1762.ext X1780
              have F1796 := F1763.ext X1780
              have F1797 := F1764.ext X1780
              have F1798 := Fld.ext X1780 F1766
              have F1799 := Fld.ext X1780 F1767
              have F1800 := Fld.ext X1780 F1768
              have F1801 := Fld.ext X1780 F1769
              have F1802 : Av Z h1779 a1778 .int ([.int 0, .int 0, .int 0]) := F1781
              refine C.dup at_480 rfl rfl ?_
              refine C.iconst 0 at_481 rfl rfl ?_
              refine C.aload at_482 rfl rfl rfl ?_
              refine C.iload at_484 rfl rfl ?_
              refine C.iaload (.int (own_ln ln pv c0)) at_486 rfl F1795 (by decide) rfl ?_
              refine C.iastore at_487 rfl F1802 g1783 (by decide) (Nat.le_of_ble_eq_true rfl) (fun h1803 W1804 F1805 => ?_)
              have F1806 := Exa.wr W1804 F1791
              have F1807 := F1792.other W1804 ne1784
              have F1808 := F1793.other W1804 ne1785
              have F1809 := F1794.other W1804 ne1787
              have F1810 := F1795.other W1804 ne1788
              have F1811 := F1796.other W1804 ne1789
              have F1812 := F1797.other W1804 ne1790
              have F1813 := Fld.other W1804 F1798 (Or.inl ne1786)
              have F1814 := Fld.other W1804 F1799 (Or.inl ne1786)
              have F1815 := Fld.other W1804 F1800 (Or.inl ne1786)
              have F1816 := Fld.other W1804 F1801 (Or.inl ne1786)
              have F1817 : Av Z h1803 a1778 .int ([.int (own_ln ln pv c0), .int 0, .int 0]) := F1805
              refine C.dup at_488 rfl rfl ?_
              refine C.iconst 1 at_489 rfl rfl ?_
              refine C.aload at_490 rfl rfl rfl ?_
              refine C.iload at_492 rfl rfl ?_
              refine C.iaload (.int (own_cl co pv c0)) at_494 rfl F1811 (by decide) rfl ?_
              refine C.iastore at_495 rfl F1817 g1783 (by decide) (Nat.le_of_ble_eq_true rfl) (fun h1818 W1819 F1820 => ?_)
              have F1821 := Exa.wr W1819 F1806
              have F1822 := F1807.other W1819 ne1784
              have F1823 := F1808.other W1819 ne1785
              have F1824 := F1809.other W1819 ne1787
              have F1825 := F1810.other W1819 ne1788
              have F1826 := F1811.other W1819 ne1789
              have F1827 := F1812.other W1819 ne1790
              have F1828 := Fld.other W1819 F1813 (Or.inl ne1786)
              have F1829 := Fld.other W1819 F1814 (Or.inl ne1786)
              have F1830 := Fld.other W1819 F1815 (Or.inl ne1786)
              have F1831 := Fld.other W1819 F1816 (Or.inl ne1786)
              have F1832 : Av Z h1818 a1778 .int ([.int (own_ln ln pv c0), .int (own_cl co pv c0), .int 0]) := F1820
              refine C.dup at_496 rfl rfl ?_
              refine C.iconst 2 at_497 rfl rfl ?_
              refine C.aload at_498 rfl rfl rfl ?_
              refine C.iload at_500 rfl rfl ?_
              refine C.iaload (.int c0) at_502 rfl F1827 (by decide) rfl ?_
              refine C.iastore at_503 rfl F1832 g1783 (by decide) (Nat.le_of_ble_eq_true rfl) (fun h1833 W1834 F1835 => ?_)
              have F1836 := Exa.wr W1834 F1821
              have F1837 := F1822.other W1834 ne1784
              have F1838 := F1823.other W1834 ne1785
              have F1839 := F1824.other W1834 ne1787
              have F1840 := F1825.other W1834 ne1788
              have F1841 := F1826.other W1834 ne1789
              have F1842 := F1827.other W1834 ne1790
              have F1843 := Fld.other W1834 F1828 (Or.inl ne1786)
              have F1844 := Fld.other W1834 F1829 (Or.inl ne1786)
              have F1845 := Fld.other W1834 F1830 (Or.inl ne1786)
              have F1846 := Fld.other W1834 F1831 (Or.inl ne1786)
              have F1847 : Av Z h1833 a1778 .int ([.int (own_ln ln pv c0), .int (own_cl co pv c0), .int c0]) := F1835
              refine C.astore (Ls' := #[.val (.long x0), .second, .val (.long x1), .second, iv x2, iv x3, iv x4, iv x5, rv a921, rv a952, rv a970, iv b11, iv 0, iv ((XT.ushr x2 2) &&& 3), rv a1001, rv a1077, iv 1, rv a1145, rv a1164, rv a1185, iv 1, iv 1, rv a1778, .unset]) at_504 rfl rfl rfl ?_
              refine C.aload at_506 rfl rfl rfl ?_
              refine C.aload at_508 rfl rfl rfl ?_
              refine C.iconst 0 at_510 rfl rfl ?_
              refine C.caload (.int cq) at_511 rfl F1838 (by decide) rfl ?_
              refine C.callS (argsL := [(.ref a1778), (.int cq)]) (rest := []) 0 (fun zz => con_step l Z a0 hw n0 h1833 zz a1778 cq (own_ln ln pv c0) (own_cl co pv c0) c0 F1847 g1783) at_512 rfl (tw hw 21 rfl) (tw hw 22 rfl) (tw hw 3 rfl) (tw hw 23 rfl) (by decide) pd_2 rfl rfl rfl (Nat.le_of_eq rfl) (by decide) (by decide) (by decide) (by decide) (fun v1848 h1849 r1850 => ?_)
              obtain ⟨rfl, K1851, F1852⟩ := r1850
              have F1853 := F1836.keep K1851
              have F1854 := F1837.keep K1851 (ninS ne1784 nin0)
              have F1855 := F1838.keep K1851 (ninS ne1785 nin0)
              have F1856 := F1839.keep K1851 (ninS ne1787 nin0)
              have F1857 := F1840.keep K1851 (ninS ne1788 nin0)
              have F1858 := F1841.keep K1851 (ninS ne1789 nin0)
              have F1859 := F1842.keep K1851 (ninS ne1790 nin0)
              have F1860 := F1843.keep K1851 (ninS ne1786 nin0)
              have F1861 := F1844.keep K1851 (ninS ne1786 nin0)
              have F1862 := F1845.keep K1851 (ninS ne1786 nin0)
              have F1863 := F1846.keep K1851 (ninS ne1786 nin0)
              refine C.aload at_515 rfl rfl rfl ?_
              refine C.aload at_517 rfl rfl rfl ?_
              refine C.iconst 0 at_519 rfl rfl ?_
              refine C.iconst 1 at_520 rfl rfl ?_
              refine C.iconst 1 at_521 rfl rfl ?_
              refine C.iconst 0 at_522 rfl rfl ?_
              refine C.iconst 0 at_523 rfl rfl ?_
              refine C.callV (argsL := [(.ref a970), (.int 0), (.int 1), (.int 1), (.int 0), (.int 0)]) (rest := []) 0 (fun zz => con_pass_1_0 l Z a0 hw n0 h1849 zz a1001 a970 1 1 0 0 (own_ln ln pv c0) (own_cl co pv c0) c0 cq F1853 F1860 F1861 F1862 F1863 F1855 g1007 (Ne.symm ne1010) (by decide) ncq) F1853 at_524 rfl (tw hw 28 rfl) (tw hw 29 rfl) (tw hw 30 rfl) (tw hw 31 rfl) (tw hw 9 rfl) (tw hw 32 rfl) (by decide) pd_4 rfl rfl rfl (Nat.le_of_eq rfl) (by decide) (by decide) (by decide) (by decide) (fun v1865 h1866 r1867 => ?_)
              obtain ⟨rfl, K1868, F1869, F1870, F1871, F1872⟩ := r1867
              have F1873 := F1853.keep K1868
              have F1874 := F1854.keep K1868 (ninS ne1008 nin0)
              have F1875 := F1855.keep K1868 (ninS ne1010 nin0)
              have F1876 := F1856.keep K1868 (ninS (Ne.symm ne1086) nin0)
              have F1877 := F1857.keep K1868 (ninS (Ne.symm ne1153) nin0)
              have F1878 := F1858.keep K1868 (ninS (Ne.symm ne1172) nin0)
              have F1879 := F1859.keep K1868 (ninS (Ne.symm ne1193) nin0)
              have F1884 := F1852.keep K1868 (ninS (Ne.symm ne1786) nin0)
              have kE1885 : (own_pass 1 1 0 0 0 [cq] (own_ln ln pv c0) (own_cl co pv c0) c0) = (1, own_ln (own_ln ln pv c0) c0 cq, own_cl (own_cl co pv c0) c0 cq, cq) := own_go ⟨by decide, Or.inl (by decide)⟩
              have F1886 : Fld Z h1866 a1001 "com/example/dodder/dodder/PlacedText$Counter" "line" "I" (.int (own_ln (own_ln ln pv c0) c0 cq)) := by have q := F1869; rw [kE1885] at q; exact q
              have F1887 : Fld Z h1866 a1001 "com/example/dodder/dodder/PlacedText$Counter" "column" "I" (.int (own_cl (own_cl co pv c0) c0 cq)) := by have q := F1870; rw [kE1885] at q; exact q
              have F1888 : Fld Z h1866 a1001 "com/example/dodder/dodder/PlacedText$Counter" "afterCarriageReturn" "Z" (.int (own_cr cq)) := by have q := F1871; rw [kE1885] at q; exact q
              have F1889 : Fld Z h1866 a1001 "com/example/dodder/dodder/PlacedText$Counter" "started" "Z" (.int (own_bg cq)) := by have q := F1872; rw [kE1885] at q; exact q
              rw [kE1885]
              show Go p l e room_1 s m #[(.long x0), (.long x1), (.int x2), (.int x3), (.int x4), (.int x5)] below meth c n0 (FinQ s n0 (Qcon0 Z n0 h0 x0 x1 x2 x3 x4 x5) room_1.cells room_1.slots) h1866 9 27 527 #[.val (.long x0), .second, .val (.long x1), .second, iv x2, iv x3, iv x4, iv x5, rv a921, rv a952, rv a970, iv b11, iv 0, iv ((XT.ushr x2 2) &&& 3), rv a1001, rv a1077, iv 1, rv a1145, rv a1164, rv a1185, iv 1, iv 1, rv a1778, .unset] [(.int 1)]
              refine C.istore (Ls' := #[.val (.long x0), .second, .val (.long x1), .second, iv x2, iv x3, iv x4, iv x5, rv a921, rv a952, rv a970, iv b11, iv 0, iv ((XT.ushr x2 2) &&& 3), rv a1001, rv a1077, iv 1, rv a1145, rv a1164, rv a1185, iv 1, iv 1, rv a1778, iv 1]) at_527 rfl rfl ?_
              refine C.iload at_529 rfl rfl ?_
              refine C.if_eq_f at_531 rfl (by decide) ?_
              refine C.iload at_534 rfl rfl ?_
              refine C.iconst 1 at_536 rfl rfl ?_
              refine C.icmp_ne_f at_537 rfl (by decide) ?_
              refine C.aload at_540 rfl rfl rfl ?_
              refine C.callV (argsL := []) (rest := []) 0 (fun zz => au1460_7 l Z a0 hw n0 h1866 zz a1001 (own_cr cq) (own_cl (own_cl co pv c0) c0 cq) (own_ln (own_ln ln pv c0) c0 cq) (own_bg cq) F1873 F1888 F1887 F1886 F1889 g1007) F1873 at_542 rfl (tw hw 37 rfl) (tw hw 38 rfl) (tw hw 39 rfl) (tw hw 40 rfl) (tw hw 9 rfl) (tw hw 41 rfl) (by decide) pd_5 rfl rfl rfl (Nat.le_of_eq rfl) (by decide) (by decide) (by decide) (by decide) (fun v1890 h1891 r1892 => ?_)
              obtain ⟨rfl, rfl⟩ := r1892
              refine C.aload at_545 rfl rfl rfl ?_
              refine C.iconst 0 at_547 rfl rfl ?_
              refine C.iaload (.int (own_ln (own_ln ln pv c0) c0 cq)) at_548 rfl F1884 (by decide) rfl ?_
              refine C.icmp_ne_f at_549 rfl rfl ?_
              refine C.aload at_552 rfl rfl rfl ?_
              refine C.callV (argsL := []) (rest := []) 0 (fun zz => au1465_8 l Z a0 hw n0 h1866 zz a1001 (own_cr cq) (own_cl (own_cl co pv c0) c0 cq) (own_ln (own_ln ln pv c0) c0 cq) (own_bg cq) F1873 F1888 F1887 F1886 F1889 g1007) F1873 at_554 rfl (tw hw 42 rfl) (tw hw 43 rfl) (tw hw 44 rfl) (tw hw 45 rfl) (tw hw 9 rfl) (tw hw 46 rfl) (by decide) pd_5 rfl rfl rfl (Nat.le_of_eq rfl) (by decide) (by decide) (by decide) (by decide) (fun v1894 h1895 r1896 => ?_)
              obtain ⟨rfl, rfl⟩ := r1896
              refine C.aload at_557 rfl rfl rfl ?_
              refine C.iconst 1 at_559 rfl rfl ?_
              refine C.iaload (.int (own_cl (own_cl co pv c0) c0 cq)) at_560 rfl F1884 (by decide) rfl ?_
              refine C.icmp_ne_f at_561 rfl rfl ?_
              refine C.iconst 1 at_564 rfl rfl ?_
              refine C.goto at_565 (by decide) rfl ?_
              exact C.retZ at_569 rfl (by decide) (by decide) ⟨rfl, trivial⟩
            refine C.iconst 0 at_410 rfl rfl ?_
            refine C.istore (Ls' := #[.val (.long x0), .second, .val (.long x1), .second, iv x2, iv x3, iv x4, iv x5, rv a921, rv a952, rv a970, iv b11, iv 0, iv ((XT.ushr x2 2) &&& 3), rv a1001, rv a1077, iv 1, rv a1145, rv a1164, rv a1185, iv 0, .unset, .unset, .unset]) at_411 rfl rfl ?_
            refine C.aload at_413 rfl rfl rfl ?_
            refine C.aload at_415 rfl rfl rfl ?_
            refine C.iload at_417 rfl rfl ?_
            refine C.iload at_419 rfl rfl ?_
            refine C.iload at_421 rfl rfl ?_
            refine C.iload at_423 rfl rfl ?_
            refine C.iload at_425 rfl rfl ?_
            refine C.callV (argsL := [(.ref a921), (.int 0), (.int ((XT.ushr x2 2) &&& 3)), (.int x3), (.int x4), (.int x5)]) (rest := []) 0 (fun zz => con_pass_3_0 l Z a0 hw n0 h1410 zz a1001 a921 ((XT.ushr x2 2) &&& 3) x3 x4 x5 ln co pv c0 c1 c2 F1413 F1414 F1415 F1416 F1417 F1418 g1007 (Ne.symm ne1008) (own_to _) nc0 nc1 nc2) F1413 at_427 rfl (tw hw 28 rfl) (tw hw 29 rfl) (tw hw 30 rfl) (tw hw 31 rfl) (tw hw 9 rfl) (tw hw 32 rfl) (by decide) pd_4 rfl rfl rfl (Nat.le_of_eq rfl) (by decide) (by decide) (by decide) (by decide) (fun v1898 h1899 r1900 => ?_)
            obtain ⟨rfl, K1901, F1902, F1903, F1904, F1905⟩ := r1900
            have F1906 := F1413.keep K1901
            have F1911 := F1418.keep K1901 (ninS ne1008 nin0)
            have F1912 := F1419.keep K1901 (ninS ne1010 nin0)
            have F1913 := F1420.keep K1901 (ninS (Ne.symm ne1086) nin0)
            have F1914 := F1421.keep K1901 (ninS (Ne.symm ne1153) nin0)
            have F1915 := F1422.keep K1901 (ninS (Ne.symm ne1172) nin0)
            have F1916 := F1423.keep K1901 (ninS (Ne.symm ne1193) nin0)
            have kE1917 : (own_pass ((XT.ushr x2 2) &&& 3) x3 x4 x5 0 [c0, c1, c2] ln co pv) = (0, ln, co, pv) := (own_no (fun h => q407 (own_stop0.mpr h)))
            have F1918 : Fld Z h1899 a1001 "com/example/dodder/dodder/PlacedText$Counter" "line" "I" (.int ln) := by have q := F1902; rw [kE1917] at q; exact q
            have F1919 : Fld Z h1899 a1001 "com/example/dodder/dodder/PlacedText$Counter" "column" "I" (.int co) := by have q := F1903; rw [kE1917] at q; exact q
            have F1920 : Fld Z h1899 a1001 "com/example/dodder/dodder/PlacedText$Counter" "afterCarriageReturn" "Z" (.int (own_cr pv)) := by have q := F1904; rw [kE1917] at q; exact q
            have F1921 : Fld Z h1899 a1001 "com/example/dodder/dodder/PlacedText$Counter" "started" "Z" (.int (own_bg pv)) := by have q := F1905; rw [kE1917] at q; exact q
            rw [kE1917]
            show Go p l e room_1 s m #[(.long x0), (.long x1), (.int x2), (.int x3), (.int x4), (.int x5)] below meth c n0 (FinQ s n0 (Qcon0 Z n0 h0 x0 x1 x2 x3 x4 x5) room_1.cells room_1.slots) h1899 8 24 430 #[.val (.long x0), .second, .val (.long x1), .second, iv x2, iv x3, iv x4, iv x5, rv a921, rv a952, rv a970, iv b11, iv 0, iv ((XT.ushr x2 2) &&& 3), rv a1001, rv a1077, iv 1, rv a1145, rv a1164, rv a1185, iv 0, .unset, .unset, .unset] [(.int 0)]
            refine C.istore (Ls' := #[.val (.long x0), .second, .val (.long x1), .second, iv x2, iv x3, iv x4, iv x5, rv a921, rv a952, rv a970, iv b11, iv 0, iv ((XT.ushr x2 2) &&& 3), rv a1001, rv a1077, iv 1, rv a1145, rv a1164, rv a1185, iv 0, iv 0, .unset, .unset]) at_430 rfl rfl ?_
            refine C.iload at_432 rfl rfl ?_
            refine C.if_eq_f at_434 rfl (by decide) ?_
            refine C.iload at_437 rfl rfl ?_
            refine C.iload at_439 rfl rfl ?_
            refine C.icmp_ne_f at_441 rfl (by decide) ?_
            refine C.aload at_444 rfl rfl rfl ?_
            refine C.callV (argsL := []) (rest := []) 0 (fun zz => au1460_7 l Z a0 hw n0 h1899 zz a1001 (own_cr pv) co ln (own_bg pv) F1906 F1920 F1919 F1918 F1921 g1007) F1906 at_446 rfl (tw hw 37 rfl) (tw hw 38 rfl) (tw hw 39 rfl) (tw hw 40 rfl) (tw hw 9 rfl) (tw hw 41 rfl) (by decide) pd_5 rfl rfl rfl (Nat.le_of_eq rfl) (by decide) (by decide) (by decide) (by decide) (fun v1922 h1923 r1924 => ?_)
            obtain ⟨rfl, rfl⟩ := r1924
            refine C.aload at_449 rfl rfl rfl ?_
            refine C.iload at_451 rfl rfl ?_
            refine C.iaload (.int ln) at_453 rfl F1914 (by decide) rfl ?_
            refine C.icmp_ne_f at_454 rfl rfl ?_
            refine C.aload at_457 rfl rfl rfl ?_
            refine C.callV (argsL := []) (rest := []) 0 (fun zz => au1465_8 l Z a0 hw n0 h1899 zz a1001 (own_cr pv) co ln (own_bg pv) F1906 F1920 F1919 F1918 F1921 g1007) F1906 at_459 rfl (tw hw 42 rfl) (tw hw 43 rfl) (tw hw 44 rfl) (tw hw 45 rfl) (tw hw 9 rfl) (tw hw 46 rfl) (by decide) pd_5 rfl rfl rfl (Nat.le_of_eq rfl) (by decide) (by decide) (by decide) (by decide) (fun v1926 h1927 r1928 => ?_)
            obtain ⟨rfl, rfl⟩ := r1928
            refine C.aload at_462 rfl rfl rfl ?_
            refine C.iload at_464 rfl rfl ?_
            refine C.iaload (.int co) at_466 rfl F1915 (by decide) rfl ?_
            refine C.icmp_ne_f at_467 rfl rfl ?_
            refine C.iconst 1 at_470 rfl rfl ?_
            refine C.goto at_471 (by decide) rfl ?_
            refine C.istore (Ls' := #[.val (.long x0), .second, .val (.long x1), .second, iv x2, iv x3, iv x4, iv x5, rv a921, rv a952, rv a970, iv b11, iv 0, iv ((XT.ushr x2 2) &&& 3), rv a1001, rv a1077, iv 1, rv a1145, rv a1164, rv a1185, iv 0, iv 0, .unset, .unset]) at_475 rfl rfl ?_
            refine C.iconst 3 at_477 rfl rfl ?_
            refine C.newarr 3 at_478 rfl rfl (tw hw 20 rfl) (by decide) (by decide) (by decide) (by decide) (by decide) (fun a1930 h1931 z1934 g1935 X1932 F1933 => ?_)
            have ne1936 : a921 ≠ a1930 := by rw [z1934]; exact Nat.ne_of_lt F1911.lt
            have ne1937 : a970 ≠ a1930 := by rw [z1934]; exact Nat.ne_of_lt F1912.lt
            have ne1938 : a1001 ≠ a1930 := by rw [z1934]; exact Nat.ne_of_lt F1906.lt
            have ne1939 : a1077 ≠ a1930 := by rw [z1934]; exact Nat.ne_of_lt F1913.lt
            have ne1940 : a1145 ≠ a1930 := by rw [z1934]; exact Nat.ne_of_lt F1914.lt
            have ne1941 : a1164 ≠ a1930 := by rw [z1934]; exact Nat.ne_of_lt F1915.lt
            have ne1942 : a1185 ≠ a1930 := by rw [z1934]; exact Nat.ne_of_lt F1916.lt
            have F1943 := Exa.ext X1932 F1906
            have F1944 := F1911.ext X1932
            have F1945 := F1912.ext X1932
            have F1946 := F1913.ext X1932
            have F1947 := F1914.ext X1932
            have F1948 := F1915.ext X1932
            have F1949 := F1916.ext X1932
            have F1950 := Fld.ext X1932 F1918
            have F1951 := Fld.ext X1932 F1919
            have F1952 := Fld.ext X1932 F1920
            have F1953 := Fld.ext X1932 F1921
            have F1954 : Av Z h1931 a1930 .int ([.int 0, .int 0, .int 0]) := F1933
            refine C.dup at_480 rfl rfl ?_
            refine C.iconst 0 at_481 rfl rfl ?_
            refine C.aload at_482 rfl rfl rfl ?_
            refine C.iload at_484 rfl rfl ?_
            refine C.iaload (.int ln) at_486 rfl F1947 (by decide) rfl ?_
            refine C.iastore at_487 rfl F1954 g1935 (by decide) (Nat.le_of_ble_eq_true rfl) (fun h1955 W1956 F1957 => ?_)
            have F1958 := Exa.wr W1956 F1943
            have F1959 := F1944.other W1956 ne1936
            have F1960 := F1945.other W1956 ne1937
            have F1961 := F1946.other W1956 ne1939
            have F1962 := F1947.other W1956 ne1940
            have F1963 := F1948.other W1956 ne1941
            have F1964 := F1949.other W1956 ne1942
            have F1965 := Fld.other W1956 F1950 (Or.inl ne1938)
            have F1966 := Fld.other W1956 F1951 (Or.inl ne1938)
            have F1967 := Fld.other W1956 F1952 (Or.inl ne1938)
            have F1968 := Fld.other W1956 F1953 (Or.inl ne1938)
            have F1969 : Av Z h1955 a1930 .int ([.int ln, .int 0, .int 0]) := F1957
            refine C.dup at_488 rfl rfl ?_
            refine C.iconst 1 at_489 rfl rfl ?_
            refine C.aload at_490 rfl rfl rfl ?_
            refine C.iload at_492 rfl rfl ?_
            refine C.iaload (.int co) at_494 rfl F1963 (by decide) rfl ?_
            refine C.iastore at_495 rfl F1969 g1935 (by decide) (Nat.le_of_ble_eq_true rfl) (fun h1970 W1971 F1972 => ?_)
            have F1973 := Exa.wr W1971 F1958
            have F1974 := F1959.other W1971 ne1936
            have F1975 := F1960.other W1971 ne1937
            have F1976 := F1961.other W1971 ne1939
            have F1977 := F1962.other W1971 ne1940
            have F1978 := F1963.other W1971 ne1941
            have F1979 := F1964.other W1971 ne1942
            have F1980 := Fld.other W1971 F1965 (Or.inl ne1938)
            have F1981 := Fld.other W1971 F1966 (Or.inl ne1938)
            have F1982 := Fld.other W1971 F1967 (Or.inl ne1938)
            have F1983 := Fld.other W1971 F1968 (Or.inl ne1938)
            have F1984 : Av Z h1970 a1930 .int ([.int ln, .int co, .int 0]) := F1972
            refine C.dup at_496 rfl rfl ?_
            refine C.iconst 2 at_497 rfl rfl ?_
            refine C.aload at_498 rfl rfl rfl ?_
            refine C.iload at_500 rfl rfl ?_
            refine C.iaload (.int pv) at_502 rfl F1979 (by decide) rfl ?_
            refine C.iastore at_503 rfl F1984 g1935 (by decide) (Nat.le_of_ble_eq_true rfl) (fun h1985 W1986 F1987 => ?_)
            have F1988 := Exa.wr W1986 F1973
            have F1989 := F1974.other W1986 ne1936
            have F1990 := F1975.other W1986 ne1937
            have F1991 := F1976.other W1986 ne1939
            have F1992 := F1977.other W1986 ne1940
            have F1993 := F1978.other W1986 ne1941
            have F1994 := F1979.other W1986 ne1942
            have F1995 := Fld.other W1986 F1980 (Or.inl ne1938)
            have F1996 := Fld.other W1986 F1981 (Or.inl ne1938)
            have F1997 := Fld.other W1986 F1982 (Or.inl ne1938)
            have F1998 := Fld.other W1986 F1983 (Or.inl ne1938)
            have F1999 : Av Z h1985 a1930 .int ([.int ln, .int co, .int pv]) := F1987
            refine C.astore (Ls' := #[.val (.long x0), .second, .val (.long x1), .second, iv x2, iv x3, iv x4, iv x5, rv a921, rv a952, rv a970, iv b11, iv 0, iv ((XT.ushr x2 2) &&& 3), rv a1001, rv a1077, iv 1, rv a1145, rv a1164, rv a1185, iv 0, iv 0, rv a1930, .unset]) at_504 rfl rfl rfl ?_
            refine C.aload at_506 rfl rfl rfl ?_
            refine C.aload at_508 rfl rfl rfl ?_
            refine C.iconst 0 at_510 rfl rfl ?_
            refine C.caload (.int cq) at_511 rfl F1990 (by decide) rfl ?_
            refine C.callS (argsL := [(.ref a1930), (.int cq)]) (rest := []) 0 (fun zz => con_step l Z a0 hw n0 h1985 zz a1930 cq ln co pv F1999 g1935) at_512 rfl (tw hw 21 rfl) (tw hw 22 rfl) (tw hw 3 rfl) (tw hw 23 rfl) (by decide) pd_2 rfl rfl rfl (Nat.le_of_eq rfl) (by decide) (by decide) (by decide) (by decide) (fun v2000 h2001 r2002 => ?_)
            obtain ⟨rfl, K2003, F2004⟩ := r2002
            have F2005 := F1988.keep K2003
            have F2006 := F1989.keep K2003 (ninS ne1936 nin0)
            have F2007 := F1990.keep K2003 (ninS ne1937 nin0)
            have F2008 := F1991.keep K2003 (ninS ne1939 nin0)
            have F2009 := F1992.keep K2003 (ninS ne1940 nin0)
            have F2010 := F1993.keep K2003 (ninS ne1941 nin0)
            have F2011 := F1994.keep K2003 (ninS ne1942 nin0)
            have F2012 := F1995.keep K2003 (ninS ne1938 nin0)
            have F2013 := F1996.keep K2003 (ninS ne1938 nin0)
            have F2014 := F1997.keep K2003 (ninS ne1938 nin0)
            have F2015 := F1998.keep K2003 (ninS ne1938 nin0)
            refine C.aload at_515 rfl rfl rfl ?_
            refine C.aload at_517 rfl rfl rfl ?_
            refine C.iconst 0 at_519 rfl rfl ?_
            refine C.iconst 1 at_520 rfl rfl ?_
            refine C.iconst 1 at_521 rfl rfl ?_
            refine C.iconst 0 at_522 rfl rfl ?_
            refine C.iconst 0 at_523 rfl rfl ?_
            refine C.callV (argsL := [(.ref a970), (.int 0), (.int 1), (.int 1), (.int 0), (.int 0)]) (rest := []) 0 (fun zz => con_pass_1_0 l Z a0 hw n0 h2001 zz a1001 a970 1 1 0 0 ln co pv cq F2005 F2012 F2013 F2014 F2015 F2007 g1007 (Ne.symm ne1010) (by decide) ncq) F2005 at_524 rfl (tw hw 28 rfl) (tw hw 29 rfl) (tw hw 30 rfl) (tw hw 31 rfl) (tw hw 9 rfl) (tw hw 32 rfl) (by decide) pd_4 rfl rfl rfl (Nat.le_of_eq rfl) (by decide) (by decide) (by decide) (by decide) (fun v2017 h2018 r2019 => ?_)
            obtain ⟨rfl, K2020, F2021, F2022, F2023, F2024⟩ := r2019
            have F2025 := F2005.keep K2020
            have F2026 := F2006.keep K2020 (ninS ne1008 nin0)
            have F2027 := F2007.keep K2020 (ninS ne1010 nin0)
            have F2028 := F2008.keep K2020 (ninS (Ne.symm ne1086) nin0)
            have F2029 := F2009.keep K2020 (ninS (Ne.symm ne1153) nin0)
            have F2030 := F2010.keep K2020 (ninS (Ne.symm ne1172) nin0)
            have F2031 := F2011.keep K2020 (ninS (Ne.symm ne1193) nin0)
            have F2036 := F2004.keep K2020 (ninS (Ne.symm ne1938) nin0)
            have kE2037 : (own_pass 1 1 0 0 0 [cq] ln co pv) = (1, own_ln ln pv cq, own_cl co pv cq, cq) := own_go ⟨by decide, Or.inl (by decide)⟩
            have F2038 : Fld Z h2018 a1001 "com/example/dodder/dodder/PlacedText$Counter" "line" "I" (.int (own_ln ln pv cq)) := by have q := F2021; rw [kE2037] at q; exact q
            have F2039 : Fld Z h2018 a1001 "com/example/dodder/dodder/PlacedText$Counter" "column" "I" (.int (own_cl co pv cq)) := by have q := F2022; rw [kE2037] at q; exact q
            have F2040 : Fld Z h2018 a1001 "com/example/dodder/dodder/PlacedText$Counter" "afterCarriageReturn" "Z" (.int (own_cr cq)) := by have q := F2023; rw [kE2037] at q; exact q
            have F2041 : Fld Z h2018 a1001 "com/example/dodder/dodder/PlacedText$Counter" "started" "Z" (.int (own_bg cq)) := by have q := F2024; rw [kE2037] at q; exact q
            rw [kE2037]
            show Go p l e room_1 s m #[(.long x0), (.long x1), (.int x2), (.int x3), (.int x4), (.int x5)] below meth c n0 (FinQ s n0 (Qcon0 Z n0 h0 x0 x1 x2 x3 x4 x5) room_1.cells room_1.slots) h2018 9 27 527 #[.val (.long x0), .second, .val (.long x1), .second, iv x2, iv x3, iv x4, iv x5, rv a921, rv a952, rv a970, iv b11, iv 0, iv ((XT.ushr x2 2) &&& 3), rv a1001, rv a1077, iv 1, rv a1145, rv a1164, rv a1185, iv 0, iv 0, rv a1930, .unset] [(.int 1)]
            refine C.istore (Ls' := #[.val (.long x0), .second, .val (.long x1), .second, iv x2, iv x3, iv x4, iv x5, rv a921, rv a952, rv a970, iv b11, iv 0, iv ((XT.ushr x2 2) &&& 3), rv a1001, rv a1077, iv 1, rv a1145, rv a1164, rv a1185, iv 0, iv 0, rv a1930, iv 1]) at_527 rfl rfl ?_
            refine C.iload at_529 rfl rfl ?_
            refine C.if_eq_f at_531 rfl (by decide) ?_
            refine C.iload at_534 rfl rfl ?_
            refine C.iconst 1 at_536 rfl rfl ?_
            refine C.icmp_ne_f at_537 rfl (by decide) ?_
            refine C.aload at_540 rfl rfl rfl ?_
            refine C.callV (argsL := []) (rest := []) 0 (fun zz => au1460_7 l Z a0 hw n0 h2018 zz a1001 (own_cr cq) (own_cl co pv cq) (own_ln ln pv cq) (own_bg cq) F2025 F2040 F2039 F2038 F2041 g1007) F2025 at_542 rfl (tw hw 37 rfl) (tw hw 38 rfl) (tw hw 39 rfl) (tw hw 40 rfl) (tw hw 9 rfl) (tw hw 41 rfl) (by decide) pd_5 rfl rfl rfl (Nat.le_of_eq rfl) (by decide) (by decide) (by decide) (by decide) (fun v2042 h2043 r2044 => ?_)
            obtain ⟨rfl, rfl⟩ := r2044
            refine C.aload at_545 rfl rfl rfl ?_
            refine C.iconst 0 at_547 rfl rfl ?_
            refine C.iaload (.int (own_ln ln pv cq)) at_548 rfl F2036 (by decide) rfl ?_
            refine C.icmp_ne_f at_549 rfl rfl ?_
            refine C.aload at_552 rfl rfl rfl ?_
            refine C.callV (argsL := []) (rest := []) 0 (fun zz => au1465_8 l Z a0 hw n0 h2018 zz a1001 (own_cr cq) (own_cl co pv cq) (own_ln ln pv cq) (own_bg cq) F2025 F2040 F2039 F2038 F2041 g1007) F2025 at_554 rfl (tw hw 42 rfl) (tw hw 43 rfl) (tw hw 44 rfl) (tw hw 45 rfl) (tw hw 9 rfl) (tw hw 46 rfl) (by decide) pd_5 rfl rfl rfl (Nat.le_of_eq rfl) (by decide) (by decide) (by decide) (by decide) (fun v2046 h2047 r2048 => ?_)
            obtain ⟨rfl, rfl⟩ := r2048
            refine C.aload at_557 rfl rfl rfl ?_
            refine C.iconst 1 at_559 rfl rfl ?_
            refine C.iaload (.int (own_cl co pv cq)) at_560 rfl F2036 (by decide) rfl ?_
            refine C.icmp_ne_f at_561 rfl rfl ?_
            refine C.iconst 1 at_564 rfl rfl ?_
            refine C.goto at_565 (by decide) rfl ?_
            exact C.retZ at_569 rfl (by decide) (by decide) ⟨rfl, trivial⟩
          refine C.iconst 2 at_347 rfl rfl ?_
          refine C.istore (Ls' := #[.val (.long x0), .second, .val (.long x1), .second, iv x2, iv x3, iv x4, iv x5, rv a921, rv a952, rv a970, iv b11, iv 0, iv ((XT.ushr x2 2) &&& 3), rv a1001, rv a1077, iv 1, rv a1145, rv a1164, rv a1185, iv 2, .unset, .unset, .unset]) at_348 rfl rfl ?_
          refine C.iload at_350 rfl rfl ?_
          refine C.iconst 1 at_352 rfl rfl ?_
          refine C.icmp_gt_f at_353 rfl (by decide) ?_
          refine C.iconst 1 at_356 rfl rfl ?_
          refine C.iload at_357 rfl rfl ?_
          refine C.iload at_359 rfl rfl ?_
          refine C.aload at_361 rfl rfl rfl ?_
          refine C.iconst 1 at_363 rfl rfl ?_
          refine C.iaload (.int (own_ln ln pv c0)) at_364 rfl F1421 (by decide) rfl ?_
          refine C.aload at_365 rfl rfl rfl ?_
          refine C.iconst 1 at_367 rfl rfl ?_
          refine C.iaload (.int (own_cl co pv c0)) at_368 rfl F1422 (by decide) rfl ?_
          refine C.iload at_369 rfl rfl ?_
          refine C.iload at_371 rfl rfl ?_
          refine C.callS (argsL := [(.int 1), (.int ((XT.ushr x2 2) &&& 3)), (.int x3), (.int (own_ln ln pv c0)), (.int (own_cl co pv c0)), (.int x4), (.int x5)]) (rest := []) 0 (fun zz => con_stops l Z a0 hw n0 h1410 zz 1 ((XT.ushr x2 2) &&& 3) x3 (own_ln ln pv c0) (own_cl co pv c0) x4 x5 ) at_373 rfl (tw hw 25 rfl) (tw hw 26 rfl) (tw hw 3 rfl) (tw hw 27 rfl) (by decide) pd_3 rfl rfl rfl (Nat.le_of_eq rfl) (by decide) (by decide) (by decide) (by decide) (fun v2050 h2051 r2052 => ?_)
          obtain ⟨rfl, rfl⟩ := r2052
          refine C.if_eq at_376 (by decide) rfl rfl (fun q376 => ?_) (fun q376 => ?_)
          · refine C.iload at_382 rfl rfl ?_
            refine C.if_gt_f at_384 rfl (by decide) ?_
            refine C.iconst 0 at_387 rfl rfl ?_
            refine C.iload at_388 rfl rfl ?_
            refine C.iload at_390 rfl rfl ?_
            refine C.aload at_392 rfl rfl rfl ?_
            refine C.iconst 0 at_394 rfl rfl ?_
            refine C.iaload (.int ln) at_395 rfl F1421 (by decide) rfl ?_
            refine C.aload at_396 rfl rfl rfl ?_
            refine C.iconst 0 at_398 rfl rfl ?_
            refine C.iaload (.int co) at_399 rfl F1422 (by decide) rfl ?_
            refine C.iload at_400 rfl rfl ?_
            refine C.iload at_402 rfl rfl ?_
            refine C.callS (argsL := [(.int 0), (.int ((XT.ushr x2 2) &&& 3)), (.int x3), (.int ln), (.int co), (.int x4), (.int x5)]) (rest := []) 0 (fun zz => con_stops l Z a0 hw n0 h1410 zz 0 ((XT.ushr x2 2) &&& 3) x3 ln co x4 x5 ) at_404 rfl (tw hw 25 rfl) (tw hw 26 rfl) (tw hw 3 rfl) (tw hw 27 rfl) (by decide) pd_3 rfl rfl rfl (Nat.le_of_eq rfl) (by decide) (by decide) (by decide) (by decide) (fun v2054 h2055 r2056 => ?_)
            obtain ⟨rfl, rfl⟩ := r2056
            refine C.if_eq at_407 (by decide) rfl rfl (fun q407 => ?_) (fun q407 => ?_)
            · refine C.aload at_413 rfl rfl rfl ?_
              refine C.aload at_415 rfl rfl rfl ?_
              refine C.iload at_417 rfl rfl ?_
              refine C.iload at_419 rfl rfl ?_
              refine C.iload at_421 rfl rfl ?_
              refine C.iload at_423 rfl rfl ?_
              refine C.iload at_425 rfl rfl ?_
              refine C.callV (argsL := [(.ref a921), (.int 0), (.int ((XT.ushr x2 2) &&& 3)), (.int x3), (.int x4), (.int x5)]) (rest := []) 0 (fun zz => con_pass_3_0 l Z a0 hw n0 h1410 zz a1001 a921 ((XT.ushr x2 2) &&& 3) x3 x4 x5 ln co pv c0 c1 c2 F1413 F1414 F1415 F1416 F1417 F1418 g1007 (Ne.symm ne1008) (own_to _) nc0 nc1 nc2) F1413 at_427 rfl (tw hw 28 rfl) (tw hw 29 rfl) (tw hw 30 rfl) (tw hw 31 rfl) (tw hw 9 rfl) (tw hw 32 rfl) (by decide) pd_4 rfl rfl rfl (Nat.le_of_eq rfl) (by decide) (by decide) (by decide) (by decide) (fun v2058 h2059 r2060 => ?_)
              obtain ⟨rfl, K2061, F2062, F2063, F2064, F2065⟩ := r2060
              have F2066 := F1413.keep K2061
              have F2071 := F1418.keep K2061 (ninS ne1008 nin0)
              have F2072 := F1419.keep K2061 (ninS ne1010 nin0)
              have F2073 := F1420.keep K2061 (ninS (Ne.symm ne1086) nin0)
              have F2074 := F1421.keep K2061 (ninS (Ne.symm ne1153) nin0)
              have F2075 := F1422.keep K2061 (ninS (Ne.symm ne1172) nin0)
              have F2076 := F1423.keep K2061 (ninS (Ne.symm ne1193) nin0)
              have kE2077 : (own_pass ((XT.ushr x2 2) &&& 3) x3 x4 x5 0 [c0, c1, c2] ln co pv) = (2, (own_ln (own_ln ln pv c0) c0 c1), (own_cl (own_cl co pv c0) c0 c1), c1) := ((own_go (own_stop0.mp q407)).trans ((own_go (own_stop0.mp q376)).trans (own_no (fun h => q344 (own_stop0.mpr h)))))
              have F2078 : Fld Z h2059 a1001 "com/example/dodder/dodder/PlacedText$Counter" "line" "I" (.int (own_ln (own_ln ln pv c0) c0 c1)) := by have q := F2062; rw [kE2077] at q; exact q
              have F2079 : Fld Z h2059 a1001 "com/example/dodder/dodder/PlacedText$Counter" "column" "I" (.int (own_cl (own_cl co pv c0) c0 c1)) := by have q := F2063; rw [kE2077] at q; exact q
              have F2080 : Fld Z h2059 a1001 "com/example/dodder/dodder/PlacedText$Counter" "afterCarriageReturn" "Z" (.int (own_cr c1)) := by have q := F2064; rw [kE2077] at q; exact q
              have F2081 : Fld Z h2059 a1001 "com/example/dodder/dodder/PlacedText$Counter" "started" "Z" (.int (own_bg c1)) := by have q := F2065; rw [kE2077] at q; exact q
              rw [kE2077]
              show Go p l e room_1 s m #[(.long x0), (.long x1), (.int x2), (.int x3), (.int x4), (.int x5)] below meth c n0 (FinQ s n0 (Qcon0 Z n0 h0 x0 x1 x2 x3 x4 x5) room_1.cells room_1.slots) h2059 8 24 430 #[.val (.long x0), .second, .val (.long x1), .second, iv x2, iv x3, iv x4, iv x5, rv a921, rv a952, rv a970, iv b11, iv 0, iv ((XT.ushr x2 2) &&& 3), rv a1001, rv a1077, iv 1, rv a1145, rv a1164, rv a1185, iv 2, .unset, .unset, .unset] [(.int 2)]
              refine C.istore (Ls' := #[.val (.long x0), .second, .val (.long x1), .second, iv x2, iv x3, iv x4, iv x5, rv a921, rv a952, rv a970, iv b11, iv 0, iv ((XT.ushr x2 2) &&& 3), rv a1001, rv a1077, iv 1, rv a1145, rv a1164, rv a1185, iv 2, iv 2, .unset, .unset]) at_430 rfl rfl ?_
              refine C.iload at_432 rfl rfl ?_
              refine C.if_eq_f at_434 rfl (by decide) ?_
              refine C.iload at_437 rfl rfl ?_
              refine C.iload at_439 rfl rfl ?_
              refine C.icmp_ne_f at_441 rfl (by decide) ?_
              refine C.aload at_444 rfl rfl rfl ?_
              refine C.callV (argsL := []) (rest := []) 0 (fun zz => au1460_7 l Z a0 hw n0 h2059 zz a1001 (own_cr c1) (own_cl (own_cl co pv c0) c0 c1) (own_ln (own_ln ln pv c0) c0 c1) (own_bg c1) F2066 F2080 F2079 F2078 F2081 g1007) F2066 at_446 rfl (tw hw 37 rfl) (tw hw 38 rfl) (tw hw 39 rfl) (tw hw 40 rfl) (tw hw 9 rfl) (tw hw 41 rfl) (by decide) pd_5 rfl rfl rfl (Nat.le_of_eq rfl) (by decide) (by decide) (by decide) (by decide) (fun v2082 h2083 r2084 => ?_)
              obtain ⟨rfl, rfl⟩ := r2084
              refine C.aload at_449 rfl rfl rfl ?_
              refine C.iload at_451 rfl rfl ?_
              refine C.iaload (.int (own_ln (own_ln ln pv c0) c0 c1)) at_453 rfl F2074 (by decide) rfl ?_
              refine C.icmp_ne_f at_454 rfl rfl ?_
              refine C.aload at_457 rfl rfl rfl ?_
              refine C.callV (argsL := []) (rest := []) 0 (fun zz => au1465_8 l Z a0 hw n0 h2059 zz a1001 (own_cr c1) (own_cl (own_cl co pv c0) c0 c1) (own_ln (own_ln ln pv c0) c0 c1) (own_bg c1) F2066 F2080 F2079 F2078 F2081 g1007) F2066 at_459 rfl (tw hw 42 rfl) (tw hw 43 rfl) (tw hw 44 rfl) (tw hw 45 rfl) (tw hw 9 rfl) (tw hw 46 rfl) (by decide) pd_5 rfl rfl rfl (Nat.le_of_eq rfl) (by decide) (by decide) (by decide) (by decide) (fun v2086 h2087 r2088 => ?_)
              obtain ⟨rfl, rfl⟩ := r2088
              refine C.aload at_462 rfl rfl rfl ?_
              refine C.iload at_464 rfl rfl ?_
              refine C.iaload (.int (own_cl (own_cl co pv c0) c0 c1)) at_466 rfl F2075 (by decide) rfl ?_
              refine C.icmp_ne_f at_467 rfl rfl ?_
              refine C.iconst 1 at_470 rfl rfl ?_
              refine C.goto at_471 (by decide) rfl ?_
              refine C.istore (Ls' := #[.val (.long x0), .second, .val (.long x1), .second, iv x2, iv x3, iv x4, iv x5, rv a921, rv a952, rv a970, iv b11, iv 0, iv ((XT.ushr x2 2) &&& 3), rv a1001, rv a1077, iv 1, rv a1145, rv a1164, rv a1185, iv 2, iv 2, .unset, .unset]) at_475 rfl rfl ?_
              refine C.iconst 3 at_477 rfl rfl ?_
              refine C.newarr 3 at_478 rfl rfl (tw hw 20 rfl) (by decide) (by decide) (by decide) (by decide) (by decide) (fun a2090 h2091 z2094 g2095 X2092 F2093 => ?_)
              have ne2096 : a921 ≠ a2090 := by rw [z2094]; exact Nat.ne_of_lt F2071.lt
              have ne2097 : a970 ≠ a2090 := by rw [z2094]; exact Nat.ne_of_lt F2072.lt
              have ne2098 : a1001 ≠ a2090 := by rw [z2094]; exact Nat.ne_of_lt F2066.lt
              have ne2099 : a1077 ≠ a2090 := by rw [z2094]; exact Nat.ne_of_lt F2073.lt
              have ne2100 : a1145 ≠ a2090 := by rw [z2094]; exact Nat.ne_of_lt F2074.lt
              have ne2101 : a1164 ≠ a2090 := by rw [z2094]; exact Nat.ne_of_lt F2075.lt
              have ne2102 : a1185 ≠ a2090 := by rw [z2094]; exact Nat.ne_of_lt F2076.lt
              have F2103 := Exa.ext X2092 F2066
              have F2104 := F2071.ext X2092
              have F2105 := F2072.ext X2092
              have F2106 := F2073.ext X2092
              have F2107 := F2074.ext X2092
              have F2108 := F2075.ext X2092
              have F2109 := F2076.ext X2092
              have F2110 := Fld.ext X2092 F2078
              have F2111 := Fld.ext X2092 F2079
              have F2112 := Fld.ext X2092 F2080
              have F2113 := Fld.ext X2092 F2081
              have F2114 : Av Z h2091 a2090 .int ([.int 0, .int 0, .int 0]) := F2093
              refine C.dup at_480 rfl rfl ?_
              refine C.iconst 0 at_481 rfl rfl ?_
              refine C.aload at_482 rfl rfl rfl ?_
              refine C.iload at_484 rfl rfl ?_
              refine C.iaload (.int (own_ln (own_ln ln pv c0) c0 c1)) at_486 rfl F2107 (by decide) rfl ?_
              refine C.iastore at_487 rfl F2114 g2095 (by decide) (Nat.le_of_ble_eq_true rfl) (fun h2115 W2116 F2117 => ?_)
              have F2118 := Exa.wr W2116 F2103
              have F2119 := F2104.other W2116 ne2096
              have F2120 := F2105.other W2116 ne2097
              have F2121 := F2106.other W2116 ne2099
              have F2122 := F2107.other W2116 ne2100
              have F2123 := F2108.other W2116 ne2101
              have F2124 := F2109.other W2116 ne2102
              have F2125 := Fld.other W2116 F2110 (Or.inl ne2098)
              have F2126 := Fld.other W2116 F2111 (Or.inl ne2098)
              have F2127 := Fld.other W2116 F2112 (Or.inl ne2098)
              have F2128 := Fld.other W2116 F2113 (Or.inl ne2098)
              have F2129 : Av Z h2115 a2090 .int ([.int (own_ln (own_ln ln pv c0) c0 c1), .int 0, .int 0]) := F2117
              refine C.dup at_488 rfl rfl ?_
              refine C.iconst 1 at_489 rfl rfl ?_
              refine C.aload at_490 rfl rfl rfl ?_
              refine C.iload at_492 rfl rfl ?_
              refine C.iaload (.int (own_cl (own_cl co pv c0) c0 c1)) at_494 rfl F2123 (by decide) rfl ?_
              refine C.iastore at_495 rfl F2129 g2095 (by decide) (Nat.le_of_ble_eq_true rfl) (fun h2130 W2131 F2132 => ?_)
              have F2133 := Exa.wr W2131 F2118
              have F2134 := F2119.other W2131 ne2096
              have F2135 := F2120.other W2131 ne2097
              have F2136 := F2121.other W2131 ne2099
              have F2137 := F2122.other W2131 ne2100
              have F2138 := F2123.other W2131 ne2101
              have F2139 := F2124.other W2131 ne2102
              have F2140 := Fld.other W2131 F2125 (Or.inl ne2098)
              have F2141 := Fld.other W2131 F2126 (Or.inl ne2098)
              have F2142 := Fld.other W2131 F2127 (Or.inl ne2098)
              have F2143 := Fld.other W2131 F2128 (Or.inl ne2098)
              have F2144 : Av Z h2130 a2090 .int ([.int (own_ln (own_ln ln pv c0) c0 c1), .int (own_cl (own_cl co pv c0) c0 c1), .int 0]) := F2132
              refine C.dup at_496 rfl rfl ?_
              refine C.iconst 2 at_497 rfl rfl ?_
              refine C.aload at_498 rfl rfl rfl ?_
              refine C.iload at_500 rfl rfl ?_
              refine C.iaload (.int c1) at_502 rfl F2139 (by decide) rfl ?_
              refine C.iastore at_503 rfl F2144 g2095 (by decide) (Nat.le_of_ble_eq_true rfl) (fun h2145 W2146 F2147 => ?_)
              have F2148 := Exa.wr W2146 F2133
              have F2149 := F2134.other W2146 ne2096
              have F2150 := F2135.other W2146 ne2097
              have F2151 := F2136.other W2146 ne2099
              have F2152 := F2137.other W2146 ne2100
              have F2153 := F2138.other W2146 ne2101
              have F2154 := F2139.other W2146 ne2102
              have F2155 := Fld.other W2146 F2140 (Or.inl ne2098)
              have F2156 := Fld.other W2146 F2141 (Or.inl ne2098)
              have F2157 := Fld.other W2146 F2142 (Or.inl ne2098)
              have F2158 := Fld.other W2146 F2143 (Or.inl ne2098)
              have F2159 : Av Z h2145 a2090 .int ([.int (own_ln (own_ln ln pv c0) c0 c1), .int (own_cl (own_cl co pv c0) c0 c1), .int c1]) := F2147
              refine C.astore (Ls' := #[.val (.long x0), .second, .val (.long x1), .second, iv x2, iv x3, iv x4, iv x5, rv a921, rv a952, rv a970, iv b11, iv 0, iv ((XT.ushr x2 2) &&& 3), rv a1001, rv a1077, iv 1, rv a1145, rv a1164, rv a1185, iv 2, iv 2, rv a2090, .unset]) at_504 rfl rfl rfl ?_
              refine C.aload at_506 rfl rfl rfl ?_
              refine C.aload at_508 rfl rfl rfl ?_
              refine C.iconst 0 at_510 rfl rfl ?_
              refine C.caload (.int cq) at_511 rfl F2150 (by decide) rfl ?_
              refine C.callS (argsL := [(.ref a2090), (.int cq)]) (rest := []) 0 (fun zz => con_step l Z a0 hw n0 h2145 zz a2090 cq (own_ln (own_ln ln pv c0) c0 c1) (own_cl (own_cl co pv c0) c0 c1) c1 F2159 g2095) at_512 rfl (tw hw 21 rfl) (tw hw 22 rfl) (tw hw 3 rfl) (tw hw 23 rfl) (by decide) pd_2 rfl rfl rfl (Nat.le_of_eq rfl) (by decide) (by decide) (by decide) (by decide) (fun v2160 h2161 r2162 => ?_)
              obtain ⟨rfl, K2163, F2164⟩ := r2162
              have F2165 := F2148.keep K2163
              have F2166 := F2149.keep K2163 (ninS ne2096 nin0)
              have F2167 := F2150.keep K2163 (ninS ne2097 nin0)
              have F2168 := F2151.keep K2163 (ninS ne2099 nin0)
              have F2169 := F2152.keep K2163 (ninS ne2100 nin0)
              have F2170 := F2153.keep K2163 (ninS ne2101 nin0)
              have F2171 := F2154.keep K2163 (ninS ne2102 nin0)
              have F2172 := F2155.keep K2163 (ninS ne2098 nin0)
              have F2173 := F2156.keep K2163 (ninS ne2098 nin0)
              have F2174 := F2157.keep K2163 (ninS ne2098 nin0)
              have F2175 := F2158.keep K2163 (ninS ne2098 nin0)
              refine C.aload at_515 rfl rfl rfl ?_
              refine C.aload at_517 rfl rfl rfl ?_
              refine C.iconst 0 at_519 rfl rfl ?_
              refine C.iconst 1 at_520 rfl rfl ?_
              refine C.iconst 1 at_521 rfl rfl ?_
              refine C.iconst 0 at_522 rfl rfl ?_
              refine C.iconst 0 at_523 rfl rfl ?_
              refine C.callV (argsL := [(.ref a970), (.int 0), (.int 1), (.int 1), (.int 0), (.int 0)]) (rest := []) 0 (fun zz => con_pass_1_0 l Z a0 hw n0 h2161 zz a1001 a970 1 1 0 0 (own_ln (own_ln ln pv c0) c0 c1) (own_cl (own_cl co pv c0) c0 c1) c1 cq F2165 F2172 F2173 F2174 F2175 F2167 g1007 (Ne.symm ne1010) (by decide) ncq) F2165 at_524 rfl (tw hw 28 rfl) (tw hw 29 rfl) (tw hw 30 rfl) (tw hw 31 rfl) (tw hw 9 rfl) (tw hw 32 rfl) (by decide) pd_4 rfl rfl rfl (Nat.le_of_eq rfl) (by decide) (by decide) (by decide) (by decide) (fun v2177 h2178 r2179 => ?_)
              obtain ⟨rfl, K2180, F2181, F2182, F2183, F2184⟩ := r2179
              have F2185 := F2165.keep K2180
              have F2186 := F2166.keep K2180 (ninS ne1008 nin0)
              have F2187 := F2167.keep K2180 (ninS ne1010 nin0)
              have F2188 := F2168.keep K2180 (ninS (Ne.symm ne1086) nin0)
              have F2189 := F2169.keep K2180 (ninS (Ne.symm ne1153) nin0)
              have F2190 := F2170.keep K2180 (ninS (Ne.symm ne1172) nin0)
              have F2191 := F2171.keep K2180 (ninS (Ne.symm ne1193) nin0)
              have F2196 := F2164.keep K2180 (ninS (Ne.symm ne2098) nin0)
              have kE2197 : (own_pass 1 1 0 0 0 [cq] (own_ln (own_ln ln pv c0) c0 c1) (own_cl (own_cl co pv c0) c0 c1) c1) = (1, own_ln (own_ln (own_ln ln pv c0) c0 c1) c1 cq, own_cl (own_cl (own_cl co pv c0) c0 c1) c1 cq, cq) := own_go ⟨by decide, Or.inl (by decide)⟩
              have F2198 : Fld Z h2178 a1001 "com/example/dodder/dodder/PlacedText$Counter" "line" "I" (.int (own_ln (own_ln (own_ln ln pv c0) c0 c1) c1 cq)) := by have q := F2181; rw [kE2197] at q; exact q
              have F2199 : Fld Z h2178 a1001 "com/example/dodder/dodder/PlacedText$Counter" "column" "I" (.int (own_cl (own_cl (own_cl co pv c0) c0 c1) c1 cq)) := by have q := F2182; rw [kE2197] at q; exact q
              have F2200 : Fld Z h2178 a1001 "com/example/dodder/dodder/PlacedText$Counter" "afterCarriageReturn" "Z" (.int (own_cr cq)) := by have q := F2183; rw [kE2197] at q; exact q
              have F2201 : Fld Z h2178 a1001 "com/example/dodder/dodder/PlacedText$Counter" "started" "Z" (.int (own_bg cq)) := by have q := F2184; rw [kE2197] at q; exact q
              rw [kE2197]
              show Go p l e room_1 s m #[(.long x0), (.long x1), (.int x2), (.int x3), (.int x4), (.int x5)] below meth c n0 (FinQ s n0 (Qcon0 Z n0 h0 x0 x1 x2 x3 x4 x5) room_1.cells room_1.slots) h2178 9 27 527 #[.val (.long x0), .second, .val (.long x1), .second, iv x2, iv x3, iv x4, iv x5, rv a921, rv a952, rv a970, iv b11, iv 0, iv ((XT.ushr x2 2) &&& 3), rv a1001, rv a1077, iv 1, rv a1145, rv a1164, rv a1185, iv 2, iv 2, rv a2090, .unset] [(.int 1)]
              refine C.istore (Ls' := #[.val (.long x0), .second, .val (.long x1), .second, iv x2, iv x3, iv x4, iv x5, rv a921, rv a952, rv a970, iv b11, iv 0, iv ((XT.ushr x2 2) &&& 3), rv a1001, rv a1077, iv 1, rv a1145, rv a1164, rv a1185, iv 2, iv 2, rv a2090, iv 1]) at_527 rfl rfl ?_
              refine C.iload at_529 rfl rfl ?_
              refine C.if_eq_f at_531 rfl (by decide) ?_
              refine C.iload at_534 rfl rfl ?_
              refine C.iconst 1 at_536 rfl rfl ?_
              refine C.icmp_ne_f at_537 rfl (by decide) ?_
              refine C.aload at_540 rfl rfl rfl ?_
              refine C.callV (argsL := []) (rest := []) 0 (fun zz => au1460_7 l Z a0 hw n0 h2178 zz a1001 (own_cr cq) (own_cl (own_cl (own_cl co pv c0) c0 c1) c1 cq) (own_ln (own_ln (own_ln ln pv c0) c0 c1) c1 cq) (own_bg cq) F2185 F2200 F2199 F2198 F2201 g1007) F2185 at_542 rfl (tw hw 37 rfl) (tw hw 38 rfl) (tw hw 39 rfl) (tw hw 40 rfl) (tw hw 9 rfl) (tw hw 41 rfl) (by decide) pd_5 rfl rfl rfl (Nat.le_of_eq rfl) (by decide) (by decide) (by decide) (by decide) (fun v2202 h2203 r2204 => ?_)
              obtain ⟨rfl, rfl⟩ := r2204
              refine C.aload at_545 rfl rfl rfl ?_
              refine C.iconst 0 at_547 rfl rfl ?_
              refine C.iaload (.int (own_ln (own_ln (own_ln ln pv c0) c0 c1) c1 cq)) at_548 rfl F2196 (by decide) rfl ?_
              refine C.icmp_ne_f at_549 rfl rfl ?_
              refine C.aload at_552 rfl rfl rfl ?_
              refine C.callV (argsL := []) (rest := []) 0 (fun zz => au1465_8 l Z a0 hw n0 h2178 zz a1001 (own_cr cq) (own_cl (own_cl (own_cl co pv c0) c0 c1) c1 cq) (own_ln (own_ln (own_ln ln pv c0) c0 c1) c1 cq) (own_bg cq) F2185 F2200 F2199 F2198 F2201 g1007) F2185 at_554 rfl (tw hw 42 rfl) (tw hw 43 rfl) (tw hw 44 rfl) (tw hw 45 rfl) (tw hw 9 rfl) (tw hw 46 rfl) (by decide) pd_5 rfl rfl rfl (Nat.le_of_eq rfl) (by decide) (by decide) (by decide) (by decide) (fun v2206 h2207 r2208 => ?_)
              obtain ⟨rfl, rfl⟩ := r2208
              refine C.aload at_557 rfl rfl rfl ?_
              refine C.iconst 1 at_559 rfl rfl ?_
              refine C.iaload (.int (own_cl (own_cl (own_cl co pv c0) c0 c1) c1 cq)) at_560 rfl F2196 (by decide) rfl ?_
              refine C.icmp_ne_f at_561 rfl rfl ?_
              refine C.iconst 1 at_564 rfl rfl ?_
              refine C.goto at_565 (by decide) rfl ?_
              exact C.retZ at_569 rfl (by decide) (by decide) ⟨rfl, trivial⟩
            refine C.iconst 0 at_410 rfl rfl ?_
            refine C.istore (Ls' := #[.val (.long x0), .second, .val (.long x1), .second, iv x2, iv x3, iv x4, iv x5, rv a921, rv a952, rv a970, iv b11, iv 0, iv ((XT.ushr x2 2) &&& 3), rv a1001, rv a1077, iv 1, rv a1145, rv a1164, rv a1185, iv 0, .unset, .unset, .unset]) at_411 rfl rfl ?_
            refine C.aload at_413 rfl rfl rfl ?_
            refine C.aload at_415 rfl rfl rfl ?_
            refine C.iload at_417 rfl rfl ?_
            refine C.iload at_419 rfl rfl ?_
            refine C.iload at_421 rfl rfl ?_
            refine C.iload at_423 rfl rfl ?_
            refine C.iload at_425 rfl rfl ?_
            refine C.callV (argsL := [(.ref a921), (.int 0), (.int ((XT.ushr x2 2) &&& 3)), (.int x3), (.int x4), (.int x5)]) (rest := []) 0 (fun zz => con_pass_3_0 l Z a0 hw n0 h1410 zz a1001 a921 ((XT.ushr x2 2) &&& 3) x3 x4 x5 ln co pv c0 c1 c2 F1413 F1414 F1415 F1416 F1417 F1418 g1007 (Ne.symm ne1008) (own_to _) nc0 nc1 nc2) F1413 at_427 rfl (tw hw 28 rfl) (tw hw 29 rfl) (tw hw 30 rfl) (tw hw 31 rfl) (tw hw 9 rfl) (tw hw 32 rfl) (by decide) pd_4 rfl rfl rfl (Nat.le_of_eq rfl) (by decide) (by decide) (by decide) (by decide) (fun v2210 h2211 r2212 => ?_)
            obtain ⟨rfl, K2213, F2214, F2215, F2216, F2217⟩ := r2212
            have F2218 := F1413.keep K2213
            have F2223 := F1418.keep K2213 (ninS ne1008 nin0)
            have F2224 := F1419.keep K2213 (ninS ne1010 nin0)
            have F2225 := F1420.keep K2213 (ninS (Ne.symm ne1086) nin0)
            have F2226 := F1421.keep K2213 (ninS (Ne.symm ne1153) nin0)
            have F2227 := F1422.keep K2213 (ninS (Ne.symm ne1172) nin0)
            have F2228 := F1423.keep K2213 (ninS (Ne.symm ne1193) nin0)
            have kE2229 : (own_pass ((XT.ushr x2 2) &&& 3) x3 x4 x5 0 [c0, c1, c2] ln co pv) = (0, ln, co, pv) := (own_no (fun h => q407 (own_stop0.mpr h)))
            have F2230 : Fld Z h2211 a1001 "com/example/dodder/dodder/PlacedText$Counter" "line" "I" (.int ln) := by have q := F2214; rw [kE2229] at q; exact q
            have F2231 : Fld Z h2211 a1001 "com/example/dodder/dodder/PlacedText$Counter" "column" "I" (.int co) := by have q := F2215; rw [kE2229] at q; exact q
            have F2232 : Fld Z h2211 a1001 "com/example/dodder/dodder/PlacedText$Counter" "afterCarriageReturn" "Z" (.int (own_cr pv)) := by have q := F2216; rw [kE2229] at q; exact q
            have F2233 : Fld Z h2211 a1001 "com/example/dodder/dodder/PlacedText$Counter" "started" "Z" (.int (own_bg pv)) := by have q := F2217; rw [kE2229] at q; exact q
            rw [kE2229]
            show Go p l e room_1 s m #[(.long x0), (.long x1), (.int x2), (.int x3), (.int x4), (.int x5)] below meth c n0 (FinQ s n0 (Qcon0 Z n0 h0 x0 x1 x2 x3 x4 x5) room_1.cells room_1.slots) h2211 8 24 430 #[.val (.long x0), .second, .val (.long x1), .second, iv x2, iv x3, iv x4, iv x5, rv a921, rv a952, rv a970, iv b11, iv 0, iv ((XT.ushr x2 2) &&& 3), rv a1001, rv a1077, iv 1, rv a1145, rv a1164, rv a1185, iv 0, .unset, .unset, .unset] [(.int 0)]
            refine C.istore (Ls' := #[.val (.long x0), .second, .val (.long x1), .second, iv x2, iv x3, iv x4, iv x5, rv a921, rv a952, rv a970, iv b11, iv 0, iv ((XT.ushr x2 2) &&& 3), rv a1001, rv a1077, iv 1, rv a1145, rv a1164, rv a1185, iv 0, iv 0, .unset, .unset]) at_430 rfl rfl ?_
            refine C.iload at_432 rfl rfl ?_
            refine C.if_eq_f at_434 rfl (by decide) ?_
            refine C.iload at_437 rfl rfl ?_
            refine C.iload at_439 rfl rfl ?_
            refine C.icmp_ne_f at_441 rfl (by decide) ?_
            refine C.aload at_444 rfl rfl rfl ?_
            refine C.callV (argsL := []) (rest := []) 0 (fun zz => au1460_7 l Z a0 hw n0 h2211 zz a1001 (own_cr pv) co ln (own_bg pv) F2218 F2232 F2231 F2230 F2233 g1007) F2218 at_446 rfl (tw hw 37 rfl) (tw hw 38 rfl) (tw hw 39 rfl) (tw hw 40 rfl) (tw hw 9 rfl) (tw hw 41 rfl) (by decide) pd_5 rfl rfl rfl (Nat.le_of_eq rfl) (by decide) (by decide) (by decide) (by decide) (fun v2234 h2235 r2236 => ?_)
            obtain ⟨rfl, rfl⟩ := r2236
            refine C.aload at_449 rfl rfl rfl ?_
            refine C.iload at_451 rfl rfl ?_
            refine C.iaload (.int ln) at_453 rfl F2226 (by decide) rfl ?_
            refine C.icmp_ne_f at_454 rfl rfl ?_
            refine C.aload at_457 rfl rfl rfl ?_
            refine C.callV (argsL := []) (rest := []) 0 (fun zz => au1465_8 l Z a0 hw n0 h2211 zz a1001 (own_cr pv) co ln (own_bg pv) F2218 F2232 F2231 F2230 F2233 g1007) F2218 at_459 rfl (tw hw 42 rfl) (tw hw 43 rfl) (tw hw 44 rfl) (tw hw 45 rfl) (tw hw 9 rfl) (tw hw 46 rfl) (by decide) pd_5 rfl rfl rfl (Nat.le_of_eq rfl) (by decide) (by decide) (by decide) (by decide) (fun v2238 h2239 r2240 => ?_)
            obtain ⟨rfl, rfl⟩ := r2240
            refine C.aload at_462 rfl rfl rfl ?_
            refine C.iload at_464 rfl rfl ?_
            refine C.iaload (.int co) at_466 rfl F2227 (by decide) rfl ?_
            refine C.icmp_ne_f at_467 rfl rfl ?_
            refine C.iconst 1 at_470 rfl rfl ?_
            refine C.goto at_471 (by decide) rfl ?_
            refine C.istore (Ls' := #[.val (.long x0), .second, .val (.long x1), .second, iv x2, iv x3, iv x4, iv x5, rv a921, rv a952, rv a970, iv b11, iv 0, iv ((XT.ushr x2 2) &&& 3), rv a1001, rv a1077, iv 1, rv a1145, rv a1164, rv a1185, iv 0, iv 0, .unset, .unset]) at_475 rfl rfl ?_
            refine C.iconst 3 at_477 rfl rfl ?_
            refine C.newarr 3 at_478 rfl rfl (tw hw 20 rfl) (by decide) (by decide) (by decide) (by decide) (by decide) (fun a2242 h2243 z2246 g2247 X2244 F2245 => ?_)
            have ne2248 : a921 ≠ a2242 := by rw [z2246]; exact Nat.ne_of_lt F2223.lt
            have ne2249 : a970 ≠ a2242 := by rw [z2246]; exact Nat.ne_of_lt F2224.lt
            have ne2250 : a1001 ≠ a2242 := by rw [z2246]; exact Nat.ne_of_lt F2218.lt
            have ne2251 : a1077 ≠ a2242 := by rw [z2246]; exact Nat.ne_of_lt F2225.lt
            have ne2252 : a1145 ≠ a2242 := by rw [z2246]; exact Nat.ne_of_lt F2226.lt
            have ne2253 : a1164 ≠ a2242 := by rw [z2246]; exact Nat.ne_of_lt F2227.lt
            have ne2254 : a1185 ≠ a2242 := by rw [z2246]; exact Nat.ne_of_lt F2228.lt
            have F2255 := Exa.ext X2244 F2218
            have F2256 := F2223.ext X2244
            have F2257 := F2224.ext X2244
            have F2258 := F2225.ext X2244
            have F2259 := F2226.ext X2244
            have F2260 := F2227.ext X2244
            have F2261 := F2228.ext X2244
            have F2262 := Fld.ext X2244 F2230
            have F2263 := Fld.ext X2244 F2231
            have F2264 := Fld.ext X2244 F2232
            have F2265 := Fld.ext X2244 F2233
            have F2266 : Av Z h2243 a2242 .int ([.int 0, .int 0, .int 0]) := F2245
            refine C.dup at_480 rfl rfl ?_
            refine C.iconst 0 at_481 rfl rfl ?_
            refine C.aload at_482 rfl rfl rfl ?_
            refine C.iload at_484 rfl rfl ?_
            refine C.iaload (.int ln) at_486 rfl F2259 (by decide) rfl ?_
            refine C.iastore at_487 rfl F2266 g2247 (by decide) (Nat.le_of_ble_eq_true rfl) (fun h2267 W2268 F2269 => ?_)
            have F2270 := Exa.wr W2268 F2255
            have F2271 := F2256.other W2268 ne2248
            have F2272 := F2257.other W2268 ne2249
            have F2273 := F2258.other W2268 ne2251
            have F2274 := F2259.other W2268 ne2252
            have F2275 := F2260.other W2268 ne2253
            have F2276 := F2261.other W2268 ne2254
            have F2277 := Fld.other W2268 F2262 (Or.inl ne2250)
            have F2278 := Fld.other W2268 F2263 (Or.inl ne2250)
            have F2279 := Fld.other W2268 F2264 (Or.inl ne2250)
            have F2280 := Fld.other W2268 F2265 (Or.inl ne2250)
            have F2281 : Av Z h2267 a2242 .int ([.int ln, .int 0, .int 0]) := F2269
            refine C.dup at_488 rfl rfl ?_
            refine C.iconst 1 at_489 rfl rfl ?_
            refine C.aload at_490 rfl rfl rfl ?_
            refine C.iload at_492 rfl rfl ?_
            refine C.iaload (.int co) at_494 rfl F2275 (by decide) rfl ?_
            refine C.iastore at_495 rfl F2281 g2247 (by decide) (Nat.le_of_ble_eq_true rfl) (fun h2282 W2283 F2284 => ?_)
            have F2285 := Exa.wr W2283 F2270
            have F2286 := F2271.other W2283 ne2248
            have F2287 := F2272.other W2283 ne2249
            have F2288 := F2273.other W2283 ne2251
            have F2289 := F2274.other W2283 ne2252
            have F2290 := F2275.other W2283 ne2253
            have F2291 := F2276.other W2283 ne2254
            have F2292 := Fld.other W2283 F2277 (Or.inl ne2250)
            have F2293 := Fld.other W2283 F2278 (Or.inl ne2250)
            have F2294 := Fld.other W2283 F2279 (Or.inl ne2250)
            have F2295 := Fld.other W2283 F2280 (Or.inl ne2250)
            have F2296 : Av Z h2282 a2242 .int ([.int ln, .int co, .int 0]) := F2284
            refine C.dup at_496 rfl rfl ?_
            refine C.iconst 2 at_497 rfl rfl ?_
            refine C.aload at_498 rfl rfl rfl ?_
            refine C.iload at_500 rfl rfl ?_
            refine C.iaload (.int pv) at_502 rfl F2291 (by decide) rfl ?_
            refine C.iastore at_503 rfl F2296 g2247 (by decide) (Nat.le_of_ble_eq_true rfl) (fun h2297 W2298 F2299 => ?_)
            have F2300 := Exa.wr W2298 F2285
            have F2301 := F2286.other W2298 ne2248
            have F2302 := F2287.other W2298 ne2249
            have F2303 := F2288.other W2298 ne2251
            have F2304 := F2289.other W2298 ne2252
            have F2305 := F2290.other W2298 ne2253
            have F2306 := F2291.other W2298 ne2254
            have F2307 := Fld.other W2298 F2292 (Or.inl ne2250)
            have F2308 := Fld.other W2298 F2293 (Or.inl ne2250)
            have F2309 := Fld.other W2298 F2294 (Or.inl ne2250)
            have F2310 := Fld.other W2298 F2295 (Or.inl ne2250)
            have F2311 : Av Z h2297 a2242 .int ([.int ln, .int co, .int pv]) := F2299
            refine C.astore (Ls' := #[.val (.long x0), .second, .val (.long x1), .second, iv x2, iv x3, iv x4, iv x5, rv a921, rv a952, rv a970, iv b11, iv 0, iv ((XT.ushr x2 2) &&& 3), rv a1001, rv a1077, iv 1, rv a1145, rv a1164, rv a1185, iv 0, iv 0, rv a2242, .unset]) at_504 rfl rfl rfl ?_
            refine C.aload at_506 rfl rfl rfl ?_
            refine C.aload at_508 rfl rfl rfl ?_
            refine C.iconst 0 at_510 rfl rfl ?_
            refine C.caload (.int cq) at_511 rfl F2302 (by decide) rfl ?_
            refine C.callS (argsL := [(.ref a2242), (.int cq)]) (rest := []) 0 (fun zz => con_step l Z a0 hw n0 h2297 zz a2242 cq ln co pv F2311 g2247) at_512 rfl (tw hw 21 rfl) (tw hw 22 rfl) (tw hw 3 rfl) (tw hw 23 rfl) (by decide) pd_2 rfl rfl rfl (Nat.le_of_eq rfl) (by decide) (by decide) (by decide) (by decide) (fun v2312 h2313 r2314 => ?_)
            obtain ⟨rfl, K2315, F2316⟩ := r2314
            have F2317 := F2300.keep K2315
            have F2318 := F2301.keep K2315 (ninS ne2248 nin0)
            have F2319 := F2302.keep K2315 (ninS ne2249 nin0)
            have F2320 := F2303.keep K2315 (ninS ne2251 nin0)
            have F2321 := F2304.keep K2315 (ninS ne2252 nin0)
            have F2322 := F2305.keep K2315 (ninS ne2253 nin0)
            have F2323 := F2306.keep K2315 (ninS ne2254 nin0)
            have F2324 := F2307.keep K2315 (ninS ne2250 nin0)
            have F2325 := F2308.keep K2315 (ninS ne2250 nin0)
            have F2326 := F2309.keep K2315 (ninS ne2250 nin0)
            have F2327 := F2310.keep K2315 (ninS ne2250 nin0)
            refine C.aload at_515 rfl rfl rfl ?_
            refine C.aload at_517 rfl rfl rfl ?_
            refine C.iconst 0 at_519 rfl rfl ?_
            refine C.iconst 1 at_520 rfl rfl ?_
            refine C.iconst 1 at_521 rfl rfl ?_
            refine C.iconst 0 at_522 rfl rfl ?_
            refine C.iconst 0 at_523 rfl rfl ?_
            refine C.callV (argsL := [(.ref a970), (.int 0), (.int 1), (.int 1), (.int 0), (.int 0)]) (rest := []) 0 (fun zz => con_pass_1_0 l Z a0 hw n0 h2313 zz a1001 a970 1 1 0 0 ln co pv cq F2317 F2324 F2325 F2326 F2327 F2319 g1007 (Ne.symm ne1010) (by decide) ncq) F2317 at_524 rfl (tw hw 28 rfl) (tw hw 29 rfl) (tw hw 30 rfl) (tw hw 31 rfl) (tw hw 9 rfl) (tw hw 32 rfl) (by decide) pd_4 rfl rfl rfl (Nat.le_of_eq rfl) (by decide) (by decide) (by decide) (by decide) (fun v2329 h2330 r2331 => ?_)
            obtain ⟨rfl, K2332, F2333, F2334, F2335, F2336⟩ := r2331
            have F2337 := F2317.keep K2332
            have F2338 := F2318.keep K2332 (ninS ne1008 nin0)
            have F2339 := F2319.keep K2332 (ninS ne1010 nin0)
            have F2340 := F2320.keep K2332 (ninS (Ne.symm ne1086) nin0)
            have F2341 := F2321.keep K2332 (ninS (Ne.symm ne1153) nin0)
            have F2342 := F2322.keep K2332 (ninS (Ne.symm ne1172) nin0)
            have F2343 := F2323.keep K2332 (ninS (Ne.symm ne1193) nin0)
            have F2348 := F2316.keep K2332 (ninS (Ne.symm ne2250) nin0)
            have kE2349 : (own_pass 1 1 0 0 0 [cq] ln co pv) = (1, own_ln ln pv cq, own_cl co pv cq, cq) := own_go ⟨by decide, Or.inl (by decide)⟩
            have F2350 : Fld Z h2330 a1001 "com/example/dodder/dodder/PlacedText$Counter" "line" "I" (.int (own_ln ln pv cq)) := by have q := F2333; rw [kE2349] at q; exact q
            have F2351 : Fld Z h2330 a1001 "com/example/dodder/dodder/PlacedText$Counter" "column" "I" (.int (own_cl co pv cq)) := by have q := F2334; rw [kE2349] at q; exact q
            have F2352 : Fld Z h2330 a1001 "com/example/dodder/dodder/PlacedText$Counter" "afterCarriageReturn" "Z" (.int (own_cr cq)) := by have q := F2335; rw [kE2349] at q; exact q
            have F2353 : Fld Z h2330 a1001 "com/example/dodder/dodder/PlacedText$Counter" "started" "Z" (.int (own_bg cq)) := by have q := F2336; rw [kE2349] at q; exact q
            rw [kE2349]
            show Go p l e room_1 s m #[(.long x0), (.long x1), (.int x2), (.int x3), (.int x4), (.int x5)] below meth c n0 (FinQ s n0 (Qcon0 Z n0 h0 x0 x1 x2 x3 x4 x5) room_1.cells room_1.slots) h2330 9 27 527 #[.val (.long x0), .second, .val (.long x1), .second, iv x2, iv x3, iv x4, iv x5, rv a921, rv a952, rv a970, iv b11, iv 0, iv ((XT.ushr x2 2) &&& 3), rv a1001, rv a1077, iv 1, rv a1145, rv a1164, rv a1185, iv 0, iv 0, rv a2242, .unset] [(.int 1)]
            refine C.istore (Ls' := #[.val (.long x0), .second, .val (.long x1), .second, iv x2, iv x3, iv x4, iv x5, rv a921, rv a952, rv a970, iv b11, iv 0, iv ((XT.ushr x2 2) &&& 3), rv a1001, rv a1077, iv 1, rv a1145, rv a1164, rv a1185, iv 0, iv 0, rv a2242, iv 1]) at_527 rfl rfl ?_
            refine C.iload at_529 rfl rfl ?_
            refine C.if_eq_f at_531 rfl (by decide) ?_
            refine C.iload at_534 rfl rfl ?_
            refine C.iconst 1 at_536 rfl rfl ?_
            refine C.icmp_ne_f at_537 rfl (by decide) ?_
            refine C.aload at_540 rfl rfl rfl ?_
            refine C.callV (argsL := []) (rest := []) 0 (fun zz => au1460_7 l Z a0 hw n0 h2330 zz a1001 (own_cr cq) (own_cl co pv cq) (own_ln ln pv cq) (own_bg cq) F2337 F2352 F2351 F2350 F2353 g1007) F2337 at_542 rfl (tw hw 37 rfl) (tw hw 38 rfl) (tw hw 39 rfl) (tw hw 40 rfl) (tw hw 9 rfl) (tw hw 41 rfl) (by decide) pd_5 rfl rfl rfl (Nat.le_of_eq rfl) (by decide) (by decide) (by decide) (by decide) (fun v2354 h2355 r2356 => ?_)
            obtain ⟨rfl, rfl⟩ := r2356
            refine C.aload at_545 rfl rfl rfl ?_
            refine C.iconst 0 at_547 rfl rfl ?_
            refine C.iaload (.int (own_ln ln pv cq)) at_548 rfl F2348 (by decide) rfl ?_
            refine C.icmp_ne_f at_549 rfl rfl ?_
            refine C.aload at_552 rfl rfl rfl ?_
            refine C.callV (argsL := []) (rest := []) 0 (fun zz => au1465_8 l Z a0 hw n0 h2330 zz a1001 (own_cr cq) (own_cl co pv cq) (own_ln ln pv cq) (own_bg cq) F2337 F2352 F2351 F2350 F2353 g1007) F2337 at_554 rfl (tw hw 42 rfl) (tw hw 43 rfl) (tw hw 44 rfl) (tw hw 45 rfl) (tw hw 9 rfl) (tw hw 46 rfl) (by decide) pd_5 rfl rfl rfl (Nat.le_of_eq rfl) (by decide) (by decide) (by decide) (by decide) (fun v2358 h2359 r2360 => ?_)
            obtain ⟨rfl, rfl⟩ := r2360
            refine C.aload at_557 rfl rfl rfl ?_
            refine C.iconst 1 at_559 rfl rfl ?_
            refine C.iaload (.int (own_cl co pv cq)) at_560 rfl F2348 (by decide) rfl ?_
            refine C.icmp_ne_f at_561 rfl rfl ?_
            refine C.iconst 1 at_564 rfl rfl ?_
            refine C.goto at_565 (by decide) rfl ?_
            exact C.retZ at_569 rfl (by decide) (by decide) ⟨rfl, trivial⟩
          refine C.iconst 1 at_379 rfl rfl ?_
          refine C.istore (Ls' := #[.val (.long x0), .second, .val (.long x1), .second, iv x2, iv x3, iv x4, iv x5, rv a921, rv a952, rv a970, iv b11, iv 0, iv ((XT.ushr x2 2) &&& 3), rv a1001, rv a1077, iv 1, rv a1145, rv a1164, rv a1185, iv 1, .unset, .unset, .unset]) at_380 rfl rfl ?_
          refine C.iload at_382 rfl rfl ?_
          refine C.if_gt_f at_384 rfl (by decide) ?_
          refine C.iconst 0 at_387 rfl rfl ?_
          refine C.iload at_388 rfl rfl ?_
          refine C.iload at_390 rfl rfl ?_
          refine C.aload at_392 rfl rfl rfl ?_
          refine C.iconst 0 at_394 rfl rfl ?_
          refine C.iaload (.int ln) at_395 rfl F1421 (by decide) rfl ?_
          refine C.aload at_396 rfl rfl rfl ?_
          refine C.iconst 0 at_398 rfl rfl ?_
          refine C.iaload (.int co) at_399 rfl F1422 (by decide) rfl ?_
          refine C.iload at_400 rfl rfl ?_
          refine C.iload at_402 rfl rfl ?_
          refine C.callS (argsL := [(.int 0), (.int ((XT.ushr x2 2) &&& 3)), (.int x3), (.int ln), (.int co), (.int x4), (.int x5)]) (rest := []) 0 (fun zz => con_stops l Z a0 hw n0 h1410 zz 0 ((XT.ushr x2 2) &&& 3) x3 ln co x4 x5 ) at_404 rfl (tw hw 25 rfl) (tw hw 26 rfl) (tw hw 3 rfl) (tw hw 27 rfl) (by decide) pd_3 rfl rfl rfl (Nat.le_of_eq rfl) (by decide) (by decide) (by decide) (by decide) (fun v2362 h2363 r2364 => ?_)
          obtain ⟨rfl, rfl⟩ := r2364
          refine C.if_eq at_407 (by decide) rfl rfl (fun q407 => ?_) (fun q407 => ?_)
          · refine C.aload at_413 rfl rfl rfl ?_
            refine C.aload at_415 rfl rfl rfl ?_
            refine C.iload at_417 rfl rfl ?_
            refine C.iload at_419 rfl rfl ?_
            refine C.iload at_421 rfl rfl ?_
            refine C.iload at_423 rfl rfl ?_
            refine C.iload at_425 rfl rfl ?_
            refine C.callV (argsL := [(.ref a921), (.int 0), (.int ((XT.ushr x2 2) &&& 3)), (.int x3), (.int x4), (.int x5)]) (rest := []) 0 (fun zz => con_pass_3_0 l Z a0 hw n0 h1410 zz a1001 a921 ((XT.ushr x2 2) &&& 3) x3 x4 x5 ln co pv c0 c1 c2 F1413 F1414 F1415 F1416 F1417 F1418 g1007 (Ne.symm ne1008) (own_to _) nc0 nc1 nc2) F1413 at_427 rfl (tw hw 28 rfl) (tw hw 29 rfl) (tw hw 30 rfl) (tw hw 31 rfl) (tw hw 9 rfl) (tw hw 32 rfl) (by decide) pd_4 rfl rfl rfl (Nat.le_of_eq rfl) (by decide) (by decide) (by decide) (by decide) (fun v2366 h2367 r2368 => ?_)
            obtain ⟨rfl, K2369, F2370, F2371, F2372, F2373⟩ := r2368
            have F2374 := F1413.keep K2369
            have F2379 := F1418.keep K2369 (ninS ne1008 nin0)
            have F2380 := F1419.keep K2369 (ninS ne1010 nin0)
            have F2381 := F1420.keep K2369 (ninS (Ne.symm ne1086) nin0)
            have F2382 := F1421.keep K2369 (ninS (Ne.symm ne1153) nin0)
            have F2383 := F1422.keep K2369 (ninS (Ne.symm ne1172) nin0)
            have F2384 := F1423.keep K2369 (ninS (Ne.symm ne1193) nin0)
            have kE2385 : (own_pass ((XT.ushr x2 2) &&& 3) x3 x4 x5 0 [c0, c1, c2] ln co pv) = (1, (own_ln ln pv c0), (own_cl co pv c0), c0) := ((own_go (own_stop0.mp q407)).trans (own_no (fun h => q376 (own_stop0.mpr h))))
            have F2386 : Fld Z h2367 a1001 "com/example/dodder/dodder/PlacedText$Counter" "line" "I" (.int (own_ln ln pv c0)) := by have q := F2370; rw [kE2385] at q; exact q
            have F2387 : Fld Z h2367 a1001 "com/example/dodder/dodder/PlacedText$Counter" "column" "I" (.int (own_cl co pv c0)) := by have q := F2371; rw [kE2385] at q; exact q
            have F2388 : Fld Z h2367 a1001 "com/example/dodder/dodder/PlacedText$Counter" "afterCarriageReturn" "Z" (.int (own_cr c0)) := by have q := F2372; rw [kE2385] at q; exact q
            have F2389 : Fld Z h2367 a1001 "com/example/dodder/dodder/PlacedText$Counter" "started" "Z" (.int (own_bg c0)) := by have q := F2373; rw [kE2385] at q; exact q
            rw [kE2385]
            show Go p l e room_1 s m #[(.long x0), (.long x1), (.int x2), (.int x3), (.int x4), (.int x5)] below meth c n0 (FinQ s n0 (Qcon0 Z n0 h0 x0 x1 x2 x3 x4 x5) room_1.cells room_1.slots) h2367 8 24 430 #[.val (.long x0), .second, .val (.long x1), .second, iv x2, iv x3, iv x4, iv x5, rv a921, rv a952, rv a970, iv b11, iv 0, iv ((XT.ushr x2 2) &&& 3), rv a1001, rv a1077, iv 1, rv a1145, rv a1164, rv a1185, iv 1, .unset, .unset, .unset] [(.int 1)]
            refine C.istore (Ls' := #[.val (.long x0), .second, .val (.long x1), .second, iv x2, iv x3, iv x4, iv x5, rv a921, rv a952, rv a970, iv b11, iv 0, iv ((XT.ushr x2 2) &&& 3), rv a1001, rv a1077, iv 1, rv a1145, rv a1164, rv a1185, iv 1, iv 1, .unset, .unset]) at_430 rfl rfl ?_
            refine C.iload at_432 rfl rfl ?_
            refine C.if_eq_f at_434 rfl (by decide) ?_
            refine C.iload at_437 rfl rfl ?_
            refine C.iload at_439 rfl rfl ?_
            refine C.icmp_ne_f at_441 rfl (by decide) ?_
            refine C.aload at_444 rfl rfl rfl ?_
            refine C.callV (argsL := []) (rest := []) 0 (fun zz => au1460_7 l Z a0 hw n0 h2367 zz a1001 (own_cr c0) (own_cl co pv c0) (own_ln ln pv c0) (own_bg c0) F2374 F2388 F2387 F2386 F2389 g1007) F2374 at_446 rfl (tw hw 37 rfl) (tw hw 38 rfl) (tw hw 39 rfl) (tw hw 40 rfl) (tw hw 9 rfl) (tw hw 41 rfl) (by decide) pd_5 rfl rfl rfl (Nat.le_of_eq rfl) (by decide) (by decide) (by decide) (by decide) (fun v2390 h2391 r2392 => ?_)
            obtain ⟨rfl, rfl⟩ := r2392
            refine C.aload at_449 rfl rfl rfl ?_
            refine C.iload at_451 rfl rfl ?_
            refine C.iaload (.int (own_ln ln pv c0)) at_453 rfl F2382 (by decide) rfl ?_
            refine C.icmp_ne_f at_454 rfl rfl ?_
            refine C.aload at_457 rfl rfl rfl ?_
            refine C.callV (argsL := []) (rest := []) 0 (fun zz => au1465_8 l Z a0 hw n0 h2367 zz a1001 (own_cr c0) (own_cl co pv c0) (own_ln ln pv c0) (own_bg c0) F2374 F2388 F2387 F2386 F2389 g1007) F2374 at_459 rfl (tw hw 42 rfl) (tw hw 43 rfl) (tw hw 44 rfl) (tw hw 45 rfl) (tw hw 9 rfl) (tw hw 46 rfl) (by decide) pd_5 rfl rfl rfl (Nat.le_of_eq rfl) (by decide) (by decide) (by decide) (by decide) (fun v2394 h2395 r2396 => ?_)
            obtain ⟨rfl, rfl⟩ := r2396
            refine C.aload at_462 rfl rfl rfl ?_
            refine C.iload at_464 rfl rfl ?_
            refine C.iaload (.int (own_cl co pv c0)) at_466 rfl F2383 (by decide) rfl ?_
            refine C.icmp_ne_f at_467 rfl rfl ?_
            refine C.iconst 1 at_470 rfl rfl ?_
            refine C.goto at_471 (by decide) rfl ?_
            refine C.istore (Ls' := #[.val (.long x0), .second, .val (.long x1), .second, iv x2, iv x3, iv x4, iv x5, rv a921, rv a952, rv a970, iv b11, iv 0, iv ((XT.ushr x2 2) &&& 3), rv a1001, rv a1077, iv 1, rv a1145, rv a1164, rv a1185, iv 1, iv 1, .unset, .unset]) at_475 rfl rfl ?_
            refine C.iconst 3 at_477 rfl rfl ?_
            refine C.newarr 3 at_478 rfl rfl (tw hw 20 rfl) (by decide) (by decide) (by decide) (by decide) (by decide) (fun a2398 h2399 z2402 g2403 X2400 F2401 => ?_)
            have ne2404 : a921 ≠ a2398 := by rw [z2402]; exact Nat.ne_of_lt F2379.lt
            have ne2405 : a970 ≠ a2398 := by rw [z2402]; exact Nat.ne_of_lt F2380.lt
            have ne2406 : a1001 ≠ a2398 := by rw [z2402]; exact Nat.ne_of_lt F2374.lt
            have ne2407 : a1077 ≠ a2398 := by rw [z2402]; exact Nat.ne_of_lt F2381.lt
            have ne2408 : a1145 ≠ a2398 := by rw [z2402]; exact Nat.ne_of_lt F2382.lt
            have ne2409 : a1164 ≠ a2398 := by rw [z2402]; exact Nat.ne_of_lt F2383.lt
            have ne2410 : a1185 ≠ a2398 := by rw [z2402]; exact Nat.ne_of_lt F2384.lt
            have F2411 := Exa.ext X2400 F2374
            have F2412 := F2379.ext X2400
            have F2413 := F2380.ext X2400
            have F2414 := F2381.ext X2400
            have F2415 := F2382.ext X2400
            have F2416 := F2383.ext X2400
            have F2417 := F2384.ext X2400
            have F2418 := Fld.ext X2400 F2386
            have F2419 := Fld.ext X2400 F2387
            have F2420 := Fld.ext X2400 F2388
            have F2421 := Fld.ext X2400 F2389
            have F2422 : Av Z h2399 a2398 .int ([.int 0, .int 0, .int 0]) := F2401
            refine C.dup at_480 rfl rfl ?_
            refine C.iconst 0 at_481 rfl rfl ?_
            refine C.aload at_482 rfl rfl rfl ?_
            refine C.iload at_484 rfl rfl ?_
            refine C.iaload (.int (own_ln ln pv c0)) at_486 rfl F2415 (by decide) rfl ?_
            refine C.iastore at_487 rfl F2422 g2403 (by decide) (Nat.le_of_ble_eq_true rfl) (fun h2423 W2424 F2425 => ?_)
            have F2426 := Exa.wr W2424 F2411
            have F2427 := F2412.other W2424 ne2404
            have F2428 := F2413.other W2424 ne2405
            have F2429 := F2414.other W2424 ne2407
            have F2430 := F2415.other W2424 ne2408
            have F2431 := F2416.other W2424 ne2409
            have F2432 := F2417.other W2424 ne2410
            have F2433 := Fld.other W2424 F2418 (Or.inl ne2406)
            have F2434 := Fld.other W2424 F2419 (Or.inl ne2406)
            have F2435 := Fld.other W2424 F2420 (Or.inl ne2406)
            have F2436 := Fld.other W2424 F2421 (Or.inl ne2406)
            have F2437 : Av Z h2423 a2398 .int ([.int (own_ln ln pv c0), .int 0, .int 0]) := F2425
            refine C.dup at_488 rfl rfl ?_
            refine C.iconst 1 at_489 rfl rfl ?_
            refine C.aload at_490 rfl rfl rfl ?_
            refine C.iload at_492 rfl rfl ?_
            refine C.iaload (.int (own_cl co pv c0)) at_494 rfl F2431 (by decide) rfl ?_
            refine C.iastore at_495 rfl F2437 g2403 (by decide) (Nat.le_of_ble_eq_true rfl) (fun h2438 W2439 F2440 => ?_)
            have F2441 := Exa.wr W2439 F2426
            have F2442 := F2427.other W2439 ne2404
            have F2443 := F2428.other W2439 ne2405
            have F2444 := F2429.other W2439 ne2407
            have F2445 := F2430.other W2439 ne2408
            have F2446 := F2431.other W2439 ne2409
            have F2447 := F2432.other W2439 ne2410
            have F2448 := Fld.other W2439 F2433 (Or.inl ne2406)
            have F2449 := Fld.other W2439 F2434 (Or.inl ne2406)
            have F2450 := Fld.other W2439 F2435 (Or.inl ne2406)
            have F2451 := Fld.other W2439 F2436 (Or.inl ne2406)
            have F2452 : Av Z h2438 a2398 .int ([.int (own_ln ln pv c0), .int (own_cl co pv c0), .int 0]) := F2440
            refine C.dup at_496 rfl rfl ?_
            refine C.iconst 2 at_497 rfl rfl ?_
            refine C.aload at_498 rfl rfl rfl ?_
            refine C.iload at_500 rfl rfl ?_
            refine C.iaload (.int c0) at_502 rfl F2447 (by decide) rfl ?_
            refine C.iastore at_503 rfl F2452 g2403 (by decide) (Nat.le_of_ble_eq_true rfl) (fun h2453 W2454 F2455 => ?_)
            have F2456 := Exa.wr W2454 F2441
            have F2457 := F2442.other W2454 ne2404
            have F2458 := F2443.other W2454 ne2405
            have F2459 := F2444.other W2454 ne2407
            have F2460 := F2445.other W2454 ne2408
            have F2461 := F2446.other W2454 ne2409
            have F2462 := F2447.other W2454 ne2410
            have F2463 := Fld.other W2454 F2448 (Or.inl ne2406)
            have F2464 := Fld.other W2454 F2449 (Or.inl ne2406)
            have F2465 := Fld.other W2454 F2450 (Or.inl ne2406)
            have F2466 := Fld.other W2454 F2451 (Or.inl ne2406)
            have F2467 : Av Z h2453 a2398 .int ([.int (own_ln ln pv c0), .int (own_cl co pv c0), .int c0]) := F2455
            refine C.astore (Ls' := #[.val (.long x0), .second, .val (.long x1), .second, iv x2, iv x3, iv x4, iv x5, rv a921, rv a952, rv a970, iv b11, iv 0, iv ((XT.ushr x2 2) &&& 3), rv a1001, rv a1077, iv 1, rv a1145, rv a1164, rv a1185, iv 1, iv 1, rv a2398, .unset]) at_504 rfl rfl rfl ?_
            refine C.aload at_506 rfl rfl rfl ?_
            refine C.aload at_508 rfl rfl rfl ?_
            refine C.iconst 0 at_510 rfl rfl ?_
            refine C.caload (.int cq) at_511 rfl F2458 (by decide) rfl ?_
            refine C.callS (argsL := [(.ref a2398), (.int cq)]) (rest := []) 0 (fun zz => con_step l Z a0 hw n0 h2453 zz a2398 cq (own_ln ln pv c0) (own_cl co pv c0) c0 F2467 g2403) at_512 rfl (tw hw 21 rfl) (tw hw 22 rfl) (tw hw 3 rfl) (tw hw 23 rfl) (by decide) pd_2 rfl rfl rfl (Nat.le_of_eq rfl) (by decide) (by decide) (by decide) (by decide) (fun v2468 h2469 r2470 => ?_)
            obtain ⟨rfl, K2471, F2472⟩ := r2470
            have F2473 := F2456.keep K2471
            have F2474 := F2457.keep K2471 (ninS ne2404 nin0)
            have F2475 := F2458.keep K2471 (ninS ne2405 nin0)
            have F2476 := F2459.keep K2471 (ninS ne2407 nin0)
            have F2477 := F2460.keep K2471 (ninS ne2408 nin0)
            have F2478 := F2461.keep K2471 (ninS ne2409 nin0)
            have F2479 := F2462.keep K2471 (ninS ne2410 nin0)
            have F2480 := F2463.keep K2471 (ninS ne2406 nin0)
            have F2481 := F2464.keep K2471 (ninS ne2406 nin0)
            have F2482 := F2465.keep K2471 (ninS ne2406 nin0)
            have F2483 := F2466.keep K2471 (ninS ne2406 nin0)
            refine C.aload at_515 rfl rfl rfl ?_
            refine C.aload at_517 rfl rfl rfl ?_
            refine C.iconst 0 at_519 rfl rfl ?_
            refine C.iconst 1 at_520 rfl rfl ?_
            refine C.iconst 1 at_521 rfl rfl ?_
            refine C.iconst 0 at_522 rfl rfl ?_
            refine C.iconst 0 at_523 rfl rfl ?_
            refine C.callV (argsL := [(.ref a970), (.int 0), (.int 1), (.int 1), (.int 0), (.int 0)]) (rest := []) 0 (fun zz => con_pass_1_0 l Z a0 hw n0 h2469 zz a1001 a970 1 1 0 0 (own_ln ln pv c0) (own_cl co pv c0) c0 cq F2473 F2480 F2481 F2482 F2483 F2475 g1007 (Ne.symm ne1010) (by decide) ncq) F2473 at_524 rfl (tw hw 28 rfl) (tw hw 29 rfl) (tw hw 30 rfl) (tw hw 31 rfl) (tw hw 9 rfl) (tw hw 32 rfl) (by decide) pd_4 rfl rfl rfl (Nat.le_of_eq rfl) (by decide) (by decide) (by decide) (by decide) (fun v2485 h2486 r2487 => ?_)
            obtain ⟨rfl, K2488, F2489, F2490, F2491, F2492⟩ := r2487
            have F2493 := F2473.keep K2488
            have F2494 := F2474.keep K2488 (ninS ne1008 nin0)
            have F2495 := F2475.keep K2488 (ninS ne1010 nin0)
            have F2496 := F2476.keep K2488 (ninS (Ne.symm ne1086) nin0)
            have F2497 := F2477.keep K2488 (ninS (Ne.symm ne1153) nin0)
            have F2498 := F2478.keep K2488 (ninS (Ne.symm ne1172) nin0)
            have F2499 := F2479.keep K2488 (ninS (Ne.symm ne1193) nin0)
            have F2504 := F2472.keep K2488 (ninS (Ne.symm ne2406) nin0)
            have kE2505 : (own_pass 1 1 0 0 0 [cq] (own_ln ln pv c0) (own_cl co pv c0) c0) = (1, own_ln (own_ln ln pv c0) c0 cq, own_cl (own_cl co pv c0) c0 cq, cq) := own_go ⟨by decide, Or.inl (by decide)⟩
            have F2506 : Fld Z h2486 a1001 "com/example/dodder/dodder/PlacedText$Counter" "line" "I" (.int (own_ln (own_ln ln pv c0) c0 cq)) := by have q := F2489; rw [kE2505] at q; exact q
            have F2507 : Fld Z h2486 a1001 "com/example/dodder/dodder/PlacedText$Counter" "column" "I" (.int (own_cl (own_cl co pv c0) c0 cq)) := by have q := F2490; rw [kE2505] at q; exact q
            have F2508 : Fld Z h2486 a1001 "com/example/dodder/dodder/PlacedText$Counter" "afterCarriageReturn" "Z" (.int (own_cr cq)) := by have q := F2491; rw [kE2505] at q; exact q
            have F2509 : Fld Z h2486 a1001 "com/example/dodder/dodder/PlacedText$Counter" "started" "Z" (.int (own_bg cq)) := by have q := F2492; rw [kE2505] at q; exact q
            rw [kE2505]
            show Go p l e room_1 s m #[(.long x0), (.long x1), (.int x2), (.int x3), (.int x4), (.int x5)] below meth c n0 (FinQ s n0 (Qcon0 Z n0 h0 x0 x1 x2 x3 x4 x5) room_1.cells room_1.slots) h2486 9 27 527 #[.val (.long x0), .second, .val (.long x1), .second, iv x2, iv x3, iv x4, iv x5, rv a921, rv a952, rv a970, iv b11, iv 0, iv ((XT.ushr x2 2) &&& 3), rv a1001, rv a1077, iv 1, rv a1145, rv a1164, rv a1185, iv 1, iv 1, rv a2398, .unset] [(.int 1)]
            refine C.istore (Ls' := #[.val (.long x0), .second, .val (.long x1), .second, iv x2, iv x3, iv x4, iv x5, rv a921, rv a952, rv a970, iv b11, iv 0, iv ((XT.ushr x2 2) &&& 3), rv a1001, rv a1077, iv 1, rv a1145, rv a1164, rv a1185, iv 1, iv 1, rv a2398, iv 1]) at_527 rfl rfl ?_
            refine C.iload at_529 rfl rfl ?_
            refine C.if_eq_f at_531 rfl (by decide) ?_
            refine C.iload at_534 rfl rfl ?_
            refine C.iconst 1 at_536 rfl rfl ?_
            refine C.icmp_ne_f at_537 rfl (by decide) ?_
            refine C.aload at_540 rfl rfl rfl ?_
            refine C.callV (argsL := []) (rest := []) 0 (fun zz => au1460_7 l Z a0 hw n0 h2486 zz a1001 (own_cr cq) (own_cl (own_cl co pv c0) c0 cq) (own_ln (own_ln ln pv c0) c0 cq) (own_bg cq) F2493 F2508 F2507 F2506 F2509 g1007) F2493 at_542 rfl (tw hw 37 rfl) (tw hw 38 rfl) (tw hw 39 rfl) (tw hw 40 rfl) (tw hw 9 rfl) (tw hw 41 rfl) (by decide) pd_5 rfl rfl rfl (Nat.le_of_eq rfl) (by decide) (by decide) (by decide) (by decide) (fun v2510 h2511 r2512 => ?_)
            obtain ⟨rfl, rfl⟩ := r2512
            refine C.aload at_545 rfl rfl rfl ?_
            refine C.iconst 0 at_547 rfl rfl ?_
            refine C.iaload (.int (own_ln (own_ln ln pv c0) c0 cq)) at_548 rfl F2504 (by decide) rfl ?_
            refine C.icmp_ne_f at_549 rfl rfl ?_
            refine C.aload at_552 rfl rfl rfl ?_
            refine C.callV (argsL := []) (rest := []) 0 (fun zz => au1465_8 l Z a0 hw n0 h2486 zz a1001 (own_cr cq) (own_cl (own_cl co pv c0) c0 cq) (own_ln (own_ln ln pv c0) c0 cq) (own_bg cq) F2493 F2508 F2507 F2506 F2509 g1007) F2493 at_554 rfl (tw hw 42 rfl) (tw hw 43 rfl) (tw hw 44 rfl) (tw hw 45 rfl) (tw hw 9 rfl) (tw hw 46 rfl) (by decide) pd_5 rfl rfl rfl (Nat.le_of_eq rfl) (by decide) (by decide) (by decide) (by decide) (fun v2514 h2515 r2516 => ?_)
            obtain ⟨rfl, rfl⟩ := r2516
            refine C.aload at_557 rfl rfl rfl ?_
            refine C.iconst 1 at_559 rfl rfl ?_
            refine C.iaload (.int (own_cl (own_cl co pv c0) c0 cq)) at_560 rfl F2504 (by decide) rfl ?_
            refine C.icmp_ne_f at_561 rfl rfl ?_
            refine C.iconst 1 at_564 rfl rfl ?_
            refine C.goto at_565 (by decide) rfl ?_
            exact C.retZ at_569 rfl (by decide) (by decide) ⟨rfl, trivial⟩
          refine C.iconst 0 at_410 rfl rfl ?_
          refine C.istore (Ls' := #[.val (.long x0), .second, .val (.long x1), .second, iv x2, iv x3, iv x4, iv x5, rv a921, rv a952, rv a970, iv b11, iv 0, iv ((XT.ushr x2 2) &&& 3), rv a1001, rv a1077, iv 1, rv a1145, rv a1164, rv a1185, iv 0, .unset, .unset, .unset]) at_411 rfl rfl ?_
          refine C.aload at_413 rfl rfl rfl ?_
          refine C.aload at_415 rfl rfl rfl ?_
          refine C.iload at_417 rfl rfl ?_
          refine C.iload at_419 rfl rfl ?_
          refine C.iload at_421 rfl rfl ?_
          refine C.iload at_423 rfl rfl ?_
          refine C.iload at_425 rfl rfl ?_
          refine C.callV (argsL := [(.ref a921), (.int 0), (.int ((XT.ushr x2 2) &&& 3)), (.int x3), (.int x4), (.int x5)]) (rest := []) 0 (fun zz => con_pass_3_0 l Z a0 hw n0 h1410 zz a1001 a921 ((XT.ushr x2 2) &&& 3) x3 x4 x5 ln co pv c0 c1 c2 F1413 F1414 F1415 F1416 F1417 F1418 g1007 (Ne.symm ne1008) (own_to _) nc0 nc1 nc2) F1413 at_427 rfl (tw hw 28 rfl) (tw hw 29 rfl) (tw hw 30 rfl) (tw hw 31 rfl) (tw hw 9 rfl) (tw hw 32 rfl) (by decide) pd_4 rfl rfl rfl (Nat.le_of_eq rfl) (by decide) (by decide) (by decide) (by decide) (fun v2518 h2519 r2520 => ?_)
          obtain ⟨rfl, K2521, F2522, F2523, F2524, F2525⟩ := r2520
          have F2526 := F1413.keep K2521
          have F2531 := F1418.keep K2521 (ninS ne1008 nin0)
          have F2532 := F1419.keep K2521 (ninS ne1010 nin0)
          have F2533 := F1420.keep K2521 (ninS (Ne.symm ne1086) nin0)
          have F2534 := F1421.keep K2521 (ninS (Ne.symm ne1153) nin0)
          have F2535 := F1422.keep K2521 (ninS (Ne.symm ne1172) nin0)
          have F2536 := F1423.keep K2521 (ninS (Ne.symm ne1193) nin0)
          have kE2537 : (own_pass ((XT.ushr x2 2) &&& 3) x3 x4 x5 0 [c0, c1, c2] ln co pv) = (0, ln, co, pv) := (own_no (fun h => q407 (own_stop0.mpr h)))
          have F2538 : Fld Z h2519 a1001 "com/example/dodder/dodder/PlacedText$Counter" "line" "I" (.int ln) := by have q := F2522; rw [kE2537] at q; exact q
          have F2539 : Fld Z h2519 a1001 "com/example/dodder/dodder/PlacedText$Counter" "column" "I" (.int co) := by have q := F2523; rw [kE2537] at q; exact q
          have F2540 : Fld Z h2519 a1001 "com/example/dodder/dodder/PlacedText$Counter" "afterCarriageReturn" "Z" (.int (own_cr pv)) := by have q := F2524; rw [kE2537] at q; exact q
          have F2541 : Fld Z h2519 a1001 "com/example/dodder/dodder/PlacedText$Counter" "started" "Z" (.int (own_bg pv)) := by have q := F2525; rw [kE2537] at q; exact q
          rw [kE2537]
          show Go p l e room_1 s m #[(.long x0), (.long x1), (.int x2), (.int x3), (.int x4), (.int x5)] below meth c n0 (FinQ s n0 (Qcon0 Z n0 h0 x0 x1 x2 x3 x4 x5) room_1.cells room_1.slots) h2519 8 24 430 #[.val (.long x0), .second, .val (.long x1), .second, iv x2, iv x3, iv x4, iv x5, rv a921, rv a952, rv a970, iv b11, iv 0, iv ((XT.ushr x2 2) &&& 3), rv a1001, rv a1077, iv 1, rv a1145, rv a1164, rv a1185, iv 0, .unset, .unset, .unset] [(.int 0)]
          refine C.istore (Ls' := #[.val (.long x0), .second, .val (.long x1), .second, iv x2, iv x3, iv x4, iv x5, rv a921, rv a952, rv a970, iv b11, iv 0, iv ((XT.ushr x2 2) &&& 3), rv a1001, rv a1077, iv 1, rv a1145, rv a1164, rv a1185, iv 0, iv 0, .unset, .unset]) at_430 rfl rfl ?_
          refine C.iload at_432 rfl rfl ?_
          refine C.if_eq_f at_434 rfl (by decide) ?_
          refine C.iload at_437 rfl rfl ?_
          refine C.iload at_439 rfl rfl ?_
          refine C.icmp_ne_f at_441 rfl (by decide) ?_
          refine C.aload at_444 rfl rfl rfl ?_
          refine C.callV (argsL := []) (rest := []) 0 (fun zz => au1460_7 l Z a0 hw n0 h2519 zz a1001 (own_cr pv) co ln (own_bg pv) F2526 F2540 F2539 F2538 F2541 g1007) F2526 at_446 rfl (tw hw 37 rfl) (tw hw 38 rfl) (tw hw 39 rfl) (tw hw 40 rfl) (tw hw 9 rfl) (tw hw 41 rfl) (by decide) pd_5 rfl rfl rfl (Nat.le_of_eq rfl) (by decide) (by decide) (by decide) (by decide) (fun v2542 h2543 r2544 => ?_)
          obtain ⟨rfl, rfl⟩ := r2544
          refine C.aload at_449 rfl rfl rfl ?_
          refine C.iload at_451 rfl rfl ?_
          refine C.iaload (.int ln) at_453 rfl F2534 (by decide) rfl ?_
          refine C.icmp_ne_f at_454 rfl rfl ?_
          refine C.aload at_457 rfl rfl rfl ?_
          refine C.callV (argsL := []) (rest := []) 0 (fun zz => au1465_8 l Z a0 hw n0 h2519 zz a1001 (own_cr pv) co ln (own_bg pv) F2526 F2540 F2539 F2538 F2541 g1007) F2526 at_459 rfl (tw hw 42 rfl) (tw hw 43 rfl) (tw hw 44 rfl) (tw hw 45 rfl) (tw hw 9 rfl) (tw hw 46 rfl) (by decide) pd_5 rfl rfl rfl (Nat.le_of_eq rfl) (by decide) (by decide) (by decide) (by decide) (fun v2546 h2547 r2548 => ?_)
          obtain ⟨rfl, rfl⟩ := r2548
          refine C.aload at_462 rfl rfl rfl ?_
          refine C.iload at_464 rfl rfl ?_
          refine C.iaload (.int co) at_466 rfl F2535 (by decide) rfl ?_
          refine C.icmp_ne_f at_467 rfl rfl ?_
          refine C.iconst 1 at_470 rfl rfl ?_
          refine C.goto at_471 (by decide) rfl ?_
          refine C.istore (Ls' := #[.val (.long x0), .second, .val (.long x1), .second, iv x2, iv x3, iv x4, iv x5, rv a921, rv a952, rv a970, iv b11, iv 0, iv ((XT.ushr x2 2) &&& 3), rv a1001, rv a1077, iv 1, rv a1145, rv a1164, rv a1185, iv 0, iv 0, .unset, .unset]) at_475 rfl rfl ?_
          refine C.iconst 3 at_477 rfl rfl ?_
          refine C.newarr 3 at_478 rfl rfl (tw hw 20 rfl) (by decide) (by decide) (by decide) (by decide) (by decide) (fun a2550 h2551 z2554 g2555 X2552 F2553 => ?_)
          have ne2556 : a921 ≠ a2550 := by rw [z2554]; exact Nat.ne_of_lt F2531.lt
          have ne2557 : a970 ≠ a2550 := by rw [z2554]; exact Nat.ne_of_lt F2532.lt
          have ne2558 : a1001 ≠ a2550 := by rw [z2554]; exact Nat.ne_of_lt F2526.lt
          have ne2559 : a1077 ≠ a2550 := by rw [z2554]; exact Nat.ne_of_lt F2533.lt
          have ne2560 : a1145 ≠ a2550 := by rw [z2554]; exact Nat.ne_of_lt F2534.lt
          have ne2561 : a1164 ≠ a2550 := by rw [z2554]; exact Nat.ne_of_lt F2535.lt
          have ne2562 : a1185 ≠ a2550 := by rw [z2554]; exact Nat.ne_of_lt F2536.lt
          have F2563 := Exa.ext X2552 F2526
          have F2564 := F2531.ext X2552
          have F2565 := F2532.ext X2552
          have F2566 := F2533.ext X2552
          have F2567 := F2534.ext X2552
          have F2568 := F2535.ext X2552
          have F2569 := F2536.ext X2552
          have F2570 := Fld.ext X2552 F2538
          have F2571 := Fld.ext X2552 F2539
          have F2572 := Fld.ext X2552 F2540
          have F2573 := Fld.ext X2552 F2541
          have F2574 : Av Z h2551 a2550 .int ([.int 0, .int 0, .int 0]) := F2553
          refine C.dup at_480 rfl rfl ?_
          refine C.iconst 0 at_481 rfl rfl ?_
          refine C.aload at_482 rfl rfl rfl ?_
          refine C.iload at_484 rfl rfl ?_
          refine C.iaload (.int ln) at_486 rfl F2567 (by decide) rfl ?_
          refine C.iastore at_487 rfl F2574 g2555 (by decide) (Nat.le_of_ble_eq_true rfl) (fun h2575 W2576 F2577 => ?_)
          have F2578 := Exa.wr W2576 F2563
          have F2579 := F2564.other W2576 ne2556
          have F2580 := F2565.other W2576 ne2557
          have F2581 := F2566.other W2576 ne2559
          have F2582 := F2567.other W2576 ne2560
          have F2583 := F2568.other W2576 ne2561
          have F2584 := F2569.other W2576 ne2562
          have F2585 := Fld.other W2576 F2570 (Or.inl ne2558)
          have F2586 := Fld.other W2576 F2571 (Or.inl ne2558)
          have F2587 := Fld.other W2576 F2572 (Or.inl ne2558)
          have F2588 := Fld.other W2576 F2573 (Or.inl ne2558)
          have F2589 : Av Z h2575 a2550 .int ([.int ln, .int 0, .int 0]) := F2577
          refine C.dup at_488 rfl rfl ?_
          refine C.iconst 1 at_489 rfl rfl ?_
          refine C.aload at_490 rfl rfl rfl ?_
          refine C.iload at_492 rfl rfl ?_
          refine C.iaload (.int co) at_494 rfl F2583 (by decide) rfl ?_
          refine C.iastore at_495 rfl F2589 g2555 (by decide) (Nat.le_of_ble_eq_true rfl) (fun h2590 W2591 F2592 => ?_)
          have F2593 := Exa.wr W2591 F2578
          have F2594 := F2579.other W2591 ne2556
          have F2595 := F2580.other W2591 ne2557
          have F2596 := F2581.other W2591 ne2559
          have F2597 := F2582.other W2591 ne2560
          have F2598 := F2583.other W2591 ne2561
          have F2599 := F2584.other W2591 ne2562
          have F2600 := Fld.other W2591 F2585 (Or.inl ne2558)
          have F2601 := Fld.other W2591 F2586 (Or.inl ne2558)
          have F2602 := Fld.other W2591 F2587 (Or.inl ne2558)
          have F2603 := Fld.other W2591 F2588 (Or.inl ne2558)
          have F2604 : Av Z h2590 a2550 .int ([.int ln, .int co, .int 0]) := F2592
          refine C.dup at_496 rfl rfl ?_
          refine C.iconst 2 at_497 rfl rfl ?_
          refine C.aload at_498 rfl rfl rfl ?_
          refine C.iload at_500 rfl rfl ?_
          refine C.iaload (.int pv) at_502 rfl F2599 (by decide) rfl ?_
          refine C.iastore at_503 rfl F2604 g2555 (by decide) (Nat.le_of_ble_eq_true rfl) (fun h2605 W2606 F2607 => ?_)
          have F2608 := Exa.wr W2606 F2593
          have F2609 := F2594.other W2606 ne2556
          have F2610 := F2595.other W2606 ne2557
          have F2611 := F2596.other W2606 ne2559
          have F2612 := F2597.other W2606 ne2560
          have F2613 := F2598.other W2606 ne2561
          have F2614 := F2599.other W2606 ne2562
          have F2615 := Fld.other W2606 F2600 (Or.inl ne2558)
          have F2616 := Fld.other W2606 F2601 (Or.inl ne2558)
          have F2617 := Fld.other W2606 F2602 (Or.inl ne2558)
          have F2618 := Fld.other W2606 F2603 (Or.inl ne2558)
          have F2619 : Av Z h2605 a2550 .int ([.int ln, .int co, .int pv]) := F2607
          refine C.astore (Ls' := #[.val (.long x0), .second, .val (.long x1), .second, iv x2, iv x3, iv x4, iv x5, rv a921, rv a952, rv a970, iv b11, iv 0, iv ((XT.ushr x2 2) &&& 3), rv a1001, rv a1077, iv 1, rv a1145, rv a1164, rv a1185, iv 0, iv 0, rv a2550, .unset]) at_504 rfl rfl rfl ?_
          refine C.aload at_506 rfl rfl rfl ?_
          refine C.aload at_508 rfl rfl rfl ?_
          refine C.iconst 0 at_510 rfl rfl ?_
          refine C.caload (.int cq) at_511 rfl F2610 (by decide) rfl ?_
          refine C.callS (argsL := [(.ref a2550), (.int cq)]) (rest := []) 0 (fun zz => con_step l Z a0 hw n0 h2605 zz a2550 cq ln co pv F2619 g2555) at_512 rfl (tw hw 21 rfl) (tw hw 22 rfl) (tw hw 3 rfl) (tw hw 23 rfl) (by decide) pd_2 rfl rfl rfl (Nat.le_of_eq rfl) (by decide) (by decide) (by decide) (by decide) (fun v2620 h2621 r2622 => ?_)
          obtain ⟨rfl, K2623, F2624⟩ := r2622
          have F2625 := F2608.keep K2623
          have F2626 := F2609.keep K2623 (ninS ne2556 nin0)
          have F2627 := F2610.keep K2623 (ninS ne2557 nin0)
          have F2628 := F2611.keep K2623 (ninS ne2559 nin0)
          have F2629 := F2612.keep K2623 (ninS ne2560 nin0)
          have F2630 := F2613.keep K2623 (ninS ne2561 nin0)
          have F2631 := F2614.keep K2623 (ninS ne2562 nin0)
          have F2632 := F2615.keep K2623 (ninS ne2558 nin0)
          have F2633 := F2616.keep K2623 (ninS ne2558 nin0)
          have F2634 := F2617.keep K2623 (ninS ne2558 nin0)
          have F2635 := F2618.keep K2623 (ninS ne2558 nin0)
          refine C.aload at_515 rfl rfl rfl ?_
          refine C.aload at_517 rfl rfl rfl ?_
          refine C.iconst 0 at_519 rfl rfl ?_
          refine C.iconst 1 at_520 rfl rfl ?_
          refine C.iconst 1 at_521 rfl rfl ?_
          refine C.iconst 0 at_522 rfl rfl ?_
          refine C.iconst 0 at_523 rfl rfl ?_
          refine C.callV (argsL := [(.ref a970), (.int 0), (.int 1), (.int 1), (.int 0), (.int 0)]) (rest := []) 0 (fun zz => con_pass_1_0 l Z a0 hw n0 h2621 zz a1001 a970 1 1 0 0 ln co pv cq F2625 F2632 F2633 F2634 F2635 F2627 g1007 (Ne.symm ne1010) (by decide) ncq) F2625 at_524 rfl (tw hw 28 rfl) (tw hw 29 rfl) (tw hw 30 rfl) (tw hw 31 rfl) (tw hw 9 rfl) (tw hw 32 rfl) (by decide) pd_4 rfl rfl rfl (Nat.le_of_eq rfl) (by decide) (by decide) (by decide) (by decide) (fun v2637 h2638 r2639 => ?_)
          obtain ⟨rfl, K2640, F2641, F2642, F2643, F2644⟩ := r2639
          have F2645 := F2625.keep K2640
          have F2646 := F2626.keep K2640 (ninS ne1008 nin0)
          have F2647 := F2627.keep K2640 (ninS ne1010 nin0)
          have F2648 := F2628.keep K2640 (ninS (Ne.symm ne1086) nin0)
          have F2649 := F2629.keep K2640 (ninS (Ne.symm ne1153) nin0)
          have F2650 := F2630.keep K2640 (ninS (Ne.symm ne1172) nin0)
          have F2651 := F2631.keep K2640 (ninS (Ne.symm ne1193) nin0)
          have F2656 := F2624.keep K2640 (ninS (Ne.symm ne2558) nin0)
          have kE2657 : (own_pass 1 1 0 0 0 [cq] ln co pv) = (1, own_ln ln pv cq, own_cl co pv cq, cq) := own_go ⟨by decide, Or.inl (by decide)⟩
          have F2658 : Fld Z h2638 a1001 "com/example/dodder/dodder/PlacedText$Counter" "line" "I" (.int (own_ln ln pv cq)) := by have q := F2641; rw [kE2657] at q; exact q
          have F2659 : Fld Z h2638 a1001 "com/example/dodder/dodder/PlacedText$Counter" "column" "I" (.int (own_cl co pv cq)) := by have q := F2642; rw [kE2657] at q; exact q
          have F2660 : Fld Z h2638 a1001 "com/example/dodder/dodder/PlacedText$Counter" "afterCarriageReturn" "Z" (.int (own_cr cq)) := by have q := F2643; rw [kE2657] at q; exact q
          have F2661 : Fld Z h2638 a1001 "com/example/dodder/dodder/PlacedText$Counter" "started" "Z" (.int (own_bg cq)) := by have q := F2644; rw [kE2657] at q; exact q
          rw [kE2657]
          show Go p l e room_1 s m #[(.long x0), (.long x1), (.int x2), (.int x3), (.int x4), (.int x5)] below meth c n0 (FinQ s n0 (Qcon0 Z n0 h0 x0 x1 x2 x3 x4 x5) room_1.cells room_1.slots) h2638 9 27 527 #[.val (.long x0), .second, .val (.long x1), .second, iv x2, iv x3, iv x4, iv x5, rv a921, rv a952, rv a970, iv b11, iv 0, iv ((XT.ushr x2 2) &&& 3), rv a1001, rv a1077, iv 1, rv a1145, rv a1164, rv a1185, iv 0, iv 0, rv a2550, .unset] [(.int 1)]
          refine C.istore (Ls' := #[.val (.long x0), .second, .val (.long x1), .second, iv x2, iv x3, iv x4, iv x5, rv a921, rv a952, rv a970, iv b11, iv 0, iv ((XT.ushr x2 2) &&& 3), rv a1001, rv a1077, iv 1, rv a1145, rv a1164, rv a1185, iv 0, iv 0, rv a2550, iv 1]) at_527 rfl rfl ?_
          refine C.iload at_529 rfl rfl ?_
          refine C.if_eq_f at_531 rfl (by decide) ?_
          refine C.iload at_534 rfl rfl ?_
          refine C.iconst 1 at_536 rfl rfl ?_
          refine C.icmp_ne_f at_537 rfl (by decide) ?_
          refine C.aload at_540 rfl rfl rfl ?_
          refine C.callV (argsL := []) (rest := []) 0 (fun zz => au1460_7 l Z a0 hw n0 h2638 zz a1001 (own_cr cq) (own_cl co pv cq) (own_ln ln pv cq) (own_bg cq) F2645 F2660 F2659 F2658 F2661 g1007) F2645 at_542 rfl (tw hw 37 rfl) (tw hw 38 rfl) (tw hw 39 rfl) (tw hw 40 rfl) (tw hw 9 rfl) (tw hw 41 rfl) (by decide) pd_5 rfl rfl rfl (Nat.le_of_eq rfl) (by decide) (by decide) (by decide) (by decide) (fun v2662 h2663 r2664 => ?_)
          obtain ⟨rfl, rfl⟩ := r2664
          refine C.aload at_545 rfl rfl rfl ?_
          refine C.iconst 0 at_547 rfl rfl ?_
          refine C.iaload (.int (own_ln ln pv cq)) at_548 rfl F2656 (by decide) rfl ?_
          refine C.icmp_ne_f at_549 rfl rfl ?_
          refine C.aload at_552 rfl rfl rfl ?_
          refine C.callV (argsL := []) (rest := []) 0 (fun zz => au1465_8 l Z a0 hw n0 h2638 zz a1001 (own_cr cq) (own_cl co pv cq) (own_ln ln pv cq) (own_bg cq) F2645 F2660 F2659 F2658 F2661 g1007) F2645 at_554 rfl (tw hw 42 rfl) (tw hw 43 rfl) (tw hw 44 rfl) (tw hw 45 rfl) (tw hw 9 rfl) (tw hw 46 rfl) (by decide) pd_5 rfl rfl rfl (Nat.le_of_eq rfl) (by decide) (by decide) (by decide) (by decide) (fun v2666 h2667 r2668 => ?_)
          obtain ⟨rfl, rfl⟩ := r2668
          refine C.aload at_557 rfl rfl rfl ?_
          refine C.iconst 1 at_559 rfl rfl ?_
          refine C.iaload (.int (own_cl co pv cq)) at_560 rfl F2656 (by decide) rfl ?_
          refine C.icmp_ne_f at_561 rfl rfl ?_
          refine C.iconst 1 at_564 rfl rfl ?_
          refine C.goto at_565 (by decide) rfl ?_
          exact C.retZ at_569 rfl (by decide) (by decide) ⟨rfl, trivial⟩
        · rw [qc]
          refine C.iconst 4 at_162 rfl rfl ?_
          refine C.newarr 4 at_163 rfl rfl (tw hw 20 rfl) (by decide) (by decide) (by decide) (by decide) (by decide) (fun a2670 h2671 z2674 g2675 X2672 F2673 => ?_)
          have ne2676 : a921 ≠ a2670 := by rw [z2674]; exact Nat.ne_of_lt F1161.lt
          have ne2677 : a970 ≠ a2670 := by rw [z2674]; exact Nat.ne_of_lt F1162.lt
          have ne2678 : a1001 ≠ a2670 := by rw [z2674]; exact Nat.ne_of_lt F1155.lt
          have ne2679 : a1077 ≠ a2670 := by rw [z2674]; exact Nat.ne_of_lt F1160.lt
          have ne2680 : a1145 ≠ a2670 := by rw [z2674]; exact Nat.ne_of_lt F1163.lt
          have F2681 := Exa.ext X2672 F1155
          have F2682 := Fld.ext X2672 F1156
          have F2683 := Fld.ext X2672 F1157
          have F2684 := Fld.ext X2672 F1158
          have F2685 := Fld.ext X2672 F1159
          have F2686 := F1160.ext X2672
          have F2687 := F1161.ext X2672
          have F2688 := F1162.ext X2672
          have F2689 := F1163.ext X2672
          have F2690 : Av Z h2671 a2670 .int ([.int 0, .int 0, .int 0, .int 0]) := F2673
          refine C.astore (Ls' := #[.val (.long x0), .second, .val (.long x1), .second, iv x2, iv x3, iv x4, iv x5, rv a921, rv a952, rv a970, iv b11, iv 1, iv ((XT.ushr x2 2) &&& 3), rv a1001, rv a1077, iv 1, rv a1145, rv a2670, .unset, .unset, .unset, .unset, .unset]) at_165 rfl rfl rfl ?_
          refine C.iconst 4 at_167 rfl rfl ?_
          refine C.newarr 4 at_168 rfl rfl (tw hw 20 rfl) (by decide) (by decide) (by decide) (by decide) (by decide) (fun a2691 h2692 z2695 g2696 X2693 F2694 => ?_)
          have ne2697 : a921 ≠ a2691 := by rw [z2695]; exact Nat.ne_of_lt F2687.lt
          have ne2698 : a970 ≠ a2691 := by rw [z2695]; exact Nat.ne_of_lt F2688.lt
          have ne2699 : a1001 ≠ a2691 := by rw [z2695]; exact Nat.ne_of_lt F2681.lt
          have ne2700 : a1077 ≠ a2691 := by rw [z2695]; exact Nat.ne_of_lt F2686.lt
          have ne2701 : a1145 ≠ a2691 := by rw [z2695]; exact Nat.ne_of_lt F2689.lt
          have ne2702 : a2670 ≠ a2691 := by rw [z2695]; exact Nat.ne_of_lt F2690.lt
          have F2703 := Exa.ext X2693 F2681
          have F2704 := Fld.ext X2693 F2682
          have F2705 := Fld.ext X2693 F2683
          have F2706 := Fld.ext X2693 F2684
          have F2707 := Fld.ext X2693 F2685
          have F2708 := F2686.ext X2693
          have F2709 := F2687.ext X2693
          have F2710 := F2688.ext X2693
          have F2711 := F2689.ext X2693
          have F2712 := F2690.ext X2693
          have F2713 : Av Z h2692 a2691 .int ([.int 0, .int 0, .int 0, .int 0]) := F2694
          refine C.astore (Ls' := #[.val (.long x0), .second, .val (.long x1), .second, iv x2, iv x3, iv x4, iv x5, rv a921, rv a952, rv a970, iv b11, iv 1, iv ((XT.ushr x2 2) &&& 3), rv a1001, rv a1077, iv 1, rv a1145, rv a2670, rv a2691, .unset, .unset, .unset, .unset]) at_170 rfl rfl rfl ?_
          refine C.aload at_172 rfl rfl rfl ?_
          refine C.iload at_174 rfl rfl ?_
          refine C.aload at_176 rfl rfl rfl ?_
          refine C.iconst 0 at_178 rfl rfl ?_
          refine C.iaload (.int ln) at_179 rfl F2708 (by decide) rfl ?_
          refine C.iastore at_180 rfl F2711 g1150 (by decide) (Nat.le_of_ble_eq_true rfl) (fun h2714 W2715 F2716 => ?_)
          have F2717 := Exa.wr W2715 F2703
          have F2718 := Fld.other W2715 F2704 (Or.inl ne1153)
          have F2719 := Fld.other W2715 F2705 (Or.inl ne1153)
          have F2720 := Fld.other W2715 F2706 (Or.inl ne1153)
          have F2721 := Fld.other W2715 F2707 (Or.inl ne1153)
          have F2722 := F2708.other W2715 ne1154
          have F2723 := F2709.other W2715 ne1151
          have F2724 := F2710.other W2715 ne1152
          have F2725 := F2712.other W2715 (Ne.symm ne2680)
          have F2726 := F2713.other W2715 (Ne.symm ne2701)
          have F2727 : Av Z h2714 a1145 .int ([.int 0, .int ln, .int 0, .int 0]) := F2716
          refine C.aload at_181 rfl rfl rfl ?_
          refine C.iload at_183 rfl rfl ?_
          refine C.aload at_185 rfl rfl rfl ?_
          refine C.iconst 1 at_187 rfl rfl ?_
          refine C.iaload (.int co) at_188 rfl F2722 (by decide) rfl ?_
          refine C.iastore at_189 rfl F2725 g2675 (by decide) (Nat.le_of_ble_eq_true rfl) (fun h2728 W2729 F2730 => ?_)
          have F2731 := Exa.wr W2729 F2717
          have F2732 := Fld.other W2729 F2718 (Or.inl ne2678)
          have F2733 := Fld.other W2729 F2719 (Or.inl ne2678)
          have F2734 := Fld.other W2729 F2720 (Or.inl ne2678)
          have F2735 := Fld.other W2729 F2721 (Or.inl ne2678)
          have F2736 := F2722.other W2729 ne2679
          have F2737 := F2723.other W2729 ne2676
          have F2738 := F2724.other W2729 ne2677
          have F2739 := F2726.other W2729 (Ne.symm ne2702)
          have F2740 := F2727.other W2729 ne2680
          have F2741 : Av Z h2728 a2670 .int ([.int 0, .int co, .int 0, .int 0]) := F2730
          refine C.aload at_190 rfl rfl rfl ?_
          refine C.iload at_192 rfl rfl ?_
          refine C.aload at_194 rfl rfl rfl ?_
          refine C.iconst 2 at_196 rfl rfl ?_
          refine C.iaload (.int pv) at_197 rfl F2736 (by decide) rfl ?_
          refine C.iastore at_198 rfl F2739 g2696 (by decide) (Nat.le_of_ble_eq_true rfl) (fun h2742 W2743 F2744 => ?_)
          have F2745 := Exa.wr W2743 F2731
          have F2746 := Fld.other W2743 F2732 (Or.inl ne2699)
          have F2747 := Fld.other W2743 F2733 (Or.inl ne2699)
          have F2748 := Fld.other W2743 F2734 (Or.inl ne2699)
          have F2749 := Fld.other W2743 F2735 (Or.inl ne2699)
          have F2750 := F2736.other W2743 ne2700
          have F2751 := F2737.other W2743 ne2697
          have F2752 := F2738.other W2743 ne2698
          have F2753 := F2740.other W2743 ne2701
          have F2754 := F2741.other W2743 ne2702
          have F2755 : Av Z h2742 a2691 .int ([.int 0, .int pv, .int 0, .int 0]) := F2744
          refine C.iload at_199 rfl rfl ?_
          refine C.if_gt_t at_201 (by decide) rfl (by decide) ?_
          refine C.iload at_237 rfl rfl ?_
          refine C.iconst 1 at_239 rfl rfl ?_
          refine C.icmp_gt_f at_240 rfl (by decide) ?_
          refine C.aload at_243 rfl rfl rfl ?_
          refine C.aload at_245 rfl rfl rfl ?_
          refine C.iconst 1 at_247 rfl rfl ?_
          refine C.caload (.int c1) at_248 rfl F2751 (by decide) rfl ?_
          refine C.callS (argsL := [(.ref a1077), (.int c1)]) (rest := []) 0 (fun zz => con_step l Z a0 hw n0 h2742 zz a1077 c1 ln co pv F2750 g1082) at_249 rfl (tw hw 21 rfl) (tw hw 22 rfl) (tw hw 3 rfl) (tw hw 23 rfl) (by decide) pd_2 rfl rfl rfl (Nat.le_of_eq rfl) (by decide) (by decide) (by decide) (by decide) (fun v2756 h2757 r2758 => ?_)
          obtain ⟨rfl, K2759, F2760⟩ := r2758
          have F2761 := F2745.keep K2759
          have F2762 := F2746.keep K2759 (ninS ne1086 nin0)
          have F2763 := F2747.keep K2759 (ninS ne1086 nin0)
          have F2764 := F2748.keep K2759 (ninS ne1086 nin0)
          have F2765 := F2749.keep K2759 (ninS ne1086 nin0)
          have F2767 := F2751.keep K2759 (ninS ne1083 nin0)
          have F2768 := F2752.keep K2759 (ninS ne1085 nin0)
          have F2769 := F2753.keep K2759 (ninS (Ne.symm ne1154) nin0)
          have F2770 := F2754.keep K2759 (ninS (Ne.symm ne2679) nin0)
          have F2771 := F2755.keep K2759 (ninS (Ne.symm ne2700) nin0)
          refine C.aload at_252 rfl rfl rfl ?_
          refine C.iconst 2 at_254 rfl rfl ?_
          refine C.aload at_255 rfl rfl rfl ?_
          refine C.iconst 0 at_257 rfl rfl ?_
          refine C.iaload (.int (own_ln ln pv c1)) at_258 rfl F2760 (by decide) rfl ?_
          refine C.iastore at_259 rfl F2769 g1150 (by decide) (Nat.le_of_ble_eq_true rfl) (fun h2772 W2773 F2774 => ?_)
          have F2775 := Exa.wr W2773 F2761
          have F2776 := Fld.other W2773 F2762 (Or.inl ne1153)
          have F2777 := Fld.other W2773 F2763 (Or.inl ne1153)
          have F2778 := Fld.other W2773 F2764 (Or.inl ne1153)
          have F2779 := Fld.other W2773 F2765 (Or.inl ne1153)
          have F2780 := F2767.other W2773 ne1151
          have F2781 := F2768.other W2773 ne1152
          have F2782 := F2770.other W2773 (Ne.symm ne2680)
          have F2783 := F2771.other W2773 (Ne.symm ne2701)
          have F2784 := F2760.other W2773 ne1154
          have F2785 : Av Z h2772 a1145 .int ([.int 0, .int ln, .int (own_ln ln pv c1), .int 0]) := F2774
          refine C.aload at_260 rfl rfl rfl ?_
          refine C.iconst 2 at_262 rfl rfl ?_
          refine C.aload at_263 rfl rfl rfl ?_
          refine C.iconst 1 at_265 rfl rfl ?_
          refine C.iaload (.int (own_cl co pv c1)) at_266 rfl F2784 (by decide) rfl ?_
          refine C.iastore at_267 rfl F2782 g2675 (by decide) (Nat.le_of_ble_eq_true rfl) (fun h2786 W2787 F2788 => ?_)
          have F2789 := Exa.wr W2787 F2775
          have F2790 := Fld.other W2787 F2776 (Or.inl ne2678)
          have F2791 := Fld.other W2787 F2777 (Or.inl ne2678)
          have F2792 := Fld.other W2787 F2778 (Or.inl ne2678)
          have F2793 := Fld.other W2787 F2779 (Or.inl ne2678)
          have F2794 := F2780.other W2787 ne2676
          have F2795 := F2781.other W2787 ne2677
          have F2796 := F2783.other W2787 (Ne.symm ne2702)
          have F2797 := F2784.other W2787 ne2679
          have F2798 := F2785.other W2787 ne2680
          have F2799 : Av Z h2786 a2670 .int ([.int 0, .int co, .int (own_cl co pv c1), .int 0]) := F2788
          refine C.aload at_268 rfl rfl rfl ?_
          refine C.iconst 2 at_270 rfl rfl ?_
          refine C.aload at_271 rfl rfl rfl ?_
          refine C.iconst 2 at_273 rfl rfl ?_
          refine C.iaload (.int c1) at_274 rfl F2797 (by decide) rfl ?_
          refine C.iastore at_275 rfl F2796 g2696 (by decide) (Nat.le_of_ble_eq_true rfl) (fun h2800 W2801 F2802 => ?_)
          have F2803 := Exa.wr W2801 F2789
          have F2804 := Fld.other W2801 F2790 (Or.inl ne2699)
          have F2805 := Fld.other W2801 F2791 (Or.inl ne2699)
          have F2806 := Fld.other W2801 F2792 (Or.inl ne2699)
          have F2807 := Fld.other W2801 F2793 (Or.inl ne2699)
          have F2808 := F2794.other W2801 ne2697
          have F2809 := F2795.other W2801 ne2698
          have F2810 := F2797.other W2801 ne2700
          have F2811 := F2798.other W2801 ne2701
          have F2812 := F2799.other W2801 ne2702
          have F2813 : Av Z h2800 a2691 .int ([.int 0, .int pv, .int c1, .int 0]) := F2802
          refine C.iload at_276 rfl rfl ?_
          refine C.iconst 2 at_278 rfl rfl ?_
          refine C.icmp_gt_f at_279 rfl (by decide) ?_
          refine C.aload at_282 rfl rfl rfl ?_
          refine C.aload at_284 rfl rfl rfl ?_
          refine C.iconst 2 at_286 rfl rfl ?_
          refine C.caload (.int c2) at_287 rfl F2808 (by decide) rfl ?_
          refine C.callS (argsL := [(.ref a1077), (.int c2)]) (rest := []) 0 (fun zz => con_step l Z a0 hw n0 h2800 zz a1077 c2 (own_ln ln pv c1) (own_cl co pv c1) c1 F2810 g1082) at_288 rfl (tw hw 21 rfl) (tw hw 22 rfl) (tw hw 3 rfl) (tw hw 23 rfl) (by decide) pd_2 rfl rfl rfl (Nat.le_of_eq rfl) (by decide) (by decide) (by decide) (by decide) (fun v2814 h2815 r2816 => ?_)
          obtain ⟨rfl, K2817, F2818⟩ := r2816
          have F2819 := F2803.keep K2817
          have F2820 := F2804.keep K2817 (ninS ne1086 nin0)
          have F2821 := F2805.keep K2817 (ninS ne1086 nin0)
          have F2822 := F2806.keep K2817 (ninS ne1086 nin0)
          have F2823 := F2807.keep K2817 (ninS ne1086 nin0)
          have F2824 := F2808.keep K2817 (ninS ne1083 nin0)
          have F2825 := F2809.keep K2817 (ninS ne1085 nin0)
          have F2827 := F2811.keep K2817 (ninS (Ne.symm ne1154) nin0)
          have F2828 := F2812.keep K2817 (ninS (Ne.symm ne2679) nin0)
          have F2829 := F2813.keep K2817 (ninS (Ne.symm ne2700) nin0)
          refine C.aload at_291 rfl rfl rfl ?_
          refine C.iconst 3 at_293 rfl rfl ?_
          refine C.aload at_294 rfl rfl rfl ?_
          refine C.iconst 0 at_296 rfl rfl ?_
          refine C.iaload (.int (own_ln (own_ln ln pv c1) c1 c2)) at_297 rfl F2818 (by decide) rfl ?_
          refine C.iastore at_298 rfl F2827 g1150 (by decide) (Nat.le_of_ble_eq_true rfl) (fun h2830 W2831 F2832 => ?_)
          have F2833 := Exa.wr W2831 F2819
          have F2834 := Fld.other W2831 F2820 (Or.inl ne1153)
          have F2835 := Fld.other W2831 F2821 (Or.inl ne1153)
          have F2836 := Fld.other W2831 F2822 (Or.inl ne1153)
          have F2837 := Fld.other W2831 F2823 (Or.inl ne1153)
          have F2838 := F2824.other W2831 ne1151
          have F2839 := F2825.other W2831 ne1152
          have F2840 := F2828.other W2831 (Ne.symm ne2680)
          have F2841 := F2829.other W2831 (Ne.symm ne2701)
          have F2842 := F2818.other W2831 ne1154
          have F2843 : Av Z h2830 a1145 .int ([.int 0, .int ln, .int (own_ln ln pv c1), .int (own_ln (own_ln ln pv c1) c1 c2)]) := F2832
          refine C.aload at_299 rfl rfl rfl ?_
          refine C.iconst 3 at_301 rfl rfl ?_
          refine C.aload at_302 rfl rfl rfl ?_
          refine C.iconst 1 at_304 rfl rfl ?_
          refine C.iaload (.int (own_cl (own_cl co pv c1) c1 c2)) at_305 rfl F2842 (by decide) rfl ?_
          refine C.iastore at_306 rfl F2840 g2675 (by decide) (Nat.le_of_ble_eq_true rfl) (fun h2844 W2845 F2846 => ?_)
          have F2847 := Exa.wr W2845 F2833
          have F2848 := Fld.other W2845 F2834 (Or.inl ne2678)
          have F2849 := Fld.other W2845 F2835 (Or.inl ne2678)
          have F2850 := Fld.other W2845 F2836 (Or.inl ne2678)
          have F2851 := Fld.other W2845 F2837 (Or.inl ne2678)
          have F2852 := F2838.other W2845 ne2676
          have F2853 := F2839.other W2845 ne2677
          have F2854 := F2841.other W2845 (Ne.symm ne2702)
          have F2855 := F2842.other W2845 ne2679
          have F2856 := F2843.other W2845 ne2680
          have F2857 : Av Z h2844 a2670 .int ([.int 0, .int co, .int (own_cl co pv c1), .int (own_cl (own_cl co pv c1) c1 c2)]) := F2846
          refine C.aload at_307 rfl rfl rfl ?_
          refine C.iconst 3 at_309 rfl rfl ?_
          refine C.aload at_310 rfl rfl rfl ?_
          refine C.iconst 2 at_312 rfl rfl ?_
          refine C.iaload (.int c2) at_313 rfl F2855 (by decide) rfl ?_
          refine C.iastore at_314 rfl F2854 g2696 (by decide) (Nat.le_of_ble_eq_true rfl) (fun h2858 W2859 F2860 => ?_)
          have F2861 := Exa.wr W2859 F2847
          have F2862 := Fld.other W2859 F2848 (Or.inl ne2699)
          have F2863 := Fld.other W2859 F2849 (Or.inl ne2699)
          have F2864 := Fld.other W2859 F2850 (Or.inl ne2699)
          have F2865 := Fld.other W2859 F2851 (Or.inl ne2699)
          have F2866 := F2852.other W2859 ne2697
          have F2867 := F2853.other W2859 ne2698
          have F2868 := F2855.other W2859 ne2700
          have F2869 := F2856.other W2859 ne2701
          have F2870 := F2857.other W2859 ne2702
          have F2871 : Av Z h2858 a2691 .int ([.int 0, .int pv, .int c1, .int c2]) := F2860
          refine C.iconst 3 at_315 rfl rfl ?_
          refine C.istore (Ls' := #[.val (.long x0), .second, .val (.long x1), .second, iv x2, iv x3, iv x4, iv x5, rv a921, rv a952, rv a970, iv b11, iv 1, iv ((XT.ushr x2 2) &&& 3), rv a1001, rv a1077, iv 1, rv a1145, rv a2670, rv a2691, iv 3, .unset, .unset, .unset]) at_316 rfl rfl ?_
          refine C.iload at_318 rfl rfl ?_
          refine C.iconst 2 at_320 rfl rfl ?_
          refine C.icmp_gt_f at_321 rfl (by decide) ?_
          refine C.iconst 2 at_324 rfl rfl ?_
          refine C.iload at_325 rfl rfl ?_
          refine C.iload at_327 rfl rfl ?_
          refine C.aload at_329 rfl rfl rfl ?_
          refine C.iconst 2 at_331 rfl rfl ?_
          refine C.iaload (.int (own_ln ln pv c1)) at_332 rfl F2869 (by decide) rfl ?_
          refine C.aload at_333 rfl rfl rfl ?_
          refine C.iconst 2 at_335 rfl rfl ?_
          refine C.iaload (.int (own_cl co pv c1)) at_336 rfl F2870 (by decide) rfl ?_
          refine C.iload at_337 rfl rfl ?_
          refine C.iload at_339 rfl rfl ?_
          refine C.callS (argsL := [(.int 2), (.int ((XT.ushr x2 2) &&& 3)), (.int x3), (.int (own_ln ln pv c1)), (.int (own_cl co pv c1)), (.int x4), (.int x5)]) (rest := []) 0 (fun zz => con_stops l Z a0 hw n0 h2858 zz 2 ((XT.ushr x2 2) &&& 3) x3 (own_ln ln pv c1) (own_cl co pv c1) x4 x5 ) at_341 rfl (tw hw 25 rfl) (tw hw 26 rfl) (tw hw 3 rfl) (tw hw 27 rfl) (by decide) pd_3 rfl rfl rfl (Nat.le_of_eq rfl) (by decide) (by decide) (by decide) (by decide) (fun v2872 h2873 r2874 => ?_)
          obtain ⟨rfl, rfl⟩ := r2874
          refine C.if_eq at_344 (by decide) rfl rfl (fun q344 => ?_) (fun q344 => ?_)
          · refine C.iload at_350 rfl rfl ?_
            refine C.iconst 1 at_352 rfl rfl ?_
            refine C.icmp_gt_f at_353 rfl (by decide) ?_
            refine C.iconst 1 at_356 rfl rfl ?_
            refine C.iload at_357 rfl rfl ?_
            refine C.iload at_359 rfl rfl ?_
            refine C.aload at_361 rfl rfl rfl ?_
            refine C.iconst 1 at_363 rfl rfl ?_
            refine C.iaload (.int ln) at_364 rfl F2869 (by decide) rfl ?_
            refine C.aload at_365 rfl rfl rfl ?_
            refine C.iconst 1 at_367 rfl rfl ?_
            refine C.iaload (.int co) at_368 rfl F2870 (by decide) rfl ?_
            refine C.iload at_369 rfl rfl ?_
            refine C.iload at_371 rfl rfl ?_
            refine C.callS (argsL := [(.int 1), (.int ((XT.ushr x2 2) &&& 3)), (.int x3), (.int ln), (.int co), (.int x4), (.int x5)]) (rest := []) 0 (fun zz => con_stops l Z a0 hw n0 h2858 zz 1 ((XT.ushr x2 2) &&& 3) x3 ln co x4 x5 ) at_373 rfl (tw hw 25 rfl) (tw hw 26 rfl) (tw hw 3 rfl) (tw hw 27 rfl) (by decide) pd_3 rfl rfl rfl (Nat.le_of_eq rfl) (by decide) (by decide) (by decide) (by decide) (fun v2876 h2877 r2878 => ?_)
            obtain ⟨rfl, rfl⟩ := r2878
            refine C.if_eq at_376 (by decide) rfl rfl (fun q376 => ?_) (fun q376 => ?_)
            · refine C.iload at_382 rfl rfl ?_
              refine C.if_gt_t at_384 (by decide) rfl (by decide) ?_
              refine C.aload at_413 rfl rfl rfl ?_
              refine C.aload at_415 rfl rfl rfl ?_
              refine C.iload at_417 rfl rfl ?_
              refine C.iload at_419 rfl rfl ?_
              refine C.iload at_421 rfl rfl ?_
              refine C.iload at_423 rfl rfl ?_
              refine C.iload at_425 rfl rfl ?_
              refine C.callV (argsL := [(.ref a921), (.int 1), (.int ((XT.ushr x2 2) &&& 3)), (.int x3), (.int x4), (.int x5)]) (rest := []) 0 (fun zz => con_pass_3_1 l Z a0 hw n0 h2858 zz a1001 a921 ((XT.ushr x2 2) &&& 3) x3 x4 x5 ln co pv c0 c1 c2 F2861 F2862 F2863 F2864 F2865 F2866 g1007 (Ne.symm ne1008) (own_to _) nc0 nc1 nc2) F2861 at_427 rfl (tw hw 28 rfl) (tw hw 29 rfl) (tw hw 30 rfl) (tw hw 31 rfl) (tw hw 9 rfl) (tw hw 32 rfl) (by decide) pd_4 rfl rfl rfl (Nat.le_of_eq rfl) (by decide) (by decide) (by decide) (by decide) (fun v2880 h2881 r2882 => ?_)
              obtain ⟨rfl, K2883, F2884, F2885, F2886, F2887⟩ := r2882
              have F2888 := F2861.keep K2883
              have F2893 := F2866.keep K2883 (ninS ne1008 nin0)
              have F2894 := F2867.keep K2883 (ninS ne1010 nin0)
              have F2895 := F2868.keep K2883 (ninS (Ne.symm ne1086) nin0)
              have F2896 := F2869.keep K2883 (ninS (Ne.symm ne1153) nin0)
              have F2897 := F2870.keep K2883 (ninS (Ne.symm ne2678) nin0)
              have F2898 := F2871.keep K2883 (ninS (Ne.symm ne2699) nin0)
              have kE2899 : (own_pass ((XT.ushr x2 2) &&& 3) x3 x4 x5 1 [c1, c2] ln co pv) = (3, (own_ln (own_ln ln pv c1) c1 c2), (own_cl (own_cl co pv c1) c1 c2), c2) := ((own_go (own_stop0.mp q376)).trans (own_go (own_stop0.mp q344)))
              have F2900 : Fld Z h2881 a1001 "com/example/dodder/dodder/PlacedText$Counter" "line" "I" (.int (own_ln (own_ln ln pv c1) c1 c2)) := by have q := F2884; rw [kE2899] at q; exact q
              have F2901 : Fld Z h2881 a1001 "com/example/dodder/dodder/PlacedText$Counter" "column" "I" (.int (own_cl (own_cl co pv c1) c1 c2)) := by have q := F2885; rw [kE2899] at q; exact q
              have F2902 : Fld Z h2881 a1001 "com/example/dodder/dodder/PlacedText$Counter" "afterCarriageReturn" "Z" (.int (own_cr c2)) := by have q := F2886; rw [kE2899] at q; exact q
              have F2903 : Fld Z h2881 a1001 "com/example/dodder/dodder/PlacedText$Counter" "started" "Z" (.int (own_bg c2)) := by have q := F2887; rw [kE2899] at q; exact q
              rw [kE2899]
              show Go p l e room_1 s m #[(.long x0), (.long x1), (.int x2), (.int x3), (.int x4), (.int x5)] below meth c n0 (FinQ s n0 (Qcon0 Z n0 h0 x0 x1 x2 x3 x4 x5) room_1.cells room_1.slots) h2881 8 24 430 #[.val (.long x0), .second, .val (.long x1), .second, iv x2, iv x3, iv x4, iv x5, rv a921, rv a952, rv a970, iv b11, iv 1, iv ((XT.ushr x2 2) &&& 3), rv a1001, rv a1077, iv 1, rv a1145, rv a2670, rv a2691, iv 3, .unset, .unset, .unset] [(.int 3)]
              refine C.istore (Ls' := #[.val (.long x0), .second, .val (.long x1), .second, iv x2, iv x3, iv x4, iv x5, rv a921, rv a952, rv a970, iv b11, iv 1, iv ((XT.ushr x2 2) &&& 3), rv a1001, rv a1077, iv 1, rv a1145, rv a2670, rv a2691, iv 3, iv 3, .unset, .unset]) at_430 rfl rfl ?_
              refine C.iload at_432 rfl rfl ?_
              refine C.if_eq_f at_434 rfl (by decide) ?_
              refine C.iload at_437 rfl rfl ?_
              refine C.iload at_439 rfl rfl ?_
              refine C.icmp_ne_f at_441 rfl (by decide) ?_
              refine C.aload at_444 rfl rfl rfl ?_
              refine C.callV (argsL := []) (rest := []) 0 (fun zz => au1460_7 l Z a0 hw n0 h2881 zz a1001 (own_cr c2) (own_cl (own_cl co pv c1) c1 c2) (own_ln (own_ln ln pv c1) c1 c2) (own_bg c2) F2888 F2902 F2901 F2900 F2903 g1007) F2888 at_446 rfl (tw hw 37 rfl) (tw hw 38 rfl) (tw hw 39 rfl) (tw hw 40 rfl) (tw hw 9 rfl) (tw hw 41 rfl) (by decide) pd_5 rfl rfl rfl (Nat.le_of_eq rfl) (by decide) (by decide) (by decide) (by decide) (fun v2904 h2905 r2906 => ?_)
              obtain ⟨rfl, rfl⟩ := r2906
              refine C.aload at_449 rfl rfl rfl ?_
              refine C.iload at_451 rfl rfl ?_
              refine C.iaload (.int (own_ln (own_ln ln pv c1) c1 c2)) at_453 rfl F2896 (by decide) rfl ?_
              refine C.icmp_ne_f at_454 rfl rfl ?_
              refine C.aload at_457 rfl rfl rfl ?_
              refine C.callV (argsL := []) (rest := []) 0 (fun zz => au1465_8 l Z a0 hw n0 h2881 zz a1001 (own_cr c2) (own_cl (own_cl co pv c1) c1 c2) (own_ln (own_ln ln pv c1) c1 c2) (own_bg c2) F2888 F2902 F2901 F2900 F2903 g1007) F2888 at_459 rfl (tw hw 42 rfl) (tw hw 43 rfl) (tw hw 44 rfl) (tw hw 45 rfl) (tw hw 9 rfl) (tw hw 46 rfl) (by decide) pd_5 rfl rfl rfl (Nat.le_of_eq rfl) (by decide) (by decide) (by decide) (by decide) (fun v2908 h2909 r2910 => ?_)
              obtain ⟨rfl, rfl⟩ := r2910
              refine C.aload at_462 rfl rfl rfl ?_
              refine C.iload at_464 rfl rfl ?_
              refine C.iaload (.int (own_cl (own_cl co pv c1) c1 c2)) at_466 rfl F2897 (by decide) rfl ?_
              refine C.icmp_ne_f at_467 rfl rfl ?_
              refine C.iconst 1 at_470 rfl rfl ?_
              refine C.goto at_471 (by decide) rfl ?_
              refine C.istore (Ls' := #[.val (.long x0), .second, .val (.long x1), .second, iv x2, iv x3, iv x4, iv x5, rv a921, rv a952, rv a970, iv b11, iv 1, iv ((XT.ushr x2 2) &&& 3), rv a1001, rv a1077, iv 1, rv a1145, rv a2670, rv a2691, iv 3, iv 3, .unset, .unset]) at_475 rfl rfl ?_
              refine C.iconst 3 at_477 rfl rfl ?_
              refine C.newarr 3 at_478 rfl rfl (tw hw 20 rfl) (by decide) (by decide) (by decide) (by decide) (by decide) (fun a2912 h2913 z2916 g2917 X2914 F2915 => ?_)
              have ne2918 : a921 ≠ a2912 := by rw [z2916]; exact Nat.ne_of_lt F2893.lt
              have ne2919 : a970 ≠ a2912 := by rw [z2916]; exact Nat.ne_of_lt F2894.lt
              have ne2920 : a1001 ≠ a2912 := by rw [z2916]; exact Nat.ne_of_lt F2888.lt
              have ne2921 : a1077 ≠ a2912 := by rw [z2916]; exact Nat.ne_of_lt F2895.lt
              have ne2922 : a1145 ≠ a2912 := by rw [z2916]; exact Nat.ne_of_lt F2896.lt
              have ne2923 : a2670 ≠ a2912 := by rw [z2916]; exact Nat.ne_of_lt F2897.lt
              have ne2924 : a2691 ≠ a2912 := by rw [z2916]; exact Nat.ne_of_lt F2898.lt
              have F2925 := Exa.ext X2914 F2888
              have F2926 := F2893.ext X2914
              have F2927 := F2894.ext X2914
              have F2928 := F2895.ext X2914
              have F2929 := F2896.ext X2914
              have F2930 := F2897.ext X2914
              have F2931 := F2898.ext X2914
              have F2932 := Fld.ext X2914 F2900
              have F2933 := Fld.ext X2914 F2901
              have F2934 := Fld.ext X2914 F2902
              have F2935 := Fld.ext X2914 F2903
              have F2936 : Av Z h2913 a2912 .int ([.int 0, .int 0, .int 0]) := F2915
              refine C.dup at_480 rfl rfl ?_
              refine C.iconst 0 at_481 rfl rfl ?_
              refine C.aload at_482 rfl rfl rfl ?_
              refine C.iload at_484 rfl rfl ?_
              refine C.iaload (.int (own_ln (own_ln ln pv c1) c1 c2)) at_486 rfl F2929 (by decide) rfl ?_
              refine C.iastore at_487 rfl F2936 g2917 (by decide) (Nat.le_of_ble_eq_true rfl) (fun h2937 W2938 F2939 => ?_)
              have F2940 := Exa.wr W2938 F2925
              have F2941 := F2926.other W2938 ne2918
              have F2942 := F2927.other W2938 ne2919
              have F2943 := F2928.other W2938 ne2921
              have F2944 := F2929.other W2938 ne2922
              have F2945 := F2930.other W2938 ne2923
              have F2946 := F2931.other W2938 ne2924
              have F2947 := Fld.other W2938 F2932 (Or.inl ne2920)
              have F2948 := Fld.other W2938 F2933 (Or.inl ne2920)
              have F2949 := Fld.other W2938 F2934 (Or.inl ne2920)
              have F2950 := Fld.other W2938 F2935 (Or.inl ne2920)
              have F2951 : Av Z h2937 a2912 .int ([.int (own_ln (own_ln ln pv c1) c1 c2), .int 0, .int 0]) := F2939
              refine C.dup at_488 rfl rfl ?_
              refine C.iconst 1 at_489 rfl rfl ?_
              refine C.aload at_490 rfl rfl rfl ?_
              refine C.iload at_492 rfl rfl ?_
              refine C.iaload (.int (own_cl (own_cl co pv c1) c1 c2)) at_494 rfl F2945 (by decide) rfl ?_
              refine C.iastore at_495 rfl F2951 g2917 (by decide) (Nat.le_of_ble_eq_true rfl) (fun h2952 W2953 F2954 => ?_)
              have F2955 := Exa.wr W2953 F2940
              have F2956 := F2941.other W2953 ne2918
              have F2957 := F2942.other W2953 ne2919
              have F2958 := F2943.other W2953 ne2921
              have F2959 := F2944.other W2953 ne2922
              have F2960 := F2945.other W2953 ne2923
              have F2961 := F2946.other W2953 ne2924
              have F2962 := Fld.other W2953 F2947 (Or.inl ne2920)
              have F2963 := Fld.other W2953 F2948 (Or.inl ne2920)
              have F2964 := Fld.other W2953 F2949 (Or.inl ne2920)
              have F2965 := Fld.other W2953 F2950 (Or.inl ne2920)
              have F2966 : Av Z h2952 a2912 .int ([.int (own_ln (own_ln ln pv c1) c1 c2), .int (own_cl (own_cl co pv c1) c1 c2), .int 0]) := F2954
              refine C.dup at_496 rfl rfl ?_
              refine C.iconst 2 at_497 rfl rfl ?_
              refine C.aload at_498 rfl rfl rfl ?_
              refine C.iload at_500 rfl rfl ?_
              refine C.iaload (.int c2) at_502 rfl F2961 (by decide) rfl ?_
              refine C.iastore at_503 rfl F2966 g2917 (by decide) (Nat.le_of_ble_eq_true rfl) (fun h2967 W2968 F2969 => ?_)
              have F2970 := Exa.wr W2968 F2955
              have F2971 := F2956.other W2968 ne2918
              have F2972 := F2957.other W2968 ne2919
              have F2973 := F2958.other W2968 ne2921
              have F2974 := F2959.other W2968 ne2922
              have F2975 := F2960.other W2968 ne2923
              have F2976 := F2961.other W2968 ne2924
              have F2977 := Fld.other W2968 F2962 (Or.inl ne2920)
              have F2978 := Fld.other W2968 F2963 (Or.inl ne2920)
              have F2979 := Fld.other W2968 F2964 (Or.inl ne2920)
              have F2980 := Fld.other W2968 F2965 (Or.inl ne2920)
              have F2981 : Av Z h2967 a2912 .int ([.int (own_ln (own_ln ln pv c1) c1 c2), .int (own_cl (own_cl co pv c1) c1 c2), .int c2]) := F2969
              refine C.astore (Ls' := #[.val (.long x0), .second, .val (.long x1), .second, iv x2, iv x3, iv x4, iv x5, rv a921, rv a952, rv a970, iv b11, iv 1, iv ((XT.ushr x2 2) &&& 3), rv a1001, rv a1077, iv 1, rv a1145, rv a2670, rv a2691, iv 3, iv 3, rv a2912, .unset]) at_504 rfl rfl rfl ?_
              refine C.aload at_506 rfl rfl rfl ?_
              refine C.aload at_508 rfl rfl rfl ?_
              refine C.iconst 0 at_510 rfl rfl ?_
              refine C.caload (.int cq) at_511 rfl F2972 (by decide) rfl ?_
              refine C.callS (argsL := [(.ref a2912), (.int cq)]) (rest := []) 0 (fun zz => con_step l Z a0 hw n0 h2967 zz a2912 cq (own_ln (own_ln ln pv c1) c1 c2) (own_cl (own_cl co pv c1) c1 c2) c2 F2981 g2917) at_512 rfl (tw hw 21 rfl) (tw hw 22 rfl) (tw hw 3 rfl) (tw hw 23 rfl) (by decide) pd_2 rfl rfl rfl (Nat.le_of_eq rfl) (by decide) (by decide) (by decide) (by decide) (fun v2982 h2983 r2984 => ?_)
              obtain ⟨rfl, K2985, F2986⟩ := r2984
              have F2987 := F2970.keep K2985
              have F2988 := F2971.keep K2985 (ninS ne2918 nin0)
              have F2989 := F2972.keep K2985 (ninS ne2919 nin0)
              have F2990 := F2973.keep K2985 (ninS ne2921 nin0)
              have F2991 := F2974.keep K2985 (ninS ne2922 nin0)
              have F2992 := F2975.keep K2985 (ninS ne2923 nin0)
              have F2993 := F2976.keep K2985 (ninS ne2924 nin0)
              have F2994 := F2977.keep K2985 (ninS ne2920 nin0)
              have F2995 := F2978.keep K2985 (ninS ne2920 nin0)
              have F2996 := F2979.keep K2985 (ninS ne2920 nin0)
              have F2997 := F2980.keep K2985 (ninS ne2920 nin0)
              refine C.aload at_515 rfl rfl rfl ?_
              refine C.aload at_517 rfl rfl rfl ?_
              refine C.iconst 0 at_519 rfl rfl ?_
              refine C.iconst 1 at_520 rfl rfl ?_
              refine C.iconst 1 at_521 rfl rfl ?_
              refine C.iconst 0 at_522 rfl rfl ?_
              refine C.iconst 0 at_523 rfl rfl ?_
              refine C.callV (argsL := [(.ref a970), (.int 0), (.int 1), (.int 1), (.int 0), (.int 0)]) (rest := []) 0 (fun zz => con_pass_1_0 l Z a0 hw n0 h2983 zz a1001 a970 1 1 0 0 (own_ln (own_ln ln pv c1) c1 c2) (own_cl (own_cl co pv c1) c1 c2) c2 cq F2987 F2994 F2995 F2996 F2997 F2989 g1007 (Ne.symm ne1010) (by decide) ncq) F2987 at_524 rfl (tw hw 28 rfl) (tw hw 29 rfl) (tw hw 30 rfl) (tw hw 31 rfl) (tw hw 9 rfl) (tw hw 32 rfl) (by decide) pd_4 rfl rfl rfl (Nat.le_of_eq rfl) (by decide) (by decide) (by decide) (by decide) (fun v2999 h3000 r3001 => ?_)
              obtain ⟨rfl, K3002, F3003, F3004, F3005, F3006⟩ := r3001
              have F3007 := F2987.keep K3002
              have F3008 := F2988.keep K3002 (ninS ne1008 nin0)
              have F3009 := F2989.keep K3002 (ninS ne1010 nin0)
              have F3010 := F2990.keep K3002 (ninS (Ne.symm ne1086) nin0)
              have F3011 := F2991.keep K3002 (ninS (Ne.symm ne1153) nin0)
              have F3012 := F2992.keep K3002 (ninS (Ne.symm ne2678) nin0)
              have F3013 := F2993.keep K3002 (ninS (Ne.symm ne2699) nin0)
              have F3018 := F2986.keep K3002 (ninS (Ne.symm ne2920) nin0)
              have kE3019 : (own_pass 1 1 0 0 0 [cq] (own_ln (own_ln ln pv c1) c1 c2) (own_cl (own_cl co pv c1) c1 c2) c2) = (1, own_ln (own_ln (own_ln ln pv c1) c1 c2) c2 cq, own_cl (own_cl (own_cl co pv c1) c1 c2) c2 cq, cq) := own_go ⟨by decide, Or.inl (by decide)⟩
              have F3020 : Fld Z h3000 a1001 "com/example/dodder/dodder/PlacedText$Counter" "line" "I" (.int (own_ln (own_ln (own_ln ln pv c1) c1 c2) c2 cq)) := by have q := F3003; rw [kE3019] at q; exact q
              have F3021 : Fld Z h3000 a1001 "com/example/dodder/dodder/PlacedText$Counter" "column" "I" (.int (own_cl (own_cl (own_cl co pv c1) c1 c2) c2 cq)) := by have q := F3004; rw [kE3019] at q; exact q
              have F3022 : Fld Z h3000 a1001 "com/example/dodder/dodder/PlacedText$Counter" "afterCarriageReturn" "Z" (.int (own_cr cq)) := by have q := F3005; rw [kE3019] at q; exact q
              have F3023 : Fld Z h3000 a1001 "com/example/dodder/dodder/PlacedText$Counter" "started" "Z" (.int (own_bg cq)) := by have q := F3006; rw [kE3019] at q; exact q
              rw [kE3019]
              show Go p l e room_1 s m #[(.long x0), (.long x1), (.int x2), (.int x3), (.int x4), (.int x5)] below meth c n0 (FinQ s n0 (Qcon0 Z n0 h0 x0 x1 x2 x3 x4 x5) room_1.cells room_1.slots) h3000 9 27 527 #[.val (.long x0), .second, .val (.long x1), .second, iv x2, iv x3, iv x4, iv x5, rv a921, rv a952, rv a970, iv b11, iv 1, iv ((XT.ushr x2 2) &&& 3), rv a1001, rv a1077, iv 1, rv a1145, rv a2670, rv a2691, iv 3, iv 3, rv a2912, .unset] [(.int 1)]
              refine C.istore (Ls' := #[.val (.long x0), .second, .val (.long x1), .second, iv x2, iv x3, iv x4, iv x5, rv a921, rv a952, rv a970, iv b11, iv 1, iv ((XT.ushr x2 2) &&& 3), rv a1001, rv a1077, iv 1, rv a1145, rv a2670, rv a2691, iv 3, iv 3, rv a2912, iv 1]) at_527 rfl rfl ?_
              refine C.iload at_529 rfl rfl ?_
              refine C.if_eq_f at_531 rfl (by decide) ?_
              refine C.iload at_534 rfl rfl ?_
              refine C.iconst 1 at_536 rfl rfl ?_
              refine C.icmp_ne_f at_537 rfl (by decide) ?_
              refine C.aload at_540 rfl rfl rfl ?_
              refine C.callV (argsL := []) (rest := []) 0 (fun zz => au1460_7 l Z a0 hw n0 h3000 zz a1001 (own_cr cq) (own_cl (own_cl (own_cl co pv c1) c1 c2) c2 cq) (own_ln (own_ln (own_ln ln pv c1) c1 c2) c2 cq) (own_bg cq) F3007 F3022 F3021 F3020 F3023 g1007) F3007 at_542 rfl (tw hw 37 rfl) (tw hw 38 rfl) (tw hw 39 rfl) (tw hw 40 rfl) (tw hw 9 rfl) (tw hw 41 rfl) (by decide) pd_5 rfl rfl rfl (Nat.le_of_eq rfl) (by decide) (by decide) (by decide) (by decide) (fun v3024 h3025 r3026 => ?_)
              obtain ⟨rfl, rfl⟩ := r3026
              refine C.aload at_545 rfl rfl rfl ?_
              refine C.iconst 0 at_547 rfl rfl ?_
              refine C.iaload (.int (own_ln (own_ln (own_ln ln pv c1) c1 c2) c2 cq)) at_548 rfl F3018 (by decide) rfl ?_
              refine C.icmp_ne_f at_549 rfl rfl ?_
              refine C.aload at_552 rfl rfl rfl ?_
              refine C.callV (argsL := []) (rest := []) 0 (fun zz => au1465_8 l Z a0 hw n0 h3000 zz a1001 (own_cr cq) (own_cl (own_cl (own_cl co pv c1) c1 c2) c2 cq) (own_ln (own_ln (own_ln ln pv c1) c1 c2) c2 cq) (own_bg cq) F3007 F3022 F3021 F3020 F3023 g1007) F3007 at_554 rfl (tw hw 42 rfl) (tw hw 43 rfl) (tw hw 44 rfl) (tw hw 45 rfl) (tw hw 9 rfl) (tw hw 46 rfl) (by decide) pd_5 rfl rfl rfl (Nat.le_of_eq rfl) (by decide) (by decide) (by decide) (by decide) (fun v3028 h3029 r3030 => ?_)
              obtain ⟨rfl, rfl⟩ := r3030
              refine C.aload at_557 rfl rfl rfl ?_
              refine C.iconst 1 at_559 rfl rfl ?_
              refine C.iaload (.int (own_cl (own_cl (own_cl co pv c1) c1 c2) c2 cq)) at_560 rfl F3018 (by decide) rfl ?_
              refine C.icmp_ne_f at_561 rfl rfl ?_
              refine C.iconst 1 at_564 rfl rfl ?_
              refine C.goto at_565 (by decide) rfl ?_
              exact C.retZ at_569 rfl (by decide) (by decide) ⟨rfl, trivial⟩
            refine C.iconst 1 at_379 rfl rfl ?_
            refine C.istore (Ls' := #[.val (.long x0), .second, .val (.long x1), .second, iv x2, iv x3, iv x4, iv x5, rv a921, rv a952, rv a970, iv b11, iv 1, iv ((XT.ushr x2 2) &&& 3), rv a1001, rv a1077, iv 1, rv a1145, rv a2670, rv a2691, iv 1, .unset, .unset, .unset]) at_380 rfl rfl ?_
            refine C.iload at_382 rfl rfl ?_
            refine C.if_gt_t at_384 (by decide) rfl (by decide) ?_
            refine C.aload at_413 rfl rfl rfl ?_
            refine C.aload at_415 rfl rfl rfl ?_
            refine C.iload at_417 rfl rfl ?_
            refine C.iload at_419 rfl rfl ?_
            refine C.iload at_421 rfl rfl ?_
            refine C.iload at_423 rfl rfl ?_
            refine C.iload at_425 rfl rfl ?_
            refine C.callV (argsL := [(.ref a921), (.int 1), (.int ((XT.ushr x2 2) &&& 3)), (.int x3), (.int x4), (.int x5)]) (rest := []) 0 (fun zz => con_pass_3_1 l Z a0 hw n0 h2858 zz a1001 a921 ((XT.ushr x2 2) &&& 3) x3 x4 x5 ln co pv c0 c1 c2 F2861 F2862 F2863 F2864 F2865 F2866 g1007 (Ne.symm ne1008) (own_to _) nc0 nc1 nc2) F2861 at_427 rfl (tw hw 28 rfl) (tw hw 29 rfl) (tw hw 30 rfl) (tw hw 31 rfl) (tw hw 9 rfl) (tw hw 32 rfl) (by decide) pd_4 rfl rfl rfl (Nat.le_of_eq rfl) (by decide) (by decide) (by decide) (by decide) (fun v3032 h3033 r3034 => ?_)
            obtain ⟨rfl, K3035, F3036, F3037, F3038, F3039⟩ := r3034
            have F3040 := F2861.keep K3035
            have F3045 := F2866.keep K3035 (ninS ne1008 nin0)
            have F3046 := F2867.keep K3035 (ninS ne1010 nin0)
            have F3047 := F2868.keep K3035 (ninS (Ne.symm ne1086) nin0)
            have F3048 := F2869.keep K3035 (ninS (Ne.symm ne1153) nin0)
            have F3049 := F2870.keep K3035 (ninS (Ne.symm ne2678) nin0)
            have F3050 := F2871.keep K3035 (ninS (Ne.symm ne2699) nin0)
            have kE3051 : (own_pass ((XT.ushr x2 2) &&& 3) x3 x4 x5 1 [c1, c2] ln co pv) = (1, ln, co, pv) := (own_no (fun h => q376 (own_stop0.mpr h)))
            have F3052 : Fld Z h3033 a1001 "com/example/dodder/dodder/PlacedText$Counter" "line" "I" (.int ln) := by have q := F3036; rw [kE3051] at q; exact q
            have F3053 : Fld Z h3033 a1001 "com/example/dodder/dodder/PlacedText$Counter" "column" "I" (.int co) := by have q := F3037; rw [kE3051] at q; exact q
            have F3054 : Fld Z h3033 a1001 "com/example/dodder/dodder/PlacedText$Counter" "afterCarriageReturn" "Z" (.int (own_cr pv)) := by have q := F3038; rw [kE3051] at q; exact q
            have F3055 : Fld Z h3033 a1001 "com/example/dodder/dodder/PlacedText$Counter" "started" "Z" (.int (own_bg pv)) := by have q := F3039; rw [kE3051] at q; exact q
            rw [kE3051]
            show Go p l e room_1 s m #[(.long x0), (.long x1), (.int x2), (.int x3), (.int x4), (.int x5)] below meth c n0 (FinQ s n0 (Qcon0 Z n0 h0 x0 x1 x2 x3 x4 x5) room_1.cells room_1.slots) h3033 8 24 430 #[.val (.long x0), .second, .val (.long x1), .second, iv x2, iv x3, iv x4, iv x5, rv a921, rv a952, rv a970, iv b11, iv 1, iv ((XT.ushr x2 2) &&& 3), rv a1001, rv a1077, iv 1, rv a1145, rv a2670, rv a2691, iv 1, .unset, .unset, .unset] [(.int 1)]
            refine C.istore (Ls' := #[.val (.long x0), .second, .val (.long x1), .second, iv x2, iv x3, iv x4, iv x5, rv a921, rv a952, rv a970, iv b11, iv 1, iv ((XT.ushr x2 2) &&& 3), rv a1001, rv a1077, iv 1, rv a1145, rv a2670, rv a2691, iv 1, iv 1, .unset, .unset]) at_430 rfl rfl ?_
            refine C.iload at_432 rfl rfl ?_
            refine C.if_eq_f at_434 rfl (by decide) ?_
            refine C.iload at_437 rfl rfl ?_
            refine C.iload at_439 rfl rfl ?_
            refine C.icmp_ne_f at_441 rfl (by decide) ?_
            refine C.aload at_444 rfl rfl rfl ?_
            refine C.callV (argsL := []) (rest := []) 0 (fun zz => au1460_7 l Z a0 hw n0 h3033 zz a1001 (own_cr pv) co ln (own_bg pv) F3040 F3054 F3053 F3052 F3055 g1007) F3040 at_446 rfl (tw hw 37 rfl) (tw hw 38 rfl) (tw hw 39 rfl) (tw hw 40 rfl) (tw hw 9 rfl) (tw hw 41 rfl) (by decide) pd_5 rfl rfl rfl (Nat.le_of_eq rfl) (by decide) (by decide) (by decide) (by decide) (fun v3056 h3057 r3058 => ?_)
            obtain ⟨rfl, rfl⟩ := r3058
            refine C.aload at_449 rfl rfl rfl ?_
            refine C.iload at_451 rfl rfl ?_
            refine C.iaload (.int ln) at_453 rfl F3048 (by decide) rfl ?_
            refine C.icmp_ne_f at_454 rfl rfl ?_
            refine C.aload at_457 rfl rfl rfl ?_
            refine C.callV (argsL := []) (rest := []) 0 (fun zz => au1465_8 l Z a0 hw n0 h3033 zz a1001 (own_cr pv) co ln (own_bg pv) F3040 F3054 F3053 F3052 F3055 g1007) F3040 at_459 rfl (tw hw 42 rfl) (tw hw 43 rfl) (tw hw 44 rfl) (tw hw 45 rfl) (tw hw 9 rfl) (tw hw 46 rfl) (by decide) pd_5 rfl rfl rfl (Nat.le_of_eq rfl) (by decide) (by decide) (by decide) (by decide) (fun v3060 h3061 r3062 => ?_)
            obtain ⟨rfl, rfl⟩ := r3062
            refine C.aload at_462 rfl rfl rfl ?_
            refine C.iload at_464 rfl rfl ?_
            refine C.iaload (.int co) at_466 rfl F3049 (by decide) rfl ?_
            refine C.icmp_ne_f at_467 rfl rfl ?_
            refine C.iconst 1 at_470 rfl rfl ?_
            refine C.goto at_471 (by decide) rfl ?_
            refine C.istore (Ls' := #[.val (.long x0), .second, .val (.long x1), .second, iv x2, iv x3, iv x4, iv x5, rv a921, rv a952, rv a970, iv b11, iv 1, iv ((XT.ushr x2 2) &&& 3), rv a1001, rv a1077, iv 1, rv a1145, rv a2670, rv a2691, iv 1, iv 1, .unset, .unset]) at_475 rfl rfl ?_
            refine C.iconst 3 at_477 rfl rfl ?_
            refine C.newarr 3 at_478 rfl rfl (tw hw 20 rfl) (by decide) (by decide) (by decide) (by decide) (by decide) (fun a3064 h3065 z3068 g3069 X3066 F3067 => ?_)
            have ne3070 : a921 ≠ a3064 := by rw [z3068]; exact Nat.ne_of_lt F3045.lt
            have ne3071 : a970 ≠ a3064 := by rw [z3068]; exact Nat.ne_of_lt F3046.lt
            have ne3072 : a1001 ≠ a3064 := by rw [z3068]; exact Nat.ne_of_lt F3040.lt
            have ne3073 : a1077 ≠ a3064 := by rw [z3068]; exact Nat.ne_of_lt F3047.lt
            have ne3074 : a1145 ≠ a3064 := by rw [z3068]; exact Nat.ne_of_lt F3048.lt
            have ne3075 : a2670 ≠ a3064 := by rw [z3068]; exact Nat.ne_of_lt F3049.lt
            have ne3076 : a2691 ≠ a3064 := by rw [z3068]; exact Nat.ne_of_lt F3050.lt
            have F3077 := Exa.ext X3066 F3040
            have F3078 := F3045.ext X3066
            have F3079 := F3046.ext X3066
            have F3080 := F3047.ext X3066
            have F3081 := F3048.ext X3066
            have F3082 := F3049.ext X3066
            have F3083 := F3050.ext X3066
            have F3084 := Fld.ext X3066 F3052
            have F3085 := Fld.ext X3066 F3053
            have F3086 := Fld.ext X3066 F3054
            have F3087 := Fld.ext X3066 F3055
            have F3088 : Av Z h3065 a3064 .int ([.int 0, .int 0, .int 0]) := F3067
            refine C.dup at_480 rfl rfl ?_
            refine C.iconst 0 at_481 rfl rfl ?_
            refine C.aload at_482 rfl rfl rfl ?_
            refine C.iload at_484 rfl rfl ?_
            refine C.iaload (.int ln) at_486 rfl F3081 (by decide) rfl ?_
            refine C.iastore at_487 rfl F3088 g3069 (by decide) (Nat.le_of_ble_eq_true rfl) (fun h3089 W3090 F3091 => ?_)
            have F3092 := Exa.wr W3090 F3077
            have F3093 := F3078.other W3090 ne3070
            have F3094 := F3079.other W3090 ne3071
            have F3095 := F3080.other W3090 ne3073
            have F3096 := F3081.other W3090 ne3074
            have F3097 := F3082.other W3090 ne3075
            have F3098 := F3083.other W3090 ne3076
            have F3099 := Fld.other W3090 F3084 (Or.inl ne3072)
            have F3100 := Fld.other W3090 F3085 (Or.inl ne3072)
            have F3101 := Fld.other W3090 F3086 (Or.inl ne3072)
            have F3102 := Fld.other W3090 F3087 (Or.inl ne3072)
            have F3103 : Av Z h3089 a3064 .int ([.int ln, .int 0, .int 0]) := F3091
            refine C.dup at_488 rfl rfl ?_
            refine C.iconst 1 at_489 rfl rfl ?_
            refine C.aload at_490 rfl rfl rfl ?_
            refine C.iload at_492 rfl rfl ?_
            refine C.iaload (.int co) at_494 rfl F3097 (by decide) rfl ?_
            refine C.iastore at_495 rfl F3103 g3069 (by decide) (Nat.le_of_ble_eq_true rfl) (fun h3104 W3105 F3106 => ?_)
            have F3107 := Exa.wr W3105 F3092
            have F3108 := F3093.other W3105 ne3070
            have F3109 := F3094.other W3105 ne3071
            have F3110 := F3095.other W3105 ne3073
            have F3111 := F3096.other W3105 ne3074
            have F3112 := F3097.other W3105 ne3075
            have F3113 := F3098.other W3105 ne3076
            have F3114 := Fld.other W3105 F3099 (Or.inl ne3072)
            have F3115 := Fld.other W3105 F3100 (Or.inl ne3072)
            have F3116 := Fld.other W3105 F3101 (Or.inl ne3072)
            have F3117 := Fld.other W3105 F3102 (Or.inl ne3072)
            have F3118 : Av Z h3104 a3064 .int ([.int ln, .int co, .int 0]) := F3106
            refine C.dup at_496 rfl rfl ?_
            refine C.iconst 2 at_497 rfl rfl ?_
            refine C.aload at_498 rfl rfl rfl ?_
            refine C.iload at_500 rfl rfl ?_
            refine C.iaload (.int pv) at_502 rfl F3113 (by decide) rfl ?_
            refine C.iastore at_503 rfl F3118 g3069 (by decide) (Nat.le_of_ble_eq_true rfl) (fun h3119 W3120 F3121 => ?_)
            have F3122 := Exa.wr W3120 F3107
            have F3123 := F3108.other W3120 ne3070
            have F3124 := F3109.other W3120 ne3071
            have F3125 := F3110.other W3120 ne3073
            have F3126 := F3111.other W3120 ne3074
            have F3127 := F3112.other W3120 ne3075
            have F3128 := F3113.other W3120 ne3076
            have F3129 := Fld.other W3120 F3114 (Or.inl ne3072)
            have F3130 := Fld.other W3120 F3115 (Or.inl ne3072)
            have F3131 := Fld.other W3120 F3116 (Or.inl ne3072)
            have F3132 := Fld.other W3120 F3117 (Or.inl ne3072)
            have F3133 : Av Z h3119 a3064 .int ([.int ln, .int co, .int pv]) := F3121
            refine C.astore (Ls' := #[.val (.long x0), .second, .val (.long x1), .second, iv x2, iv x3, iv x4, iv x5, rv a921, rv a952, rv a970, iv b11, iv 1, iv ((XT.ushr x2 2) &&& 3), rv a1001, rv a1077, iv 1, rv a1145, rv a2670, rv a2691, iv 1, iv 1, rv a3064, .unset]) at_504 rfl rfl rfl ?_
            refine C.aload at_506 rfl rfl rfl ?_
            refine C.aload at_508 rfl rfl rfl ?_
            refine C.iconst 0 at_510 rfl rfl ?_
            refine C.caload (.int cq) at_511 rfl F3124 (by decide) rfl ?_
            refine C.callS (argsL := [(.ref a3064), (.int cq)]) (rest := []) 0 (fun zz => con_step l Z a0 hw n0 h3119 zz a3064 cq ln co pv F3133 g3069) at_512 rfl (tw hw 21 rfl) (tw hw 22 rfl) (tw hw 3 rfl) (tw hw 23 rfl) (by decide) pd_2 rfl rfl rfl (Nat.le_of_eq rfl) (by decide) (by decide) (by decide) (by decide) (fun v3134 h3135 r3136 => ?_)
            obtain ⟨rfl, K3137, F3138⟩ := r3136
            have F3139 := F3122.keep K3137
            have F3140 := F3123.keep K3137 (ninS ne3070 nin0)
            have F3141 := F3124.keep K3137 (ninS ne3071 nin0)
            have F3142 := F3125.keep K3137 (ninS ne3073 nin0)
            have F3143 := F3126.keep K3137 (ninS ne3074 nin0)
            have F3144 := F3127.keep K3137 (ninS ne3075 nin0)
            have F3145 := F3128.keep K3137 (ninS ne3076 nin0)
            have F3146 := F3129.keep K3137 (ninS ne3072 nin0)
            have F3147 := F3130.keep K3137 (ninS ne3072 nin0)
            have F3148 := F3131.keep K3137 (ninS ne3072 nin0)
            have F3149 := F3132.keep K3137 (ninS ne3072 nin0)
            refine C.aload at_515 rfl rfl rfl ?_
            refine C.aload at_517 rfl rfl rfl ?_
            refine C.iconst 0 at_519 rfl rfl ?_
            refine C.iconst 1 at_520 rfl rfl ?_
            refine C.iconst 1 at_521 rfl rfl ?_
            refine C.iconst 0 at_522 rfl rfl ?_
            refine C.iconst 0 at_523 rfl rfl ?_
            refine C.callV (argsL := [(.ref a970), (.int 0), (.int 1), (.int 1), (.int 0), (.int 0)]) (rest := []) 0 (fun zz => con_pass_1_0 l Z a0 hw n0 h3135 zz a1001 a970 1 1 0 0 ln co pv cq F3139 F3146 F3147 F3148 F3149 F3141 g1007 (Ne.symm ne1010) (by decide) ncq) F3139 at_524 rfl (tw hw 28 rfl) (tw hw 29 rfl) (tw hw 30 rfl) (tw hw 31 rfl) (tw hw 9 rfl) (tw hw 32 rfl) (by decide) pd_4 rfl rfl rfl (Nat.le_of_eq rfl) (by decide) (by decide) (by decide) (by decide) (fun v3151 h3152 r3153 => ?_)
            obtain ⟨rfl, K3154, F3155, F3156, F3157, F3158⟩ := r3153
            have F3159 := F3139.keep K3154
            have F3160 := F3140.keep K3154 (ninS ne1008 nin0)
            have F3161 := F3141.keep K3154 (ninS ne1010 nin0)
            have F3162 := F3142.keep K3154 (ninS (Ne.symm ne1086) nin0)
            have F3163 := F3143.keep K3154 (ninS (Ne.symm ne1153) nin0)
            have F3164 := F3144.keep K3154 (ninS (Ne.symm ne2678) nin0)
            have F3165 := F3145.keep K3154 (ninS (Ne.symm ne2699) nin0)
            have F3170 := F3138.keep K3154 (ninS (Ne.symm ne3072) nin0)
            have kE3171 : (own_pass 1 1 0 0 0 [cq] ln co pv) = (1, own_ln ln pv cq, own_cl co pv cq, cq) := own_go ⟨by decide, Or.inl (by decide)⟩
            have F3172 : Fld Z h3152 a1001 "com/example/dodder/dodder/PlacedText$Counter" "line" "I" (.int (own_ln ln pv cq)) := by have q := F3155; rw [kE3171] at q; exact q
            have F3173 : Fld Z h3152 a1001 "com/example/dodder/dodder/PlacedText$Counter" "column" "I" (.int (own_cl co pv cq)) := by have q := F3156; rw [kE3171] at q; exact q
            have F3174 : Fld Z h3152 a1001 "com/example/dodder/dodder/PlacedText$Counter" "afterCarriageReturn" "Z" (.int (own_cr cq)) := by have q := F3157; rw [kE3171] at q; exact q
            have F3175 : Fld Z h3152 a1001 "com/example/dodder/dodder/PlacedText$Counter" "started" "Z" (.int (own_bg cq)) := by have q := F3158; rw [kE3171] at q; exact q
            rw [kE3171]
            show Go p l e room_1 s m #[(.long x0), (.long x1), (.int x2), (.int x3), (.int x4), (.int x5)] below meth c n0 (FinQ s n0 (Qcon0 Z n0 h0 x0 x1 x2 x3 x4 x5) room_1.cells room_1.slots) h3152 9 27 527 #[.val (.long x0), .second, .val (.long x1), .second, iv x2, iv x3, iv x4, iv x5, rv a921, rv a952, rv a970, iv b11, iv 1, iv ((XT.ushr x2 2) &&& 3), rv a1001, rv a1077, iv 1, rv a1145, rv a2670, rv a2691, iv 1, iv 1, rv a3064, .unset] [(.int 1)]
            refine C.istore (Ls' := #[.val (.long x0), .second, .val (.long x1), .second, iv x2, iv x3, iv x4, iv x5, rv a921, rv a952, rv a970, iv b11, iv 1, iv ((XT.ushr x2 2) &&& 3), rv a1001, rv a1077, iv 1, rv a1145, rv a2670, rv a2691, iv 1, iv 1, rv a3064, iv 1]) at_527 rfl rfl ?_
            refine C.iload at_529 rfl rfl ?_
            refine C.if_eq_f at_531 rfl (by decide) ?_
            refine C.iload at_534 rfl rfl ?_
            refine C.iconst 1 at_536 rfl rfl ?_
            refine C.icmp_ne_f at_537 rfl (by decide) ?_
            refine C.aload at_540 rfl rfl rfl ?_
            refine C.callV (argsL := []) (rest := []) 0 (fun zz => au1460_7 l Z a0 hw n0 h3152 zz a1001 (own_cr cq) (own_cl co pv cq) (own_ln ln pv cq) (own_bg cq) F3159 F3174 F3173 F3172 F3175 g1007) F3159 at_542 rfl (tw hw 37 rfl) (tw hw 38 rfl) (tw hw 39 rfl) (tw hw 40 rfl) (tw hw 9 rfl) (tw hw 41 rfl) (by decide) pd_5 rfl rfl rfl (Nat.le_of_eq rfl) (by decide) (by decide) (by decide) (by decide) (fun v3176 h3177 r3178 => ?_)
            obtain ⟨rfl, rfl⟩ := r3178
            refine C.aload at_545 rfl rfl rfl ?_
            refine C.iconst 0 at_547 rfl rfl ?_
            refine C.iaload (.int (own_ln ln pv cq)) at_548 rfl F3170 (by decide) rfl ?_
            refine C.icmp_ne_f at_549 rfl rfl ?_
            refine C.aload at_552 rfl rfl rfl ?_
            refine C.callV (argsL := []) (rest := []) 0 (fun zz => au1465_8 l Z a0 hw n0 h3152 zz a1001 (own_cr cq) (own_cl co pv cq) (own_ln ln pv cq) (own_bg cq) F3159 F3174 F3173 F3172 F3175 g1007) F3159 at_554 rfl (tw hw 42 rfl) (tw hw 43 rfl) (tw hw 44 rfl) (tw hw 45 rfl) (tw hw 9 rfl) (tw hw 46 rfl) (by decide) pd_5 rfl rfl rfl (Nat.le_of_eq rfl) (by decide) (by decide) (by decide) (by decide) (fun v3180 h3181 r3182 => ?_)
            obtain ⟨rfl, rfl⟩ := r3182
            refine C.aload at_557 rfl rfl rfl ?_
            refine C.iconst 1 at_559 rfl rfl ?_
            refine C.iaload (.int (own_cl co pv cq)) at_560 rfl F3170 (by decide) rfl ?_
            refine C.icmp_ne_f at_561 rfl rfl ?_
            refine C.iconst 1 at_564 rfl rfl ?_
            refine C.goto at_565 (by decide) rfl ?_
            exact C.retZ at_569 rfl (by decide) (by decide) ⟨rfl, trivial⟩
          refine C.iconst 2 at_347 rfl rfl ?_
          refine C.istore (Ls' := #[.val (.long x0), .second, .val (.long x1), .second, iv x2, iv x3, iv x4, iv x5, rv a921, rv a952, rv a970, iv b11, iv 1, iv ((XT.ushr x2 2) &&& 3), rv a1001, rv a1077, iv 1, rv a1145, rv a2670, rv a2691, iv 2, .unset, .unset, .unset]) at_348 rfl rfl ?_
          refine C.iload at_350 rfl rfl ?_
          refine C.iconst 1 at_352 rfl rfl ?_
          refine C.icmp_gt_f at_353 rfl (by decide) ?_
          refine C.iconst 1 at_356 rfl rfl ?_
          refine C.iload at_357 rfl rfl ?_
          refine C.iload at_359 rfl rfl ?_
          refine C.aload at_361 rfl rfl rfl ?_
          refine C.iconst 1 at_363 rfl rfl ?_
          refine C.iaload (.int ln) at_364 rfl F2869 (by decide) rfl ?_
          refine C.aload at_365 rfl rfl rfl ?_
          refine C.iconst 1 at_367 rfl rfl ?_
          refine C.iaload (.int co) at_368 rfl F2870 (by decide) rfl ?_
          refine C.iload at_369 rfl rfl ?_
          refine C.iload at_371 rfl rfl ?_
          refine C.callS (argsL := [(.int 1), (.int ((XT.ushr x2 2) &&& 3)), (.int x3), (.int ln), (.int co), (.int x4), (.int x5)]) (rest := []) 0 (fun zz => con_stops l Z a0 hw n0 h2858 zz 1 ((XT.ushr x2 2) &&& 3) x3 ln co x4 x5 ) at_373 rfl (tw hw 25 rfl) (tw hw 26 rfl) (tw hw 3 rfl) (tw hw 27 rfl) (by decide) pd_3 rfl rfl rfl (Nat.le_of_eq rfl) (by decide) (by decide) (by decide) (by decide) (fun v3184 h3185 r3186 => ?_)
          obtain ⟨rfl, rfl⟩ := r3186
          refine C.if_eq at_376 (by decide) rfl rfl (fun q376 => ?_) (fun q376 => ?_)
          · refine C.iload at_382 rfl rfl ?_
            refine C.if_gt_t at_384 (by decide) rfl (by decide) ?_
            refine C.aload at_413 rfl rfl rfl ?_
            refine C.aload at_415 rfl rfl rfl ?_
            refine C.iload at_417 rfl rfl ?_
            refine C.iload at_419 rfl rfl ?_
            refine C.iload at_421 rfl rfl ?_
            refine C.iload at_423 rfl rfl ?_
            refine C.iload at_425 rfl rfl ?_
            refine C.callV (argsL := [(.ref a921), (.int 1), (.int ((XT.ushr x2 2) &&& 3)), (.int x3), (.int x4), (.int x5)]) (rest := []) 0 (fun zz => con_pass_3_1 l Z a0 hw n0 h2858 zz a1001 a921 ((XT.ushr x2 2) &&& 3) x3 x4 x5 ln co pv c0 c1 c2 F2861 F2862 F2863 F2864 F2865 F2866 g1007 (Ne.symm ne1008) (own_to _) nc0 nc1 nc2) F2861 at_427 rfl (tw hw 28 rfl) (tw hw 29 rfl) (tw hw 30 rfl) (tw hw 31 rfl) (tw hw 9 rfl) (tw hw 32 rfl) (by decide) pd_4 rfl rfl rfl (Nat.le_of_eq rfl) (by decide) (by decide) (by decide) (by decide) (fun v3188 h3189 r3190 => ?_)
            obtain ⟨rfl, K3191, F3192, F3193, F3194, F3195⟩ := r3190
            have F3196 := F2861.keep K3191
            have F3201 := F2866.keep K3191 (ninS ne1008 nin0)
            have F3202 := F2867.keep K3191 (ninS ne1010 nin0)
            have F3203 := F2868.keep K3191 (ninS (Ne.symm ne1086) nin0)
            have F3204 := F2869.keep K3191 (ninS (Ne.symm ne1153) nin0)
            have F3205 := F2870.keep K3191 (ninS (Ne.symm ne2678) nin0)
            have F3206 := F2871.keep K3191 (ninS (Ne.symm ne2699) nin0)
            have kE3207 : (own_pass ((XT.ushr x2 2) &&& 3) x3 x4 x5 1 [c1, c2] ln co pv) = (2, (own_ln ln pv c1), (own_cl co pv c1), c1) := ((own_go (own_stop0.mp q376)).trans (own_no (fun h => q344 (own_stop0.mpr h))))
            have F3208 : Fld Z h3189 a1001 "com/example/dodder/dodder/PlacedText$Counter" "line" "I" (.int (own_ln ln pv c1)) := by have q := F3192; rw [kE3207] at q; exact q
            have F3209 : Fld Z h3189 a1001 "com/example/dodder/dodder/PlacedText$Counter" "column" "I" (.int (own_cl co pv c1)) := by have q := F3193; rw [kE3207] at q; exact q
            have F3210 : Fld Z h3189 a1001 "com/example/dodder/dodder/PlacedText$Counter" "afterCarriageReturn" "Z" (.int (own_cr c1)) := by have q := F3194; rw [kE3207] at q; exact q
            have F3211 : Fld Z h3189 a1001 "com/example/dodder/dodder/PlacedText$Counter" "started" "Z" (.int (own_bg c1)) := by have q := F3195; rw [kE3207] at q; exact q
            rw [kE3207]
            show Go p l e room_1 s m #[(.long x0), (.long x1), (.int x2), (.int x3), (.int x4), (.int x5)] below meth c n0 (FinQ s n0 (Qcon0 Z n0 h0 x0 x1 x2 x3 x4 x5) room_1.cells room_1.slots) h3189 8 24 430 #[.val (.long x0), .second, .val (.long x1), .second, iv x2, iv x3, iv x4, iv x5, rv a921, rv a952, rv a970, iv b11, iv 1, iv ((XT.ushr x2 2) &&& 3), rv a1001, rv a1077, iv 1, rv a1145, rv a2670, rv a2691, iv 2, .unset, .unset, .unset] [(.int 2)]
            refine C.istore (Ls' := #[.val (.long x0), .second, .val (.long x1), .second, iv x2, iv x3, iv x4, iv x5, rv a921, rv a952, rv a970, iv b11, iv 1, iv ((XT.ushr x2 2) &&& 3), rv a1001, rv a1077, iv 1, rv a1145, rv a2670, rv a2691, iv 2, iv 2, .unset, .unset]) at_430 rfl rfl ?_
            refine C.iload at_432 rfl rfl ?_
            refine C.if_eq_f at_434 rfl (by decide) ?_
            refine C.iload at_437 rfl rfl ?_
            refine C.iload at_439 rfl rfl ?_
            refine C.icmp_ne_f at_441 rfl (by decide) ?_
            refine C.aload at_444 rfl rfl rfl ?_
            refine C.callV (argsL := []) (rest := []) 0 (fun zz => au1460_7 l Z a0 hw n0 h3189 zz a1001 (own_cr c1) (own_cl co pv c1) (own_ln ln pv c1) (own_bg c1) F3196 F3210 F3209 F3208 F3211 g1007) F3196 at_446 rfl (tw hw 37 rfl) (tw hw 38 rfl) (tw hw 39 rfl) (tw hw 40 rfl) (tw hw 9 rfl) (tw hw 41 rfl) (by decide) pd_5 rfl rfl rfl (Nat.le_of_eq rfl) (by decide) (by decide) (by decide) (by decide) (fun v3212 h3213 r3214 => ?_)
            obtain ⟨rfl, rfl⟩ := r3214
            refine C.aload at_449 rfl rfl rfl ?_
            refine C.iload at_451 rfl rfl ?_
            refine C.iaload (.int (own_ln ln pv c1)) at_453 rfl F3204 (by decide) rfl ?_
            refine C.icmp_ne_f at_454 rfl rfl ?_
            refine C.aload at_457 rfl rfl rfl ?_
            refine C.callV (argsL := []) (rest := []) 0 (fun zz => au1465_8 l Z a0 hw n0 h3189 zz a1001 (own_cr c1) (own_cl co pv c1) (own_ln ln pv c1) (own_bg c1) F3196 F3210 F3209 F3208 F3211 g1007) F3196 at_459 rfl (tw hw 42 rfl) (tw hw 43 rfl) (tw hw 44 rfl) (tw hw 45 rfl) (tw hw 9 rfl) (tw hw 46 rfl) (by decide) pd_5 rfl rfl rfl (Nat.le_of_eq rfl) (by decide) (by decide) (by decide) (by decide) (fun v3216 h3217 r3218 => ?_)
            obtain ⟨rfl, rfl⟩ := r3218
            refine C.aload at_462 rfl rfl rfl ?_
            refine C.iload at_464 rfl rfl ?_
            refine C.iaload (.int (own_cl co pv c1)) at_466 rfl F3205 (by decide) rfl ?_
            refine C.icmp_ne_f at_467 rfl rfl ?_
            refine C.iconst 1 at_470 rfl rfl ?_
            refine C.goto at_471 (by decide) rfl ?_
            refine C.istore (Ls' := #[.val (.long x0), .second, .val (.long x1), .second, iv x2, iv x3, iv x4, iv x5, rv a921, rv a952, rv a970, iv b11, iv 1, iv ((XT.ushr x2 2) &&& 3), rv a1001, rv a1077, iv 1, rv a1145, rv a2670, rv a2691, iv 2, iv 2, .unset, .unset]) at_475 rfl rfl ?_
            refine C.iconst 3 at_477 rfl rfl ?_
            refine C.newarr 3 at_478 rfl rfl (tw hw 20 rfl) (by decide) (by decide) (by decide) (by decide) (by decide) (fun a3220 h3221 z3224 g3225 X3222 F3223 => ?_)
            have ne3226 : a921 ≠ a3220 := by rw [z3224]; exact Nat.ne_of_lt F3201.lt
            have ne3227 : a970 ≠ a3220 := by rw [z3224]; exact Nat.ne_of_lt F3202.lt
            have ne3228 : a1001 ≠ a3220 := by rw [z3224]; exact Nat.ne_of_lt F3196.lt
            have ne3229 : a1077 ≠ a3220 := by rw [z3224]; exact Nat.ne_of_lt F3203.lt
            have ne3230 : a1145 ≠ a3220 := by rw [z3224]; exact Nat.ne_of_lt F3204.lt
            have ne3231 : a2670 ≠ a3220 := by rw [z3224]; exact Nat.ne_of_lt F3205.lt
            have ne3232 : a2691 ≠ a3220 := by rw [z3224]; exact Nat.ne_of_lt F3206.lt
            have F3233 := Exa.ext X3222 F3196
            have F3234 := F3201.ext X3222
            have F3235 := F3202.ext X3222
            have F3236 := F3203.ext X3222
            have F3237 := F3204.ext X3222
            have F3238 := F3205.ext X3222
            have F3239 := F3206.ext X3222
            have F3240 := Fld.ext X3222 F3208
            have F3241 := Fld.ext X3222 F3209
            have F3242 := Fld.ext X3222 F3210
            have F3243 := Fld.ext X3222 F3211
            have F3244 : Av Z h3221 a3220 .int ([.int 0, .int 0, .int 0]) := F3223
            refine C.dup at_480 rfl rfl ?_
            refine C.iconst 0 at_481 rfl rfl ?_
            refine C.aload at_482 rfl rfl rfl ?_
            refine C.iload at_484 rfl rfl ?_
            refine C.iaload (.int (own_ln ln pv c1)) at_486 rfl F3237 (by decide) rfl ?_
            refine C.iastore at_487 rfl F3244 g3225 (by decide) (Nat.le_of_ble_eq_true rfl) (fun h3245 W3246 F3247 => ?_)
            have F3248 := Exa.wr W3246 F3233
            have F3249 := F3234.other W3246 ne3226
            have F3250 := F3235.other W3246 ne3227
            have F3251 := F3236.other W3246 ne3229
            have F3252 := F3237.other W3246 ne3230
            have F3253 := F3238.other W3246 ne3231
            have F3254 := F3239.other W3246 ne3232
            have F3255 := Fld.other W3246 F3240 (Or.inl ne3228)
            have F3256 := Fld.other W3246 F3241 (Or.inl ne3228)
            have F3257 := Fld.other W3246 F3242 (Or.inl ne3228)
            have F3258 := Fld.other W3246 F3243 (Or.inl ne3228)
            have F3259 : Av Z h3245 a3220 .int ([.int (own_ln ln pv c1), .int 0, .int 0]) := F3247
            refine C.dup at_488 rfl rfl ?_
            refine C.iconst 1 at_489 rfl rfl ?_
            refine C.aload at_490 rfl rfl rfl ?_
            refine C.iload at_492 rfl rfl ?_
            refine C.iaload (.int (own_cl co pv c1)) at_494 rfl F3253 (by decide) rfl ?_
            refine C.iastore at_495 rfl F3259 g3225 (by decide) (Nat.le_of_ble_eq_true rfl) (fun h3260 W3261 F3262 => ?_)
            have F3263 := Exa.wr W3261 F3248
            have F3264 := F3249.other W3261 ne3226
            have F3265 := F3250.other W3261 ne3227
            have F3266 := F3251.other W3261 ne3229
            have F3267 := F3252.other W3261 ne3230
            have F3268 := F3253.other W3261 ne3231
            have F3269 := F3254.other W3261 ne3232
            have F3270 := Fld.other W3261 F3255 (Or.inl ne3228)
            have F3271 := Fld.other W3261 F3256 (Or.inl ne3228)
            have F3272 := Fld.other W3261 F3257 (Or.inl ne3228)
            have F3273 := Fld.other W3261 F3258 (Or.inl ne3228)
            have F3274 : Av Z h3260 a3220 .int ([.int (own_ln ln pv c1), .int (own_cl co pv c1), .int 0]) := F3262
            refine C.dup at_496 rfl rfl ?_
            refine C.iconst 2 at_497 rfl rfl ?_
            refine C.aload at_498 rfl rfl rfl ?_
            refine C.iload at_500 rfl rfl ?_
            refine C.iaload (.int c1) at_502 rfl F3269 (by decide) rfl ?_
            refine C.iastore at_503 rfl F3274 g3225 (by decide) (Nat.le_of_ble_eq_true rfl) (fun h3275 W3276 F3277 => ?_)
            have F3278 := Exa.wr W3276 F3263
            have F3279 := F3264.other W3276 ne3226
            have F3280 := F3265.other W3276 ne3227
            have F3281 := F3266.other W3276 ne3229
            have F3282 := F3267.other W3276 ne3230
            have F3283 := F3268.other W3276 ne3231
            have F3284 := F3269.other W3276 ne3232
            have F3285 := Fld.other W3276 F3270 (Or.inl ne3228)
            have F3286 := Fld.other W3276 F3271 (Or.inl ne3228)
            have F3287 := Fld.other W3276 F3272 (Or.inl ne3228)
            have F3288 := Fld.other W3276 F3273 (Or.inl ne3228)
            have F3289 : Av Z h3275 a3220 .int ([.int (own_ln ln pv c1), .int (own_cl co pv c1), .int c1]) := F3277
            refine C.astore (Ls' := #[.val (.long x0), .second, .val (.long x1), .second, iv x2, iv x3, iv x4, iv x5, rv a921, rv a952, rv a970, iv b11, iv 1, iv ((XT.ushr x2 2) &&& 3), rv a1001, rv a1077, iv 1, rv a1145, rv a2670, rv a2691, iv 2, iv 2, rv a3220, .unset]) at_504 rfl rfl rfl ?_
            refine C.aload at_506 rfl rfl rfl ?_
            refine C.aload at_508 rfl rfl rfl ?_
            refine C.iconst 0 at_510 rfl rfl ?_
            refine C.caload (.int cq) at_511 rfl F3280 (by decide) rfl ?_
            refine C.callS (argsL := [(.ref a3220), (.int cq)]) (rest := []) 0 (fun zz => con_step l Z a0 hw n0 h3275 zz a3220 cq (own_ln ln pv c1) (own_cl co pv c1) c1 F3289 g3225) at_512 rfl (tw hw 21 rfl) (tw hw 22 rfl) (tw hw 3 rfl) (tw hw 23 rfl) (by decide) pd_2 rfl rfl rfl (Nat.le_of_eq rfl) (by decide) (by decide) (by decide) (by decide) (fun v3290 h3291 r3292 => ?_)
            obtain ⟨rfl, K3293, F3294⟩ := r3292
            have F3295 := F3278.keep K3293
            have F3296 := F3279.keep K3293 (ninS ne3226 nin0)
            have F3297 := F3280.keep K3293 (ninS ne3227 nin0)
            have F3298 := F3281.keep K3293 (ninS ne3229 nin0)
            have F3299 := F3282.keep K3293 (ninS ne3230 nin0)
            have F3300 := F3283.keep K3293 (ninS ne3231 nin0)
            have F3301 := F3284.keep K3293 (ninS ne3232 nin0)
            have F3302 := F3285.keep K3293 (ninS ne3228 nin0)
            have F3303 := F3286.keep K3293 (ninS ne3228 nin0)
            have F3304 := F3287.keep K3293 (ninS ne3228 nin0)
            have F3305 := F3288.keep K3293 (ninS ne3228 nin0)
            refine C.aload at_515 rfl rfl rfl ?_
            refine C.aload at_517 rfl rfl rfl ?_
            refine C.iconst 0 at_519 rfl rfl ?_
            refine C.iconst 1 at_520 rfl rfl ?_
            refine C.iconst 1 at_521 rfl rfl ?_
            refine C.iconst 0 at_522 rfl rfl ?_
            refine C.iconst 0 at_523 rfl rfl ?_
            refine C.callV (argsL := [(.ref a970), (.int 0), (.int 1), (.int 1), (.int 0), (.int 0)]) (rest := []) 0 (fun zz => con_pass_1_0 l Z a0 hw n0 h3291 zz a1001 a970 1 1 0 0 (own_ln ln pv c1) (own_cl co pv c1) c1 cq F3295 F3302 F3303 F3304 F3305 F3297 g1007 (Ne.symm ne1010) (by decide) ncq) F3295 at_524 rfl (tw hw 28 rfl) (tw hw 29 rfl) (tw hw 30 rfl) (tw hw 31 rfl) (tw hw 9 rfl) (tw hw 32 rfl) (by decide) pd_4 rfl rfl rfl (Nat.le_of_eq rfl) (by decide) (by decide) (by decide) (by decide) (fun v3307 h3308 r3309 => ?_)
            obtain ⟨rfl, K3310, F3311, F3312, F3313, F3314⟩ := r3309
            have F3315 := F3295.keep K3310
            have F3316 := F3296.keep K3310 (ninS ne1008 nin0)
            have F3317 := F3297.keep K3310 (ninS ne1010 nin0)
            have F3318 := F3298.keep K3310 (ninS (Ne.symm ne1086) nin0)
            have F3319 := F3299.keep K3310 (ninS (Ne.symm ne1153) nin0)
            have F3320 := F3300.keep K3310 (ninS (Ne.symm ne2678) nin0)
            have F3321 := F3301.keep K3310 (ninS (Ne.symm ne2699) nin0)
            have F3326 := F3294.keep K3310 (ninS (Ne.symm ne3228) nin0)
            have kE3327 : (own_pass 1 1 0 0 0 [cq] (own_ln ln pv c1) (own_cl co pv c1) c1) = (1, own_ln (own_ln ln pv c1) c1 cq, own_cl (own_cl co pv c1) c1 cq, cq) := own_go ⟨by decide, Or.inl (by decide)⟩
            have F3328 : Fld Z h3308 a1001 "com/example/dodder/dodder/PlacedText$Counter" "line" "I" (.int (own_ln (own_ln ln pv c1) c1 cq)) := by have q := F3311; rw [kE3327] at q; exact q
            have F3329 : Fld Z h3308 a1001 "com/example/dodder/dodder/PlacedText$Counter" "column" "I" (.int (own_cl (own_cl co pv c1) c1 cq)) := by have q := F3312; rw [kE3327] at q; exact q
            have F3330 : Fld Z h3308 a1001 "com/example/dodder/dodder/PlacedText$Counter" "afterCarriageReturn" "Z" (.int (own_cr cq)) := by have q := F3313; rw [kE3327] at q; exact q
            have F3331 : Fld Z h3308 a1001 "com/example/dodder/dodder/PlacedText$Counter" "started" "Z" (.int (own_bg cq)) := by have q := F3314; rw [kE3327] at q; exact q
            rw [kE3327]
            show Go p l e room_1 s m #[(.long x0), (.long x1), (.int x2), (.int x3), (.int x4), (.int x5)] below meth c n0 (FinQ s n0 (Qcon0 Z n0 h0 x0 x1 x2 x3 x4 x5) room_1.cells room_1.slots) h3308 9 27 527 #[.val (.long x0), .second, .val (.long x1), .second, iv x2, iv x3, iv x4, iv x5, rv a921, rv a952, rv a970, iv b11, iv 1, iv ((XT.ushr x2 2) &&& 3), rv a1001, rv a1077, iv 1, rv a1145, rv a2670, rv a2691, iv 2, iv 2, rv a3220, .unset] [(.int 1)]
            refine C.istore (Ls' := #[.val (.long x0), .second, .val (.long x1), .second, iv x2, iv x3, iv x4, iv x5, rv a921, rv a952, rv a970, iv b11, iv 1, iv ((XT.ushr x2 2) &&& 3), rv a1001, rv a1077, iv 1, rv a1145, rv a2670, rv a2691, iv 2, iv 2, rv a3220, iv 1]) at_527 rfl rfl ?_
            refine C.iload at_529 rfl rfl ?_
            refine C.if_eq_f at_531 rfl (by decide) ?_
            refine C.iload at_534 rfl rfl ?_
            refine C.iconst 1 at_536 rfl rfl ?_
            refine C.icmp_ne_f at_537 rfl (by decide) ?_
            refine C.aload at_540 rfl rfl rfl ?_
            refine C.callV (argsL := []) (rest := []) 0 (fun zz => au1460_7 l Z a0 hw n0 h3308 zz a1001 (own_cr cq) (own_cl (own_cl co pv c1) c1 cq) (own_ln (own_ln ln pv c1) c1 cq) (own_bg cq) F3315 F3330 F3329 F3328 F3331 g1007) F3315 at_542 rfl (tw hw 37 rfl) (tw hw 38 rfl) (tw hw 39 rfl) (tw hw 40 rfl) (tw hw 9 rfl) (tw hw 41 rfl) (by decide) pd_5 rfl rfl rfl (Nat.le_of_eq rfl) (by decide) (by decide) (by decide) (by decide) (fun v3332 h3333 r3334 => ?_)
            obtain ⟨rfl, rfl⟩ := r3334
            refine C.aload at_545 rfl rfl rfl ?_
            refine C.iconst 0 at_547 rfl rfl ?_
            refine C.iaload (.int (own_ln (own_ln ln pv c1) c1 cq)) at_548 rfl F3326 (by decide) rfl ?_
            refine C.icmp_ne_f at_549 rfl rfl ?_
            refine C.aload at_552 rfl rfl rfl ?_
            refine C.callV (argsL := []) (rest := []) 0 (fun zz => au1465_8 l Z a0 hw n0 h3308 zz a1001 (own_cr cq) (own_cl (own_cl co pv c1) c1 cq) (own_ln (own_ln ln pv c1) c1 cq) (own_bg cq) F3315 F3330 F3329 F3328 F3331 g1007) F3315 at_554 rfl (tw hw 42 rfl) (tw hw 43 rfl) (tw hw 44 rfl) (tw hw 45 rfl) (tw hw 9 rfl) (tw hw 46 rfl) (by decide) pd_5 rfl rfl rfl (Nat.le_of_eq rfl) (by decide) (by decide) (by decide) (by decide) (fun v3336 h3337 r3338 => ?_)
            obtain ⟨rfl, rfl⟩ := r3338
            refine C.aload at_557 rfl rfl rfl ?_
            refine C.iconst 1 at_559 rfl rfl ?_
            refine C.iaload (.int (own_cl (own_cl co pv c1) c1 cq)) at_560 rfl F3326 (by decide) rfl ?_
            refine C.icmp_ne_f at_561 rfl rfl ?_
            refine C.iconst 1 at_564 rfl rfl ?_
            refine C.goto at_565 (by decide) rfl ?_
            exact C.retZ at_569 rfl (by decide) (by decide) ⟨rfl, trivial⟩
          refine C.iconst 1 at_379 rfl rfl ?_
          refine C.istore (Ls' := #[.val (.long x0), .second, .val (.long x1), .second, iv x2, iv x3, iv x4, iv x5, rv a921, rv a952, rv a970, iv b11, iv 1, iv ((XT.ushr x2 2) &&& 3), rv a1001, rv a1077, iv 1, rv a1145, rv a2670, rv a2691, iv 1, .unset, .unset, .unset]) at_380 rfl rfl ?_
          refine C.iload at_382 rfl rfl ?_
          refine C.if_gt_t at_384 (by decide) rfl (by decide) ?_
          refine C.aload at_413 rfl rfl rfl ?_
          refine C.aload at_415 rfl rfl rfl ?_
          refine C.iload at_417 rfl rfl ?_
          refine C.iload at_419 rfl rfl ?_
          refine C.iload at_421 rfl rfl ?_
          refine C.iload at_423 rfl rfl ?_
          refine C.iload at_425 rfl rfl ?_
          refine C.callV (argsL := [(.ref a921), (.int 1), (.int ((XT.ushr x2 2) &&& 3)), (.int x3), (.int x4), (.int x5)]) (rest := []) 0 (fun zz => con_pass_3_1 l Z a0 hw n0 h2858 zz a1001 a921 ((XT.ushr x2 2) &&& 3) x3 x4 x5 ln co pv c0 c1 c2 F2861 F2862 F2863 F2864 F2865 F2866 g1007 (Ne.symm ne1008) (own_to _) nc0 nc1 nc2) F2861 at_427 rfl (tw hw 28 rfl) (tw hw 29 rfl) (tw hw 30 rfl) (tw hw 31 rfl) (tw hw 9 rfl) (tw hw 32 rfl) (by decide) pd_4 rfl rfl rfl (Nat.le_of_eq rfl) (by decide) (by decide) (by decide) (by decide) (fun v3340 h3341 r3342 => ?_)
          obtain ⟨rfl, K3343, F3344, F3345, F3346, F3347⟩ := r3342
          have F3348 := F2861.keep K3343
          have F3353 := F2866.keep K3343 (ninS ne1008 nin0)
          have F3354 := F2867.keep K3343 (ninS ne1010 nin0)
          have F3355 := F2868.keep K3343 (ninS (Ne.symm ne1086) nin0)
          have F3356 := F2869.keep K3343 (ninS (Ne.symm ne1153) nin0)
          have F3357 := F2870.keep K3343 (ninS (Ne.symm ne2678) nin0)
          have F3358 := F2871.keep K3343 (ninS (Ne.symm ne2699) nin0)
          have kE3359 : (own_pass ((XT.ushr x2 2) &&& 3) x3 x4 x5 1 [c1, c2] ln co pv) = (1, ln, co, pv) := (own_no (fun h => q376 (own_stop0.mpr h)))
          have F3360 : Fld Z h3341 a1001 "com/example/dodder/dodder/PlacedText$Counter" "line" "I" (.int ln) := by have q := F3344; rw [kE3359] at q; exact q
          have F3361 : Fld Z h3341 a1001 "com/example/dodder/dodder/PlacedText$Counter" "column" "I" (.int co) := by have q := F3345; rw [kE3359] at q; exact q
          have F3362 : Fld Z h3341 a1001 "com/example/dodder/dodder/PlacedText$Counter" "afterCarriageReturn" "Z" (.int (own_cr pv)) := by have q := F3346; rw [kE3359] at q; exact q
          have F3363 : Fld Z h3341 a1001 "com/example/dodder/dodder/PlacedText$Counter" "started" "Z" (.int (own_bg pv)) := by have q := F3347; rw [kE3359] at q; exact q
          rw [kE3359]
          show Go p l e room_1 s m #[(.long x0), (.long x1), (.int x2), (.int x3), (.int x4), (.int x5)] below meth c n0 (FinQ s n0 (Qcon0 Z n0 h0 x0 x1 x2 x3 x4 x5) room_1.cells room_1.slots) h3341 8 24 430 #[.val (.long x0), .second, .val (.long x1), .second, iv x2, iv x3, iv x4, iv x5, rv a921, rv a952, rv a970, iv b11, iv 1, iv ((XT.ushr x2 2) &&& 3), rv a1001, rv a1077, iv 1, rv a1145, rv a2670, rv a2691, iv 1, .unset, .unset, .unset] [(.int 1)]
          refine C.istore (Ls' := #[.val (.long x0), .second, .val (.long x1), .second, iv x2, iv x3, iv x4, iv x5, rv a921, rv a952, rv a970, iv b11, iv 1, iv ((XT.ushr x2 2) &&& 3), rv a1001, rv a1077, iv 1, rv a1145, rv a2670, rv a2691, iv 1, iv 1, .unset, .unset]) at_430 rfl rfl ?_
          refine C.iload at_432 rfl rfl ?_
          refine C.if_eq_f at_434 rfl (by decide) ?_
          refine C.iload at_437 rfl rfl ?_
          refine C.iload at_439 rfl rfl ?_
          refine C.icmp_ne_f at_441 rfl (by decide) ?_
          refine C.aload at_444 rfl rfl rfl ?_
          refine C.callV (argsL := []) (rest := []) 0 (fun zz => au1460_7 l Z a0 hw n0 h3341 zz a1001 (own_cr pv) co ln (own_bg pv) F3348 F3362 F3361 F3360 F3363 g1007) F3348 at_446 rfl (tw hw 37 rfl) (tw hw 38 rfl) (tw hw 39 rfl) (tw hw 40 rfl) (tw hw 9 rfl) (tw hw 41 rfl) (by decide) pd_5 rfl rfl rfl (Nat.le_of_eq rfl) (by decide) (by decide) (by decide) (by decide) (fun v3364 h3365 r3366 => ?_)
          obtain ⟨rfl, rfl⟩ := r3366
          refine C.aload at_449 rfl rfl rfl ?_
          refine C.iload at_451 rfl rfl ?_
          refine C.iaload (.int ln) at_453 rfl F3356 (by decide) rfl ?_
          refine C.icmp_ne_f at_454 rfl rfl ?_
          refine C.aload at_457 rfl rfl rfl ?_
          refine C.callV (argsL := []) (rest := []) 0 (fun zz => au1465_8 l Z a0 hw n0 h3341 zz a1001 (own_cr pv) co ln (own_bg pv) F3348 F3362 F3361 F3360 F3363 g1007) F3348 at_459 rfl (tw hw 42 rfl) (tw hw 43 rfl) (tw hw 44 rfl) (tw hw 45 rfl) (tw hw 9 rfl) (tw hw 46 rfl) (by decide) pd_5 rfl rfl rfl (Nat.le_of_eq rfl) (by decide) (by decide) (by decide) (by decide) (fun v3368 h3369 r3370 => ?_)
          obtain ⟨rfl, rfl⟩ := r3370
          refine C.aload at_462 rfl rfl rfl ?_
          refine C.iload at_464 rfl rfl ?_
          refine C.iaload (.int co) at_466 rfl F3357 (by decide) rfl ?_
          refine C.icmp_ne_f at_467 rfl rfl ?_
          refine C.iconst 1 at_470 rfl rfl ?_
          refine C.goto at_471 (by decide) rfl ?_
          refine C.istore (Ls' := #[.val (.long x0), .second, .val (.long x1), .second, iv x2, iv x3, iv x4, iv x5, rv a921, rv a952, rv a970, iv b11, iv 1, iv ((XT.ushr x2 2) &&& 3), rv a1001, rv a1077, iv 1, rv a1145, rv a2670, rv a2691, iv 1, iv 1, .unset, .unset]) at_475 rfl rfl ?_
          refine C.iconst 3 at_477 rfl rfl ?_
          refine C.newarr 3 at_478 rfl rfl (tw hw 20 rfl) (by decide) (by decide) (by decide) (by decide) (by decide) (fun a3372 h3373 z3376 g3377 X3374 F3375 => ?_)
          have ne3378 : a921 ≠ a3372 := by rw [z3376]; exact Nat.ne_of_lt F3353.lt
          have ne3379 : a970 ≠ a3372 := by rw [z3376]; exact Nat.ne_of_lt F3354.lt
          have ne3380 : a1001 ≠ a3372 := by rw [z3376]; exact Nat.ne_of_lt F3348.lt
          have ne3381 : a1077 ≠ a3372 := by rw [z3376]; exact Nat.ne_of_lt F3355.lt
          have ne3382 : a1145 ≠ a3372 := by rw [z3376]; exact Nat.ne_of_lt F3356.lt
          have ne3383 : a2670 ≠ a3372 := by rw [z3376]; exact Nat.ne_of_lt F3357.lt
          have ne3384 : a2691 ≠ a3372 := by rw [z3376]; exact Nat.ne_of_lt F3358.lt
          have F3385 := Exa.ext X3374 F3348
          have F3386 := F3353.ext X3374
          have F3387 := F3354.ext X3374
          have F3388 := F3355.ext X3374
          have F3389 := F3356.ext X3374
          have F3390 := F3357.ext X3374
          have F3391 := F3358.ext X3374
          have F3392 := Fld.ext X3374 F3360
          have F3393 := Fld.ext X3374 F3361
          have F3394 := Fld.ext X3374 F3362
          have F3395 := Fld.ext X3374 F3363
          have F3396 : Av Z h3373 a3372 .int ([.int 0, .int 0, .int 0]) := F3375
          refine C.dup at_480 rfl rfl ?_
          refine C.iconst 0 at_481 rfl rfl ?_
          refine C.aload at_482 rfl rfl rfl ?_
          refine C.iload at_484 rfl rfl ?_
          refine C.iaload (.int ln) at_486 rfl F3389 (by decide) rfl ?_
          refine C.iastore at_487 rfl F3396 g3377 (by decide) (Nat.le_of_ble_eq_true rfl) (fun h3397 W3398 F3399 => ?_)
          have F3400 := Exa.wr W3398 F3385
          have F3401 := F3386.other W3398 ne3378
          have F3402 := F3387.other W3398 ne3379
          have F3403 := F3388.other W3398 ne3381
          have F3404 := F3389.other W3398 ne3382
          have F3405 := F3390.other W3398 ne3383
          have F3406 := F3391.other W3398 ne3384
          have F3407 := Fld.other W3398 F3392 (Or.inl ne3380)
          have F3408 := Fld.other W3398 F3393 (Or.inl ne3380)
          have F3409 := Fld.other W3398 F3394 (Or.inl ne3380)
          have F3410 := Fld.other W3398 F3395 (Or.inl ne3380)
          have F3411 : Av Z h3397 a3372 .int ([.int ln, .int 0, .int 0]) := F3399
          refine C.dup at_488 rfl rfl ?_
          refine C.iconst 1 at_489 rfl rfl ?_
          refine C.aload at_490 rfl rfl rfl ?_
          refine C.iload at_492 rfl rfl ?_
          refine C.iaload (.int co) at_494 rfl F3405 (by decide) rfl ?_
          refine C.iastore at_495 rfl F3411 g3377 (by decide) (Nat.le_of_ble_eq_true rfl) (fun h3412 W3413 F3414 => ?_)
          have F3415 := Exa.wr W3413 F3400
          have F3416 := F3401.other W3413 ne3378
          have F3417 := F3402.other W3413 ne3379
          have F3418 := F3403.other W3413 ne3381
          have F3419 := F3404.other W3413 ne3382
          have F3420 := F3405.other W3413 ne3383
          have F3421 := F3406.other W3413 ne3384
          have F3422 := Fld.other W3413 F3407 (Or.inl ne3380)
          have F3423 := Fld.other W3413 F3408 (Or.inl ne3380)
          have F3424 := Fld.other W3413 F3409 (Or.inl ne3380)
          have F3425 := Fld.other W3413 F3410 (Or.inl ne3380)
          have F3426 : Av Z h3412 a3372 .int ([.int ln, .int co, .int 0]) := F3414
          refine C.dup at_496 rfl rfl ?_
          refine C.iconst 2 at_497 rfl rfl ?_
          refine C.aload at_498 rfl rfl rfl ?_
          refine C.iload at_500 rfl rfl ?_
          refine C.iaload (.int pv) at_502 rfl F3421 (by decide) rfl ?_
          refine C.iastore at_503 rfl F3426 g3377 (by decide) (Nat.le_of_ble_eq_true rfl) (fun h3427 W3428 F3429 => ?_)
          have F3430 := Exa.wr W3428 F3415
          have F3431 := F3416.other W3428 ne3378
          have F3432 := F3417.other W3428 ne3379
          have F3433 := F3418.other W3428 ne3381
          have F3434 := F3419.other W3428 ne3382
          have F3435 := F3420.other W3428 ne3383
          have F3436 := F3421.other W3428 ne3384
          have F3437 := Fld.other W3428 F3422 (Or.inl ne3380)
          have F3438 := Fld.other W3428 F3423 (Or.inl ne3380)
          have F3439 := Fld.other W3428 F3424 (Or.inl ne3380)
          have F3440 := Fld.other W3428 F3425 (Or.inl ne3380)
          have F3441 : Av Z h3427 a3372 .int ([.int ln, .int co, .int pv]) := F3429
          refine C.astore (Ls' := #[.val (.long x0), .second, .val (.long x1), .second, iv x2, iv x3, iv x4, iv x5, rv a921, rv a952, rv a970, iv b11, iv 1, iv ((XT.ushr x2 2) &&& 3), rv a1001, rv a1077, iv 1, rv a1145, rv a2670, rv a2691, iv 1, iv 1, rv a3372, .unset]) at_504 rfl rfl rfl ?_
          refine C.aload at_506 rfl rfl rfl ?_
          refine C.aload at_508 rfl rfl rfl ?_
          refine C.iconst 0 at_510 rfl rfl ?_
          refine C.caload (.int cq) at_511 rfl F3432 (by decide) rfl ?_
          refine C.callS (argsL := [(.ref a3372), (.int cq)]) (rest := []) 0 (fun zz => con_step l Z a0 hw n0 h3427 zz a3372 cq ln co pv F3441 g3377) at_512 rfl (tw hw 21 rfl) (tw hw 22 rfl) (tw hw 3 rfl) (tw hw 23 rfl) (by decide) pd_2 rfl rfl rfl (Nat.le_of_eq rfl) (by decide) (by decide) (by decide) (by decide) (fun v3442 h3443 r3444 => ?_)
          obtain ⟨rfl, K3445, F3446⟩ := r3444
          have F3447 := F3430.keep K3445
          have F3448 := F3431.keep K3445 (ninS ne3378 nin0)
          have F3449 := F3432.keep K3445 (ninS ne3379 nin0)
          have F3450 := F3433.keep K3445 (ninS ne3381 nin0)
          have F3451 := F3434.keep K3445 (ninS ne3382 nin0)
          have F3452 := F3435.keep K3445 (ninS ne3383 nin0)
          have F3453 := F3436.keep K3445 (ninS ne3384 nin0)
          have F3454 := F3437.keep K3445 (ninS ne3380 nin0)
          have F3455 := F3438.keep K3445 (ninS ne3380 nin0)
          have F3456 := F3439.keep K3445 (ninS ne3380 nin0)
          have F3457 := F3440.keep K3445 (ninS ne3380 nin0)
          refine C.aload at_515 rfl rfl rfl ?_
          refine C.aload at_517 rfl rfl rfl ?_
          refine C.iconst 0 at_519 rfl rfl ?_
          refine C.iconst 1 at_520 rfl rfl ?_
          refine C.iconst 1 at_521 rfl rfl ?_
          refine C.iconst 0 at_522 rfl rfl ?_
          refine C.iconst 0 at_523 rfl rfl ?_
          refine C.callV (argsL := [(.ref a970), (.int 0), (.int 1), (.int 1), (.int 0), (.int 0)]) (rest := []) 0 (fun zz => con_pass_1_0 l Z a0 hw n0 h3443 zz a1001 a970 1 1 0 0 ln co pv cq F3447 F3454 F3455 F3456 F3457 F3449 g1007 (Ne.symm ne1010) (by decide) ncq) F3447 at_524 rfl (tw hw 28 rfl) (tw hw 29 rfl) (tw hw 30 rfl) (tw hw 31 rfl) (tw hw 9 rfl) (tw hw 32 rfl) (by decide) pd_4 rfl rfl rfl (Nat.le_of_eq rfl) (by decide) (by decide) (by decide) (by decide) (fun v3459 h3460 r3461 => ?_)
          obtain ⟨rfl, K3462, F3463, F3464, F3465, F3466⟩ := r3461
          have F3467 := F3447.keep K3462
          have F3468 := F3448.keep K3462 (ninS ne1008 nin0)
          have F3469 := F3449.keep K3462 (ninS ne1010 nin0)
          have F3470 := F3450.keep K3462 (ninS (Ne.symm ne1086) nin0)
          have F3471 := F3451.keep K3462 (ninS (Ne.symm ne1153) nin0)
          have F3472 := F3452.keep K3462 (ninS (Ne.symm ne2678) nin0)
          have F3473 := F3453.keep K3462 (ninS (Ne.symm ne2699) nin0)
          have F3478 := F3446.keep K3462 (ninS (Ne.symm ne3380) nin0)
          have kE3479 : (own_pass 1 1 0 0 0 [cq] ln co pv) = (1, own_ln ln pv cq, own_cl co pv cq, cq) := own_go ⟨by decide, Or.inl (by decide)⟩
          have F3480 : Fld Z h3460 a1001 "com/example/dodder/dodder/PlacedText$Counter" "line" "I" (.int (own_ln ln pv cq)) := by have q := F3463; rw [kE3479] at q; exact q
          have F3481 : Fld Z h3460 a1001 "com/example/dodder/dodder/PlacedText$Counter" "column" "I" (.int (own_cl co pv cq)) := by have q := F3464; rw [kE3479] at q; exact q
          have F3482 : Fld Z h3460 a1001 "com/example/dodder/dodder/PlacedText$Counter" "afterCarriageReturn" "Z" (.int (own_cr cq)) := by have q := F3465; rw [kE3479] at q; exact q
          have F3483 : Fld Z h3460 a1001 "com/example/dodder/dodder/PlacedText$Counter" "started" "Z" (.int (own_bg cq)) := by have q := F3466; rw [kE3479] at q; exact q
          rw [kE3479]
          show Go p l e room_1 s m #[(.long x0), (.long x1), (.int x2), (.int x3), (.int x4), (.int x5)] below meth c n0 (FinQ s n0 (Qcon0 Z n0 h0 x0 x1 x2 x3 x4 x5) room_1.cells room_1.slots) h3460 9 27 527 #[.val (.long x0), .second, .val (.long x1), .second, iv x2, iv x3, iv x4, iv x5, rv a921, rv a952, rv a970, iv b11, iv 1, iv ((XT.ushr x2 2) &&& 3), rv a1001, rv a1077, iv 1, rv a1145, rv a2670, rv a2691, iv 1, iv 1, rv a3372, .unset] [(.int 1)]
          refine C.istore (Ls' := #[.val (.long x0), .second, .val (.long x1), .second, iv x2, iv x3, iv x4, iv x5, rv a921, rv a952, rv a970, iv b11, iv 1, iv ((XT.ushr x2 2) &&& 3), rv a1001, rv a1077, iv 1, rv a1145, rv a2670, rv a2691, iv 1, iv 1, rv a3372, iv 1]) at_527 rfl rfl ?_
          refine C.iload at_529 rfl rfl ?_
          refine C.if_eq_f at_531 rfl (by decide) ?_
          refine C.iload at_534 rfl rfl ?_
          refine C.iconst 1 at_536 rfl rfl ?_
          refine C.icmp_ne_f at_537 rfl (by decide) ?_
          refine C.aload at_540 rfl rfl rfl ?_
          refine C.callV (argsL := []) (rest := []) 0 (fun zz => au1460_7 l Z a0 hw n0 h3460 zz a1001 (own_cr cq) (own_cl co pv cq) (own_ln ln pv cq) (own_bg cq) F3467 F3482 F3481 F3480 F3483 g1007) F3467 at_542 rfl (tw hw 37 rfl) (tw hw 38 rfl) (tw hw 39 rfl) (tw hw 40 rfl) (tw hw 9 rfl) (tw hw 41 rfl) (by decide) pd_5 rfl rfl rfl (Nat.le_of_eq rfl) (by decide) (by decide) (by decide) (by decide) (fun v3484 h3485 r3486 => ?_)
          obtain ⟨rfl, rfl⟩ := r3486
          refine C.aload at_545 rfl rfl rfl ?_
          refine C.iconst 0 at_547 rfl rfl ?_
          refine C.iaload (.int (own_ln ln pv cq)) at_548 rfl F3478 (by decide) rfl ?_
          refine C.icmp_ne_f at_549 rfl rfl ?_
          refine C.aload at_552 rfl rfl rfl ?_
          refine C.callV (argsL := []) (rest := []) 0 (fun zz => au1465_8 l Z a0 hw n0 h3460 zz a1001 (own_cr cq) (own_cl co pv cq) (own_ln ln pv cq) (own_bg cq) F3467 F3482 F3481 F3480 F3483 g1007) F3467 at_554 rfl (tw hw 42 rfl) (tw hw 43 rfl) (tw hw 44 rfl) (tw hw 45 rfl) (tw hw 9 rfl) (tw hw 46 rfl) (by decide) pd_5 rfl rfl rfl (Nat.le_of_eq rfl) (by decide) (by decide) (by decide) (by decide) (fun v3488 h3489 r3490 => ?_)
          obtain ⟨rfl, rfl⟩ := r3490
          refine C.aload at_557 rfl rfl rfl ?_
          refine C.iconst 1 at_559 rfl rfl ?_
          refine C.iaload (.int (own_cl co pv cq)) at_560 rfl F3478 (by decide) rfl ?_
          refine C.icmp_ne_f at_561 rfl rfl ?_
          refine C.iconst 1 at_564 rfl rfl ?_
          refine C.goto at_565 (by decide) rfl ?_
          exact C.retZ at_569 rfl (by decide) (by decide) ⟨rfl, trivial⟩
        · rw [qc]
          refine C.iconst 4 at_162 rfl rfl ?_
          refine C.newarr 4 at_163 rfl rfl (tw hw 20 rfl) (by decide) (by decide) (by decide) (by decide) (by decide) (fun a3492 h3493 z3496 g3497 X3494 F3495 => ?_)
          have ne3498 : a921 ≠ a3492 := by rw [z3496]; exact Nat.ne_of_lt F1161.lt
          have ne3499 : a970 ≠ a3492 := by rw [z3496]; exact Nat.ne_of_lt F1162.lt
          have ne3500 : a1001 ≠ a3492 := by rw [z3496]; exact Nat.ne_of_lt F1155.lt
          have ne3501 : a1077 ≠ a3492 := by rw [z3496]; exact Nat.ne_of_lt F1160.lt
          have ne3502 : a1145 ≠ a3492 := by rw [z3496]; exact Nat.ne_of_lt F1163.lt
          have F3503 := Exa.ext X3494 F1155
          have F3504 := Fld.ext X3494 F1156
          have F3505 := Fld.ext X3494 F1157
          have F3506 := Fld.ext X3494 F1158
          have F3507 := Fld.ext X3494 F1159
          have F3508 := F1160.ext X3494
          have F3509 := F1161.ext X3494
          have F3510 := F1162.ext X3494
          have F3511 := F1163.ext X3494
          have F3512 : Av Z h3493 a3492 .int ([.int 0, .int 0, .int 0, .int 0]) := F3495
          refine C.astore (Ls' := #[.val (.long x0), .second, .val (.long x1), .second, iv x2, iv x3, iv x4, iv x5, rv a921, rv a952, rv a970, iv b11, iv 2, iv ((XT.ushr x2 2) &&& 3), rv a1001, rv a1077, iv 1, rv a1145, rv a3492, .unset, .unset, .unset, .unset, .unset]) at_165 rfl rfl rfl ?_
          refine C.iconst 4 at_167 rfl rfl ?_
          refine C.newarr 4 at_168 rfl rfl (tw hw 20 rfl) (by decide) (by decide) (by decide) (by decide) (by decide) (fun a3513 h3514 z3517 g3518 X3515 F3516 => ?_)
          have ne3519 : a921 ≠ a3513 := by rw [z3517]; exact Nat.ne_of_lt F3509.lt
          have ne3520 : a970 ≠ a3513 := by rw [z3517]; exact Nat.ne_of_lt F3510.lt
          have ne3521 : a1001 ≠ a3513 := by rw [z3517]; exact Nat.ne_of_lt F3503.lt
          have ne3522 : a1077 ≠ a3513 := by rw [z3517]; exact Nat.ne_of_lt F3508.lt
          have ne3523 : a1145 ≠ a3513 := by rw [z3517]; exact Nat.ne_of_lt F3511.lt
          have ne3524 : a3492 ≠ a3513 := by rw [z3517]; exact Nat.ne_of_lt F3512.lt
          have F3525 := Exa.ext X3515 F3503
          have F3526 := Fld.ext X3515 F3504
          have F3527 := Fld.ext X3515 F3505
          have F3528 := Fld.ext X3515 F3506
          have F3529 := Fld.ext X3515 F3507
          have F3530 := F3508.ext X3515
          have F3531 := F3509.ext X3515
          have F3532 := F3510.ext X3515
          have F3533 := F3511.ext X3515
          have F3534 := F3512.ext X3515
          have F3535 : Av Z h3514 a3513 .int ([.int 0, .int 0, .int 0, .int 0]) := F3516
          refine C.astore (Ls' := #[.val (.long x0), .second, .val (.long x1), .second, iv x2, iv x3, iv x4, iv x5, rv a921, rv a952, rv a970, iv b11, iv 2, iv ((XT.ushr x2 2) &&& 3), rv a1001, rv a1077, iv 1, rv a1145, rv a3492, rv a3513, .unset, .unset, .unset, .unset]) at_170 rfl rfl rfl ?_
          refine C.aload at_172 rfl rfl rfl ?_
          refine C.iload at_174 rfl rfl ?_
          refine C.aload at_176 rfl rfl rfl ?_
          refine C.iconst 0 at_178 rfl rfl ?_
          refine C.iaload (.int ln) at_179 rfl F3530 (by decide) rfl ?_
          refine C.iastore at_180 rfl F3533 g1150 (by decide) (Nat.le_of_ble_eq_true rfl) (fun h3536 W3537 F3538 => ?_)
          have F3539 := Exa.wr W3537 F3525
          have F3540 := Fld.other W3537 F3526 (Or.inl ne1153)
          have F3541 := Fld.other W3537 F3527 (Or.inl ne1153)
          have F3542 := Fld.other W3537 F3528 (Or.inl ne1153)
          have F3543 := Fld.other W3537 F3529 (Or.inl ne1153)
          have F3544 := F3530.other W3537 ne1154
          have F3545 := F3531.other W3537 ne1151
          have F3546 := F3532.other W3537 ne1152
          have F3547 := F3534.other W3537 (Ne.symm ne3502)
          have F3548 := F3535.other W3537 (Ne.symm ne3523)
          have F3549 : Av Z h3536 a1145 .int ([.int 0, .int 0, .int ln, .int 0]) := F3538
          refine C.aload at_181 rfl rfl rfl ?_
          refine C.iload at_183 rfl rfl ?_
          refine C.aload at_185 rfl rfl rfl ?_
          refine C.iconst 1 at_187 rfl rfl ?_
          refine C.iaload (.int co) at_188 rfl F3544 (by decide) rfl ?_
          refine C.iastore at_189 rfl F3547 g3497 (by decide) (Nat.le_of_ble_eq_true rfl) (fun h3550 W3551 F3552 => ?_)
          have F3553 := Exa.wr W3551 F3539
          have F3554 := Fld.other W3551 F3540 (Or.inl ne3500)
          have F3555 := Fld.other W3551 F3541 (Or.inl ne3500)
          have F3556 := Fld.other W3551 F3542 (Or.inl ne3500)
          have F3557 := Fld.other W3551 F3543 (Or.inl ne3500)
          have F3558 := F3544.other W3551 ne3501
          have F3559 := F3545.other W3551 ne3498
          have F3560 := F3546.other W3551 ne3499
          have F3561 := F3548.other W3551 (Ne.symm ne3524)
          have F3562 := F3549.other W3551 ne3502
          have F3563 : Av Z h3550 a3492 .int ([.int 0, .int 0, .int co, .int 0]) := F3552
          refine C.aload at_190 rfl rfl rfl ?_
          refine C.iload at_192 rfl rfl ?_
          refine C.aload at_194 rfl rfl rfl ?_
          refine C.iconst 2 at_196 rfl rfl ?_
          refine C.iaload (.int pv) at_197 rfl F3558 (by decide) rfl ?_
          refine C.iastore at_198 rfl F3561 g3518 (by decide) (Nat.le_of_ble_eq_true rfl) (fun h3564 W3565 F3566 => ?_)
          have F3567 := Exa.wr W3565 F3553
          have F3568 := Fld.other W3565 F3554 (Or.inl ne3521)
          have F3569 := Fld.other W3565 F3555 (Or.inl ne3521)
          have F3570 := Fld.other W3565 F3556 (Or.inl ne3521)
          have F3571 := Fld.other W3565 F3557 (Or.inl ne3521)
          have F3572 := F3558.other W3565 ne3522
          have F3573 := F3559.other W3565 ne3519
          have F3574 := F3560.other W3565 ne3520
          have F3575 := F3562.other W3565 ne3523
          have F3576 := F3563.other W3565 ne3524
          have F3577 : Av Z h3564 a3513 .int ([.int 0, .int 0, .int pv, .int 0]) := F3566
          refine C.iload at_199 rfl rfl ?_
          refine C.if_gt_t at_201 (by decide) rfl (by decide) ?_
          refine C.iload at_237 rfl rfl ?_
          refine C.iconst 1 at_239 rfl rfl ?_
          refine C.icmp_gt_t at_240 (by decide) rfl (by decide) ?_
          refine C.iload at_276 rfl rfl ?_
          refine C.iconst 2 at_278 rfl rfl ?_
          refine C.icmp_gt_f at_279 rfl (by decide) ?_
          refine C.aload at_282 rfl rfl rfl ?_
          refine C.aload at_284 rfl rfl rfl ?_
          refine C.iconst 2 at_286 rfl rfl ?_
          refine C.caload (.int c2) at_287 rfl F3573 (by decide) rfl ?_
          refine C.callS (argsL := [(.ref a1077), (.int c2)]) (rest := []) 0 (fun zz => con_step l Z a0 hw n0 h3564 zz a1077 c2 ln co pv F3572 g1082) at_288 rfl (tw hw 21 rfl) (tw hw 22 rfl) (tw hw 3 rfl) (tw hw 23 rfl) (by decide) pd_2 rfl rfl rfl (Nat.le_of_eq rfl) (by decide) (by decide) (by decide) (by decide) (fun v3578 h3579 r3580 => ?_)
          obtain ⟨rfl, K3581, F3582⟩ := r3580
          have F3583 := F3567.keep K3581
          have F3584 := F3568.keep K3581 (ninS ne1086 nin0)
          have F3585 := F3569.keep K3581 (ninS ne1086 nin0)
          have F3586 := F3570.keep K3581 (ninS ne1086 nin0)
          have F3587 := F3571.keep K3581 (ninS ne1086 nin0)
          have F3589 := F3573.keep K3581 (ninS ne1083 nin0)
          have F3590 := F3574.keep K3581 (ninS ne1085 nin0)
          have F3591 := F3575.keep K3581 (ninS (Ne.symm ne1154) nin0)
          have F3592 := F3576.keep K3581 (ninS (Ne.symm ne3501) nin0)
          have F3593 := F3577.keep K3581 (ninS (Ne.symm ne3522) nin0)
          refine C.aload at_291 rfl rfl rfl ?_
          refine C.iconst 3 at_293 rfl rfl ?_
          refine C.aload at_294 rfl rfl rfl ?_
          refine C.iconst 0 at_296 rfl rfl ?_
          refine C.iaload (.int (own_ln ln pv c2)) at_297 rfl F3582 (by decide) rfl ?_
          refine C.iastore at_298 rfl F3591 g1150 (by decide) (Nat.le_of_ble_eq_true rfl) (fun h3594 W3595 F3596 => ?_)
          have F3597 := Exa.wr W3595 F3583
          have F3598 := Fld.other W3595 F3584 (Or.inl ne1153)
          have F3599 := Fld.other W3595 F3585 (Or.inl ne1153)
          have F3600 := Fld.other W3595 F3586 (Or.inl ne1153)
          have F3601 := Fld.other W3595 F3587 (Or.inl ne1153)
          have F3602 := F3589.other W3595 ne1151
          have F3603 := F3590.other W3595 ne1152
          have F3604 := F3592.other W3595 (Ne.symm ne3502)
          have F3605 := F3593.other W3595 (Ne.symm ne3523)
          have F3606 := F3582.other W3595 ne1154
          have F3607 : Av Z h3594 a1145 .int ([.int 0, .int 0, .int ln, .int (own_ln ln pv c2)]) := F3596
          refine C.aload at_299 rfl rfl rfl ?_
          refine C.iconst 3 at_301 rfl rfl ?_
          refine C.aload at_302 rfl rfl rfl ?_
          refine C.iconst 1 at_304 rfl rfl ?_
          refine C.iaload (.int (own_cl co pv c2)) at_305 rfl F3606 (by decide) rfl ?_
          refine C.iastore at_306 rfl F3604 g3497 (by decide) (Nat.le_of_ble_eq_true rfl) (fun h3608 W3609 F3610 => ?_)
          have F3611 := Exa.wr W3609 F3597
          have F3612 := Fld.other W3609 F3598 (Or.inl ne3500)
          have F3613 := Fld.other W3609 F3599 (Or.inl ne3500)
          have F3614 := Fld.other W3609 F3600 (Or.inl ne3500)
          have F3615 := Fld.other W3609 F3601 (Or.inl ne3500)
          have F3616 := F3602.other W3609 ne3498
          have F3617 := F3603.other W3609 ne3499
          have F3618 := F3605.other W3609 (Ne.symm ne3524)
          have F3619 := F3606.other W3609 ne3501
          have F3620 := F3607.other W3609 ne3502
          have F3621 : Av Z h3608 a3492 .int ([.int 0, .int 0, .int co, .int (own_cl co pv c2)]) := F3610
          refine C.aload at_307 rfl rfl rfl ?_
          refine C.iconst 3 at_309 rfl rfl ?_
          refine C.aload at_310 rfl rfl rfl ?_
          refine C.iconst 2 at_312 rfl rfl ?_
          refine C.iaload (.int c2) at_313 rfl F3619 (by decide) rfl ?_
          refine C.iastore at_314 rfl F3618 g3518 (by decide) (Nat.le_of_ble_eq_true rfl) (fun h3622 W3623 F3624 => ?_)
          have F3625 := Exa.wr W3623 F3611
          have F3626 := Fld.other W3623 F3612 (Or.inl ne3521)
          have F3627 := Fld.other W3623 F3613 (Or.inl ne3521)
          have F3628 := Fld.other W3623 F3614 (Or.inl ne3521)
          have F3629 := Fld.other W3623 F3615 (Or.inl ne3521)
          have F3630 := F3616.other W3623 ne3519
          have F3631 := F3617.other W3623 ne3520
          have F3632 := F3619.other W3623 ne3522
          have F3633 := F3620.other W3623 ne3523
          have F3634 := F3621.other W3623 ne3524
          have F3635 : Av Z h3622 a3513 .int ([.int 0, .int 0, .int pv, .int c2]) := F3624
          refine C.iconst 3 at_315 rfl rfl ?_
          refine C.istore (Ls' := #[.val (.long x0), .second, .val (.long x1), .second, iv x2, iv x3, iv x4, iv x5, rv a921, rv a952, rv a970, iv b11, iv 2, iv ((XT.ushr x2 2) &&& 3), rv a1001, rv a1077, iv 1, rv a1145, rv a3492, rv a3513, iv 3, .unset, .unset, .unset]) at_316 rfl rfl ?_
          refine C.iload at_318 rfl rfl ?_
          refine C.iconst 2 at_320 rfl rfl ?_
          refine C.icmp_gt_f at_321 rfl (by decide) ?_
          refine C.iconst 2 at_324 rfl rfl ?_
          refine C.iload at_325 rfl rfl ?_
          refine C.iload at_327 rfl rfl ?_
          refine C.aload at_329 rfl rfl rfl ?_
          refine C.iconst 2 at_331 rfl rfl ?_
          refine C.iaload (.int ln) at_332 rfl F3633 (by decide) rfl ?_
          refine C.aload at_333 rfl rfl rfl ?_
          refine C.iconst 2 at_335 rfl rfl ?_
          refine C.iaload (.int co) at_336 rfl F3634 (by decide) rfl ?_
          refine C.iload at_337 rfl rfl ?_
          refine C.iload at_339 rfl rfl ?_
          refine C.callS (argsL := [(.int 2), (.int ((XT.ushr x2 2) &&& 3)), (.int x3), (.int ln), (.int co), (.int x4), (.int x5)]) (rest := []) 0 (fun zz => con_stops l Z a0 hw n0 h3622 zz 2 ((XT.ushr x2 2) &&& 3) x3 ln co x4 x5 ) at_341 rfl (tw hw 25 rfl) (tw hw 26 rfl) (tw hw 3 rfl) (tw hw 27 rfl) (by decide) pd_3 rfl rfl rfl (Nat.le_of_eq rfl) (by decide) (by decide) (by decide) (by decide) (fun v3636 h3637 r3638 => ?_)
          obtain ⟨rfl, rfl⟩ := r3638
          refine C.if_eq at_344 (by decide) rfl rfl (fun q344 => ?_) (fun q344 => ?_)
          · refine C.iload at_350 rfl rfl ?_
            refine C.iconst 1 at_352 rfl rfl ?_
            refine C.icmp_gt_t at_353 (by decide) rfl (by decide) ?_
            refine C.iload at_382 rfl rfl ?_
            refine C.if_gt_t at_384 (by decide) rfl (by decide) ?_
            refine C.aload at_413 rfl rfl rfl ?_
            refine C.aload at_415 rfl rfl rfl ?_
            refine C.iload at_417 rfl rfl ?_
            refine C.iload at_419 rfl rfl ?_
            refine C.iload at_421 rfl rfl ?_
            refine C.iload at_423 rfl rfl ?_
            refine C.iload at_425 rfl rfl ?_
            refine C.callV (argsL := [(.ref a921), (.int 2), (.int ((XT.ushr x2 2) &&& 3)), (.int x3), (.int x4), (.int x5)]) (rest := []) 0 (fun zz => con_pass_3_2 l Z a0 hw n0 h3622 zz a1001 a921 ((XT.ushr x2 2) &&& 3) x3 x4 x5 ln co pv c0 c1 c2 F3625 F3626 F3627 F3628 F3629 F3630 g1007 (Ne.symm ne1008) (own_to _) nc0 nc1 nc2) F3625 at_427 rfl (tw hw 28 rfl) (tw hw 29 rfl) (tw hw 30 rfl) (tw hw 31 rfl) (tw hw 9 rfl) (tw hw 32 rfl) (by decide) pd_4 rfl rfl rfl (Nat.le_of_eq rfl) (by decide) (by decide) (by decide) (by decide) (fun v3640 h3641 r3642 => ?_)
            obtain ⟨rfl, K3643, F3644, F3645, F3646, F3647⟩ := r3642
            have F3648 := F3625.keep K3643
            have F3653 := F3630.keep K3643 (ninS ne1008 nin0)
            have F3654 := F3631.keep K3643 (ninS ne1010 nin0)
            have F3655 := F3632.keep K3643 (ninS (Ne.symm ne1086) nin0)
            have F3656 := F3633.keep K3643 (ninS (Ne.symm ne1153) nin0)
            have F3657 := F3634.keep K3643 (ninS (Ne.symm ne3500) nin0)
            have F3658 := F3635.keep K3643 (ninS (Ne.symm ne3521) nin0)
            have kE3659 : (own_pass ((XT.ushr x2 2) &&& 3) x3 x4 x5 2 [c2] ln co pv) = (3, (own_ln ln pv c2), (own_cl co pv c2), c2) := (own_go (own_stop0.mp q344))
            have F3660 : Fld Z h3641 a1001 "com/example/dodder/dodder/PlacedText$Counter" "line" "I" (.int (own_ln ln pv c2)) := by have q := F3644; rw [kE3659] at q; exact q
            have F3661 : Fld Z h3641 a1001 "com/example/dodder/dodder/PlacedText$Counter" "column" "I" (.int (own_cl co pv c2)) := by have q := F3645; rw [kE3659] at q; exact q
            have F3662 : Fld Z h3641 a1001 "com/example/dodder/dodder/PlacedText$Counter" "afterCarriageReturn" "Z" (.int (own_cr c2)) := by have q := F3646; rw [kE3659] at q; exact q
            have F3663 : Fld Z h3641 a1001 "com/example/dodder/dodder/PlacedText$Counter" "started" "Z" (.int (own_bg c2)) := by have q := F3647; rw [kE3659] at q; exact q
            rw [kE3659]
            show Go p l e room_1 s m #[(.long x0), (.long x1), (.int x2), (.int x3), (.int x4), (.int x5)] below meth c n0 (FinQ s n0 (Qcon0 Z n0 h0 x0 x1 x2 x3 x4 x5) room_1.cells room_1.slots) h3641 8 24 430 #[.val (.long x0), .second, .val (.long x1), .second, iv x2, iv x3, iv x4, iv x5, rv a921, rv a952, rv a970, iv b11, iv 2, iv ((XT.ushr x2 2) &&& 3), rv a1001, rv a1077, iv 1, rv a1145, rv a3492, rv a3513, iv 3, .unset, .unset, .unset] [(.int 3)]
            refine C.istore (Ls' := #[.val (.long x0), .second, .val (.long x1), .second, iv x2, iv x3, iv x4, iv x5, rv a921, rv a952, rv a970, iv b11, iv 2, iv ((XT.ushr x2 2) &&& 3), rv a1001, rv a1077, iv 1, rv a1145, rv a3492, rv a3513, iv 3, iv 3, .unset, .unset]) at_430 rfl rfl ?_
            refine C.iload at_432 rfl rfl ?_
            refine C.if_eq_f at_434 rfl (by decide) ?_
            refine C.iload at_437 rfl rfl ?_
            refine C.iload at_439 rfl rfl ?_
            refine C.icmp_ne_f at_441 rfl (by decide) ?_
            refine C.aload at_444 rfl rfl rfl ?_
            refine C.callV (argsL := []) (rest := []) 0 (fun zz => au1460_7 l Z a0 hw n0 h3641 zz a1001 (own_cr c2) (own_cl co pv c2) (own_ln ln pv c2) (own_bg c2) F3648 F3662 F3661 F3660 F3663 g1007) F3648 at_446 rfl (tw hw 37 rfl) (tw hw 38 rfl) (tw hw 39 rfl) (tw hw 40 rfl) (tw hw 9 rfl) (tw hw 41 rfl) (by decide) pd_5 rfl rfl rfl (Nat.le_of_eq rfl) (by decide) (by decide) (by decide) (by decide) (fun v3664 h3665 r3666 => ?_)
            obtain ⟨rfl, rfl⟩ := r3666
            refine C.aload at_449 rfl rfl rfl ?_
            refine C.iload at_451 rfl rfl ?_
            refine C.iaload (.int (own_ln ln pv c2)) at_453 rfl F3656 (by decide) rfl ?_
            refine C.icmp_ne_f at_454 rfl rfl ?_
            refine C.aload at_457 rfl rfl rfl ?_
            refine C.callV (argsL := []) (rest := []) 0 (fun zz => au1465_8 l Z a0 hw n0 h3641 zz a1001 (own_cr c2) (own_cl co pv c2) (own_ln ln pv c2) (own_bg c2) F3648 F3662 F3661 F3660 F3663 g1007) F3648 at_459 rfl (tw hw 42 rfl) (tw hw 43 rfl) (tw hw 44 rfl) (tw hw 45 rfl) (tw hw 9 rfl) (tw hw 46 rfl) (by decide) pd_5 rfl rfl rfl (Nat.le_of_eq rfl) (by decide) (by decide) (by decide) (by decide) (fun v3668 h3669 r3670 => ?_)
            obtain ⟨rfl, rfl⟩ := r3670
            refine C.aload at_462 rfl rfl rfl ?_
            refine C.iload at_464 rfl rfl ?_
            refine C.iaload (.int (own_cl co pv c2)) at_466 rfl F3657 (by decide) rfl ?_
            refine C.icmp_ne_f at_467 rfl rfl ?_
            refine C.iconst 1 at_470 rfl rfl ?_
            refine C.goto at_471 (by decide) rfl ?_
            refine C.istore (Ls' := #[.val (.long x0), .second, .val (.long x1), .second, iv x2, iv x3, iv x4, iv x5, rv a921, rv a952, rv a970, iv b11, iv 2, iv ((XT.ushr x2 2) &&& 3), rv a1001, rv a1077, iv 1, rv a1145, rv a3492, rv a3513, iv 3, iv 3, .unset, .unset]) at_475 rfl rfl ?_
            refine C.iconst 3 at_477 rfl rfl ?_
            refine C.newarr 3 at_478 rfl rfl (tw hw 20 rfl) (by decide) (by decide) (by decide) (by decide) (by decide) (fun a3672 h3673 z3676 g3677 X3674 F3675 => ?_)
            have ne3678 : a921 ≠ a3672 := by rw [z3676]; exact Nat.ne_of_lt F3653.lt
            have ne3679 : a970 ≠ a3672 := by rw [z3676]; exact Nat.ne_of_lt F3654.lt
            have ne3680 : a1001 ≠ a3672 := by rw [z3676]; exact Nat.ne_of_lt F3648.lt
            have ne3681 : a1077 ≠ a3672 := by rw [z3676]; exact Nat.ne_of_lt F3655.lt
            have ne3682 : a1145 ≠ a3672 := by rw [z3676]; exact Nat.ne_of_lt F3656.lt
            have ne3683 : a3492 ≠ a3672 := by rw [z3676]; exact Nat.ne_of_lt F3657.lt
            have ne3684 : a3513 ≠ a3672 := by rw [z3676]; exact Nat.ne_of_lt F3658.lt
            have F3685 := Exa.ext X3674 F3648
            have F3686 := F3653.ext X3674
            have F3687 := F3654.ext X3674
            have F3688 := F3655.ext X3674
            have F3689 := F3656.ext X3674
            have F3690 := F3657.ext X3674
            have F3691 := F3658.ext X3674
            have F3692 := Fld.ext X3674 F3660
            have F3693 := Fld.ext X3674 F3661
            have F3694 := Fld.ext X3674 F3662
            have F3695 := Fld.ext X3674 F3663
            have F3696 : Av Z h3673 a3672 .int ([.int 0, .int 0, .int 0]) := F3675
            refine C.dup at_480 rfl rfl ?_
            refine C.iconst 0 at_481 rfl rfl ?_
            refine C.aload at_482 rfl rfl rfl ?_
            refine C.iload at_484 rfl rfl ?_
            refine C.iaload (.int (own_ln ln pv c2)) at_486 rfl F3689 (by decide) rfl ?_
            refine C.iastore at_487 rfl F3696 g3677 (by decide) (Nat.le_of_ble_eq_true rfl) (fun h3697 W3698 F3699 => ?_)
            have F3700 := Exa.wr W3698 F3685
            have F3701 := F3686.other W3698 ne3678
            have F3702 := F3687.other W3698 ne3679
            have F3703 := F3688.other W3698 ne3681
            have F3704 := F3689.other W3698 ne3682
            have F3705 := F3690.other W3698 ne3683
            have F3706 := F3691.other W3698 ne3684
            have F3707 := Fld.other W3698 F3692 (Or.inl ne3680)
            have F3708 := Fld.other W3698 F3693 (Or.inl ne3680)
            have F3709 := Fld.other W3698 F3694 (Or.inl ne3680)
            have F3710 := Fld.other W3698 F3695 (Or.inl ne3680)
            have F3711 : Av Z h3697 a3672 .int ([.int (own_ln ln pv c2), .int 0, .int 0]) := F3699
            refine C.dup at_488 rfl rfl ?_
            refine C.iconst 1 at_489 rfl rfl ?_
            refine C.aload at_490 rfl rfl rfl ?_
            refine C.iload at_492 rfl rfl ?_
            refine C.iaload (.int (own_cl co pv c2)) at_494 rfl F3705 (by decide) rfl ?_
            refine C.iastore at_495 rfl F3711 g3677 (by decide) (Nat.le_of_ble_eq_true rfl) (fun h3712 W3713 F3714 => ?_)
            have F3715 := Exa.wr W3713 F3700
            have F3716 := F3701.other W3713 ne3678
            have F3717 := F3702.other W3713 ne3679
            have F3718 := F3703.other W3713 ne3681
            have F3719 := F3704.other W3713 ne3682
            have F3720 := F3705.other W3713 ne3683
            have F3721 := F3706.other W3713 ne3684
            have F3722 := Fld.other W3713 F3707 (Or.inl ne3680)
            have F3723 := Fld.other W3713 F3708 (Or.inl ne3680)
            have F3724 := Fld.other W3713 F3709 (Or.inl ne3680)
            have F3725 := Fld.other W3713 F3710 (Or.inl ne3680)
            have F3726 : Av Z h3712 a3672 .int ([.int (own_ln ln pv c2), .int (own_cl co pv c2), .int 0]) := F3714
            refine C.dup at_496 rfl rfl ?_
            refine C.iconst 2 at_497 rfl rfl ?_
            refine C.aload at_498 rfl rfl rfl ?_
            refine C.iload at_500 rfl rfl ?_
            refine C.iaload (.int c2) at_502 rfl F3721 (by decide) rfl ?_
            refine C.iastore at_503 rfl F3726 g3677 (by decide) (Nat.le_of_ble_eq_true rfl) (fun h3727 W3728 F3729 => ?_)
            have F3730 := Exa.wr W3728 F3715
            have F3731 := F3716.other W3728 ne3678
            have F3732 := F3717.other W3728 ne3679
            have F3733 := F3718.other W3728 ne3681
            have F3734 := F3719.other W3728 ne3682
            have F3735 := F3720.other W3728 ne3683
            have F3736 := F3721.other W3728 ne3684
            have F3737 := Fld.other W3728 F3722 (Or.inl ne3680)
            have F3738 := Fld.other W3728 F3723 (Or.inl ne3680)
            have F3739 := Fld.other W3728 F3724 (Or.inl ne3680)
            have F3740 := Fld.other W3728 F3725 (Or.inl ne3680)
            have F3741 : Av Z h3727 a3672 .int ([.int (own_ln ln pv c2), .int (own_cl co pv c2), .int c2]) := F3729
            refine C.astore (Ls' := #[.val (.long x0), .second, .val (.long x1), .second, iv x2, iv x3, iv x4, iv x5, rv a921, rv a952, rv a970, iv b11, iv 2, iv ((XT.ushr x2 2) &&& 3), rv a1001, rv a1077, iv 1, rv a1145, rv a3492, rv a3513, iv 3, iv 3, rv a3672, .unset]) at_504 rfl rfl rfl ?_
            refine C.aload at_506 rfl rfl rfl ?_
            refine C.aload at_508 rfl rfl rfl ?_
            refine C.iconst 0 at_510 rfl rfl ?_
            refine C.caload (.int cq) at_511 rfl F3732 (by decide) rfl ?_
            refine C.callS (argsL := [(.ref a3672), (.int cq)]) (rest := []) 0 (fun zz => con_step l Z a0 hw n0 h3727 zz a3672 cq (own_ln ln pv c2) (own_cl co pv c2) c2 F3741 g3677) at_512 rfl (tw hw 21 rfl) (tw hw 22 rfl) (tw hw 3 rfl) (tw hw 23 rfl) (by decide) pd_2 rfl rfl rfl (Nat.le_of_eq rfl) (by decide) (by decide) (by decide) (by decide) (fun v3742 h3743 r3744 => ?_)
            obtain ⟨rfl, K3745, F3746⟩ := r3744
            have F3747 := F3730.keep K3745
            have F3748 := F3731.keep K3745 (ninS ne3678 nin0)
            have F3749 := F3732.keep K3745 (ninS ne3679 nin0)
            have F3750 := F3733.keep K3745 (ninS ne3681 nin0)
            have F3751 := F3734.keep K3745 (ninS ne3682 nin0)
            have F3752 := F3735.keep K3745 (ninS ne3683 nin0)
            have F3753 := F3736.keep K3745 (ninS ne3684 nin0)
            have F3754 := F3737.keep K3745 (ninS ne3680 nin0)
            have F3755 := F3738.keep K3745 (ninS ne3680 nin0)
            have F3756 := F3739.keep K3745 (ninS ne3680 nin0)
            have F3757 := F3740.keep K3745 (ninS ne3680 nin0)
            refine C.aload at_515 rfl rfl rfl ?_
            refine C.aload at_517 rfl rfl rfl ?_
            refine C.iconst 0 at_519 rfl rfl ?_
            refine C.iconst 1 at_520 rfl rfl ?_
            refine C.iconst 1 at_521 rfl rfl ?_
            refine C.iconst 0 at_522 rfl rfl ?_
            refine C.iconst 0 at_523 rfl rfl ?_
            refine C.callV (argsL := [(.ref a970), (.int 0), (.int 1), (.int 1), (.int 0), (.int 0)]) (rest := []) 0 (fun zz => con_pass_1_0 l Z a0 hw n0 h3743 zz a1001 a970 1 1 0 0 (own_ln ln pv c2) (own_cl co pv c2) c2 cq F3747 F3754 F3755 F3756 F3757 F3749 g1007 (Ne.symm ne1010) (by decide) ncq) F3747 at_524 rfl (tw hw 28 rfl) (tw hw 29 rfl) (tw hw 30 rfl) (tw hw 31 rfl) (tw hw 9 rfl) (tw hw 32 rfl) (by decide) pd_4 rfl rfl rfl (Nat.le_of_eq rfl) (by decide) (by decide) (by decide) (by decide) (fun v3759 h3760 r3761 => ?_)
            obtain ⟨rfl, K3762, F3763, F3764, F3765, F3766⟩ := r3761
            have F3767 := F3747.keep K3762
            have F3768 := F3748.keep K3762 (ninS ne1008 nin0)
            have F3769 := F3749.keep K3762 (ninS ne1010 nin0)
            have F3770 := F3750.keep K3762 (ninS (Ne.symm ne1086) nin0)
            have F3771 := F3751.keep K3762 (ninS (Ne.symm ne1153) nin0)
            have F3772 := F3752.keep K3762 (ninS (Ne.symm ne3500) nin0)
            have F3773 := F3753.keep K3762 (ninS (Ne.symm ne3521) nin0)
            have F3778 := F3746.keep K3762 (ninS (Ne.symm ne3680) nin0)
            have kE3779 : (own_pass 1 1 0 0 0 [cq] (own_ln ln pv c2) (own_cl co pv c2) c2) = (1, own_ln (own_ln ln pv c2) c2 cq, own_cl (own_cl co pv c2) c2 cq, cq) := own_go ⟨by decide, Or.inl (by decide)⟩
            have F3780 : Fld Z h3760 a1001 "com/example/dodder/dodder/PlacedText$Counter" "line" "I" (.int (own_ln (own_ln ln pv c2) c2 cq)) := by have q := F3763; rw [kE3779] at q; exact q
            have F3781 : Fld Z h3760 a1001 "com/example/dodder/dodder/PlacedText$Counter" "column" "I" (.int (own_cl (own_cl co pv c2) c2 cq)) := by have q := F3764; rw [kE3779] at q; exact q
            have F3782 : Fld Z h3760 a1001 "com/example/dodder/dodder/PlacedText$Counter" "afterCarriageReturn" "Z" (.int (own_cr cq)) := by have q := F3765; rw [kE3779] at q; exact q
            have F3783 : Fld Z h3760 a1001 "com/example/dodder/dodder/PlacedText$Counter" "started" "Z" (.int (own_bg cq)) := by have q := F3766; rw [kE3779] at q; exact q
            rw [kE3779]
            show Go p l e room_1 s m #[(.long x0), (.long x1), (.int x2), (.int x3), (.int x4), (.int x5)] below meth c n0 (FinQ s n0 (Qcon0 Z n0 h0 x0 x1 x2 x3 x4 x5) room_1.cells room_1.slots) h3760 9 27 527 #[.val (.long x0), .second, .val (.long x1), .second, iv x2, iv x3, iv x4, iv x5, rv a921, rv a952, rv a970, iv b11, iv 2, iv ((XT.ushr x2 2) &&& 3), rv a1001, rv a1077, iv 1, rv a1145, rv a3492, rv a3513, iv 3, iv 3, rv a3672, .unset] [(.int 1)]
            refine C.istore (Ls' := #[.val (.long x0), .second, .val (.long x1), .second, iv x2, iv x3, iv x4, iv x5, rv a921, rv a952, rv a970, iv b11, iv 2, iv ((XT.ushr x2 2) &&& 3), rv a1001, rv a1077, iv 1, rv a1145, rv a3492, rv a3513, iv 3, iv 3, rv a3672, iv 1]) at_527 rfl rfl ?_
            refine C.iload at_529 rfl rfl ?_
            refine C.if_eq_f at_531 rfl (by decide) ?_
            refine C.iload at_534 rfl rfl ?_
            refine C.iconst 1 at_536 rfl rfl ?_
            refine C.icmp_ne_f at_537 rfl (by decide) ?_
            refine C.aload at_540 rfl rfl rfl ?_
            refine C.callV (argsL := []) (rest := []) 0 (fun zz => au1460_7 l Z a0 hw n0 h3760 zz a1001 (own_cr cq) (own_cl (own_cl co pv c2) c2 cq) (own_ln (own_ln ln pv c2) c2 cq) (own_bg cq) F3767 F3782 F3781 F3780 F3783 g1007) F3767 at_542 rfl (tw hw 37 rfl) (tw hw 38 rfl) (tw hw 39 rfl) (tw hw 40 rfl) (tw hw 9 rfl) (tw hw 41 rfl) (by decide) pd_5 rfl rfl rfl (Nat.le_of_eq rfl) (by decide) (by decide) (by decide) (by decide) (fun v3784 h3785 r3786 => ?_)
            obtain ⟨rfl, rfl⟩ := r3786
            refine C.aload at_545 rfl rfl rfl ?_
            refine C.iconst 0 at_547 rfl rfl ?_
            refine C.iaload (.int (own_ln (own_ln ln pv c2) c2 cq)) at_548 rfl F3778 (by decide) rfl ?_
            refine C.icmp_ne_f at_549 rfl rfl ?_
            refine C.aload at_552 rfl rfl rfl ?_
            refine C.callV (argsL := []) (rest := []) 0 (fun zz => au1465_8 l Z a0 hw n0 h3760 zz a1001 (own_cr cq) (own_cl (own_cl co pv c2) c2 cq) (own_ln (own_ln ln pv c2) c2 cq) (own_bg cq) F3767 F3782 F3781 F3780 F3783 g1007) F3767 at_554 rfl (tw hw 42 rfl) (tw hw 43 rfl) (tw hw 44 rfl) (tw hw 45 rfl) (tw hw 9 rfl) (tw hw 46 rfl) (by decide) pd_5 rfl rfl rfl (Nat.le_of_eq rfl) (by decide) (by decide) (by decide) (by decide) (fun v3788 h3789 r3790 => ?_)
            obtain ⟨rfl, rfl⟩ := r3790
            refine C.aload at_557 rfl rfl rfl ?_
            refine C.iconst 1 at_559 rfl rfl ?_
            refine C.iaload (.int (own_cl (own_cl co pv c2) c2 cq)) at_560 rfl F3778 (by decide) rfl ?_
            refine C.icmp_ne_f at_561 rfl rfl ?_
            refine C.iconst 1 at_564 rfl rfl ?_
            refine C.goto at_565 (by decide) rfl ?_
            exact C.retZ at_569 rfl (by decide) (by decide) ⟨rfl, trivial⟩
          refine C.iconst 2 at_347 rfl rfl ?_
          refine C.istore (Ls' := #[.val (.long x0), .second, .val (.long x1), .second, iv x2, iv x3, iv x4, iv x5, rv a921, rv a952, rv a970, iv b11, iv 2, iv ((XT.ushr x2 2) &&& 3), rv a1001, rv a1077, iv 1, rv a1145, rv a3492, rv a3513, iv 2, .unset, .unset, .unset]) at_348 rfl rfl ?_
          refine C.iload at_350 rfl rfl ?_
          refine C.iconst 1 at_352 rfl rfl ?_
          refine C.icmp_gt_t at_353 (by decide) rfl (by decide) ?_
          refine C.iload at_382 rfl rfl ?_
          refine C.if_gt_t at_384 (by decide) rfl (by decide) ?_
          refine C.aload at_413 rfl rfl rfl ?_
          refine C.aload at_415 rfl rfl rfl ?_
          refine C.iload at_417 rfl rfl ?_
          refine C.iload at_419 rfl rfl ?_
          refine C.iload at_421 rfl rfl ?_
          refine C.iload at_423 rfl rfl ?_
          refine C.iload at_425 rfl rfl ?_
          refine C.callV (argsL := [(.ref a921), (.int 2), (.int ((XT.ushr x2 2) &&& 3)), (.int x3), (.int x4), (.int x5)]) (rest := []) 0 (fun zz => con_pass_3_2 l Z a0 hw n0 h3622 zz a1001 a921 ((XT.ushr x2 2) &&& 3) x3 x4 x5 ln co pv c0 c1 c2 F3625 F3626 F3627 F3628 F3629 F3630 g1007 (Ne.symm ne1008) (own_to _) nc0 nc1 nc2) F3625 at_427 rfl (tw hw 28 rfl) (tw hw 29 rfl) (tw hw 30 rfl) (tw hw 31 rfl) (tw hw 9 rfl) (tw hw 32 rfl) (by decide) pd_4 rfl rfl rfl (Nat.le_of_eq rfl) (by decide) (by decide) (by decide) (by decide) (fun v3792 h3793 r3794 => ?_)
          obtain ⟨rfl, K3795, F3796, F3797, F3798, F3799⟩ := r3794
          have F3800 := F3625.keep K3795
          have F3805 := F3630.keep K3795 (ninS ne1008 nin0)
          have F3806 := F3631.keep K3795 (ninS ne1010 nin0)
          have F3807 := F3632.keep K3795 (ninS (Ne.symm ne1086) nin0)
          have F3808 := F3633.keep K3795 (ninS (Ne.symm ne1153) nin0)
          have F3809 := F3634.keep K3795 (ninS (Ne.symm ne3500) nin0)
          have F3810 := F3635.keep K3795 (ninS (Ne.symm ne3521) nin0)
          have kE3811 : (own_pass ((XT.ushr x2 2) &&& 3) x3 x4 x5 2 [c2] ln co pv) = (2, ln, co, pv) := (own_no (fun h => q344 (own_stop0.mpr h)))
          have F3812 : Fld Z h3793 a1001 "com/example/dodder/dodder/PlacedText$Counter" "line" "I" (.int ln) := by have q := F3796; rw [kE3811] at q; exact q
          have F3813 : Fld Z h3793 a1001 "com/example/dodder/dodder/PlacedText$Counter" "column" "I" (.int co) := by have q := F3797; rw [kE3811] at q; exact q
          have F3814 : Fld Z h3793 a1001 "com/example/dodder/dodder/PlacedText$Counter" "afterCarriageReturn" "Z" (.int (own_cr pv)) := by have q := F3798; rw [kE3811] at q; exact q
          have F3815 : Fld Z h3793 a1001 "com/example/dodder/dodder/PlacedText$Counter" "started" "Z" (.int (own_bg pv)) := by have q := F3799; rw [kE3811] at q; exact q
          rw [kE3811]
          show Go p l e room_1 s m #[(.long x0), (.long x1), (.int x2), (.int x3), (.int x4), (.int x5)] below meth c n0 (FinQ s n0 (Qcon0 Z n0 h0 x0 x1 x2 x3 x4 x5) room_1.cells room_1.slots) h3793 8 24 430 #[.val (.long x0), .second, .val (.long x1), .second, iv x2, iv x3, iv x4, iv x5, rv a921, rv a952, rv a970, iv b11, iv 2, iv ((XT.ushr x2 2) &&& 3), rv a1001, rv a1077, iv 1, rv a1145, rv a3492, rv a3513, iv 2, .unset, .unset, .unset] [(.int 2)]
          refine C.istore (Ls' := #[.val (.long x0), .second, .val (.long x1), .second, iv x2, iv x3, iv x4, iv x5, rv a921, rv a952, rv a970, iv b11, iv 2, iv ((XT.ushr x2 2) &&& 3), rv a1001, rv a1077, iv 1, rv a1145, rv a3492, rv a3513, iv 2, iv 2, .unset, .unset]) at_430 rfl rfl ?_
          refine C.iload at_432 rfl rfl ?_
          refine C.if_eq_f at_434 rfl (by decide) ?_
          refine C.iload at_437 rfl rfl ?_
          refine C.iload at_439 rfl rfl ?_
          refine C.icmp_ne_f at_441 rfl (by decide) ?_
          refine C.aload at_444 rfl rfl rfl ?_
          refine C.callV (argsL := []) (rest := []) 0 (fun zz => au1460_7 l Z a0 hw n0 h3793 zz a1001 (own_cr pv) co ln (own_bg pv) F3800 F3814 F3813 F3812 F3815 g1007) F3800 at_446 rfl (tw hw 37 rfl) (tw hw 38 rfl) (tw hw 39 rfl) (tw hw 40 rfl) (tw hw 9 rfl) (tw hw 41 rfl) (by decide) pd_5 rfl rfl rfl (Nat.le_of_eq rfl) (by decide) (by decide) (by decide) (by decide) (fun v3816 h3817 r3818 => ?_)
          obtain ⟨rfl, rfl⟩ := r3818
          refine C.aload at_449 rfl rfl rfl ?_
          refine C.iload at_451 rfl rfl ?_
          refine C.iaload (.int ln) at_453 rfl F3808 (by decide) rfl ?_
          refine C.icmp_ne_f at_454 rfl rfl ?_
          refine C.aload at_457 rfl rfl rfl ?_
          refine C.callV (argsL := []) (rest := []) 0 (fun zz => au1465_8 l Z a0 hw n0 h3793 zz a1001 (own_cr pv) co ln (own_bg pv) F3800 F3814 F3813 F3812 F3815 g1007) F3800 at_459 rfl (tw hw 42 rfl) (tw hw 43 rfl) (tw hw 44 rfl) (tw hw 45 rfl) (tw hw 9 rfl) (tw hw 46 rfl) (by decide) pd_5 rfl rfl rfl (Nat.le_of_eq rfl) (by decide) (by decide) (by decide) (by decide) (fun v3820 h3821 r3822 => ?_)
          obtain ⟨rfl, rfl⟩ := r3822
          refine C.aload at_462 rfl rfl rfl ?_
          refine C.iload at_464 rfl rfl ?_
          refine C.iaload (.int co) at_466 rfl F3809 (by decide) rfl ?_
          refine C.icmp_ne_f at_467 rfl rfl ?_
          refine C.iconst 1 at_470 rfl rfl ?_
          refine C.goto at_471 (by decide) rfl ?_
          refine C.istore (Ls' := #[.val (.long x0), .second, .val (.long x1), .second, iv x2, iv x3, iv x4, iv x5, rv a921, rv a952, rv a970, iv b11, iv 2, iv ((XT.ushr x2 2) &&& 3), rv a1001, rv a1077, iv 1, rv a1145, rv a3492, rv a3513, iv 2, iv 2, .unset, .unset]) at_475 rfl rfl ?_
          refine C.iconst 3 at_477 rfl rfl ?_
          refine C.newarr 3 at_478 rfl rfl (tw hw 20 rfl) (by decide) (by decide) (by decide) (by decide) (by decide) (fun a3824 h3825 z3828 g3829 X3826 F3827 => ?_)
          have ne3830 : a921 ≠ a3824 := by rw [z3828]; exact Nat.ne_of_lt F3805.lt
          have ne3831 : a970 ≠ a3824 := by rw [z3828]; exact Nat.ne_of_lt F3806.lt
          have ne3832 : a1001 ≠ a3824 := by rw [z3828]; exact Nat.ne_of_lt F3800.lt
          have ne3833 : a1077 ≠ a3824 := by rw [z3828]; exact Nat.ne_of_lt F3807.lt
          have ne3834 : a1145 ≠ a3824 := by rw [z3828]; exact Nat.ne_of_lt F3808.lt
          have ne3835 : a3492 ≠ a3824 := by rw [z3828]; exact Nat.ne_of_lt F3809.lt
          have ne3836 : a3513 ≠ a3824 := by rw [z3828]; exact Nat.ne_of_lt F3810.lt
          have F3837 := Exa.ext X3826 F3800
          have F3838 := F3805.ext X3826
          have F3839 := F3806.ext X3826
          have F3840 := F3807.ext X3826
          have F3841 := F3808.ext X3826
          have F3842 := F3809.ext X3826
          have F3843 := F3810.ext X3826
          have F3844 := Fld.ext X3826 F3812
          have F3845 := Fld.ext X3826 F3813
          have F3846 := Fld.ext X3826 F3814
          have F3847 := Fld.ext X3826 F3815
          have F3848 : Av Z h3825 a3824 .int ([.int 0, .int 0, .int 0]) := F3827
          refine C.dup at_480 rfl rfl ?_
          refine C.iconst 0 at_481 rfl rfl ?_
          refine C.aload at_482 rfl rfl rfl ?_
          refine C.iload at_484 rfl rfl ?_
          refine C.iaload (.int ln) at_486 rfl F3841 (by decide) rfl ?_
          refine C.iastore at_487 rfl F3848 g3829 (by decide) (Nat.le_of_ble_eq_true rfl) (fun h3849 W3850 F3851 => ?_)
          have F3852 := Exa.wr W3850 F3837
          have F3853 := F3838.other W3850 ne3830
          have F3854 := F3839.other W3850 ne3831
          have F3855 := F3840.other W3850 ne3833
          have F3856 := F3841.other W3850 ne3834
          have F3857 := F3842.other W3850 ne3835
          have F3858 := F3843.other W3850 ne3836
          have F3859 := Fld.other W3850 F3844 (Or.inl ne3832)
          have F3860 := Fld.other W3850 F3845 (Or.inl ne3832)
          have F3861 := Fld.other W3850 F3846 (Or.inl ne3832)
          have F3862 := Fld.other W3850 F3847 (Or.inl ne3832)
          have F3863 : Av Z h3849 a3824 .int ([.int ln, .int 0, .int 0]) := F3851
          refine C.dup at_488 rfl rfl ?_
          refine C.iconst 1 at_489 rfl rfl ?_
          refine C.aload at_490 rfl rfl rfl ?_
          refine C.iload at_492 rfl rfl ?_
          refine C.iaload (.int co) at_494 rfl F3857 (by decide) rfl ?_
          refine C.iastore at_495 rfl F3863 g3829 (by decide) (Nat.le_of_ble_eq_true rfl) (fun h3864 W3865 F3866 => ?_)
          have F3867 := Exa.wr W3865 F3852
          have F3868 := F3853.other W3865 ne3830
          have F3869 := F3854.other W3865 ne3831
          have F3870 := F3855.other W3865 ne3833
          have F3871 := F3856.other W3865 ne3834
          have F3872 := F3857.other W3865 ne3835
          have F3873 := F3858.other W3865 ne3836
          have F3874 := Fld.other W3865 F3859 (Or.inl ne3832)
          have F3875 := Fld.other W3865 F3860 (Or.inl ne3832)
          have F3876 := Fld.other W3865 F3861 (Or.inl ne3832)
          have F3877 := Fld.other W3865 F3862 (Or.inl ne3832)
          have F3878 : Av Z h3864 a3824 .int ([.int ln, .int co, .int 0]) := F3866
          refine C.dup at_496 rfl rfl ?_
          refine C.iconst 2 at_497 rfl rfl ?_
          refine C.aload at_498 rfl rfl rfl ?_
          refine C.iload at_500 rfl rfl ?_
          refine C.iaload (.int pv) at_502 rfl F3873 (by decide) rfl ?_
          refine C.iastore at_503 rfl F3878 g3829 (by decide) (Nat.le_of_ble_eq_true rfl) (fun h3879 W3880 F3881 => ?_)
          have F3882 := Exa.wr W3880 F3867
          have F3883 := F3868.other W3880 ne3830
          have F3884 := F3869.other W3880 ne3831
          have F3885 := F3870.other W3880 ne3833
          have F3886 := F3871.other W3880 ne3834
          have F3887 := F3872.other W3880 ne3835
          have F3888 := F3873.other W3880 ne3836
          have F3889 := Fld.other W3880 F3874 (Or.inl ne3832)
          have F3890 := Fld.other W3880 F3875 (Or.inl ne3832)
          have F3891 := Fld.other W3880 F3876 (Or.inl ne3832)
          have F3892 := Fld.other W3880 F3877 (Or.inl ne3832)
          have F3893 : Av Z h3879 a3824 .int ([.int ln, .int co, .int pv]) := F3881
          refine C.astore (Ls' := #[.val (.long x0), .second, .val (.long x1), .second, iv x2, iv x3, iv x4, iv x5, rv a921, rv a952, rv a970, iv b11, iv 2, iv ((XT.ushr x2 2) &&& 3), rv a1001, rv a1077, iv 1, rv a1145, rv a3492, rv a3513, iv 2, iv 2, rv a3824, .unset]) at_504 rfl rfl rfl ?_
          refine C.aload at_506 rfl rfl rfl ?_
          refine C.aload at_508 rfl rfl rfl ?_
          refine C.iconst 0 at_510 rfl rfl ?_
          refine C.caload (.int cq) at_511 rfl F3884 (by decide) rfl ?_
          refine C.callS (argsL := [(.ref a3824), (.int cq)]) (rest := []) 0 (fun zz => con_step l Z a0 hw n0 h3879 zz a3824 cq ln co pv F3893 g3829) at_512 rfl (tw hw 21 rfl) (tw hw 22 rfl) (tw hw 3 rfl) (tw hw 23 rfl) (by decide) pd_2 rfl rfl rfl (Nat.le_of_eq rfl) (by decide) (by decide) (by decide) (by decide) (fun v3894 h3895 r3896 => ?_)
          obtain ⟨rfl, K3897, F3898⟩ := r3896
          have F3899 := F3882.keep K3897
          have F3900 := F3883.keep K3897 (ninS ne3830 nin0)
          have F3901 := F3884.keep K3897 (ninS ne3831 nin0)
          have F3902 := F3885.keep K3897 (ninS ne3833 nin0)
          have F3903 := F3886.keep K3897 (ninS ne3834 nin0)
          have F3904 := F3887.keep K3897 (ninS ne3835 nin0)
          have F3905 := F3888.keep K3897 (ninS ne3836 nin0)
          have F3906 := F3889.keep K3897 (ninS ne3832 nin0)
          have F3907 := F3890.keep K3897 (ninS ne3832 nin0)
          have F3908 := F3891.keep K3897 (ninS ne3832 nin0)
          have F3909 := F3892.keep K3897 (ninS ne3832 nin0)
          refine C.aload at_515 rfl rfl rfl ?_
          refine C.aload at_517 rfl rfl rfl ?_
          refine C.iconst 0 at_519 rfl rfl ?_
          refine C.iconst 1 at_520 rfl rfl ?_
          refine C.iconst 1 at_521 rfl rfl ?_
          refine C.iconst 0 at_522 rfl rfl ?_
          refine C.iconst 0 at_523 rfl rfl ?_
          refine C.callV (argsL := [(.ref a970), (.int 0), (.int 1), (.int 1), (.int 0), (.int 0)]) (rest := []) 0 (fun zz => con_pass_1_0 l Z a0 hw n0 h3895 zz a1001 a970 1 1 0 0 ln co pv cq F3899 F3906 F3907 F3908 F3909 F3901 g1007 (Ne.symm ne1010) (by decide) ncq) F3899 at_524 rfl (tw hw 28 rfl) (tw hw 29 rfl) (tw hw 30 rfl) (tw hw 31 rfl) (tw hw 9 rfl) (tw hw 32 rfl) (by decide) pd_4 rfl rfl rfl (Nat.le_of_eq rfl) (by decide) (by decide) (by decide) (by decide) (fun v3911 h3912 r3913 => ?_)
          obtain ⟨rfl, K3914, F3915, F3916, F3917, F3918⟩ := r3913
          have F3919 := F3899.keep K3914
          have F3920 := F3900.keep K3914 (ninS ne1008 nin0)
          have F3921 := F3901.keep K3914 (ninS ne1010 nin0)
          have F3922 := F3902.keep K3914 (ninS (Ne.symm ne1086) nin0)
          have F3923 := F3903.keep K3914 (ninS (Ne.symm ne1153) nin0)
          have F3924 := F3904.keep K3914 (ninS (Ne.symm ne3500) nin0)
          have F3925 := F3905.keep K3914 (ninS (Ne.symm ne3521) nin0)
          have F3930 := F3898.keep K3914 (ninS (Ne.symm ne3832) nin0)
          have kE3931 : (own_pass 1 1 0 0 0 [cq] ln co pv) = (1, own_ln ln pv cq, own_cl co pv cq, cq) := own_go ⟨by decide, Or.inl (by decide)⟩
          have F3932 : Fld Z h3912 a1001 "com/example/dodder/dodder/PlacedText$Counter" "line" "I" (.int (own_ln ln pv cq)) := by have q := F3915; rw [kE3931] at q; exact q
          have F3933 : Fld Z h3912 a1001 "com/example/dodder/dodder/PlacedText$Counter" "column" "I" (.int (own_cl co pv cq)) := by have q := F3916; rw [kE3931] at q; exact q
          have F3934 : Fld Z h3912 a1001 "com/example/dodder/dodder/PlacedText$Counter" "afterCarriageReturn" "Z" (.int (own_cr cq)) := by have q := F3917; rw [kE3931] at q; exact q
          have F3935 : Fld Z h3912 a1001 "com/example/dodder/dodder/PlacedText$Counter" "started" "Z" (.int (own_bg cq)) := by have q := F3918; rw [kE3931] at q; exact q
          rw [kE3931]
          show Go p l e room_1 s m #[(.long x0), (.long x1), (.int x2), (.int x3), (.int x4), (.int x5)] below meth c n0 (FinQ s n0 (Qcon0 Z n0 h0 x0 x1 x2 x3 x4 x5) room_1.cells room_1.slots) h3912 9 27 527 #[.val (.long x0), .second, .val (.long x1), .second, iv x2, iv x3, iv x4, iv x5, rv a921, rv a952, rv a970, iv b11, iv 2, iv ((XT.ushr x2 2) &&& 3), rv a1001, rv a1077, iv 1, rv a1145, rv a3492, rv a3513, iv 2, iv 2, rv a3824, .unset] [(.int 1)]
          refine C.istore (Ls' := #[.val (.long x0), .second, .val (.long x1), .second, iv x2, iv x3, iv x4, iv x5, rv a921, rv a952, rv a970, iv b11, iv 2, iv ((XT.ushr x2 2) &&& 3), rv a1001, rv a1077, iv 1, rv a1145, rv a3492, rv a3513, iv 2, iv 2, rv a3824, iv 1]) at_527 rfl rfl ?_
          refine C.iload at_529 rfl rfl ?_
          refine C.if_eq_f at_531 rfl (by decide) ?_
          refine C.iload at_534 rfl rfl ?_
          refine C.iconst 1 at_536 rfl rfl ?_
          refine C.icmp_ne_f at_537 rfl (by decide) ?_
          refine C.aload at_540 rfl rfl rfl ?_
          refine C.callV (argsL := []) (rest := []) 0 (fun zz => au1460_7 l Z a0 hw n0 h3912 zz a1001 (own_cr cq) (own_cl co pv cq) (own_ln ln pv cq) (own_bg cq) F3919 F3934 F3933 F3932 F3935 g1007) F3919 at_542 rfl (tw hw 37 rfl) (tw hw 38 rfl) (tw hw 39 rfl) (tw hw 40 rfl) (tw hw 9 rfl) (tw hw 41 rfl) (by decide) pd_5 rfl rfl rfl (Nat.le_of_eq rfl) (by decide) (by decide) (by decide) (by decide) (fun v3936 h3937 r3938 => ?_)
          obtain ⟨rfl, rfl⟩ := r3938
          refine C.aload at_545 rfl rfl rfl ?_
          refine C.iconst 0 at_547 rfl rfl ?_
          refine C.iaload (.int (own_ln ln pv cq)) at_548 rfl F3930 (by decide) rfl ?_
          refine C.icmp_ne_f at_549 rfl rfl ?_
          refine C.aload at_552 rfl rfl rfl ?_
          refine C.callV (argsL := []) (rest := []) 0 (fun zz => au1465_8 l Z a0 hw n0 h3912 zz a1001 (own_cr cq) (own_cl co pv cq) (own_ln ln pv cq) (own_bg cq) F3919 F3934 F3933 F3932 F3935 g1007) F3919 at_554 rfl (tw hw 42 rfl) (tw hw 43 rfl) (tw hw 44 rfl) (tw hw 45 rfl) (tw hw 9 rfl) (tw hw 46 rfl) (by decide) pd_5 rfl rfl rfl (Nat.le_of_eq rfl) (by decide) (by decide) (by decide) (by decide) (fun v3940 h3941 r3942 => ?_)
          obtain ⟨rfl, rfl⟩ := r3942
          refine C.aload at_557 rfl rfl rfl ?_
          refine C.iconst 1 at_559 rfl rfl ?_
          refine C.iaload (.int (own_cl co pv cq)) at_560 rfl F3930 (by decide) rfl ?_
          refine C.icmp_ne_f at_561 rfl rfl ?_
          refine C.iconst 1 at_564 rfl rfl ?_
          refine C.goto at_565 (by decide) rfl ?_
          exact C.retZ at_569 rfl (by decide) (by decide) ⟨rfl, trivial⟩
        rw [qc]
        refine C.iconst 4 at_162 rfl rfl ?_
        refine C.newarr 4 at_163 rfl rfl (tw hw 20 rfl) (by decide) (by decide) (by decide) (by decide) (by decide) (fun a3944 h3945 z3948 g3949 X3946 F3947 => ?_)
        have ne3950 : a921 ≠ a3944 := by rw [z3948]; exact Nat.ne_of_lt F1161.lt
        have ne3951 : a970 ≠ a3944 := by rw [z3948]; exact Nat.ne_of_lt F1162.lt
        have ne3952 : a1001 ≠ a3944 := by rw [z3948]; exact Nat.ne_of_lt F1155.lt
        have ne3953 : a1077 ≠ a3944 := by rw [z3948]; exact Nat.ne_of_lt F1160.lt
        have ne3954 : a1145 ≠ a3944 := by rw [z3948]; exact Nat.ne_of_lt F1163.lt
        have F3955 := Exa.ext X3946 F1155
        have F3956 := Fld.ext X3946 F1156
        have F3957 := Fld.ext X3946 F1157
        have F3958 := Fld.ext X3946 F1158
        have F3959 := Fld.ext X3946 F1159
        have F3960 := F1160.ext X3946
        have F3961 := F1161.ext X3946
        have F3962 := F1162.ext X3946
        have F3963 := F1163.ext X3946
        have F3964 : Av Z h3945 a3944 .int ([.int 0, .int 0, .int 0, .int 0]) := F3947
        refine C.astore (Ls' := #[.val (.long x0), .second, .val (.long x1), .second, iv x2, iv x3, iv x4, iv x5, rv a921, rv a952, rv a970, iv b11, iv 3, iv ((XT.ushr x2 2) &&& 3), rv a1001, rv a1077, iv 1, rv a1145, rv a3944, .unset, .unset, .unset, .unset, .unset]) at_165 rfl rfl rfl ?_
        refine C.iconst 4 at_167 rfl rfl ?_
        refine C.newarr 4 at_168 rfl rfl (tw hw 20 rfl) (by decide) (by decide) (by decide) (by decide) (by decide) (fun a3965 h3966 z3969 g3970 X3967 F3968 => ?_)
        have ne3971 : a921 ≠ a3965 := by rw [z3969]; exact Nat.ne_of_lt F3961.lt
        have ne3972 : a970 ≠ a3965 := by rw [z3969]; exact Nat.ne_of_lt F3962.lt
        have ne3973 : a1001 ≠ a3965 := by rw [z3969]; exact Nat.ne_of_lt F3955.lt
        have ne3974 : a1077 ≠ a3965 := by rw [z3969]; exact Nat.ne_of_lt F3960.lt
        have ne3975 : a1145 ≠ a3965 := by rw [z3969]; exact Nat.ne_of_lt F3963.lt
        have ne3976 : a3944 ≠ a3965 := by rw [z3969]; exact Nat.ne_of_lt F3964.lt
        have F3977 := Exa.ext X3967 F3955
        have F3978 := Fld.ext X3967 F3956
        have F3979 := Fld.ext X3967 F3957
        have F3980 := Fld.ext X3967 F3958
        have F3981 := Fld.ext X3967 F3959
        have F3982 := F3960.ext X3967
        have F3983 := F3961.ext X3967
        have F3984 := F3962.ext X3967
        have F3985 := F3963.ext X3967
        have F3986 := F3964.ext X3967
        have F3987 : Av Z h3966 a3965 .int ([.int 0, .int 0, .int 0, .int 0]) := F3968
        refine C.astore (Ls' := #[.val (.long x0), .second, .val (.long x1), .second, iv x2, iv x3, iv x4, iv x5, rv a921, rv a952, rv a970, iv b11, iv 3, iv ((XT.ushr x2 2) &&& 3), rv a1001, rv a1077, iv 1, rv a1145, rv a3944, rv a3965, .unset, .unset, .unset, .unset]) at_170 rfl rfl rfl ?_
        refine C.aload at_172 rfl rfl rfl ?_
        refine C.iload at_174 rfl rfl ?_
        refine C.aload at_176 rfl rfl rfl ?_
        refine C.iconst 0 at_178 rfl rfl ?_
        refine C.iaload (.int ln) at_179 rfl F3982 (by decide) rfl ?_
        refine C.iastore at_180 rfl F3985 g1150 (by decide) (Nat.le_of_ble_eq_true rfl) (fun h3988 W3989 F3990 => ?_)
        have F3991 := Exa.wr W3989 F3977
        have F3992 := Fld.other W3989 F3978 (Or.inl ne1153)
        have F3993 := Fld.other W3989 F3979 (Or.inl ne1153)
        have F3994 := Fld.other W3989 F3980 (Or.inl ne1153)
        have F3995 := Fld.other W3989 F3981 (Or.inl ne1153)
        have F3996 := F3982.other W3989 ne1154
        have F3997 := F3983.other W3989 ne1151
        have F3998 := F3984.other W3989 ne1152
        have F3999 := F3986.other W3989 (Ne.symm ne3954)
        have F4000 := F3987.other W3989 (Ne.symm ne3975)
        have F4001 : Av Z h3988 a1145 .int ([.int 0, .int 0, .int 0, .int ln]) := F3990
        refine C.aload at_181 rfl rfl rfl ?_
        refine C.iload at_183 rfl rfl ?_
        refine C.aload at_185 rfl rfl rfl ?_
        refine C.iconst 1 at_187 rfl rfl ?_
        refine C.iaload (.int co) at_188 rfl F3996 (by decide) rfl ?_
        refine C.iastore at_189 rfl F3999 g3949 (by decide) (Nat.le_of_ble_eq_true rfl) (fun h4002 W4003 F4004 => ?_)
        have F4005 := Exa.wr W4003 F3991
        have F4006 := Fld.other W4003 F3992 (Or.inl ne3952)
        have F4007 := Fld.other W4003 F3993 (Or.inl ne3952)
        have F4008 := Fld.other W4003 F3994 (Or.inl ne3952)
        have F4009 := Fld.other W4003 F3995 (Or.inl ne3952)
        have F4010 := F3996.other W4003 ne3953
        have F4011 := F3997.other W4003 ne3950
        have F4012 := F3998.other W4003 ne3951
        have F4013 := F4000.other W4003 (Ne.symm ne3976)
        have F4014 := F4001.other W4003 ne3954
        have F4015 : Av Z h4002 a3944 .int ([.int 0, .int 0, .int 0, .int co]) := F4004
        refine C.aload at_190 rfl rfl rfl ?_
        refine C.iload at_192 rfl rfl ?_
        refine C.aload at_194 rfl rfl rfl ?_
        refine C.iconst 2 at_196 rfl rfl ?_
        refine C.iaload (.int pv) at_197 rfl F4010 (by decide) rfl ?_
        refine C.iastore at_198 rfl F4013 g3970 (by decide) (Nat.le_of_ble_eq_true rfl) (fun h4016 W4017 F4018 => ?_)
        have F4019 := Exa.wr W4017 F4005
        have F4020 := Fld.other W4017 F4006 (Or.inl ne3973)
        have F4021 := Fld.other W4017 F4007 (Or.inl ne3973)
        have F4022 := Fld.other W4017 F4008 (Or.inl ne3973)
        have F4023 := Fld.other W4017 F4009 (Or.inl ne3973)
        have F4024 := F4010.other W4017 ne3974
        have F4025 := F4011.other W4017 ne3971
        have F4026 := F4012.other W4017 ne3972
        have F4027 := F4014.other W4017 ne3975
        have F4028 := F4015.other W4017 ne3976
        have F4029 : Av Z h4016 a3965 .int ([.int 0, .int 0, .int 0, .int pv]) := F4018
        refine C.iload at_199 rfl rfl ?_
        refine C.if_gt_t at_201 (by decide) rfl (by decide) ?_
        refine C.iload at_237 rfl rfl ?_
        refine C.iconst 1 at_239 rfl rfl ?_
        refine C.icmp_gt_t at_240 (by decide) rfl (by decide) ?_
        refine C.iload at_276 rfl rfl ?_
        refine C.iconst 2 at_278 rfl rfl ?_
        refine C.icmp_gt_t at_279 (by decide) rfl (by decide) ?_
        refine C.iconst 3 at_315 rfl rfl ?_
        refine C.istore (Ls' := #[.val (.long x0), .second, .val (.long x1), .second, iv x2, iv x3, iv x4, iv x5, rv a921, rv a952, rv a970, iv b11, iv 3, iv ((XT.ushr x2 2) &&& 3), rv a1001, rv a1077, iv 1, rv a1145, rv a3944, rv a3965, iv 3, .unset, .unset, .unset]) at_316 rfl rfl ?_
        refine C.iload at_318 rfl rfl ?_
        refine C.iconst 2 at_320 rfl rfl ?_
        refine C.icmp_gt_t at_321 (by decide) rfl (by decide) ?_
        refine C.iload at_350 rfl rfl ?_
        refine C.iconst 1 at_352 rfl rfl ?_
        refine C.icmp_gt_t at_353 (by decide) rfl (by decide) ?_
        refine C.iload at_382 rfl rfl ?_
        refine C.if_gt_t at_384 (by decide) rfl (by decide) ?_
        refine C.aload at_413 rfl rfl rfl ?_
        refine C.aload at_415 rfl rfl rfl ?_
        refine C.iload at_417 rfl rfl ?_
        refine C.iload at_419 rfl rfl ?_
        refine C.iload at_421 rfl rfl ?_
        refine C.iload at_423 rfl rfl ?_
        refine C.iload at_425 rfl rfl ?_
        refine C.callV (argsL := [(.ref a921), (.int 3), (.int ((XT.ushr x2 2) &&& 3)), (.int x3), (.int x4), (.int x5)]) (rest := []) 0 (fun zz => con_pass_3_3 l Z a0 hw n0 h4016 zz a1001 a921 ((XT.ushr x2 2) &&& 3) x3 x4 x5 ln co pv c0 c1 c2 F4019 F4020 F4021 F4022 F4023 F4025 g1007 (Ne.symm ne1008) (own_to _) nc0 nc1 nc2) F4019 at_427 rfl (tw hw 28 rfl) (tw hw 29 rfl) (tw hw 30 rfl) (tw hw 31 rfl) (tw hw 9 rfl) (tw hw 32 rfl) (by decide) pd_4 rfl rfl rfl (Nat.le_of_eq rfl) (by decide) (by decide) (by decide) (by decide) (fun v4030 h4031 r4032 => ?_)
        obtain ⟨rfl, K4033, F4034, F4035, F4036, F4037⟩ := r4032
        have F4038 := F4019.keep K4033
        have F4043 := F4024.keep K4033 (ninS (Ne.symm ne1086) nin0)
        have F4044 := F4025.keep K4033 (ninS ne1008 nin0)
        have F4045 := F4026.keep K4033 (ninS ne1010 nin0)
        have F4046 := F4027.keep K4033 (ninS (Ne.symm ne1153) nin0)
        have F4047 := F4028.keep K4033 (ninS (Ne.symm ne3952) nin0)
        have F4048 := F4029.keep K4033 (ninS (Ne.symm ne3973) nin0)
        have kE4049 : (own_pass ((XT.ushr x2 2) &&& 3) x3 x4 x5 3 [] ln co pv) = (3, ln, co, pv) := rfl
        have F4050 : Fld Z h4031 a1001 "com/example/dodder/dodder/PlacedText$Counter" "line" "I" (.int ln) := by have q := F4034; rw [kE4049] at q; exact q
        have F4051 : Fld Z h4031 a1001 "com/example/dodder/dodder/PlacedText$Counter" "column" "I" (.int co) := by have q := F4035; rw [kE4049] at q; exact q
        have F4052 : Fld Z h4031 a1001 "com/example/dodder/dodder/PlacedText$Counter" "afterCarriageReturn" "Z" (.int (own_cr pv)) := by have q := F4036; rw [kE4049] at q; exact q
        have F4053 : Fld Z h4031 a1001 "com/example/dodder/dodder/PlacedText$Counter" "started" "Z" (.int (own_bg pv)) := by have q := F4037; rw [kE4049] at q; exact q
        rw [kE4049]
        show Go p l e room_1 s m #[(.long x0), (.long x1), (.int x2), (.int x3), (.int x4), (.int x5)] below meth c n0 (FinQ s n0 (Qcon0 Z n0 h0 x0 x1 x2 x3 x4 x5) room_1.cells room_1.slots) h4031 8 24 430 #[.val (.long x0), .second, .val (.long x1), .second, iv x2, iv x3, iv x4, iv x5, rv a921, rv a952, rv a970, iv b11, iv 3, iv ((XT.ushr x2 2) &&& 3), rv a1001, rv a1077, iv 1, rv a1145, rv a3944, rv a3965, iv 3, .unset, .unset, .unset] [(.int 3)]
        refine C.istore (Ls' := #[.val (.long x0), .second, .val (.long x1), .second, iv x2, iv x3, iv x4, iv x5, rv a921, rv a952, rv a970, iv b11, iv 3, iv ((XT.ushr x2 2) &&& 3), rv a1001, rv a1077, iv 1, rv a1145, rv a3944, rv a3965, iv 3, iv 3, .unset, .unset]) at_430 rfl rfl ?_
        refine C.iload at_432 rfl rfl ?_
        refine C.if_eq_f at_434 rfl (by decide) ?_
        refine C.iload at_437 rfl rfl ?_
        refine C.iload at_439 rfl rfl ?_
        refine C.icmp_ne_f at_441 rfl (by decide) ?_
        refine C.aload at_444 rfl rfl rfl ?_
        refine C.callV (argsL := []) (rest := []) 0 (fun zz => au1460_7 l Z a0 hw n0 h4031 zz a1001 (own_cr pv) co ln (own_bg pv) F4038 F4052 F4051 F4050 F4053 g1007) F4038 at_446 rfl (tw hw 37 rfl) (tw hw 38 rfl) (tw hw 39 rfl) (tw hw 40 rfl) (tw hw 9 rfl) (tw hw 41 rfl) (by decide) pd_5 rfl rfl rfl (Nat.le_of_eq rfl) (by decide) (by decide) (by decide) (by decide) (fun v4054 h4055 r4056 => ?_)
        obtain ⟨rfl, rfl⟩ := r4056
        refine C.aload at_449 rfl rfl rfl ?_
        refine C.iload at_451 rfl rfl ?_
        refine C.iaload (.int ln) at_453 rfl F4046 (by decide) rfl ?_
        refine C.icmp_ne_f at_454 rfl rfl ?_
        refine C.aload at_457 rfl rfl rfl ?_
        refine C.callV (argsL := []) (rest := []) 0 (fun zz => au1465_8 l Z a0 hw n0 h4031 zz a1001 (own_cr pv) co ln (own_bg pv) F4038 F4052 F4051 F4050 F4053 g1007) F4038 at_459 rfl (tw hw 42 rfl) (tw hw 43 rfl) (tw hw 44 rfl) (tw hw 45 rfl) (tw hw 9 rfl) (tw hw 46 rfl) (by decide) pd_5 rfl rfl rfl (Nat.le_of_eq rfl) (by decide) (by decide) (by decide) (by decide) (fun v4058 h4059 r4060 => ?_)
        obtain ⟨rfl, rfl⟩ := r4060
        refine C.aload at_462 rfl rfl rfl ?_
        refine C.iload at_464 rfl rfl ?_
        refine C.iaload (.int co) at_466 rfl F4047 (by decide) rfl ?_
        refine C.icmp_ne_f at_467 rfl rfl ?_
        refine C.iconst 1 at_470 rfl rfl ?_
        refine C.goto at_471 (by decide) rfl ?_
        refine C.istore (Ls' := #[.val (.long x0), .second, .val (.long x1), .second, iv x2, iv x3, iv x4, iv x5, rv a921, rv a952, rv a970, iv b11, iv 3, iv ((XT.ushr x2 2) &&& 3), rv a1001, rv a1077, iv 1, rv a1145, rv a3944, rv a3965, iv 3, iv 3, .unset, .unset]) at_475 rfl rfl ?_
        refine C.iconst 3 at_477 rfl rfl ?_
        refine C.newarr 3 at_478 rfl rfl (tw hw 20 rfl) (by decide) (by decide) (by decide) (by decide) (by decide) (fun a4062 h4063 z4066 g4067 X4064 F4065 => ?_)
        have ne4068 : a921 ≠ a4062 := by rw [z4066]; exact Nat.ne_of_lt F4044.lt
        have ne4069 : a970 ≠ a4062 := by rw [z4066]; exact Nat.ne_of_lt F4045.lt
        have ne4070 : a1001 ≠ a4062 := by rw [z4066]; exact Nat.ne_of_lt F4038.lt
        have ne4071 : a1077 ≠ a4062 := by rw [z4066]; exact Nat.ne_of_lt F4043.lt
        have ne4072 : a1145 ≠ a4062 := by rw [z4066]; exact Nat.ne_of_lt F4046.lt
        have ne4073 : a3944 ≠ a4062 := by rw [z4066]; exact Nat.ne_of_lt F4047.lt
        have ne4074 : a3965 ≠ a4062 := by rw [z4066]; exact Nat.ne_of_lt F4048.lt
        have F4075 := Exa.ext X4064 F4038
        have F4076 := F4043.ext X4064
        have F4077 := F4044.ext X4064
        have F4078 := F4045.ext X4064
        have F4079 := F4046.ext X4064
        have F4080 := F4047.ext X4064
        have F4081 := F4048.ext X4064
        have F4082 := Fld.ext X4064 F4050
        have F4083 := Fld.ext X4064 F4051
        have F4084 := Fld.ext X4064 F4052
        have F4085 := Fld.ext X4064 F4053
        have F4086 : Av Z h4063 a4062 .int ([.int 0, .int 0, .int 0]) := F4065
        refine C.dup at_480 rfl rfl ?_
        refine C.iconst 0 at_481 rfl rfl ?_
        refine C.aload at_482 rfl rfl rfl ?_
        refine C.iload at_484 rfl rfl ?_
        refine C.iaload (.int ln) at_486 rfl F4079 (by decide) rfl ?_
        refine C.iastore at_487 rfl F4086 g4067 (by decide) (Nat.le_of_ble_eq_true rfl) (fun h4087 W4088 F4089 => ?_)
        have F4090 := Exa.wr W4088 F4075
        have F4091 := F4076.other W4088 ne4071
        have F4092 := F4077.other W4088 ne4068
        have F4093 := F4078.other W4088 ne4069
        have F4094 := F4079.other W4088 ne4072
        have F4095 := F4080.other W4088 ne4073
        have F4096 := F4081.other W4088 ne4074
        have F4097 := Fld.other W4088 F4082 (Or.inl ne4070)
        have F4098 := Fld.other W4088 F4083 (Or.inl ne4070)
        have F4099 := Fld.other W4088 F4084 (Or.inl ne4070)
        have F4100 := Fld.other W4088 F4085 (Or.inl ne4070)
        have F4101 : Av Z h4087 a4062 .int ([.int ln, .int 0, .int 0]) := F4089
        refine C.dup at_488 rfl rfl ?_
        refine C.iconst 1 at_489 rfl rfl ?_
        refine C.aload at_490 rfl rfl rfl ?_
        refine C.iload at_492 rfl rfl ?_
        refine C.iaload (.int co) at_494 rfl F4095 (by decide) rfl ?_
        refine C.iastore at_495 rfl F4101 g4067 (by decide) (Nat.le_of_ble_eq_true rfl) (fun h4102 W4103 F4104 => ?_)
        have F4105 := Exa.wr W4103 F4090
        have F4106 := F4091.other W4103 ne4071
        have F4107 := F4092.other W4103 ne4068
        have F4108 := F4093.other W4103 ne4069
        have F4109 := F4094.other W4103 ne4072
        have F4110 := F4095.other W4103 ne4073
        have F4111 := F4096.other W4103 ne4074
        have F4112 := Fld.other W4103 F4097 (Or.inl ne4070)
        have F4113 := Fld.other W4103 F4098 (Or.inl ne4070)
        have F4114 := Fld.other W4103 F4099 (Or.inl ne4070)
        have F4115 := Fld.other W4103 F4100 (Or.inl ne4070)
        have F4116 : Av Z h4102 a4062 .int ([.int ln, .int co, .int 0]) := F4104
        refine C.dup at_496 rfl rfl ?_
        refine C.iconst 2 at_497 rfl rfl ?_
        refine C.aload at_498 rfl rfl rfl ?_
        refine C.iload at_500 rfl rfl ?_
        refine C.iaload (.int pv) at_502 rfl F4111 (by decide) rfl ?_
        refine C.iastore at_503 rfl F4116 g4067 (by decide) (Nat.le_of_ble_eq_true rfl) (fun h4117 W4118 F4119 => ?_)
        have F4120 := Exa.wr W4118 F4105
        have F4121 := F4106.other W4118 ne4071
        have F4122 := F4107.other W4118 ne4068
        have F4123 := F4108.other W4118 ne4069
        have F4124 := F4109.other W4118 ne4072
        have F4125 := F4110.other W4118 ne4073
        have F4126 := F4111.other W4118 ne4074
        have F4127 := Fld.other W4118 F4112 (Or.inl ne4070)
        have F4128 := Fld.other W4118 F4113 (Or.inl ne4070)
        have F4129 := Fld.other W4118 F4114 (Or.inl ne4070)
        have F4130 := Fld.other W4118 F4115 (Or.inl ne4070)
        have F4131 : Av Z h4117 a4062 .int ([.int ln, .int co, .int pv]) := F4119
        refine C.astore (Ls' := #[.val (.long x0), .second, .val (.long x1), .second, iv x2, iv x3, iv x4, iv x5, rv a921, rv a952, rv a970, iv b11, iv 3, iv ((XT.ushr x2 2) &&& 3), rv a1001, rv a1077, iv 1, rv a1145, rv a3944, rv a3965, iv 3, iv 3, rv a4062, .unset]) at_504 rfl rfl rfl ?_
        refine C.aload at_506 rfl rfl rfl ?_
        refine C.aload at_508 rfl rfl rfl ?_
        refine C.iconst 0 at_510 rfl rfl ?_
        refine C.caload (.int cq) at_511 rfl F4123 (by decide) rfl ?_
        refine C.callS (argsL := [(.ref a4062), (.int cq)]) (rest := []) 0 (fun zz => con_step l Z a0 hw n0 h4117 zz a4062 cq ln co pv F4131 g4067) at_512 rfl (tw hw 21 rfl) (tw hw 22 rfl) (tw hw 3 rfl) (tw hw 23 rfl) (by decide) pd_2 rfl rfl rfl (Nat.le_of_eq rfl) (by decide) (by decide) (by decide) (by decide) (fun v4132 h4133 r4134 => ?_)
        obtain ⟨rfl, K4135, F4136⟩ := r4134
        have F4137 := F4120.keep K4135
        have F4138 := F4121.keep K4135 (ninS ne4071 nin0)
        have F4139 := F4122.keep K4135 (ninS ne4068 nin0)
        have F4140 := F4123.keep K4135 (ninS ne4069 nin0)
        have F4141 := F4124.keep K4135 (ninS ne4072 nin0)
        have F4142 := F4125.keep K4135 (ninS ne4073 nin0)
        have F4143 := F4126.keep K4135 (ninS ne4074 nin0)
        have F4144 := F4127.keep K4135 (ninS ne4070 nin0)
        have F4145 := F4128.keep K4135 (ninS ne4070 nin0)
        have F4146 := F4129.keep K4135 (ninS ne4070 nin0)
        have F4147 := F4130.keep K4135 (ninS ne4070 nin0)
        refine C.aload at_515 rfl rfl rfl ?_
        refine C.aload at_517 rfl rfl rfl ?_
        refine C.iconst 0 at_519 rfl rfl ?_
        refine C.iconst 1 at_520 rfl rfl ?_
        refine C.iconst 1 at_521 rfl rfl ?_
        refine C.iconst 0 at_522 rfl rfl ?_
        refine C.iconst 0 at_523 rfl rfl ?_
        refine C.callV (argsL := [(.ref a970), (.int 0), (.int 1), (.int 1), (.int 0), (.int 0)]) (rest := []) 0 (fun zz => con_pass_1_0 l Z a0 hw n0 h4133 zz a1001 a970 1 1 0 0 ln co pv cq F4137 F4144 F4145 F4146 F4147 F4140 g1007 (Ne.symm ne1010) (by decide) ncq) F4137 at_524 rfl (tw hw 28 rfl) (tw hw 29 rfl) (tw hw 30 rfl) (tw hw 31 rfl) (tw hw 9 rfl) (tw hw 32 rfl) (by decide) pd_4 rfl rfl rfl (Nat.le_of_eq rfl) (by decide) (by decide) (by decide) (by decide) (fun v4149 h4150 r4151 => ?_)
        obtain ⟨rfl, K4152, F4153, F4154, F4155, F4156⟩ := r4151
        have F4157 := F4137.keep K4152
        have F4158 := F4138.keep K4152 (ninS (Ne.symm ne1086) nin0)
        have F4159 := F4139.keep K4152 (ninS ne1008 nin0)
        have F4160 := F4140.keep K4152 (ninS ne1010 nin0)
        have F4161 := F4141.keep K4152 (ninS (Ne.symm ne1153) nin0)
        have F4162 := F4142.keep K4152 (ninS (Ne.symm ne3952) nin0)
        have F4163 := F4143.keep K4152 (ninS (Ne.symm ne3973) nin0)
        have F4168 := F4136.keep K4152 (ninS (Ne.symm ne4070) nin0)
        have kE4169 : (own_pass 1 1 0 0 0 [cq] ln co pv) = (1, own_ln ln pv cq, own_cl co pv cq, cq) := own_go ⟨by decide, Or.inl (by decide)⟩
        have F4170 : Fld Z h4150 a1001 "com/example/dodder/dodder/PlacedText$Counter" "line" "I" (.int (own_ln ln pv cq)) := by have q := F4153; rw [kE4169] at q; exact q
        have F4171 : Fld Z h4150 a1001 "com/example/dodder/dodder/PlacedText$Counter" "column" "I" (.int (own_cl co pv cq)) := by have q := F4154; rw [kE4169] at q; exact q
        have F4172 : Fld Z h4150 a1001 "com/example/dodder/dodder/PlacedText$Counter" "afterCarriageReturn" "Z" (.int (own_cr cq)) := by have q := F4155; rw [kE4169] at q; exact q
        have F4173 : Fld Z h4150 a1001 "com/example/dodder/dodder/PlacedText$Counter" "started" "Z" (.int (own_bg cq)) := by have q := F4156; rw [kE4169] at q; exact q
        rw [kE4169]
        show Go p l e room_1 s m #[(.long x0), (.long x1), (.int x2), (.int x3), (.int x4), (.int x5)] below meth c n0 (FinQ s n0 (Qcon0 Z n0 h0 x0 x1 x2 x3 x4 x5) room_1.cells room_1.slots) h4150 9 27 527 #[.val (.long x0), .second, .val (.long x1), .second, iv x2, iv x3, iv x4, iv x5, rv a921, rv a952, rv a970, iv b11, iv 3, iv ((XT.ushr x2 2) &&& 3), rv a1001, rv a1077, iv 1, rv a1145, rv a3944, rv a3965, iv 3, iv 3, rv a4062, .unset] [(.int 1)]
        refine C.istore (Ls' := #[.val (.long x0), .second, .val (.long x1), .second, iv x2, iv x3, iv x4, iv x5, rv a921, rv a952, rv a970, iv b11, iv 3, iv ((XT.ushr x2 2) &&& 3), rv a1001, rv a1077, iv 1, rv a1145, rv a3944, rv a3965, iv 3, iv 3, rv a4062, iv 1]) at_527 rfl rfl ?_
        refine C.iload at_529 rfl rfl ?_
        refine C.if_eq_f at_531 rfl (by decide) ?_
        refine C.iload at_534 rfl rfl ?_
        refine C.iconst 1 at_536 rfl rfl ?_
        refine C.icmp_ne_f at_537 rfl (by decide) ?_
        refine C.aload at_540 rfl rfl rfl ?_
        refine C.callV (argsL := []) (rest := []) 0 (fun zz => au1460_7 l Z a0 hw n0 h4150 zz a1001 (own_cr cq) (own_cl co pv cq) (own_ln ln pv cq) (own_bg cq) F4157 F4172 F4171 F4170 F4173 g1007) F4157 at_542 rfl (tw hw 37 rfl) (tw hw 38 rfl) (tw hw 39 rfl) (tw hw 40 rfl) (tw hw 9 rfl) (tw hw 41 rfl) (by decide) pd_5 rfl rfl rfl (Nat.le_of_eq rfl) (by decide) (by decide) (by decide) (by decide) (fun v4174 h4175 r4176 => ?_)
        obtain ⟨rfl, rfl⟩ := r4176
        refine C.aload at_545 rfl rfl rfl ?_
        refine C.iconst 0 at_547 rfl rfl ?_
        refine C.iaload (.int (own_ln ln pv cq)) at_548 rfl F4168 (by decide) rfl ?_
        refine C.icmp_ne_f at_549 rfl rfl ?_
        refine C.aload at_552 rfl rfl rfl ?_
        refine C.callV (argsL := []) (rest := []) 0 (fun zz => au1465_8 l Z a0 hw n0 h4150 zz a1001 (own_cr cq) (own_cl co pv cq) (own_ln ln pv cq) (own_bg cq) F4157 F4172 F4171 F4170 F4173 g1007) F4157 at_554 rfl (tw hw 42 rfl) (tw hw 43 rfl) (tw hw 44 rfl) (tw hw 45 rfl) (tw hw 9 rfl) (tw hw 46 rfl) (by decide) pd_5 rfl rfl rfl (Nat.le_of_eq rfl) (by decide) (by decide) (by decide) (by decide) (fun v4178 h4179 r4180 => ?_)
        obtain ⟨rfl, rfl⟩ := r4180
        refine C.aload at_557 rfl rfl rfl ?_
        refine C.iconst 1 at_559 rfl rfl ?_
        refine C.iaload (.int (own_cl co pv cq)) at_560 rfl F4168 (by decide) rfl ?_
        refine C.icmp_ne_f at_561 rfl rfl ?_
        refine C.iconst 1 at_564 rfl rfl ?_
        refine C.goto at_565 (by decide) rfl ?_
        exact C.retZ at_569 rfl (by decide) (by decide) ⟨rfl, trivial⟩
      refine C.iload at_120 rfl rfl ?_
      refine C.if_eq at_122 (by decide) rfl rfl (fun q122 => ?_) (fun q122 => ?_)
      · exact (J157_1134 h1120 1 1 (-1) F1126 F1129 F1128 F1132 F1133 F1131 F1123 F1125).more (by decide) (by decide)
      refine C.aload at_125 rfl rfl rfl ?_
      refine C.aload at_127 rfl rfl rfl ?_
      refine C.iconst 0 at_129 rfl rfl ?_
      refine C.iconst 1 at_130 rfl rfl ?_
      refine C.iconst 1 at_131 rfl rfl ?_
      refine C.iconst 0 at_132 rfl rfl ?_
      refine C.iconst 0 at_133 rfl rfl ?_
      refine C.callV (argsL := [(.ref a952), (.int 0), (.int 1), (.int 1), (.int 0), (.int 0)]) (rest := []) 0 (fun zz => con_pass_1_0 l Z a0 hw n0 h1120 zz a1001 a952 1 1 0 0 1 1 (-1 : Int32) cp F1126 F1129 F1128 F1132 F1133 F1124 g1007 (Ne.symm ne1009) (by decide) ncp) F1126 at_134 rfl (tw hw 28 rfl) (tw hw 29 rfl) (tw hw 30 rfl) (tw hw 31 rfl) (tw hw 9 rfl) (tw hw 32 rfl) (by decide) pd_4 rfl rfl rfl (Nat.le_of_eq rfl) (by decide) (by decide) (by decide) (by decide) (fun v4182 h4183 r4184 => ?_)
      obtain ⟨rfl, K4185, F4186, F4187, F4188, F4189⟩ := r4184
      have F4190 := F1123.keep K4185 (ninS ne1008 nin0)
      have F4191 := F1124.keep K4185 (ninS ne1009 nin0)
      have F4192 := F1125.keep K4185 (ninS ne1010 nin0)
      have F4193 := F1126.keep K4185
      have F4198 := F1131.keep K4185 (ninS (Ne.symm ne1086) nin0)
      have kE4199 : (own_pass 1 1 0 0 0 [cp] 1 1 (-1 : Int32)) = (1, own_ln 1 (-1 : Int32) cp, own_cl 1 (-1 : Int32) cp, cp) := own_go ⟨by decide, Or.inl (by decide)⟩
      have F4200 : Fld Z h4183 a1001 "com/example/dodder/dodder/PlacedText$Counter" "line" "I" (.int (own_ln 1 (-1 : Int32) cp)) := by have q := F4186; rw [kE4199] at q; exact q
      have F4201 : Fld Z h4183 a1001 "com/example/dodder/dodder/PlacedText$Counter" "column" "I" (.int (own_cl 1 (-1 : Int32) cp)) := by have q := F4187; rw [kE4199] at q; exact q
      have F4202 : Fld Z h4183 a1001 "com/example/dodder/dodder/PlacedText$Counter" "afterCarriageReturn" "Z" (.int (own_cr cp)) := by have q := F4188; rw [kE4199] at q; exact q
      have F4203 : Fld Z h4183 a1001 "com/example/dodder/dodder/PlacedText$Counter" "started" "Z" (.int (own_bg cp)) := by have q := F4189; rw [kE4199] at q; exact q
      rw [kE4199]
      show Go p l e room_1 s m #[(.long x0), (.long x1), (.int x2), (.int x3), (.int x4), (.int x5)] below meth c n0 (FinQ s n0 (Qcon0 Z n0 h0 x0 x1 x2 x3 x4 x5) room_1.cells room_1.slots) h4183 5 12 137 #[.val (.long x0), .second, .val (.long x1), .second, iv x2, iv x3, iv x4, iv x5, rv a921, rv a952, rv a970, iv b11, iv (x2 &&& 3), iv ((XT.ushr x2 2) &&& 3), rv a1001, rv a1077, iv 1, .unset, .unset, .unset, .unset, .unset, .unset, .unset] [(.int 1)]
      refine C.iconst 1 at_137 rfl rfl ?_
      refine C.icmp_ne_f at_138 rfl (by decide) ?_
      refine C.iconst 1 at_141 rfl rfl ?_
      refine C.goto at_142 (by decide) rfl ?_
      refine C.istore (Ls' := #[.val (.long x0), .second, .val (.long x1), .second, iv x2, iv x3, iv x4, iv x5, rv a921, rv a952, rv a970, iv b11, iv (x2 &&& 3), iv ((XT.ushr x2 2) &&& 3), rv a1001, rv a1077, iv 1, .unset, .unset, .unset, .unset, .unset, .unset, .unset]) at_146 rfl rfl ?_
      refine C.aload at_148 rfl rfl rfl ?_
      refine C.aload at_150 rfl rfl rfl ?_
      refine C.iconst 0 at_152 rfl rfl ?_
      refine C.caload (.int cp) at_153 rfl F4191 (by decide) rfl ?_
      refine C.callS (argsL := [(.ref a1077), (.int cp)]) (rest := []) 0 (fun zz => con_step l Z a0 hw n0 h4183 zz a1077 cp 1 1 (-1 : Int32) F4198 g1082) at_154 rfl (tw hw 21 rfl) (tw hw 22 rfl) (tw hw 3 rfl) (tw hw 23 rfl) (by decide) pd_2 rfl rfl rfl (Nat.le_of_eq rfl) (by decide) (by decide) (by decide) (by decide) (fun v4204 h4205 r4206 => ?_)
      obtain ⟨rfl, K4207, F4208⟩ := r4206
      have F4209 := F4190.keep K4207 (ninS ne1083 nin0)
      have F4210 := F4191.keep K4207 (ninS ne1084 nin0)
      have F4211 := F4192.keep K4207 (ninS ne1085 nin0)
      have F4212 := F4193.keep K4207
      have F4214 := F4200.keep K4207 (ninS ne1086 nin0)
      have F4215 := F4201.keep K4207 (ninS ne1086 nin0)
      have F4216 := F4202.keep K4207 (ninS ne1086 nin0)
      have F4217 := F4203.keep K4207 (ninS ne1086 nin0)
      exact (J157_1134 h4205 (own_ln 1 (-1 : Int32) cp) (own_cl 1 (-1 : Int32) cp) cp F4212 F4214 F4215 F4216 F4217 F4208 F4209 F4211).more (by decide) (by decide)
    refine C.lif_eq at_67 (by decide) rfl rfl (fun q67 => ?_) (fun q67 => ?_)
    · refine C.iconst 0 at_74 rfl rfl ?_
      exact (J75_1000 0).more (by decide) (by decide)
    refine C.iconst 1 at_70 rfl rfl ?_
    refine C.goto at_71 (by decide) rfl ?_
    exact (J75_1000 1).more (by decide) (by decide)
  exact J59_994 h985 (own_pick x0) (own_pick (XT.ushrL x0 18)) (own_pick (XT.ushrL x0 36)) (own_pick x1) (own_pick (XT.ushrL x1 18)) (own_pick_ne _) (own_pick_ne _) (own_pick_ne _) (own_pick_ne _) (own_pick_ne _) F991 F992 F993
set_option maxRecDepth 65536 in
set_option maxHeartbeats 40000000 in
theorem comes_1 {Post : Tables → Env → Array Value → State → Outcome → State → Prop} (hpost : ∀ tb e args s v u, (limb_1_1.after args s (.returned v) u = true ∧ limb_1_2.after args s (.returned v) u = true ∧ True) → FrameEnd s (.returned v) u (Jvm.fieldLocs frame_1_writes args s ++ Jvm.arrayLocs frame_1_arrays args s ++ Jvm.staticLocs frame_1_statics s) 32 128 → Post tb e args s (.returned v) u) :
    ArmFor flags0 classFile x code maxLocals ret World_1 tables_1 room_1 Calls_1 rest_1 Pre_1 Post := by
  intro l hfl _ _ p e ha hc hk s m args below hf hA hF happ hP
  obtain ⟨hcalls, hrest, hpre⟩ := hP
  obtain ⟨-, -, -, hnamed, -, -, -, hat⟩ := (Spec.applies_iff hf).mp happ
  obtain ⟨hg, hn⟩ := and_e (Cond.before_iff.mp (show (Jvm.Cond.and given_1 narrow_1).before args s = true from hpre))
  obtain ⟨h1, h2⟩ := and_e hg
  obtain ⟨w0, w1, w2, w3, w4, w5, rfl⟩ : ∃ w0 w1 w2 w3 w4 w5 : Value, args = #[w0, w1, w2, w3, w4, w5] := by
    have hs : args.size = 6 := by simpa [Cond.value, given_1] using h1
    obtain ⟨L⟩ := args
    match L, hs with
    | [w0, w1, w2, w3, w4, w5], _ => exact ⟨w0, w1, w2, w3, w4, w5, rfl⟩
  have hw := fun d (hd : d ∈ tables_1) => atoms_spec (ws := Jvm.Cond.code x code maxLocals ret :: tables_1) hat d (List.mem_cons_of_mem _ hd)
  obtain ⟨u0, t0⟩ := and_e h2
  obtain ⟨i0, e0⟩ := isL_v u0
  obtain rfl : w0 = (.long i0) := Option.some.inj e0
  obtain ⟨u1, t1⟩ := and_e t0
  obtain ⟨i1, e1⟩ := isL_v u1
  obtain rfl : w1 = (.long i1) := Option.some.inj e1
  obtain ⟨u2, t2⟩ := and_e t1
  obtain ⟨i2, e2⟩ := is_v u2
  obtain rfl : w2 = (.int i2) := Option.some.inj e2
  obtain ⟨u3, t3⟩ := and_e t2
  obtain ⟨i3, e3⟩ := is_v u3
  obtain rfl : w3 = (.int i3) := Option.some.inj e3
  obtain ⟨u4, t4⟩ := and_e t3
  obtain ⟨i4, e4⟩ := is_v u4
  obtain rfl : w4 = (.int i4) := Option.some.inj e4
  obtain ⟨i5, e5⟩ := is_v t4
  obtain rfl : w5 = (.int i5) := Option.some.inj e5
  obtain ⟨n, o, h1, h2, h3, _, L, rfl, ⟨⟨rfl, -⟩, N⟩, hq⟩ := con0 l s _ hw s.heap.size s.heap (Nat.le_refl _) i0 i1 i2 i3 i4 i5 p e ha hc hk s m _ below hf ((Spec.applies_iff_loose hf).mp happ).1 ⟨rfl, State.Warmed39.refl s, rfl⟩ trivial
  refine ⟨n, _, h1, h2, h3, hpost _ _ _ _ _ _ ⟨Cond.after_iff.mpr rfl, Cond.after_iff.mpr (eq_i res_at (Term.int_eval (1)) rfl), trivial⟩ ⟨hq.1, hq.2.1, (hq.2.2.sift fun y hy => Or.inr (N y hy)).mono (by decide) (by decide)⟩⟩
theorem main_1_1 : Claimed_1_1 := comes_1 fun _ _ _ _ _ _ h hF => ⟨h.1, hF⟩
theorem main_1_2 : Claimed_1_2 := comes_1 fun _ _ _ _ _ _ h hF => ⟨h.2.1, hF⟩
end Jvm.Pilot.@@N@@
namespace Jvm.Pilot.@@N@@
open Jvm Jvm.ClassFile Sem Op Lib Jvm.Free Jvm.Stand Jvm.Pilot.@@N@@.Jvm.D
/-! MADE BY PROGRAM (witnessworld.py) out of the Statement's table words and the real class files: 11 classes; the members and pool entries that the words name. The judged class is class 1, her method 4. -/
namespace start1
open Jvm.ClassFile
def u (s : String) : CpInfo := .utf8 (stringToUtf16 s)
/-- a pool by its gaps: so many unusable entries, then the entry; so many at the end -/
def gap : Nat → List CpInfo → List CpInfo
  | 0, r => r
  | n + 1, r => .unusable :: gap n r
def poolList (es : List (Nat × CpInfo)) (last : Nat) : List CpInfo := es.foldr (fun e r => gap e.1 (e.2 :: r)) (gap last [])
def pool (es : List (Nat × CpInfo)) (last : Nat) : Array CpInfo := ⟨poolList es last⟩
def fileOf (pool : Array CpInfo) (this : Nat) (attrs : Array Attribute := #[]) (ms : Array MethodInfo := #[]) (fl : Nat := 33) (sup : Nat := 0) (ifs : Array Nat := #[]) (fds : Array FieldInfo := #[]) : ClassFile where
  minorVersion := 0
  majorVersion := 65
  constantPool := pool
  accessFlags := fl
  thisClass := this
  superClass := sup
  interfaces := ifs
  fields := fds
  methods := ms
  attributes := attrs
def plain (name : String) (sup : Option ClassId) : Class where
  name := name
  kind := .ordinary
  loader := none
  accessFlags := 33
  super := sup
  interfaces := #[]
  cf := none
  fields := #[]
  methods := #[]
  instanceTypes := #[]
  staticTypes := #[]
  resolved := #[]
  callSites := []
  init := .initialized
  statics := none
  mirror := none

def pool0 : Array CpInfo := pool [(5, u "<init>"), (0, u "()V"), (1, .class_ 10), (1, u "java/lang/Object")] 113

def k0c0 : Code := { maxStack := 0, maxLocals := 1, code := object_method_1_code, exceptionTable := #[], attributes := #[] }
def k0m0 : Method := { name := "<init>", desc := "()V", sig := { parameters := [], returnType := none }, accessFlags := 1, code := some k0c0 }
/-- java/lang/Object -/
def k0 : Class := { plain "java/lang/Object" none with
  accessFlags := 33
  interfaces := #[]
  cf := some (fileOf pool0 8 #[] #[{ accessFlags := 1, nameIndex := 5, descriptorIndex := 6, attributes := #[] }] 33 0 #[] #[])
  fields := #[]
  methods := #[k0m0]
  instanceTypes := #[]
  staticTypes := #[]
  resolved := Array.replicate 124 none
  statics := none }

def pool1 : Array CpInfo := pool [(2, .class_ 4), (0, .nameAndType 5 6), (0, u "java/lang/Object"), (0, u "<init>"), (0, u "()V"), (0, .long 3), (1, .integer 65279), (0, .long 65535), (1, .methodref 13 14), (0, .class_ 15), (0, .nameAndType 16 17), (0, u "com/example/dodder/dodder/CounterPassPinLaw"), (0, u "pick"), (0, u "(J)C"), (0, .class_ 19), (0, u "com/example/dodder/dodder/PlacedText$Counter"), (0, .methodref 18 3), (0, .methodref 18 22), (0, .nameAndType 23 24), (0, u "pass"), (0, u "([CIIIII)I"), (0, .methodref 13 26), (0, .nameAndType 27 28), (0, u "step"), (0, u "([IC)V"), (0, .methodref 13 30), (0, .nameAndType 31 32), (0, u "stops"), (0, u "(IIIIIII)Z"), (0, .methodref 18 34), (0, .nameAndType 35 36), (0, u "line"), (0, u "()I"), (0, .methodref 18 38), (0, .nameAndType 39 36), (0, u "column"), (3, u "law"), (0, u "(JJIIII)Z")] 10

def k1m0 : Method := { name := "<init>", desc := "()V", sig := { parameters := [], returnType := none }, accessFlags := 1, code := none }
def k1c1 : Code := { maxStack := 4, maxLocals := 4, code := method_2_code, exceptionTable := #[], attributes := #[] }
def k1m1 : Method := { name := "pick", desc := "(J)C", sig := { parameters := [.long], returnType := some .char }, accessFlags := 10, code := some k1c1 }
def k1c2 : Code := { maxStack := 4, maxLocals := 3, code := method_3_code, exceptionTable := #[], attributes := #[] }
def k1m2 : Method := { name := "step", desc := "([IC)V", sig := { parameters := [(.array .int), .char], returnType := none }, accessFlags := 10, code := some k1c2 }
def k1c3 : Code := { maxStack := 2, maxLocals := 8, code := method_4_code, exceptionTable := #[], attributes := #[] }
def k1m3 : Method := { name := "stops", desc := "(IIIIIII)Z", sig := { parameters := [.int, .int, .int, .int, .int, .int, .int], returnType := some .boolean }, accessFlags := 10, code := some k1c3 }
def k1c4 : Code := { maxStack := 7, maxLocals := 24, code := code, exceptionTable := #[], attributes := #[] }
def k1m4 : Method := { name := "law", desc := "(JJIIII)Z", sig := { parameters := [.long, .long, .int, .int, .int, .int], returnType := some .boolean }, accessFlags := 9, code := some k1c4 }
/-- com/example/dodder/dodder/CounterPassPinLaw -/
def k1 : Class := { plain "com/example/dodder/dodder/CounterPassPinLaw" (some 0) with
  accessFlags := 49
  interfaces := #[]
  cf := some (fileOf pool1 13 #[] #[{ accessFlags := 1, nameIndex := 5, descriptorIndex := 6, attributes := #[] }, { accessFlags := 10, nameIndex := 16, descriptorIndex := 17, attributes := #[] }, { accessFlags := 10, nameIndex := 27, descriptorIndex := 28, attributes := #[] }, { accessFlags := 10, nameIndex := 31, descriptorIndex := 32, attributes := #[] }, { accessFlags := 9, nameIndex := 43, descriptorIndex := 44, attributes := #[] }] 49 2 #[] #[])
  fields := #[]
  methods := #[k1m0, k1m1, k1m2, k1m3, k1m4]
  instanceTypes := #[]
  staticTypes := #[]
  resolved := Array.replicate 55 none
  statics := none }

def pool2 : Array CpInfo := pool [(1, .methodref 2 3), (0, .class_ 4), (0, .nameAndType 5 6), (0, u "java/lang/Object"), (0, u "<init>"), (0, u "()V"), (0, .fieldref 8 9), (0, .class_ 10), (0, .nameAndType 11 12), (0, u "com/example/dodder/dodder/PlacedText$Counter"), (0, u "line"), (0, u "I"), (0, .fieldref 8 14), (0, .nameAndType 15 12), (0, u "column"), (1, .fieldref 8 18), (0, .nameAndType 19 20), (0, u "afterCarriageReturn"), (0, u "Z"), (0, .fieldref 8 22), (0, .nameAndType 23 20), (0, u "started"), (2, u "pass"), (0, u "([CIIIII)I"), (0, .integer 65279), (69, u "()I"), (12, u "WORD_COLUMNS"), (15, .class_ 128), (0, u "com/example/dodder/dodder/PlacedText")] 3

def k2c0 : Code := { maxStack := 2, maxLocals := 1, code := prog_122_method_1_code, exceptionTable := #[], attributes := #[] }
def k2m0 : Method := { name := "<init>", desc := "()V", sig := { parameters := [], returnType := none }, accessFlags := 0, code := some k2c0 }
def k2c1 : Code := { maxStack := 1, maxLocals := 1, code := prog_122_method_2_code, exceptionTable := #[], attributes := #[] }
def k2m1 : Method := { name := "line", desc := "()I", sig := { parameters := [], returnType := some .int }, accessFlags := 0, code := some k2c1 }
def k2c2 : Code := { maxStack := 1, maxLocals := 1, code := prog_122_method_3_code, exceptionTable := #[], attributes := #[] }
def k2m2 : Method := { name := "column", desc := "()I", sig := { parameters := [], returnType := some .int }, accessFlags := 0, code := some k2c2 }
def k2c3 : Code := { maxStack := 2, maxLocals := 13, code := prog_122_method_6_code, exceptionTable := #[], attributes := #[] }
def k2m3 : Method := { name := "pass", desc := "([CIIIII)I", sig := { parameters := [(.array .char), .int, .int, .int, .int, .int], returnType := some .int }, accessFlags := 0, code := some k2c3 }
/-- com/example/dodder/dodder/PlacedText$Counter -/
def k2 : Class := { plain "com/example/dodder/dodder/PlacedText$Counter" (some 0) with
  accessFlags := 48
  interfaces := #[]
  cf := some (fileOf pool2 8 #[.nestHost 127] #[{ accessFlags := 0, nameIndex := 5, descriptorIndex := 6, attributes := #[] }, { accessFlags := 0, nameIndex := 11, descriptorIndex := 98, attributes := #[] }, { accessFlags := 0, nameIndex := 15, descriptorIndex := 98, attributes := #[] }, { accessFlags := 0, nameIndex := 26, descriptorIndex := 27, attributes := #[] }] 48 2 #[] #[{ accessFlags := 26, nameIndex := 111, descriptorIndex := 12, attributes := #[] }, { accessFlags := 2, nameIndex := 11, descriptorIndex := 12, attributes := #[] }, { accessFlags := 2, nameIndex := 15, descriptorIndex := 12, attributes := #[] }, { accessFlags := 2, nameIndex := 19, descriptorIndex := 20, attributes := #[] }, { accessFlags := 2, nameIndex := 23, descriptorIndex := 20, attributes := #[] }])
  fields := #[{ name := "WORD_COLUMNS", type := .int, accessFlags := 26, slot := 0, constantValue := 0 }, { name := "line", type := .int, accessFlags := 2, slot := 0, constantValue := 0 }, { name := "column", type := .int, accessFlags := 2, slot := 1, constantValue := 0 }, { name := "afterCarriageReturn", type := .boolean, accessFlags := 2, slot := 2, constantValue := 0 }, { name := "started", type := .boolean, accessFlags := 2, slot := 3, constantValue := 0 }]
  methods := #[k2m0, k2m1, k2m2, k2m3]
  instanceTypes := #[.int, .int, .boolean, .boolean]
  staticTypes := #[.int]
  resolved := Array.replicate 132 none
  statics := none }

def pool3 : Array CpInfo := pool [(1, u "java/lang/Cloneable"), (0, .class_ 1), (0, u "java/lang/Object"), (0, .class_ 3)] 3

/-- java/lang/Cloneable -/
def k3 : Class := { plain "java/lang/Cloneable" (some 0) with
  accessFlags := 1537
  interfaces := #[]
  cf := some (fileOf pool3 2 #[] #[] 1537 4 #[] #[])
  fields := #[]
  methods := #[]
  instanceTypes := #[]
  staticTypes := #[]
  resolved := Array.replicate 8 none
  statics := none }

def pool4 : Array CpInfo := pool [(1, u "java/io/Serializable"), (0, .class_ 1), (0, u "java/lang/Object"), (0, .class_ 3)] 3

/-- java/io/Serializable -/
def k4 : Class := { plain "java/io/Serializable" (some 0) with
  accessFlags := 1537
  interfaces := #[]
  cf := some (fileOf pool4 2 #[] #[] 1537 4 #[] #[])
  fields := #[]
  methods := #[]
  instanceTypes := #[]
  staticTypes := #[]
  resolved := Array.replicate 8 none
  statics := none }

/-- the primitive byte -/
def k5 : Class := { plain "byte" none with kind := .primitive 'B', accessFlags := 0x411 }
/-- [B -/
def k6 : Class := { plain "[B" (some 0) with kind := .array 5 .byte, interfaces := #[3, 4], accessFlags := 1041 }

/-- the primitive char -/
def k7 : Class := { plain "char" none with kind := .primitive 'C', accessFlags := 0x411 }
/-- [C -/
def k8 : Class := { plain "[C" (some 0) with kind := .array 7 .char, interfaces := #[3, 4], accessFlags := 1041 }

/-- the primitive int -/
def k9 : Class := { plain "int" none with kind := .primitive 'I', accessFlags := 0x411 }
/-- [I -/
def k10 : Class := { plain "[I" (some 0) with kind := .array 9 .int, interfaces := #[3, 4], accessFlags := 1041 }

def heap : Heap := #[]
def classes : Array Class := #[k0, k1, k2, k3, k4, k5, k6, k7, k8, k9, k10]
def interned : List (Array UInt16 × Addr) := []
def slotsUsed : Nat := 0
def theMethod : MethodId := ⟨1, 4⟩
def args0 : Array Value := #[.long 1, .long 2, .int 3, .int 4, .int 5, .int 6]
def aboutOver (below : List Frame) : State where
  vm := { classes := classes, interned := interned.toArray }
  heap := heap
  slotsUsed := slotsUsed
  threads := #[{ frames := .invoking theMethod args0 :: below }]
def below0 : List Frame := [.native { method := ⟨0, 0⟩, args := #[] }]
def about1 : State := aboutOver below0
def p0 : Program := .bare "" "" ""
def e0 : Env := launch0.env 0 0 0
theorem w_frames : about1.frames = Frame.invoking theMethod args0 :: below0 := rfl
set_option maxRecDepth 65536 in
theorem w_args : argsFit about1.vm theMethod args0 = true := by decide +kernel
set_option maxRecDepth 65536 in
theorem w_heap : heapFits about1 = true := by decide +kernel
set_option maxRecDepth 65536 in
theorem w_runnable : about1.curStatus? = some .runnable := by decide +kernel
set_option maxRecDepth 65536 in
theorem w_alone : about1.alone = true := by decide +kernel
set_option maxRecDepth 65536 in
theorem w_named : about1.methodNamed? x = some theMethod := by decide +kernel
set_option maxRecDepth 65536 in
theorem w_hears : about1.hears theMethod below0 = true := by decide +kernel
set_option maxRecDepth 65536 in
theorem w_ripe : about1.ripe theMethod args0 below0 = true := by decide +kernel
theorem w_running : about1.status = .running := rfl
set_option maxRecDepth 65536 in
theorem w_room : about1.hasRoom e0.platform room_1 = true :=
  launch0.hasRoom_least _ room_1 (by decide +kernel) (by decide +kernel) (by decide +kernel) (by decide +kernel) (by decide +kernel) (by decide +kernel)
theorem allAtoms_all (ts : List Jvm.Cond) (a : Array Jvm.Value) (st : Jvm.State) : (allAtoms ts).before a st = ts.all (fun c => c.before a st) := by
  induction ts with
  | nil => rfl
  | cons c t ih =>
    show (Jvm.Cond.and c (allAtoms t)).before a st = _
    rw [Jvm.Cond.before_and, ih, List.all_cons]
def words1 : List Jvm.Cond := Jvm.Cond.code x code maxLocals ret :: tables_1
/-- a 'code' word, met by the world's own term for the bytes: nothing is compared byte by byte -/
theorem code_word {y : MethodName} {bytes : ByteArray} {mx : Nat} {rt : Option FieldType} {a : Array Value} {s : State} {m : MethodId} {meth : Method} {c : Code} (h1 : s.methodNamed? y = some m) (h2 : s.vm.method? m = some meth) (h3 : meth.code = some c) (h4 : c.code = bytes)
    (h5 : (c.maxLocals == mx && c.exceptionTable.isEmpty && decide (c.maxStack ≤ mostOperands) && decide (meth.sig.returnType = rt) && !meth.locks && decide (parseMethodDescriptor y.desc = some meth.sig)) = true) : (Jvm.Cond.code y bytes mx rt).before a s = true := by
  simp only [Bool.and_eq_true, beq_iff_eq, Bool.not_eq_true', decide_eq_true_eq] at h5
  obtain ⟨⟨⟨⟨⟨g1, g2⟩, g3⟩, g4⟩, g5⟩, g6⟩ := h5
  simp [Cond.before, Cond.holds, Cond.value, h1, h2, h3, h4, g1, g2, g3, g4, g5, g6]
def isCode : Jvm.Cond → Bool
  | .code _ _ _ _ => true
  | _ => false
theorem all_split {L : List Jvm.Cond} {P : Jvm.Cond → Bool} (h1 : L.all (fun c => isCode c || P c) = true) (h2 : ∀ c ∈ L.filter isCode, P c = true) : L.all P = true := by
  refine List.all_eq_true.mpr fun c hc => ?_
  have h := List.all_eq_true.mp h1 c hc
  rcases Bool.eq_false_or_eq_true (isCode c) with hi | hi
  · exact h2 c (List.mem_filter.mpr ⟨hc, hi⟩)
  · simpa [hi] using h
set_option maxRecDepth 65536 in
theorem w_c0 : (Jvm.Cond.code x code maxLocals ret).before args0 about1 = true := code_word (m := ⟨1, 4⟩) (meth := k1m4) (c := k1c4) (by decide +kernel) rfl rfl rfl (by decide +kernel)
set_option maxRecDepth 65536 in
theorem w_c1 : (Jvm.Cond.code ({ cls := "com/example/dodder/dodder/CounterPassPinLaw", name := "pick", desc := "(J)C" } : Jvm.MethodName) method_2_code (4 : Nat) (Option.some Jvm.ClassFile.FieldType.char)).before args0 about1 = true := code_word (m := ⟨1, 1⟩) (meth := k1m1) (c := k1c1) (by decide +kernel) rfl rfl rfl (by decide +kernel)
set_option maxRecDepth 65536 in
theorem w_c2 : (Jvm.Cond.code ({ cls := "com/example/dodder/dodder/PlacedText$Counter", name := "<init>", desc := "()V" } : Jvm.MethodName) prog_122_method_1_code (1 : Nat) (Option.none : Option Jvm.ClassFile.FieldType)).before args0 about1 = true := code_word (m := ⟨2, 0⟩) (meth := k2m0) (c := k2c0) (by decide +kernel) rfl rfl rfl (by decide +kernel)
set_option maxRecDepth 65536 in
theorem w_c3 : (Jvm.Cond.code ({ cls := "java/lang/Object", name := "<init>", desc := "()V" } : Jvm.MethodName) object_method_1_code (1 : Nat) (Option.none : Option Jvm.ClassFile.FieldType)).before args0 about1 = true := code_word (m := ⟨0, 0⟩) (meth := k0m0) (c := k0c0) (by decide +kernel) rfl rfl rfl (by decide +kernel)
set_option maxRecDepth 65536 in
theorem w_c4 : (Jvm.Cond.code ({ cls := "com/example/dodder/dodder/CounterPassPinLaw", name := "step", desc := "([IC)V" } : Jvm.MethodName) method_3_code (3 : Nat) (Option.none : Option Jvm.ClassFile.FieldType)).before args0 about1 = true := code_word (m := ⟨1, 2⟩) (meth := k1m2) (c := k1c2) (by decide +kernel) rfl rfl rfl (by decide +kernel)
set_option maxRecDepth 65536 in
theorem w_c5 : (Jvm.Cond.code ({ cls := "com/example/dodder/dodder/CounterPassPinLaw", name := "stops", desc := "(IIIIIII)Z" } : Jvm.MethodName) method_4_code (8 : Nat) (Option.some Jvm.ClassFile.FieldType.boolean)).before args0 about1 = true := code_word (m := ⟨1, 3⟩) (meth := k1m3) (c := k1c3) (by decide +kernel) rfl rfl rfl (by decide +kernel)
set_option maxRecDepth 65536 in
theorem w_c6 : (Jvm.Cond.code ({ cls := "com/example/dodder/dodder/PlacedText$Counter", name := "pass", desc := "([CIIIII)I" } : Jvm.MethodName) prog_122_method_6_code (13 : Nat) (Option.some Jvm.ClassFile.FieldType.int)).before args0 about1 = true := code_word (m := ⟨2, 3⟩) (meth := k2m3) (c := k2c3) (by decide +kernel) rfl rfl rfl (by decide +kernel)
set_option maxRecDepth 65536 in
theorem w_c7 : (Jvm.Cond.code ({ cls := "com/example/dodder/dodder/PlacedText$Counter", name := "line", desc := "()I" } : Jvm.MethodName) prog_122_method_2_code (1 : Nat) (Option.some Jvm.ClassFile.FieldType.int)).before args0 about1 = true := code_word (m := ⟨2, 1⟩) (meth := k2m1) (c := k2c1) (by decide +kernel) rfl rfl rfl (by decide +kernel)
set_option maxRecDepth 65536 in
theorem w_c8 : (Jvm.Cond.code ({ cls := "com/example/dodder/dodder/PlacedText$Counter", name := "column", desc := "()I" } : Jvm.MethodName) prog_122_method_3_code (1 : Nat) (Option.some Jvm.ClassFile.FieldType.int)).before args0 about1 = true := code_word (m := ⟨2, 2⟩) (meth := k2m2) (c := k2c2) (by decide +kernel) rfl rfl rfl (by decide +kernel)
def codes1 : List Jvm.Cond := [Jvm.Cond.code x code maxLocals ret, Jvm.Cond.code ({ cls := "com/example/dodder/dodder/CounterPassPinLaw", name := "pick", desc := "(J)C" } : Jvm.MethodName) method_2_code (4 : Nat) (Option.some Jvm.ClassFile.FieldType.char), Jvm.Cond.code ({ cls := "com/example/dodder/dodder/PlacedText$Counter", name := "<init>", desc := "()V" } : Jvm.MethodName) prog_122_method_1_code (1 : Nat) (Option.none : Option Jvm.ClassFile.FieldType), Jvm.Cond.code ({ cls := "java/lang/Object", name := "<init>", desc := "()V" } : Jvm.MethodName) object_method_1_code (1 : Nat) (Option.none : Option Jvm.ClassFile.FieldType), Jvm.Cond.code ({ cls := "com/example/dodder/dodder/CounterPassPinLaw", name := "step", desc := "([IC)V" } : Jvm.MethodName) method_3_code (3 : Nat) (Option.none : Option Jvm.ClassFile.FieldType), Jvm.Cond.code ({ cls := "com/example/dodder/dodder/CounterPassPinLaw", name := "stops", desc := "(IIIIIII)Z" } : Jvm.MethodName) method_4_code (8 : Nat) (Option.some Jvm.ClassFile.FieldType.boolean), Jvm.Cond.code ({ cls := "com/example/dodder/dodder/PlacedText$Counter", name := "pass", desc := "([CIIIII)I" } : Jvm.MethodName) prog_122_method_6_code (13 : Nat) (Option.some Jvm.ClassFile.FieldType.int), Jvm.Cond.code ({ cls := "com/example/dodder/dodder/PlacedText$Counter", name := "line", desc := "()I" } : Jvm.MethodName) prog_122_method_2_code (1 : Nat) (Option.some Jvm.ClassFile.FieldType.int), Jvm.Cond.code ({ cls := "com/example/dodder/dodder/PlacedText$Counter", name := "column", desc := "()I" } : Jvm.MethodName) prog_122_method_3_code (1 : Nat) (Option.some Jvm.ClassFile.FieldType.int)]
set_option maxRecDepth 65536 in
theorem codes_eq : words1.filter isCode = codes1 := rfl
theorem w_codes : ∀ c ∈ words1.filter isCode, c.before args0 about1 = true := by
  rw [codes_eq]
  intro c hc
  simp only [codes1, List.mem_cons, List.not_mem_nil, or_false] at hc
  rcases hc with rfl | rfl | rfl | rfl | rfl | rfl | rfl | rfl | rfl
  · exact w_c0
  · exact w_c1
  · exact w_c2
  · exact w_c3
  · exact w_c4
  · exact w_c5
  · exact w_c6
  · exact w_c7
  · exact w_c8
set_option maxRecDepth 65536 in
theorem w_t1 : (words1.take 24).all (fun c => isCode c || c.before args0 about1) = true := by decide +kernel
set_option maxRecDepth 65536 in
theorem w_t2 : ((words1.drop 24).take 24).all (fun c => isCode c || c.before args0 about1) = true := by decide +kernel
set_option maxRecDepth 65536 in
theorem w_t3 : ((words1.drop 24).drop 24).all (fun c => isCode c || c.before args0 about1) = true := by decide +kernel
theorem w_tables : (allAtoms (Jvm.Cond.code x code maxLocals ret :: tables_1)).before args0 about1 = true := by
  rw [allAtoms_all]
  show words1.all (fun c => c.before args0 about1) = true
  refine all_split ?_ w_codes
  rw [← List.take_append_drop 24 words1, List.all_append, w_t1, ← List.take_append_drop 24 (words1.drop 24), List.all_append, w_t2, w_t3]
  rfl
set_option maxRecDepth 65536 in
theorem w_case : (Jvm.Cond.and given_1 narrow_1).before args0 about1 = true := by decide +kernel
theorem w_applies : (headSpec (Jvm.Cond.code x code maxLocals ret :: tables_1) room_1).applies x e0.platform about1 = true :=
  (Spec.applies_iff w_frames).mpr ⟨w_running, w_runnable, w_alone, w_named, w_hears, w_ripe, w_room, w_tables⟩
theorem atStart : AtStart classFile x code maxLocals ret World_1 tables_1 room_1 Calls_1 rest_1 Pre_1 launch0 p0 e0 about1 theMethod args0 below0 :=
  ⟨lists_1, trivial, launch0.admits_env _ _ _, launch0.least_env, fairChoices_fair.cas, fairChoices_fair.clock, w_frames, w_args, w_heap, w_applies, trivial, trivial, w_case⟩
end start1
theorem witness_1 : WitnessClaimed_1 := ⟨start1.p0, start1.e0, start1.about1, start1.theMethod, start1.args0, start1.below0, start1.atStart⟩
end Jvm.Pilot.@@N@@
