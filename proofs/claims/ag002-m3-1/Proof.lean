import JvmDerived
import JvmDerived.Pilot.@@N@@Statement
import JvmDerived.Pilot.@@N@@Code
set_option linter.unusedVariables false
set_option linter.unusedSimpArgs false
@@BLOCK:NumsL.lean.txt@@
namespace Jvm.Pilot.@@N@@
open Jvm Jvm.ClassFile Sem Op Lib Jvm.Free Jvm.Stand Jvm.LawKit Jvm.RoadKit Bundle Jvm.Pilot.@@N@@.Jvm.D
/-! ## own kit: one body's walk as a goal on the heap, the frame and the room alone -/
/-- what stays the same through one body's walk -/
def Cx (p : Program) (s : State) (m : MethodId) (meth : Method) (c : Code) (Z : State) (n0 : Nat) (own : String) (bc : ByteArray) (maxL : Nat) (ret : Option FieldType) (nm : String) : Prop :=
  p.tables.exec = Jvm.exec ∧ Z.Warmed39 s.vm ∧ s.vm.findClass own = some m.cls ∧ c.code = bc ∧ c.maxLocals = maxL ∧ meth.sig.returnType = ret ∧ meth.name = nm ∧ meth.locks = false ∧ n0 ≤ s.heap.size
/-- from every state with this heap at which the body stands: the run goes on from this frame to the end that F says -/
def Go (p : Program) (l : Launch) (e : Env) (R : Room) (s : State) (m : MethodId) (args : Array Value) (below : List Frame) (meth : Method) (c : Code) (n0 : Nat) (F : State → Outcome → Prop) (h : Heap) (k n pc : Nat) (Ls : Array Slot) (st : List Value) : Prop :=
  ∀ (T : State) (locs : List Loc), Stand p l e R s m args below meth c T locs k n → T.heap = h → Fr n0 locs →
    ∃ s₂ o, Steps p.tables e below (T.setTop (mkF m pc Ls st)) s₂ ∧ s₂.status = .running ∧ Ended s₂ below o ∧ F s₂ o
/-- the end of a body: it returned what Q says, wrote new cells alone -/
def FinQ (s : State) (n0 : Nat) (Q : Option Value → Heap → Prop) (ck cs : Nat) : State → Outcome → Prop := fun s₂ o => ∃ v L, o = .returned v ∧ (Q v s₂.heap ∧ Fr n0 L) ∧ FrameEnd s o s₂ L ck cs
/-- a body's contract at the heap h0 -/
def Con (l : Launch) (Z : State) (n0 : Nat) (ws : List Jvm.Cond) (y : MethodName) (bc : ByteArray) (maxL : Nat) (ret : Option FieldType) (R : Room) (as : Array Value) (h0 : Heap) (Q : Option Value → Heap → Prop) : Prop :=
  MetFree l y (head1 (Jvm.Cond.code y bc maxL ret :: ws) R) (fun a U => a = as ∧ Z.Warmed39 U.vm ∧ U.heap = h0) (fun _ _ _ _ _ => True) (fun _ U o U' => ∃ v L, o = .returned v ∧ (Q v U'.heap ∧ Fr n0 L) ∧ FrameEnd U o U' L R.cells R.slots)
/-- an array: its class, its values -/
def Av (Z : State) (h : Heap) (a : Addr) (ty : FieldType) (vs : List Value) : Prop := ∃ c : Cell, Arr Z h a c ty ∧ c.slots.toList = vs ∧ ∀ v ∈ vs, fits ty v = true
section Own
variable {p : Program} {l : Launch} {e : Env} {R : Room} {s : State} {m : MethodId} {args : Array Value} {below : List Frame} {meth : Method} {c : Code} {n0 : Nat} {F : State → Outcome → Prop} {h : Heap} {k n pc pc' : Nat} {Ls : Array Slot} {st : List Value} {Z : State} {own : String} {bc : ByteArray} {maxL : Nat} {ret : Option FieldType} {nm : String} {a0 : Array Value}
theorem tw {ws : List Jvm.Cond} (hw : ∀ d ∈ ws, d.before a0 Z = true) (i : Nat) {d : Jvm.Cond} (q : ws[i]? = some d) : d.before a0 Z = true := hw _ (List.mem_of_getElem? q)
theorem Av.lt {a : Addr} {ty : FieldType} {vs : List Value} (A : Av Z h a ty vs) : a < h.size := by obtain ⟨c, A, -⟩ := A; exact A.lt
theorem Av.ext {a : Addr} {ty : FieldType} {vs : List Value} {h' : Heap} (A : Av Z h a ty vs) (E : Ext h h') : Av Z h' a ty vs := by obtain ⟨c, A, q⟩ := A; exact ⟨c, A.ext E, q⟩
theorem Av.other {a b : Addr} {ty : FieldType} {vs : List Value} {h' : Heap} {sl : Nat} {v : Value} (A : Av Z h b ty vs) (W : Wr h h' a sl v) (q : b ≠ a) : Av Z h' b ty vs := by obtain ⟨c, A, r⟩ := A; exact ⟨c, A.other W q, r⟩
theorem Av.keep {a : Addr} {ty : FieldType} {vs : List Value} {h' : Heap} {ws : List Addr} (A : Av Z h a ty vs) (K : Keep h h' ws) (q : a ∉ ws) : Av Z h' a ty vs := by obtain ⟨c, A, r⟩ := A; exact ⟨c, ⟨K.2.1 a c A.1 q, A.2⟩, r⟩
theorem Av.same {a : Addr} {ty : FieldType} {vs : List Value} {h' : Heap} {j : Nat} {v : Value} (A : Av Z h a ty vs) (W : Wr h h' a j v) (hf : fits ty v = true) : Av Z h' a ty (vs.set j v) := by
  obtain ⟨c, A, rfl, r⟩ := A
  refine ⟨_, A.same W, by simp [Cell.setSlot], fun w hw => ?_⟩
  rcases List.mem_or_eq_of_mem_set hw with q | rfl
  · exact r w q
  · exact hf
theorem Av.fit {a : Addr} {ty : FieldType} {vs : List Value} {i : Nat} {v : Value} (A : Av Z h a ty vs) (q : vs[i]? = some v) : fits ty v = true := by obtain ⟨c, A, -, r⟩ := A; exact r v (List.mem_of_getElem? q)
theorem Av.new {a : Addr} {kc : ClassId} {ty : FieldType} {z : Int32} (A : Arr Z h a (newA kc ty z) ty) : Av Z h a ty (List.replicate z.toNatClampNeg (defaultValue ty)) :=
  ⟨_, A, by simp [newA], fun v hv => by rw [List.eq_of_mem_replicate hv]; cases ty <;> rfl⟩
theorem own_in {j : Int32} {cl : Cell} {v : Value} (hj : ¬ j < 0) (hv : cl.slots[j.toNatClampNeg]? = some v) : ¬ (j < 0 ∨ cl.slots.size ≤ j.toNatClampNeg) := fun q => q.elim hj fun q => absurd (Array.getElem?_eq_some_iff.mp hv).1 (Nat.not_lt.mpr q)
theorem own_in2 {j : Int32} {cl : Cell} (hj : ¬ j < 0) (hl : j.toNatClampNeg < cl.slots.size) : ¬ (j < 0 ∨ cl.slots.size ≤ j.toNatClampNeg) := fun q => q.elim hj fun q => absurd hl (Nat.not_lt.mpr q)
theorem Go.pl {Ls' : Array Slot} {st' : List Value} (q : ∀ (T : State) (locs : List Loc), Stand p l e R s m args below meth c T locs k n → T.heap = h → ∀ t, Steps p.tables e below (T.setTop (mkF m pc' Ls' st')) t → Steps p.tables e below (T.setTop (mkF m pc Ls st)) t) (hr : Go p l e R s m args below meth c n0 F h k n pc' Ls' st') : Go p l e R s m args below meth c n0 F h k n pc Ls st := fun T locs X eT N => by
  obtain ⟨s₂, o, h1, h2⟩ := hr T locs X eT N
  exact ⟨s₂, o, q T locs X eT _ h1, h2⟩
theorem Go.more {k' n' : Nat} (hr : Go p l e R s m args below meth c n0 F h k' n' pc Ls st) (h1 : k ≤ k') (h2 : n ≤ n') : Go p l e R s m args below meth c n0 F h k n pc Ls st := fun T locs X eT N => hr T locs (X.more h1 h2) eT N
theorem Cx.size (C : Cx p s m meth c Z n0 own bc maxL ret nm) {T : State} {locs : List Loc} (X : Stand p l e R s m args below meth c T locs k n) : n0 ≤ T.heap.size := Nat.le_trans C.2.2.2.2.2.2.2.2 X.same.2.1
theorem Cx.iloadN (C : Cx p s m meth c Z n0 own bc maxL ret nm) {j : Fin 4} {v : Int32} (hd : decode bc pc = .ok (.iload_n j, 1)) (hp : pc + 1 = pc') (hl : Ls[j.val]? = some (.val (.int v))) (hr : Go p l e R s m args below meth c n0 F h k n pc' Ls (.int v :: st)) : Go p l e R s m args below meth c n0 F h k n pc Ls (st) := by
  subst hp; exact Go.pl (fun T locs X eT t q => XS.iloadN X.here C.1 rfl (hb C.2.2.2.1 hd) hl q) hr
theorem Cx.iload (C : Cx p s m meth c Z n0 own bc maxL ret nm) {j : Nat} {v : Int32} (hd : decode bc pc = .ok (.iload j, 2)) (hp : pc + 2 = pc') (hl : Ls[j]? = some (.val (.int v))) (hr : Go p l e R s m args below meth c n0 F h k n pc' Ls (.int v :: st)) : Go p l e R s m args below meth c n0 F h k n pc Ls (st) := by
  subst hp; exact Go.pl (fun T locs X eT t q => XS.iload X.here C.1 rfl (hb C.2.2.2.1 hd) hl q) hr
theorem Cx.lloadN (C : Cx p s m meth c Z n0 own bc maxL ret nm) {j : Fin 4} {v : Int64} (hd : decode bc pc = .ok (.lload_n j, 1)) (hp : pc + 1 = pc') (hl : Ls[j.val]? = some (.val (.long v))) (hr : Go p l e R s m args below meth c n0 F h k n pc' Ls (.long v :: st)) : Go p l e R s m args below meth c n0 F h k n pc Ls (st) := by
  subst hp; exact Go.pl (fun T locs X eT t q => XT.lloadN X.here C.1 rfl (hb C.2.2.2.1 hd) hl q) hr
theorem Cx.lload (C : Cx p s m meth c Z n0 own bc maxL ret nm) {j : Nat} {v : Int64} (hd : decode bc pc = .ok (.lload j, 2)) (hp : pc + 2 = pc') (hl : Ls[j]? = some (.val (.long v))) (hr : Go p l e R s m args below meth c n0 F h k n pc' Ls (.long v :: st)) : Go p l e R s m args below meth c n0 F h k n pc Ls (st) := by
  subst hp; exact Go.pl (fun T locs X eT t q => XT.lload X.here C.1 rfl (hb C.2.2.2.1 hd) hl q) hr
theorem Cx.aloadN (C : Cx p s m meth c Z n0 own bc maxL ret nm) {j : Fin 4} {v : Value} (hd : decode bc pc = .ok (.aload_n j, 1)) (hp : pc + 1 = pc') (hl : Ls[j.val]? = some (.val v)) (hv : v.isRef = true) (hr : Go p l e R s m args below meth c n0 F h k n pc' Ls (v :: st)) : Go p l e R s m args below meth c n0 F h k n pc Ls (st) := by
  subst hp; exact Go.pl (fun T locs X eT t q => XS.aloadN X.here C.1 rfl (hb C.2.2.2.1 hd) hl hv q) hr
theorem Cx.aload (C : Cx p s m meth c Z n0 own bc maxL ret nm) {j : Nat} {v : Value} (hd : decode bc pc = .ok (.aload j, 2)) (hp : pc + 2 = pc') (hl : Ls[j]? = some (.val v)) (hv : v.isRef = true) (hr : Go p l e R s m args below meth c n0 F h k n pc' Ls (v :: st)) : Go p l e R s m args below meth c n0 F h k n pc Ls (st) := by
  subst hp; exact Go.pl (fun T locs X eT t q => XS.aload X.here C.1 rfl (hb C.2.2.2.1 hd) hl hv q) hr
theorem Cx.istoreN (C : Cx p s m meth c Z n0 own bc maxL ret nm) {j : Fin 4} {v : Int32} {Ls' : Array Slot} (hd : decode bc pc = .ok (.istore_n j, 1)) (hp : pc + 1 = pc') (hl : storeLocals Ls j.val (.int v) = some Ls') (hr : Go p l e R s m args below meth c n0 F h k n pc' Ls' (st)) : Go p l e R s m args below meth c n0 F h k n pc Ls (.int v :: st) := by
  subst hp; exact Go.pl (fun T locs X eT t q => XS.istoreN X.here C.1 rfl (hb C.2.2.2.1 hd) rfl hl q) hr
theorem Cx.istore (C : Cx p s m meth c Z n0 own bc maxL ret nm) {j : Nat} {v : Int32} {Ls' : Array Slot} (hd : decode bc pc = .ok (.istore j, 2)) (hp : pc + 2 = pc') (hl : storeLocals Ls j (.int v) = some Ls') (hr : Go p l e R s m args below meth c n0 F h k n pc' Ls' (st)) : Go p l e R s m args below meth c n0 F h k n pc Ls (.int v :: st) := by
  subst hp; exact Go.pl (fun T locs X eT t q => XS.istore X.here C.1 rfl (hb C.2.2.2.1 hd) rfl hl q) hr
theorem Cx.lstoreN (C : Cx p s m meth c Z n0 own bc maxL ret nm) {j : Fin 4} {v : Int64} {Ls' : Array Slot} (hd : decode bc pc = .ok (.lstore_n j, 1)) (hp : pc + 1 = pc') (hl : storeLocals Ls j.val (.long v) = some Ls') (hr : Go p l e R s m args below meth c n0 F h k n pc' Ls' (st)) : Go p l e R s m args below meth c n0 F h k n pc Ls (.long v :: st) := by
  subst hp; exact Go.pl (fun T locs X eT t q => XT.lstoreN X.here C.1 rfl (hb C.2.2.2.1 hd) rfl hl q) hr
theorem Cx.lstore (C : Cx p s m meth c Z n0 own bc maxL ret nm) {j : Nat} {v : Int64} {Ls' : Array Slot} (hd : decode bc pc = .ok (.lstore j, 2)) (hp : pc + 2 = pc') (hl : storeLocals Ls j (.long v) = some Ls') (hr : Go p l e R s m args below meth c n0 F h k n pc' Ls' (st)) : Go p l e R s m args below meth c n0 F h k n pc Ls (.long v :: st) := by
  subst hp; exact Go.pl (fun T locs X eT t q => XT.lstore X.here C.1 rfl (hb C.2.2.2.1 hd) rfl hl q) hr
theorem Cx.astoreN (C : Cx p s m meth c Z n0 own bc maxL ret nm) {j : Fin 4} {v : Value} {Ls' : Array Slot} (hd : decode bc pc = .ok (.astore_n j, 1)) (hp : pc + 1 = pc') (hv : v.isRef = true) (hl : storeLocals Ls j.val v = some Ls') (hr : Go p l e R s m args below meth c n0 F h k n pc' Ls' (st)) : Go p l e R s m args below meth c n0 F h k n pc Ls (v :: st) := by
  subst hp; exact Go.pl (fun T locs X eT t q => XS.astoreN X.here C.1 rfl (hb C.2.2.2.1 hd) rfl hv hl q) hr
theorem Cx.astore (C : Cx p s m meth c Z n0 own bc maxL ret nm) {j : Nat} {v : Value} {Ls' : Array Slot} (hd : decode bc pc = .ok (.astore j, 2)) (hp : pc + 2 = pc') (hv : v.isRef = true) (hl : storeLocals Ls j v = some Ls') (hr : Go p l e R s m args below meth c n0 F h k n pc' Ls' (st)) : Go p l e R s m args below meth c n0 F h k n pc Ls (v :: st) := by
  subst hp; exact Go.pl (fun T locs X eT t q => XS.astore X.here C.1 rfl (hb C.2.2.2.1 hd) rfl hv hl q) hr
theorem Cx.iconst (C : Cx p s m meth c Z n0 own bc maxL ret nm) {i : Int} (v : Int32) (hd : decode bc pc = .ok (.iconst i, 1)) (hp : pc + 1 = pc') (hv : Int32.ofInt i = v) (hr : Go p l e R s m args below meth c n0 F h k n pc' Ls (.int v :: st)) : Go p l e R s m args below meth c n0 F h k n pc Ls st := by
  subst hp hv; exact Go.pl (fun T locs X eT t q => XS.iconst X.here C.1 rfl (hb C.2.2.2.1 hd) q) hr
theorem Cx.bipush (C : Cx p s m meth c Z n0 own bc maxL ret nm) {i : Int} (v : Int32) (hd : decode bc pc = .ok (.bipush i, 2)) (hp : pc + 2 = pc') (hv : (Int8.ofInt i).toInt32 = v) (hr : Go p l e R s m args below meth c n0 F h k n pc' Ls (.int v :: st)) : Go p l e R s m args below meth c n0 F h k n pc Ls st := by
  subst hp hv; exact Go.pl (fun T locs X eT t q => XS.bipush X.here C.1 rfl (hb C.2.2.2.1 hd) q) hr
theorem Cx.sipush (C : Cx p s m meth c Z n0 own bc maxL ret nm) {i : Int} (v : Int32) (hd : decode bc pc = .ok (.sipush i, 3)) (hp : pc + 3 = pc') (hv : (Int16.ofInt i).toInt32 = v) (hr : Go p l e R s m args below meth c n0 F h k n pc' Ls (.int v :: st)) : Go p l e R s m args below meth c n0 F h k n pc Ls st := by
  subst hp hv; exact Go.pl (fun T locs X eT t q => XS.sipush X.here C.1 rfl (hb C.2.2.2.1 hd) q) hr
theorem Cx.lconst (C : Cx p s m meth c Z n0 own bc maxL ret nm) {i : Fin 2} (v : Int64) (hd : decode bc pc = .ok (.lconst i, 1)) (hp : pc + 1 = pc') (hv : Int64.ofNat i = v) (hr : Go p l e R s m args below meth c n0 F h k n pc' Ls (.long v :: st)) : Go p l e R s m args below meth c n0 F h k n pc Ls st := by
  subst hp hv; exact Go.pl (fun T locs X eT t q => XT.lconst X.here C.1 rfl (hb C.2.2.2.1 hd) q) hr
theorem Cx.aconst_null (C : Cx p s m meth c Z n0 own bc maxL ret nm)  (hd : decode bc pc = .ok (.aconst_null, 1)) (hp : pc + 1 = pc')  (hr : Go p l e R s m args below meth c n0 F h k n pc' Ls (.null :: st)) : Go p l e R s m args below meth c n0 F h k n pc Ls (st) := by
  subst hp; exact Go.pl (fun T locs X eT t q => XS.aconstNull X.here C.1 rfl (hb C.2.2.2.1 hd)  q) hr
theorem Cx.iadd (C : Cx p s m meth c Z n0 own bc maxL ret nm) {x y : Int32} (hd : decode bc pc = .ok (.iadd, 1)) (hp : pc + 1 = pc')  (hr : Go p l e R s m args below meth c n0 F h k n pc' Ls (.int (x + y) :: st)) : Go p l e R s m args below meth c n0 F h k n pc Ls (.int y :: .int x :: st) := by
  subst hp; exact Go.pl (fun T locs X eT t q => XS.iadd X.here C.1 rfl (hb C.2.2.2.1 hd) rfl q) hr
theorem Cx.isub (C : Cx p s m meth c Z n0 own bc maxL ret nm) {x y : Int32} (hd : decode bc pc = .ok (.isub, 1)) (hp : pc + 1 = pc')  (hr : Go p l e R s m args below meth c n0 F h k n pc' Ls (.int (x - y) :: st)) : Go p l e R s m args below meth c n0 F h k n pc Ls (.int y :: .int x :: st) := by
  subst hp; exact Go.pl (fun T locs X eT t q => XS.isub X.here C.1 rfl (hb C.2.2.2.1 hd) rfl q) hr
theorem Cx.imul (C : Cx p s m meth c Z n0 own bc maxL ret nm) {x y : Int32} (hd : decode bc pc = .ok (.imul, 1)) (hp : pc + 1 = pc')  (hr : Go p l e R s m args below meth c n0 F h k n pc' Ls (.int (x * y) :: st)) : Go p l e R s m args below meth c n0 F h k n pc Ls (.int y :: .int x :: st) := by
  subst hp; exact Go.pl (fun T locs X eT t q => XS.imul X.here C.1 rfl (hb C.2.2.2.1 hd) rfl q) hr
theorem Cx.iand (C : Cx p s m meth c Z n0 own bc maxL ret nm) {x y : Int32} (hd : decode bc pc = .ok (.iand, 1)) (hp : pc + 1 = pc')  (hr : Go p l e R s m args below meth c n0 F h k n pc' Ls (.int (x &&& y) :: st)) : Go p l e R s m args below meth c n0 F h k n pc Ls (.int y :: .int x :: st) := by
  subst hp; exact Go.pl (fun T locs X eT t q => XS.iand X.here C.1 rfl (hb C.2.2.2.1 hd) rfl q) hr
theorem Cx.ixor (C : Cx p s m meth c Z n0 own bc maxL ret nm) {x y : Int32} (hd : decode bc pc = .ok (.ixor, 1)) (hp : pc + 1 = pc')  (hr : Go p l e R s m args below meth c n0 F h k n pc' Ls (.int (x ^^^ y) :: st)) : Go p l e R s m args below meth c n0 F h k n pc Ls (.int y :: .int x :: st) := by
  subst hp; exact Go.pl (fun T locs X eT t q => XT.ixor X.here C.1 rfl (hb C.2.2.2.1 hd) rfl q) hr
theorem Cx.ior (C : Cx p s m meth c Z n0 own bc maxL ret nm) {x y : Int32} (hd : decode bc pc = .ok (.ior, 1)) (hp : pc + 1 = pc')  (hr : Go p l e R s m args below meth c n0 F h k n pc' Ls (.int (x ||| y) :: st)) : Go p l e R s m args below meth c n0 F h k n pc Ls (.int y :: .int x :: st) := by
  subst hp; exact Go.pl (fun T locs X eT t q => XT.ior X.here C.1 rfl (hb C.2.2.2.1 hd) rfl q) hr
theorem Cx.ishl (C : Cx p s m meth c Z n0 own bc maxL ret nm) {x y : Int32} (hd : decode bc pc = .ok (.ishl, 1)) (hp : pc + 1 = pc')  (hr : Go p l e R s m args below meth c n0 F h k n pc' Ls (.int (x <<< (y &&& 31)) :: st)) : Go p l e R s m args below meth c n0 F h k n pc Ls (.int y :: .int x :: st) := by
  subst hp; exact Go.pl (fun T locs X eT t q => XT.ishl X.here C.1 rfl (hb C.2.2.2.1 hd) rfl q) hr
theorem Cx.ishr (C : Cx p s m meth c Z n0 own bc maxL ret nm) {x y : Int32} (hd : decode bc pc = .ok (.ishr, 1)) (hp : pc + 1 = pc')  (hr : Go p l e R s m args below meth c n0 F h k n pc' Ls (.int (x >>> (y &&& 31)) :: st)) : Go p l e R s m args below meth c n0 F h k n pc Ls (.int y :: .int x :: st) := by
  subst hp; exact Go.pl (fun T locs X eT t q => XT.ishr X.here C.1 rfl (hb C.2.2.2.1 hd) rfl q) hr
theorem Cx.iushr (C : Cx p s m meth c Z n0 own bc maxL ret nm) {x y : Int32} (hd : decode bc pc = .ok (.iushr, 1)) (hp : pc + 1 = pc')  (hr : Go p l e R s m args below meth c n0 F h k n pc' Ls (.int (XT.ushr x y) :: st)) : Go p l e R s m args below meth c n0 F h k n pc Ls (.int y :: .int x :: st) := by
  subst hp; exact Go.pl (fun T locs X eT t q => XT.iushr X.here C.1 rfl (hb C.2.2.2.1 hd) rfl q) hr
theorem Cx.idiv (C : Cx p s m meth c Z n0 own bc maxL ret nm) {x y : Int32} (hd : decode bc pc = .ok (.idiv, 1)) (hp : pc + 1 = pc') (hy : y ≠ 0) (hr : Go p l e R s m args below meth c n0 F h k n pc' Ls (.int (x / y) :: st)) : Go p l e R s m args below meth c n0 F h k n pc Ls (.int y :: .int x :: st) := by
  subst hp; exact Go.pl (fun T locs X eT t q => XS.idiv X.here C.1 rfl (hb C.2.2.2.1 hd) rfl hy q) hr
theorem Cx.irem (C : Cx p s m meth c Z n0 own bc maxL ret nm) {x y : Int32} (hd : decode bc pc = .ok (.irem, 1)) (hp : pc + 1 = pc') (hy : y ≠ 0) (hr : Go p l e R s m args below meth c n0 F h k n pc' Ls (.int (x % y) :: st)) : Go p l e R s m args below meth c n0 F h k n pc Ls (.int y :: .int x :: st) := by
  subst hp; exact Go.pl (fun T locs X eT t q => iremM X C.1 rfl (hb C.2.2.2.1 hd) rfl hy q) hr
theorem Cx.ineg (C : Cx p s m meth c Z n0 own bc maxL ret nm) {x : Int32} (hd : decode bc pc = .ok (.ineg, 1)) (hp : pc + 1 = pc')  (hr : Go p l e R s m args below meth c n0 F h k n pc' Ls (.int (-x) :: st)) : Go p l e R s m args below meth c n0 F h k n pc Ls (.int x :: st) := by
  subst hp; exact Go.pl (fun T locs X eT t q => XS.ineg X.here C.1 rfl (hb C.2.2.2.1 hd) rfl q) hr
theorem Cx.ladd (C : Cx p s m meth c Z n0 own bc maxL ret nm) {x y : Int64} (hd : decode bc pc = .ok (.ladd, 1)) (hp : pc + 1 = pc')  (hr : Go p l e R s m args below meth c n0 F h k n pc' Ls (.long (x + y) :: st)) : Go p l e R s m args below meth c n0 F h k n pc Ls (.long y :: .long x :: st) := by
  subst hp; exact Go.pl (fun T locs X eT t q => XT.ladd X.here C.1 rfl (hb C.2.2.2.1 hd) rfl q) hr
theorem Cx.lsub (C : Cx p s m meth c Z n0 own bc maxL ret nm) {x y : Int64} (hd : decode bc pc = .ok (.lsub, 1)) (hp : pc + 1 = pc')  (hr : Go p l e R s m args below meth c n0 F h k n pc' Ls (.long (x - y) :: st)) : Go p l e R s m args below meth c n0 F h k n pc Ls (.long y :: .long x :: st) := by
  subst hp; exact Go.pl (fun T locs X eT t q => XT.lsub X.here C.1 rfl (hb C.2.2.2.1 hd) rfl q) hr
theorem Cx.lmul (C : Cx p s m meth c Z n0 own bc maxL ret nm) {x y : Int64} (hd : decode bc pc = .ok (.lmul, 1)) (hp : pc + 1 = pc')  (hr : Go p l e R s m args below meth c n0 F h k n pc' Ls (.long (x * y) :: st)) : Go p l e R s m args below meth c n0 F h k n pc Ls (.long y :: .long x :: st) := by
  subst hp; exact Go.pl (fun T locs X eT t q => XT.lmul X.here C.1 rfl (hb C.2.2.2.1 hd) rfl q) hr
theorem Cx.land (C : Cx p s m meth c Z n0 own bc maxL ret nm) {x y : Int64} (hd : decode bc pc = .ok (.land, 1)) (hp : pc + 1 = pc')  (hr : Go p l e R s m args below meth c n0 F h k n pc' Ls (.long (x &&& y) :: st)) : Go p l e R s m args below meth c n0 F h k n pc Ls (.long y :: .long x :: st) := by
  subst hp; exact Go.pl (fun T locs X eT t q => XT.land X.here C.1 rfl (hb C.2.2.2.1 hd) rfl q) hr
theorem Cx.lor (C : Cx p s m meth c Z n0 own bc maxL ret nm) {x y : Int64} (hd : decode bc pc = .ok (.lor, 1)) (hp : pc + 1 = pc')  (hr : Go p l e R s m args below meth c n0 F h k n pc' Ls (.long (x ||| y) :: st)) : Go p l e R s m args below meth c n0 F h k n pc Ls (.long y :: .long x :: st) := by
  subst hp; exact Go.pl (fun T locs X eT t q => XT.lor X.here C.1 rfl (hb C.2.2.2.1 hd) rfl q) hr
theorem Cx.lxor (C : Cx p s m meth c Z n0 own bc maxL ret nm) {x y : Int64} (hd : decode bc pc = .ok (.lxor, 1)) (hp : pc + 1 = pc')  (hr : Go p l e R s m args below meth c n0 F h k n pc' Ls (.long (x ^^^ y) :: st)) : Go p l e R s m args below meth c n0 F h k n pc Ls (.long y :: .long x :: st) := by
  subst hp; exact Go.pl (fun T locs X eT t q => XT.lxor X.here C.1 rfl (hb C.2.2.2.1 hd) rfl q) hr
theorem Cx.ldiv (C : Cx p s m meth c Z n0 own bc maxL ret nm) {x y : Int64} (hd : decode bc pc = .ok (.ldiv, 1)) (hp : pc + 1 = pc') (hy : y ≠ 0) (hr : Go p l e R s m args below meth c n0 F h k n pc' Ls (.long (x / y) :: st)) : Go p l e R s m args below meth c n0 F h k n pc Ls (.long y :: .long x :: st) := by
  subst hp; exact Go.pl (fun T locs X eT t q => XT.ldiv X.here C.1 rfl (hb C.2.2.2.1 hd) rfl hy q) hr
theorem Cx.lrem (C : Cx p s m meth c Z n0 own bc maxL ret nm) {x y : Int64} (hd : decode bc pc = .ok (.lrem, 1)) (hp : pc + 1 = pc') (hy : y ≠ 0) (hr : Go p l e R s m args below meth c n0 F h k n pc' Ls (.long (x - (x / y) * y) :: st)) : Go p l e R s m args below meth c n0 F h k n pc Ls (.long y :: .long x :: st) := by
  subst hp; exact Go.pl (fun T locs X eT t q => XT.lrem X.here C.1 rfl (hb C.2.2.2.1 hd) rfl hy q) hr
theorem Cx.lshl (C : Cx p s m meth c Z n0 own bc maxL ret nm) {x : Int64} {y : Int32} (hd : decode bc pc = .ok (.lshl, 1)) (hp : pc + 1 = pc')  (hr : Go p l e R s m args below meth c n0 F h k n pc' Ls (.long (x <<< (y.toInt64 &&& 63)) :: st)) : Go p l e R s m args below meth c n0 F h k n pc Ls (.int y :: .long x :: st) := by
  subst hp; exact Go.pl (fun T locs X eT t q => XT.lshl X.here C.1 rfl (hb C.2.2.2.1 hd) rfl q) hr
theorem Cx.lshr (C : Cx p s m meth c Z n0 own bc maxL ret nm) {x : Int64} {y : Int32} (hd : decode bc pc = .ok (.lshr, 1)) (hp : pc + 1 = pc')  (hr : Go p l e R s m args below meth c n0 F h k n pc' Ls (.long (x >>> (y.toInt64 &&& 63)) :: st)) : Go p l e R s m args below meth c n0 F h k n pc Ls (.int y :: .long x :: st) := by
  subst hp; exact Go.pl (fun T locs X eT t q => XT.lshr X.here C.1 rfl (hb C.2.2.2.1 hd) rfl q) hr
theorem Cx.lushr (C : Cx p s m meth c Z n0 own bc maxL ret nm) {x : Int64} {y : Int32} (hd : decode bc pc = .ok (.lushr, 1)) (hp : pc + 1 = pc')  (hr : Go p l e R s m args below meth c n0 F h k n pc' Ls (.long (XT.ushrL x y) :: st)) : Go p l e R s m args below meth c n0 F h k n pc Ls (.int y :: .long x :: st) := by
  subst hp; exact Go.pl (fun T locs X eT t q => XT.lushr X.here C.1 rfl (hb C.2.2.2.1 hd) rfl q) hr
theorem Cx.lneg (C : Cx p s m meth c Z n0 own bc maxL ret nm) {x : Int64} (hd : decode bc pc = .ok (.lneg, 1)) (hp : pc + 1 = pc')  (hr : Go p l e R s m args below meth c n0 F h k n pc' Ls (.long (-x) :: st)) : Go p l e R s m args below meth c n0 F h k n pc Ls (.long x :: st) := by
  subst hp; exact Go.pl (fun T locs X eT t q => XT.lneg X.here C.1 rfl (hb C.2.2.2.1 hd) rfl q) hr
theorem Cx.i2l (C : Cx p s m meth c Z n0 own bc maxL ret nm) {x : Int32} (hd : decode bc pc = .ok (.i2l, 1)) (hp : pc + 1 = pc')  (hr : Go p l e R s m args below meth c n0 F h k n pc' Ls (.long x.toInt64 :: st)) : Go p l e R s m args below meth c n0 F h k n pc Ls (.int x :: st) := by
  subst hp; exact Go.pl (fun T locs X eT t q => XT.i2l X.here C.1 rfl (hb C.2.2.2.1 hd) rfl q) hr
theorem Cx.l2i (C : Cx p s m meth c Z n0 own bc maxL ret nm) {x : Int64} (hd : decode bc pc = .ok (.l2i, 1)) (hp : pc + 1 = pc')  (hr : Go p l e R s m args below meth c n0 F h k n pc' Ls (.int x.toInt32 :: st)) : Go p l e R s m args below meth c n0 F h k n pc Ls (.long x :: st) := by
  subst hp; exact Go.pl (fun T locs X eT t q => XT.l2i X.here C.1 rfl (hb C.2.2.2.1 hd) rfl q) hr
theorem Cx.i2b (C : Cx p s m meth c Z n0 own bc maxL ret nm) {x : Int32} (hd : decode bc pc = .ok (.i2b, 1)) (hp : pc + 1 = pc')  (hr : Go p l e R s m args below meth c n0 F h k n pc' Ls (.int x.toInt8.toInt32 :: st)) : Go p l e R s m args below meth c n0 F h k n pc Ls (.int x :: st) := by
  subst hp; exact Go.pl (fun T locs X eT t q => XT.i2b X.here C.1 rfl (hb C.2.2.2.1 hd) rfl q) hr
theorem Cx.i2c (C : Cx p s m meth c Z n0 own bc maxL ret nm) {x : Int32} (hd : decode bc pc = .ok (.i2c, 1)) (hp : pc + 1 = pc')  (hr : Go p l e R s m args below meth c n0 F h k n pc' Ls (.int x.toUInt32.toUInt16.toUInt32.toInt32 :: st)) : Go p l e R s m args below meth c n0 F h k n pc Ls (.int x :: st) := by
  subst hp; exact Go.pl (fun T locs X eT t q => XT.i2c X.here C.1 rfl (hb C.2.2.2.1 hd) rfl q) hr
theorem Cx.lcmp (C : Cx p s m meth c Z n0 own bc maxL ret nm) {x y : Int64} (hd : decode bc pc = .ok (.lcmp, 1)) (hp : pc + 1 = pc')  (hr : Go p l e R s m args below meth c n0 F h k n pc' Ls (.int (XT.cmpL x y) :: st)) : Go p l e R s m args below meth c n0 F h k n pc Ls (.long y :: .long x :: st) := by
  subst hp; exact Go.pl (fun T locs X eT t q => XT.lcmp X.here C.1 rfl (hb C.2.2.2.1 hd) rfl q) hr
theorem Cx.iinc (C : Cx p s m meth c Z n0 own bc maxL ret nm) {j : Nat} {i : Int} {x : Int32} {Ls' : Array Slot} (v : Int32) (hd : decode bc pc = .ok (.iinc j i, 3)) (hp : pc + 3 = pc') (hv : Int32.ofInt i = v) (hl : Ls[j]? = some (.val (.int x))) (hl' : storeLocals Ls j (.int (x + v)) = some Ls') (hr : Go p l e R s m args below meth c n0 F h k n pc' Ls' st) : Go p l e R s m args below meth c n0 F h k n pc Ls st := by
  subst hp hv; exact Go.pl (fun T locs X eT t q => XS.iinc X.here C.1 rfl (hb C.2.2.2.1 hd) hl hl' q) hr
theorem Cx.dup (C : Cx p s m meth c Z n0 own bc maxL ret nm) {x : Value} (hd : decode bc pc = .ok (.dup, 1)) (hp : pc + 1 = pc') (hc : x.category = 1) (hr : Go p l e R s m args below meth c n0 F h k n pc' Ls (x :: x :: st)) : Go p l e R s m args below meth c n0 F h k n pc Ls (x :: st) := by
  subst hp; exact Go.pl (fun T locs X eT t q => XS.dup X.here C.1 rfl (hb C.2.2.2.1 hd) rfl hc q) hr
theorem Cx.pop (C : Cx p s m meth c Z n0 own bc maxL ret nm) {x : Value} (hd : decode bc pc = .ok (.pop, 1)) (hp : pc + 1 = pc') (hc : x.category = 1) (hr : Go p l e R s m args below meth c n0 F h k n pc' Ls (st)) : Go p l e R s m args below meth c n0 F h k n pc Ls (x :: st) := by
  subst hp; exact Go.pl (fun T locs X eT t q => XT.pop X.here C.1 rfl (hb C.2.2.2.1 hd) rfl hc q) hr
theorem Cx.dupX1 (C : Cx p s m meth c Z n0 own bc maxL ret nm) {x y : Value} (hd : decode bc pc = .ok (.dup_x1, 1)) (hp : pc + 1 = pc') (hc : x.category = 1) (hc' : y.category = 1) (hr : Go p l e R s m args below meth c n0 F h k n pc' Ls (x :: y :: x :: st)) : Go p l e R s m args below meth c n0 F h k n pc Ls (x :: y :: st) := by
  subst hp; exact Go.pl (fun T locs X eT t q => XT.dupX1 X.here C.1 rfl (hb C.2.2.2.1 hd) rfl hc hc' q) hr
theorem Cx.dup2 (C : Cx p s m meth c Z n0 own bc maxL ret nm) {x y : Value} (hd : decode bc pc = .ok (.dup2, 1)) (hp : pc + 1 = pc') (hc : x.category = 1) (hc' : y.category = 1) (hr : Go p l e R s m args below meth c n0 F h k n pc' Ls (x :: y :: x :: y :: st)) : Go p l e R s m args below meth c n0 F h k n pc Ls (x :: y :: st) := by
  subst hp; exact Go.pl (fun T locs X eT t q => XT.dup2 X.here C.1 rfl (hb C.2.2.2.1 hd) rfl hc hc' q) hr
theorem Cx.dup2L (C : Cx p s m meth c Z n0 own bc maxL ret nm) {x : Int64} (hd : decode bc pc = .ok (.dup2, 1)) (hp : pc + 1 = pc')  (hr : Go p l e R s m args below meth c n0 F h k n pc' Ls (.long x :: .long x :: st)) : Go p l e R s m args below meth c n0 F h k n pc Ls (.long x :: st) := by
  subst hp; exact Go.pl (fun T locs X eT t q => XT.dup2L X.here C.1 rfl (hb C.2.2.2.1 hd) rfl q) hr
theorem Cx.goto (C : Cx p s m meth c Z n0 own bc maxL ret nm) {o : Int} (hd : decode bc pc = .ok (.goto o, 3)) (ho : 0 ≤ (pc : Int) + o) (hp : ((pc : Int) + o).toNat = pc') (hr : Go p l e R s m args below meth c n0 F h k n pc' Ls st) : Go p l e R s m args below meth c n0 F h k n pc Ls st := by
  exact Go.pl (fun T locs X eT t q => XS.goto X.here C.1 rfl rfl (hb C.2.2.2.1 hd) ho hp q) hr
theorem Cx.if_eq_t (C : Cx p s m meth c Z n0 own bc maxL ret nm) {x : Int32} {o : Int} (hd : decode bc pc = .ok (.ifCond .eq o, 3)) (ho : 0 ≤ (pc : Int) + o) (hp : ((pc : Int) + o).toNat = pc') (hq : x = 0) (hr : Go p l e R s m args below meth c n0 F h k n pc' Ls st) : Go p l e R s m args below meth c n0 F h k n pc Ls (.int x :: st) :=
  Go.pl (fun T locs X eT t q => XS.ifYes X.here C.1 rfl rfl (hb C.2.2.2.1 hd) rfl (XT.i0_eq_t hq) ho hp q) hr
theorem Cx.if_eq_f (C : Cx p s m meth c Z n0 own bc maxL ret nm) {x : Int32} {o : Int} (hd : decode bc pc = .ok (.ifCond .eq o, 3)) (hp : pc + 3 = pc') (hq : ¬ x = 0) (hr : Go p l e R s m args below meth c n0 F h k n pc' Ls st) : Go p l e R s m args below meth c n0 F h k n pc Ls (.int x :: st) := by
  subst hp; exact Go.pl (fun T locs X eT t q => XS.ifNo X.here C.1 rfl (hb C.2.2.2.1 hd) rfl (XT.i0_eq_f hq) q) hr
theorem Cx.if_eq (C : Cx p s m meth c Z n0 own bc maxL ret nm) {x : Int32} {o : Int} {pc'' : Nat} (hd : decode bc pc = .ok (.ifCond .eq o, 3)) (ho : 0 ≤ (pc : Int) + o) (hp : ((pc : Int) + o).toNat = pc') (hp' : pc + 3 = pc'') (hy : x = 0 → Go p l e R s m args below meth c n0 F h k n pc' Ls st) (hn : ¬ x = 0 → Go p l e R s m args below meth c n0 F h k n pc'' Ls st) : Go p l e R s m args below meth c n0 F h k n pc Ls (.int x :: st) := by
  by_cases q : x = 0
  · exact C.if_eq_t hd ho hp q (hy q)
  · exact C.if_eq_f hd hp' q (hn q)
theorem Cx.icmp_eq_t (C : Cx p s m meth c Z n0 own bc maxL ret nm) {x y : Int32} {o : Int} (hd : decode bc pc = .ok (.if_icmp .eq o, 3)) (ho : 0 ≤ (pc : Int) + o) (hp : ((pc : Int) + o).toNat = pc') (hq : x = y) (hr : Go p l e R s m args below meth c n0 F h k n pc' Ls st) : Go p l e R s m args below meth c n0 F h k n pc Ls (.int y :: .int x :: st) :=
  Go.pl (fun T locs X eT t q => XS.icmpYes X.here C.1 rfl rfl (hb C.2.2.2.1 hd) rfl (XT.ii_eq_t hq) ho hp q) hr
theorem Cx.icmp_eq_f (C : Cx p s m meth c Z n0 own bc maxL ret nm) {x y : Int32} {o : Int} (hd : decode bc pc = .ok (.if_icmp .eq o, 3)) (hp : pc + 3 = pc') (hq : ¬ x = y) (hr : Go p l e R s m args below meth c n0 F h k n pc' Ls st) : Go p l e R s m args below meth c n0 F h k n pc Ls (.int y :: .int x :: st) := by
  subst hp; exact Go.pl (fun T locs X eT t q => XS.icmpNo X.here C.1 rfl (hb C.2.2.2.1 hd) rfl (XT.ii_eq_f hq) q) hr
theorem Cx.icmp_eq (C : Cx p s m meth c Z n0 own bc maxL ret nm) {x y : Int32} {o : Int} {pc'' : Nat} (hd : decode bc pc = .ok (.if_icmp .eq o, 3)) (ho : 0 ≤ (pc : Int) + o) (hp : ((pc : Int) + o).toNat = pc') (hp' : pc + 3 = pc'') (hy : x = y → Go p l e R s m args below meth c n0 F h k n pc' Ls st) (hn : ¬ x = y → Go p l e R s m args below meth c n0 F h k n pc'' Ls st) : Go p l e R s m args below meth c n0 F h k n pc Ls (.int y :: .int x :: st) := by
  by_cases q : x = y
  · exact C.icmp_eq_t hd ho hp q (hy q)
  · exact C.icmp_eq_f hd hp' q (hn q)
theorem Cx.lif_eq_t (C : Cx p s m meth c Z n0 own bc maxL ret nm) {x y : Int64} {o : Int} (hd : decode bc pc = .ok (.ifCond .eq o, 3)) (ho : 0 ≤ (pc : Int) + o) (hp : ((pc : Int) + o).toNat = pc') (hq : x = y) (hr : Go p l e R s m args below meth c n0 F h k n pc' Ls st) : Go p l e R s m args below meth c n0 F h k n pc Ls (.int (XT.cmpL x y) :: st) :=
  Go.pl (fun T locs X eT t q => XS.ifYes X.here C.1 rfl rfl (hb C.2.2.2.1 hd) rfl (XT.ll_eq_t hq) ho hp q) hr
theorem Cx.lif_eq_f (C : Cx p s m meth c Z n0 own bc maxL ret nm) {x y : Int64} {o : Int} (hd : decode bc pc = .ok (.ifCond .eq o, 3)) (hp : pc + 3 = pc') (hq : ¬ x = y) (hr : Go p l e R s m args below meth c n0 F h k n pc' Ls st) : Go p l e R s m args below meth c n0 F h k n pc Ls (.int (XT.cmpL x y) :: st) := by
  subst hp; exact Go.pl (fun T locs X eT t q => XS.ifNo X.here C.1 rfl (hb C.2.2.2.1 hd) rfl (XT.ll_eq_f hq) q) hr
theorem Cx.lif_eq (C : Cx p s m meth c Z n0 own bc maxL ret nm) {x y : Int64} {o : Int} {pc'' : Nat} (hd : decode bc pc = .ok (.ifCond .eq o, 3)) (ho : 0 ≤ (pc : Int) + o) (hp : ((pc : Int) + o).toNat = pc') (hp' : pc + 3 = pc'') (hy : x = y → Go p l e R s m args below meth c n0 F h k n pc' Ls st) (hn : ¬ x = y → Go p l e R s m args below meth c n0 F h k n pc'' Ls st) : Go p l e R s m args below meth c n0 F h k n pc Ls (.int (XT.cmpL x y) :: st) := by
  by_cases q : x = y
  · exact C.lif_eq_t hd ho hp q (hy q)
  · exact C.lif_eq_f hd hp' q (hn q)
theorem Cx.if_ne_t (C : Cx p s m meth c Z n0 own bc maxL ret nm) {x : Int32} {o : Int} (hd : decode bc pc = .ok (.ifCond .ne o, 3)) (ho : 0 ≤ (pc : Int) + o) (hp : ((pc : Int) + o).toNat = pc') (hq : ¬ x = 0) (hr : Go p l e R s m args below meth c n0 F h k n pc' Ls st) : Go p l e R s m args below meth c n0 F h k n pc Ls (.int x :: st) :=
  Go.pl (fun T locs X eT t q => XS.ifYes X.here C.1 rfl rfl (hb C.2.2.2.1 hd) rfl (XT.i0_ne_t hq) ho hp q) hr
theorem Cx.if_ne_f (C : Cx p s m meth c Z n0 own bc maxL ret nm) {x : Int32} {o : Int} (hd : decode bc pc = .ok (.ifCond .ne o, 3)) (hp : pc + 3 = pc') (hq : x = 0) (hr : Go p l e R s m args below meth c n0 F h k n pc' Ls st) : Go p l e R s m args below meth c n0 F h k n pc Ls (.int x :: st) := by
  subst hp; exact Go.pl (fun T locs X eT t q => XS.ifNo X.here C.1 rfl (hb C.2.2.2.1 hd) rfl (XT.i0_ne_f hq) q) hr
theorem Cx.if_ne (C : Cx p s m meth c Z n0 own bc maxL ret nm) {x : Int32} {o : Int} {pc'' : Nat} (hd : decode bc pc = .ok (.ifCond .ne o, 3)) (ho : 0 ≤ (pc : Int) + o) (hp : ((pc : Int) + o).toNat = pc') (hp' : pc + 3 = pc'') (hy : ¬ x = 0 → Go p l e R s m args below meth c n0 F h k n pc' Ls st) (hn : x = 0 → Go p l e R s m args below meth c n0 F h k n pc'' Ls st) : Go p l e R s m args below meth c n0 F h k n pc Ls (.int x :: st) := by
  by_cases q : x = 0
  · exact C.if_ne_f hd hp' q (hn q)
  · exact C.if_ne_t hd ho hp q (hy q)
theorem Cx.icmp_ne_t (C : Cx p s m meth c Z n0 own bc maxL ret nm) {x y : Int32} {o : Int} (hd : decode bc pc = .ok (.if_icmp .ne o, 3)) (ho : 0 ≤ (pc : Int) + o) (hp : ((pc : Int) + o).toNat = pc') (hq : ¬ x = y) (hr : Go p l e R s m args below meth c n0 F h k n pc' Ls st) : Go p l e R s m args below meth c n0 F h k n pc Ls (.int y :: .int x :: st) :=
  Go.pl (fun T locs X eT t q => XS.icmpYes X.here C.1 rfl rfl (hb C.2.2.2.1 hd) rfl (XT.ii_ne_t hq) ho hp q) hr
theorem Cx.icmp_ne_f (C : Cx p s m meth c Z n0 own bc maxL ret nm) {x y : Int32} {o : Int} (hd : decode bc pc = .ok (.if_icmp .ne o, 3)) (hp : pc + 3 = pc') (hq : x = y) (hr : Go p l e R s m args below meth c n0 F h k n pc' Ls st) : Go p l e R s m args below meth c n0 F h k n pc Ls (.int y :: .int x :: st) := by
  subst hp; exact Go.pl (fun T locs X eT t q => XS.icmpNo X.here C.1 rfl (hb C.2.2.2.1 hd) rfl (XT.ii_ne_f hq) q) hr
theorem Cx.icmp_ne (C : Cx p s m meth c Z n0 own bc maxL ret nm) {x y : Int32} {o : Int} {pc'' : Nat} (hd : decode bc pc = .ok (.if_icmp .ne o, 3)) (ho : 0 ≤ (pc : Int) + o) (hp : ((pc : Int) + o).toNat = pc') (hp' : pc + 3 = pc'') (hy : ¬ x = y → Go p l e R s m args below meth c n0 F h k n pc' Ls st) (hn : x = y → Go p l e R s m args below meth c n0 F h k n pc'' Ls st) : Go p l e R s m args below meth c n0 F h k n pc Ls (.int y :: .int x :: st) := by
  by_cases q : x = y
  · exact C.icmp_ne_f hd hp' q (hn q)
  · exact C.icmp_ne_t hd ho hp q (hy q)
theorem Cx.lif_ne_t (C : Cx p s m meth c Z n0 own bc maxL ret nm) {x y : Int64} {o : Int} (hd : decode bc pc = .ok (.ifCond .ne o, 3)) (ho : 0 ≤ (pc : Int) + o) (hp : ((pc : Int) + o).toNat = pc') (hq : ¬ x = y) (hr : Go p l e R s m args below meth c n0 F h k n pc' Ls st) : Go p l e R s m args below meth c n0 F h k n pc Ls (.int (XT.cmpL x y) :: st) :=
  Go.pl (fun T locs X eT t q => XS.ifYes X.here C.1 rfl rfl (hb C.2.2.2.1 hd) rfl (XT.ll_ne_t hq) ho hp q) hr
theorem Cx.lif_ne_f (C : Cx p s m meth c Z n0 own bc maxL ret nm) {x y : Int64} {o : Int} (hd : decode bc pc = .ok (.ifCond .ne o, 3)) (hp : pc + 3 = pc') (hq : x = y) (hr : Go p l e R s m args below meth c n0 F h k n pc' Ls st) : Go p l e R s m args below meth c n0 F h k n pc Ls (.int (XT.cmpL x y) :: st) := by
  subst hp; exact Go.pl (fun T locs X eT t q => XS.ifNo X.here C.1 rfl (hb C.2.2.2.1 hd) rfl (XT.ll_ne_f hq) q) hr
theorem Cx.lif_ne (C : Cx p s m meth c Z n0 own bc maxL ret nm) {x y : Int64} {o : Int} {pc'' : Nat} (hd : decode bc pc = .ok (.ifCond .ne o, 3)) (ho : 0 ≤ (pc : Int) + o) (hp : ((pc : Int) + o).toNat = pc') (hp' : pc + 3 = pc'') (hy : ¬ x = y → Go p l e R s m args below meth c n0 F h k n pc' Ls st) (hn : x = y → Go p l e R s m args below meth c n0 F h k n pc'' Ls st) : Go p l e R s m args below meth c n0 F h k n pc Ls (.int (XT.cmpL x y) :: st) := by
  by_cases q : x = y
  · exact C.lif_ne_f hd hp' q (hn q)
  · exact C.lif_ne_t hd ho hp q (hy q)
theorem Cx.if_lt_t (C : Cx p s m meth c Z n0 own bc maxL ret nm) {x : Int32} {o : Int} (hd : decode bc pc = .ok (.ifCond .lt o, 3)) (ho : 0 ≤ (pc : Int) + o) (hp : ((pc : Int) + o).toNat = pc') (hq : x < 0) (hr : Go p l e R s m args below meth c n0 F h k n pc' Ls st) : Go p l e R s m args below meth c n0 F h k n pc Ls (.int x :: st) :=
  Go.pl (fun T locs X eT t q => XS.ifYes X.here C.1 rfl rfl (hb C.2.2.2.1 hd) rfl (XT.i0_lt_t hq) ho hp q) hr
theorem Cx.if_lt_f (C : Cx p s m meth c Z n0 own bc maxL ret nm) {x : Int32} {o : Int} (hd : decode bc pc = .ok (.ifCond .lt o, 3)) (hp : pc + 3 = pc') (hq : ¬ x < 0) (hr : Go p l e R s m args below meth c n0 F h k n pc' Ls st) : Go p l e R s m args below meth c n0 F h k n pc Ls (.int x :: st) := by
  subst hp; exact Go.pl (fun T locs X eT t q => XS.ifNo X.here C.1 rfl (hb C.2.2.2.1 hd) rfl (XT.i0_lt_f hq) q) hr
theorem Cx.if_lt (C : Cx p s m meth c Z n0 own bc maxL ret nm) {x : Int32} {o : Int} {pc'' : Nat} (hd : decode bc pc = .ok (.ifCond .lt o, 3)) (ho : 0 ≤ (pc : Int) + o) (hp : ((pc : Int) + o).toNat = pc') (hp' : pc + 3 = pc'') (hy : x < 0 → Go p l e R s m args below meth c n0 F h k n pc' Ls st) (hn : ¬ x < 0 → Go p l e R s m args below meth c n0 F h k n pc'' Ls st) : Go p l e R s m args below meth c n0 F h k n pc Ls (.int x :: st) := by
  by_cases q : x < 0
  · exact C.if_lt_t hd ho hp q (hy q)
  · exact C.if_lt_f hd hp' q (hn q)
theorem Cx.icmp_lt_t (C : Cx p s m meth c Z n0 own bc maxL ret nm) {x y : Int32} {o : Int} (hd : decode bc pc = .ok (.if_icmp .lt o, 3)) (ho : 0 ≤ (pc : Int) + o) (hp : ((pc : Int) + o).toNat = pc') (hq : x < y) (hr : Go p l e R s m args below meth c n0 F h k n pc' Ls st) : Go p l e R s m args below meth c n0 F h k n pc Ls (.int y :: .int x :: st) :=
  Go.pl (fun T locs X eT t q => XS.icmpYes X.here C.1 rfl rfl (hb C.2.2.2.1 hd) rfl (XT.ii_lt_t hq) ho hp q) hr
theorem Cx.icmp_lt_f (C : Cx p s m meth c Z n0 own bc maxL ret nm) {x y : Int32} {o : Int} (hd : decode bc pc = .ok (.if_icmp .lt o, 3)) (hp : pc + 3 = pc') (hq : ¬ x < y) (hr : Go p l e R s m args below meth c n0 F h k n pc' Ls st) : Go p l e R s m args below meth c n0 F h k n pc Ls (.int y :: .int x :: st) := by
  subst hp; exact Go.pl (fun T locs X eT t q => XS.icmpNo X.here C.1 rfl (hb C.2.2.2.1 hd) rfl (XT.ii_lt_f hq) q) hr
theorem Cx.icmp_lt (C : Cx p s m meth c Z n0 own bc maxL ret nm) {x y : Int32} {o : Int} {pc'' : Nat} (hd : decode bc pc = .ok (.if_icmp .lt o, 3)) (ho : 0 ≤ (pc : Int) + o) (hp : ((pc : Int) + o).toNat = pc') (hp' : pc + 3 = pc'') (hy : x < y → Go p l e R s m args below meth c n0 F h k n pc' Ls st) (hn : ¬ x < y → Go p l e R s m args below meth c n0 F h k n pc'' Ls st) : Go p l e R s m args below meth c n0 F h k n pc Ls (.int y :: .int x :: st) := by
  by_cases q : x < y
  · exact C.icmp_lt_t hd ho hp q (hy q)
  · exact C.icmp_lt_f hd hp' q (hn q)
theorem Cx.lif_lt_t (C : Cx p s m meth c Z n0 own bc maxL ret nm) {x y : Int64} {o : Int} (hd : decode bc pc = .ok (.ifCond .lt o, 3)) (ho : 0 ≤ (pc : Int) + o) (hp : ((pc : Int) + o).toNat = pc') (hq : x < y) (hr : Go p l e R s m args below meth c n0 F h k n pc' Ls st) : Go p l e R s m args below meth c n0 F h k n pc Ls (.int (XT.cmpL x y) :: st) :=
  Go.pl (fun T locs X eT t q => XS.ifYes X.here C.1 rfl rfl (hb C.2.2.2.1 hd) rfl (XT.ll_lt_t hq) ho hp q) hr
theorem Cx.lif_lt_f (C : Cx p s m meth c Z n0 own bc maxL ret nm) {x y : Int64} {o : Int} (hd : decode bc pc = .ok (.ifCond .lt o, 3)) (hp : pc + 3 = pc') (hq : ¬ x < y) (hr : Go p l e R s m args below meth c n0 F h k n pc' Ls st) : Go p l e R s m args below meth c n0 F h k n pc Ls (.int (XT.cmpL x y) :: st) := by
  subst hp; exact Go.pl (fun T locs X eT t q => XS.ifNo X.here C.1 rfl (hb C.2.2.2.1 hd) rfl (XT.ll_lt_f hq) q) hr
theorem Cx.lif_lt (C : Cx p s m meth c Z n0 own bc maxL ret nm) {x y : Int64} {o : Int} {pc'' : Nat} (hd : decode bc pc = .ok (.ifCond .lt o, 3)) (ho : 0 ≤ (pc : Int) + o) (hp : ((pc : Int) + o).toNat = pc') (hp' : pc + 3 = pc'') (hy : x < y → Go p l e R s m args below meth c n0 F h k n pc' Ls st) (hn : ¬ x < y → Go p l e R s m args below meth c n0 F h k n pc'' Ls st) : Go p l e R s m args below meth c n0 F h k n pc Ls (.int (XT.cmpL x y) :: st) := by
  by_cases q : x < y
  · exact C.lif_lt_t hd ho hp q (hy q)
  · exact C.lif_lt_f hd hp' q (hn q)
theorem Cx.if_ge_t (C : Cx p s m meth c Z n0 own bc maxL ret nm) {x : Int32} {o : Int} (hd : decode bc pc = .ok (.ifCond .ge o, 3)) (ho : 0 ≤ (pc : Int) + o) (hp : ((pc : Int) + o).toNat = pc') (hq : ¬ x < 0) (hr : Go p l e R s m args below meth c n0 F h k n pc' Ls st) : Go p l e R s m args below meth c n0 F h k n pc Ls (.int x :: st) :=
  Go.pl (fun T locs X eT t q => XS.ifYes X.here C.1 rfl rfl (hb C.2.2.2.1 hd) rfl (XT.i0_ge_t hq) ho hp q) hr
theorem Cx.if_ge_f (C : Cx p s m meth c Z n0 own bc maxL ret nm) {x : Int32} {o : Int} (hd : decode bc pc = .ok (.ifCond .ge o, 3)) (hp : pc + 3 = pc') (hq : x < 0) (hr : Go p l e R s m args below meth c n0 F h k n pc' Ls st) : Go p l e R s m args below meth c n0 F h k n pc Ls (.int x :: st) := by
  subst hp; exact Go.pl (fun T locs X eT t q => XS.ifNo X.here C.1 rfl (hb C.2.2.2.1 hd) rfl (XT.i0_ge_f hq) q) hr
theorem Cx.if_ge (C : Cx p s m meth c Z n0 own bc maxL ret nm) {x : Int32} {o : Int} {pc'' : Nat} (hd : decode bc pc = .ok (.ifCond .ge o, 3)) (ho : 0 ≤ (pc : Int) + o) (hp : ((pc : Int) + o).toNat = pc') (hp' : pc + 3 = pc'') (hy : ¬ x < 0 → Go p l e R s m args below meth c n0 F h k n pc' Ls st) (hn : x < 0 → Go p l e R s m args below meth c n0 F h k n pc'' Ls st) : Go p l e R s m args below meth c n0 F h k n pc Ls (.int x :: st) := by
  by_cases q : x < 0
  · exact C.if_ge_f hd hp' q (hn q)
  · exact C.if_ge_t hd ho hp q (hy q)
theorem Cx.icmp_ge_t (C : Cx p s m meth c Z n0 own bc maxL ret nm) {x y : Int32} {o : Int} (hd : decode bc pc = .ok (.if_icmp .ge o, 3)) (ho : 0 ≤ (pc : Int) + o) (hp : ((pc : Int) + o).toNat = pc') (hq : ¬ x < y) (hr : Go p l e R s m args below meth c n0 F h k n pc' Ls st) : Go p l e R s m args below meth c n0 F h k n pc Ls (.int y :: .int x :: st) :=
  Go.pl (fun T locs X eT t q => XS.icmpYes X.here C.1 rfl rfl (hb C.2.2.2.1 hd) rfl (XT.ii_ge_t hq) ho hp q) hr
theorem Cx.icmp_ge_f (C : Cx p s m meth c Z n0 own bc maxL ret nm) {x y : Int32} {o : Int} (hd : decode bc pc = .ok (.if_icmp .ge o, 3)) (hp : pc + 3 = pc') (hq : x < y) (hr : Go p l e R s m args below meth c n0 F h k n pc' Ls st) : Go p l e R s m args below meth c n0 F h k n pc Ls (.int y :: .int x :: st) := by
  subst hp; exact Go.pl (fun T locs X eT t q => XS.icmpNo X.here C.1 rfl (hb C.2.2.2.1 hd) rfl (XT.ii_ge_f hq) q) hr
theorem Cx.icmp_ge (C : Cx p s m meth c Z n0 own bc maxL ret nm) {x y : Int32} {o : Int} {pc'' : Nat} (hd : decode bc pc = .ok (.if_icmp .ge o, 3)) (ho : 0 ≤ (pc : Int) + o) (hp : ((pc : Int) + o).toNat = pc') (hp' : pc + 3 = pc'') (hy : ¬ x < y → Go p l e R s m args below meth c n0 F h k n pc' Ls st) (hn : x < y → Go p l e R s m args below meth c n0 F h k n pc'' Ls st) : Go p l e R s m args below meth c n0 F h k n pc Ls (.int y :: .int x :: st) := by
  by_cases q : x < y
  · exact C.icmp_ge_f hd hp' q (hn q)
  · exact C.icmp_ge_t hd ho hp q (hy q)
theorem Cx.lif_ge_t (C : Cx p s m meth c Z n0 own bc maxL ret nm) {x y : Int64} {o : Int} (hd : decode bc pc = .ok (.ifCond .ge o, 3)) (ho : 0 ≤ (pc : Int) + o) (hp : ((pc : Int) + o).toNat = pc') (hq : ¬ x < y) (hr : Go p l e R s m args below meth c n0 F h k n pc' Ls st) : Go p l e R s m args below meth c n0 F h k n pc Ls (.int (XT.cmpL x y) :: st) :=
  Go.pl (fun T locs X eT t q => XS.ifYes X.here C.1 rfl rfl (hb C.2.2.2.1 hd) rfl (XT.ll_ge_t hq) ho hp q) hr
theorem Cx.lif_ge_f (C : Cx p s m meth c Z n0 own bc maxL ret nm) {x y : Int64} {o : Int} (hd : decode bc pc = .ok (.ifCond .ge o, 3)) (hp : pc + 3 = pc') (hq : x < y) (hr : Go p l e R s m args below meth c n0 F h k n pc' Ls st) : Go p l e R s m args below meth c n0 F h k n pc Ls (.int (XT.cmpL x y) :: st) := by
  subst hp; exact Go.pl (fun T locs X eT t q => XS.ifNo X.here C.1 rfl (hb C.2.2.2.1 hd) rfl (XT.ll_ge_f hq) q) hr
theorem Cx.lif_ge (C : Cx p s m meth c Z n0 own bc maxL ret nm) {x y : Int64} {o : Int} {pc'' : Nat} (hd : decode bc pc = .ok (.ifCond .ge o, 3)) (ho : 0 ≤ (pc : Int) + o) (hp : ((pc : Int) + o).toNat = pc') (hp' : pc + 3 = pc'') (hy : ¬ x < y → Go p l e R s m args below meth c n0 F h k n pc' Ls st) (hn : x < y → Go p l e R s m args below meth c n0 F h k n pc'' Ls st) : Go p l e R s m args below meth c n0 F h k n pc Ls (.int (XT.cmpL x y) :: st) := by
  by_cases q : x < y
  · exact C.lif_ge_f hd hp' q (hn q)
  · exact C.lif_ge_t hd ho hp q (hy q)
theorem Cx.if_gt_t (C : Cx p s m meth c Z n0 own bc maxL ret nm) {x : Int32} {o : Int} (hd : decode bc pc = .ok (.ifCond .gt o, 3)) (ho : 0 ≤ (pc : Int) + o) (hp : ((pc : Int) + o).toNat = pc') (hq : 0 < x) (hr : Go p l e R s m args below meth c n0 F h k n pc' Ls st) : Go p l e R s m args below meth c n0 F h k n pc Ls (.int x :: st) :=
  Go.pl (fun T locs X eT t q => XS.ifYes X.here C.1 rfl rfl (hb C.2.2.2.1 hd) rfl (XT.i0_gt_t hq) ho hp q) hr
theorem Cx.if_gt_f (C : Cx p s m meth c Z n0 own bc maxL ret nm) {x : Int32} {o : Int} (hd : decode bc pc = .ok (.ifCond .gt o, 3)) (hp : pc + 3 = pc') (hq : ¬ 0 < x) (hr : Go p l e R s m args below meth c n0 F h k n pc' Ls st) : Go p l e R s m args below meth c n0 F h k n pc Ls (.int x :: st) := by
  subst hp; exact Go.pl (fun T locs X eT t q => XS.ifNo X.here C.1 rfl (hb C.2.2.2.1 hd) rfl (XT.i0_gt_f hq) q) hr
theorem Cx.if_gt (C : Cx p s m meth c Z n0 own bc maxL ret nm) {x : Int32} {o : Int} {pc'' : Nat} (hd : decode bc pc = .ok (.ifCond .gt o, 3)) (ho : 0 ≤ (pc : Int) + o) (hp : ((pc : Int) + o).toNat = pc') (hp' : pc + 3 = pc'') (hy : 0 < x → Go p l e R s m args below meth c n0 F h k n pc' Ls st) (hn : ¬ 0 < x → Go p l e R s m args below meth c n0 F h k n pc'' Ls st) : Go p l e R s m args below meth c n0 F h k n pc Ls (.int x :: st) := by
  by_cases q : 0 < x
  · exact C.if_gt_t hd ho hp q (hy q)
  · exact C.if_gt_f hd hp' q (hn q)
theorem Cx.icmp_gt_t (C : Cx p s m meth c Z n0 own bc maxL ret nm) {x y : Int32} {o : Int} (hd : decode bc pc = .ok (.if_icmp .gt o, 3)) (ho : 0 ≤ (pc : Int) + o) (hp : ((pc : Int) + o).toNat = pc') (hq : y < x) (hr : Go p l e R s m args below meth c n0 F h k n pc' Ls st) : Go p l e R s m args below meth c n0 F h k n pc Ls (.int y :: .int x :: st) :=
  Go.pl (fun T locs X eT t q => XS.icmpYes X.here C.1 rfl rfl (hb C.2.2.2.1 hd) rfl (XT.ii_gt_t hq) ho hp q) hr
theorem Cx.icmp_gt_f (C : Cx p s m meth c Z n0 own bc maxL ret nm) {x y : Int32} {o : Int} (hd : decode bc pc = .ok (.if_icmp .gt o, 3)) (hp : pc + 3 = pc') (hq : ¬ y < x) (hr : Go p l e R s m args below meth c n0 F h k n pc' Ls st) : Go p l e R s m args below meth c n0 F h k n pc Ls (.int y :: .int x :: st) := by
  subst hp; exact Go.pl (fun T locs X eT t q => XS.icmpNo X.here C.1 rfl (hb C.2.2.2.1 hd) rfl (XT.ii_gt_f hq) q) hr
theorem Cx.icmp_gt (C : Cx p s m meth c Z n0 own bc maxL ret nm) {x y : Int32} {o : Int} {pc'' : Nat} (hd : decode bc pc = .ok (.if_icmp .gt o, 3)) (ho : 0 ≤ (pc : Int) + o) (hp : ((pc : Int) + o).toNat = pc') (hp' : pc + 3 = pc'') (hy : y < x → Go p l e R s m args below meth c n0 F h k n pc' Ls st) (hn : ¬ y < x → Go p l e R s m args below meth c n0 F h k n pc'' Ls st) : Go p l e R s m args below meth c n0 F h k n pc Ls (.int y :: .int x :: st) := by
  by_cases q : y < x
  · exact C.icmp_gt_t hd ho hp q (hy q)
  · exact C.icmp_gt_f hd hp' q (hn q)
theorem Cx.lif_gt_t (C : Cx p s m meth c Z n0 own bc maxL ret nm) {x y : Int64} {o : Int} (hd : decode bc pc = .ok (.ifCond .gt o, 3)) (ho : 0 ≤ (pc : Int) + o) (hp : ((pc : Int) + o).toNat = pc') (hq : y < x) (hr : Go p l e R s m args below meth c n0 F h k n pc' Ls st) : Go p l e R s m args below meth c n0 F h k n pc Ls (.int (XT.cmpL x y) :: st) :=
  Go.pl (fun T locs X eT t q => XS.ifYes X.here C.1 rfl rfl (hb C.2.2.2.1 hd) rfl (XT.ll_gt_t hq) ho hp q) hr
theorem Cx.lif_gt_f (C : Cx p s m meth c Z n0 own bc maxL ret nm) {x y : Int64} {o : Int} (hd : decode bc pc = .ok (.ifCond .gt o, 3)) (hp : pc + 3 = pc') (hq : ¬ y < x) (hr : Go p l e R s m args below meth c n0 F h k n pc' Ls st) : Go p l e R s m args below meth c n0 F h k n pc Ls (.int (XT.cmpL x y) :: st) := by
  subst hp; exact Go.pl (fun T locs X eT t q => XS.ifNo X.here C.1 rfl (hb C.2.2.2.1 hd) rfl (XT.ll_gt_f hq) q) hr
theorem Cx.lif_gt (C : Cx p s m meth c Z n0 own bc maxL ret nm) {x y : Int64} {o : Int} {pc'' : Nat} (hd : decode bc pc = .ok (.ifCond .gt o, 3)) (ho : 0 ≤ (pc : Int) + o) (hp : ((pc : Int) + o).toNat = pc') (hp' : pc + 3 = pc'') (hy : y < x → Go p l e R s m args below meth c n0 F h k n pc' Ls st) (hn : ¬ y < x → Go p l e R s m args below meth c n0 F h k n pc'' Ls st) : Go p l e R s m args below meth c n0 F h k n pc Ls (.int (XT.cmpL x y) :: st) := by
  by_cases q : y < x
  · exact C.lif_gt_t hd ho hp q (hy q)
  · exact C.lif_gt_f hd hp' q (hn q)
theorem Cx.if_le_t (C : Cx p s m meth c Z n0 own bc maxL ret nm) {x : Int32} {o : Int} (hd : decode bc pc = .ok (.ifCond .le o, 3)) (ho : 0 ≤ (pc : Int) + o) (hp : ((pc : Int) + o).toNat = pc') (hq : ¬ 0 < x) (hr : Go p l e R s m args below meth c n0 F h k n pc' Ls st) : Go p l e R s m args below meth c n0 F h k n pc Ls (.int x :: st) :=
  Go.pl (fun T locs X eT t q => XS.ifYes X.here C.1 rfl rfl (hb C.2.2.2.1 hd) rfl (XT.i0_le_t hq) ho hp q) hr
theorem Cx.if_le_f (C : Cx p s m meth c Z n0 own bc maxL ret nm) {x : Int32} {o : Int} (hd : decode bc pc = .ok (.ifCond .le o, 3)) (hp : pc + 3 = pc') (hq : 0 < x) (hr : Go p l e R s m args below meth c n0 F h k n pc' Ls st) : Go p l e R s m args below meth c n0 F h k n pc Ls (.int x :: st) := by
  subst hp; exact Go.pl (fun T locs X eT t q => XS.ifNo X.here C.1 rfl (hb C.2.2.2.1 hd) rfl (XT.i0_le_f hq) q) hr
theorem Cx.if_le (C : Cx p s m meth c Z n0 own bc maxL ret nm) {x : Int32} {o : Int} {pc'' : Nat} (hd : decode bc pc = .ok (.ifCond .le o, 3)) (ho : 0 ≤ (pc : Int) + o) (hp : ((pc : Int) + o).toNat = pc') (hp' : pc + 3 = pc'') (hy : ¬ 0 < x → Go p l e R s m args below meth c n0 F h k n pc' Ls st) (hn : 0 < x → Go p l e R s m args below meth c n0 F h k n pc'' Ls st) : Go p l e R s m args below meth c n0 F h k n pc Ls (.int x :: st) := by
  by_cases q : 0 < x
  · exact C.if_le_f hd hp' q (hn q)
  · exact C.if_le_t hd ho hp q (hy q)
theorem Cx.icmp_le_t (C : Cx p s m meth c Z n0 own bc maxL ret nm) {x y : Int32} {o : Int} (hd : decode bc pc = .ok (.if_icmp .le o, 3)) (ho : 0 ≤ (pc : Int) + o) (hp : ((pc : Int) + o).toNat = pc') (hq : ¬ y < x) (hr : Go p l e R s m args below meth c n0 F h k n pc' Ls st) : Go p l e R s m args below meth c n0 F h k n pc Ls (.int y :: .int x :: st) :=
  Go.pl (fun T locs X eT t q => XS.icmpYes X.here C.1 rfl rfl (hb C.2.2.2.1 hd) rfl (XT.ii_le_t hq) ho hp q) hr
theorem Cx.icmp_le_f (C : Cx p s m meth c Z n0 own bc maxL ret nm) {x y : Int32} {o : Int} (hd : decode bc pc = .ok (.if_icmp .le o, 3)) (hp : pc + 3 = pc') (hq : y < x) (hr : Go p l e R s m args below meth c n0 F h k n pc' Ls st) : Go p l e R s m args below meth c n0 F h k n pc Ls (.int y :: .int x :: st) := by
  subst hp; exact Go.pl (fun T locs X eT t q => XS.icmpNo X.here C.1 rfl (hb C.2.2.2.1 hd) rfl (XT.ii_le_f hq) q) hr
theorem Cx.icmp_le (C : Cx p s m meth c Z n0 own bc maxL ret nm) {x y : Int32} {o : Int} {pc'' : Nat} (hd : decode bc pc = .ok (.if_icmp .le o, 3)) (ho : 0 ≤ (pc : Int) + o) (hp : ((pc : Int) + o).toNat = pc') (hp' : pc + 3 = pc'') (hy : ¬ y < x → Go p l e R s m args below meth c n0 F h k n pc' Ls st) (hn : y < x → Go p l e R s m args below meth c n0 F h k n pc'' Ls st) : Go p l e R s m args below meth c n0 F h k n pc Ls (.int y :: .int x :: st) := by
  by_cases q : y < x
  · exact C.icmp_le_f hd hp' q (hn q)
  · exact C.icmp_le_t hd ho hp q (hy q)
theorem Cx.lif_le_t (C : Cx p s m meth c Z n0 own bc maxL ret nm) {x y : Int64} {o : Int} (hd : decode bc pc = .ok (.ifCond .le o, 3)) (ho : 0 ≤ (pc : Int) + o) (hp : ((pc : Int) + o).toNat = pc') (hq : ¬ y < x) (hr : Go p l e R s m args below meth c n0 F h k n pc' Ls st) : Go p l e R s m args below meth c n0 F h k n pc Ls (.int (XT.cmpL x y) :: st) :=
  Go.pl (fun T locs X eT t q => XS.ifYes X.here C.1 rfl rfl (hb C.2.2.2.1 hd) rfl (XT.ll_le_t hq) ho hp q) hr
theorem Cx.lif_le_f (C : Cx p s m meth c Z n0 own bc maxL ret nm) {x y : Int64} {o : Int} (hd : decode bc pc = .ok (.ifCond .le o, 3)) (hp : pc + 3 = pc') (hq : y < x) (hr : Go p l e R s m args below meth c n0 F h k n pc' Ls st) : Go p l e R s m args below meth c n0 F h k n pc Ls (.int (XT.cmpL x y) :: st) := by
  subst hp; exact Go.pl (fun T locs X eT t q => XS.ifNo X.here C.1 rfl (hb C.2.2.2.1 hd) rfl (XT.ll_le_f hq) q) hr
theorem Cx.lif_le (C : Cx p s m meth c Z n0 own bc maxL ret nm) {x y : Int64} {o : Int} {pc'' : Nat} (hd : decode bc pc = .ok (.ifCond .le o, 3)) (ho : 0 ≤ (pc : Int) + o) (hp : ((pc : Int) + o).toNat = pc') (hp' : pc + 3 = pc'') (hy : ¬ y < x → Go p l e R s m args below meth c n0 F h k n pc' Ls st) (hn : y < x → Go p l e R s m args below meth c n0 F h k n pc'' Ls st) : Go p l e R s m args below meth c n0 F h k n pc Ls (.int (XT.cmpL x y) :: st) := by
  by_cases q : y < x
  · exact C.lif_le_f hd hp' q (hn q)
  · exact C.lif_le_t hd ho hp q (hy q)
theorem Cx.ifnull_ref (C : Cx p s m meth c Z n0 own bc maxL ret nm) {o : Int} {b : Addr} (hd : decode bc pc = .ok (.ifnull o, 3)) (hp : pc + 3 = pc')  (hr : Go p l e R s m args below meth c n0 F h k n pc' Ls (st)) : Go p l e R s m args below meth c n0 F h k n pc Ls (.ref b :: st) := by
  subst hp; exact Go.pl (fun T locs X eT t q => XS.ifnullNo X.here C.1 rfl (hb C.2.2.2.1 hd) rfl q) hr
theorem Cx.ifnonnull_null (C : Cx p s m meth c Z n0 own bc maxL ret nm) {o : Int} (hd : decode bc pc = .ok (.ifnonnull o, 3)) (hp : pc + 3 = pc')  (hr : Go p l e R s m args below meth c n0 F h k n pc' Ls (st)) : Go p l e R s m args below meth c n0 F h k n pc Ls (.null :: st) := by
  subst hp; exact Go.pl (fun T locs X eT t q => XT.ifnonnullNo X.here C.1 rfl (hb C.2.2.2.1 hd) rfl q) hr
theorem Cx.ifnull_null (C : Cx p s m meth c Z n0 own bc maxL ret nm) {b : Addr} {o : Int} (hd : decode bc pc = .ok (.ifnull o, 3)) (ho : 0 ≤ (pc : Int) + o) (hp : ((pc : Int) + o).toNat = pc') (hr : Go p l e R s m args below meth c n0 F h k n pc' Ls st) : Go p l e R s m args below meth c n0 F h k n pc Ls (.null :: st) := by
  exact Go.pl (fun T locs X eT t q => XS.ifnullYes X.here C.1 rfl rfl (hb C.2.2.2.1 hd) rfl ho hp q) hr
theorem Cx.ifnonnull_ref (C : Cx p s m meth c Z n0 own bc maxL ret nm) {b : Addr} {o : Int} (hd : decode bc pc = .ok (.ifnonnull o, 3)) (ho : 0 ≤ (pc : Int) + o) (hp : ((pc : Int) + o).toNat = pc') (hr : Go p l e R s m args below meth c n0 F h k n pc' Ls st) : Go p l e R s m args below meth c n0 F h k n pc Ls (.ref b :: st) := by
  exact Go.pl (fun T locs X eT t q => XT.ifnonnullYes X.here C.1 rfl rfl (hb C.2.2.2.1 hd) rfl ho hp q) hr
theorem Cx.ldcI (C : Cx p s m meth c Z n0 own bc maxL ret nm) {j : Nat} {v : Int32} (hd : decode bc pc = .ok (.ldc j, 2)) (hp : pc + 2 = pc') (w : (Jvm.Cond.constant own j v).before a0 Z = true) (hr : Go p l e R s m args below meth c n0 F h k n pc' Ls (.int v :: st)) : Go p l e R s m args below meth c n0 F h k n pc Ls st := by
  subst hp; exact Go.pl (fun T locs X eT t q => X.ldcI C.1 C.2.2.1 (mv C.2.1 w) rfl (hb C.2.2.2.1 hd) q) hr
theorem Cx.ldcWI (C : Cx p s m meth c Z n0 own bc maxL ret nm) {j : Nat} {v : Int32} (hd : decode bc pc = .ok (.ldc_w j, 3)) (hp : pc + 3 = pc') (w : (Jvm.Cond.constant own j v).before a0 Z = true) (hr : Go p l e R s m args below meth c n0 F h k n pc' Ls (.int v :: st)) : Go p l e R s m args below meth c n0 F h k n pc Ls st := by
  subst hp; exact Go.pl (fun T locs X eT t q => X.ldcWI C.1 C.2.2.1 (mv C.2.1 w) rfl (hb C.2.2.2.1 hd) q) hr
theorem Cx.ldc2J (C : Cx p s m meth c Z n0 own bc maxL ret nm) {j : Nat} {v : Int64} (hd : decode bc pc = .ok (.ldc2_w j, 3)) (hp : pc + 3 = pc') (w : (Jvm.Cond.constantLong own j v).before a0 Z = true) (hr : Go p l e R s m args below meth c n0 F h k n pc' Ls (.long v :: st)) : Go p l e R s m args below meth c n0 F h k n pc Ls st := by
  subst hp; exact Go.pl (fun T locs X eT t q => X.ldc2J C.1 C.2.2.1 (mv C.2.1 w) rfl (hb C.2.2.2.1 hd) q) hr
theorem Cx.alen (C : Cx p s m meth c Z n0 own bc maxL ret nm) {a : Addr} {ty : FieldType} {vs : List Value} (hd : decode bc pc = .ok (.arraylength, 1)) (hp : pc + 1 = pc') (A : Av Z h a ty vs) (hr : Go p l e R s m args below meth c n0 F h k n pc' Ls (.int vs.length.toInt32 :: st)) : Go p l e R s m args below meth c n0 F h k n pc Ls (.ref a :: st) := by
  obtain ⟨cl, A, rfl, -⟩ := A; subst hp; refine Go.pl (fun T locs X eT t q => X.arraylength C.1 (cell := cl) (by rw [eT]; exact A.1) (State.isArrayOf_alike C.2.1.alike A.2.1) (g := mkF m pc Ls (.ref a :: st)) rfl rfl (hb C.2.2.2.1 hd) t q) (by simpa using hr)
theorem Cx.iaload (C : Cx p s m meth c Z n0 own bc maxL ret nm) {a : Addr} {vs : List Value} {j : Int32} (v : Value) (hd : decode bc pc = .ok (.iaload, 1)) (hp : pc + 1 = pc') (A : Av Z h a .int vs) (hj : ¬ j < 0) (hv : vs[j.toNatClampNeg]? = some v) (hr : Go p l e R s m args below meth c n0 F h k n pc' Ls (v :: st)) : Go p l e R s m args below meth c n0 F h k n pc Ls (.int j :: .ref a :: st) := by
  obtain ⟨cl, A, rfl, -⟩ := A; subst hp; rw [Array.getElem?_toList] at hv; exact Go.pl (fun T locs X eT t q => X.iaload C.1 (by rw [eT]; exact A.1) (State.isArrayOf_alike C.2.1.alike A.2.1) A.2.2 (own_in hj hv) hv (g := mkF m pc Ls (.int j :: .ref a :: st)) rfl rfl (hb C.2.2.2.1 hd) t q) hr
theorem Cx.laload (C : Cx p s m meth c Z n0 own bc maxL ret nm) {a : Addr} {vs : List Value} {j : Int32} (v : Value) (hd : decode bc pc = .ok (.laload, 1)) (hp : pc + 1 = pc') (A : Av Z h a .long vs) (hj : ¬ j < 0) (hv : vs[j.toNatClampNeg]? = some v) (hr : Go p l e R s m args below meth c n0 F h k n pc' Ls (v :: st)) : Go p l e R s m args below meth c n0 F h k n pc Ls (.int j :: .ref a :: st) := by
  obtain ⟨cl, A, rfl, -⟩ := A; subst hp; rw [Array.getElem?_toList] at hv; exact Go.pl (fun T locs X eT t q => X.laload C.1 (by rw [eT]; exact A.1) (State.isArrayOf_alike C.2.1.alike A.2.1) A.2.2 (own_in hj hv) hv (g := mkF m pc Ls (.int j :: .ref a :: st)) rfl rfl (hb C.2.2.2.1 hd) t q) hr
theorem Cx.caload (C : Cx p s m meth c Z n0 own bc maxL ret nm) {a : Addr} {vs : List Value} {j : Int32} (v : Value) (hd : decode bc pc = .ok (.caload, 1)) (hp : pc + 1 = pc') (A : Av Z h a .char vs) (hj : ¬ j < 0) (hv : vs[j.toNatClampNeg]? = some v) (hr : Go p l e R s m args below meth c n0 F h k n pc' Ls (v :: st)) : Go p l e R s m args below meth c n0 F h k n pc Ls (.int j :: .ref a :: st) := by
  obtain ⟨cl, A, rfl, -⟩ := A; subst hp; rw [Array.getElem?_toList] at hv; exact Go.pl (fun T locs X eT t q => X.caload C.1 (by rw [eT]; exact A.1) (State.isArrayOf_alike C.2.1.alike A.2.1) A.2.2 (own_in hj hv) hv (g := mkF m pc Ls (.int j :: .ref a :: st)) rfl rfl (hb C.2.2.2.1 hd) t q) hr
theorem Cx.baload (C : Cx p s m meth c Z n0 own bc maxL ret nm) {a : Addr} {vs : List Value} {j : Int32} (v : Value) (hd : decode bc pc = .ok (.baload, 1)) (hp : pc + 1 = pc') (A : Av Z h a .byte vs) (hj : ¬ j < 0) (hv : vs[j.toNatClampNeg]? = some v) (hr : Go p l e R s m args below meth c n0 F h k n pc' Ls (v :: st)) : Go p l e R s m args below meth c n0 F h k n pc Ls (.int j :: .ref a :: st) := by
  obtain ⟨cl, A, rfl, -⟩ := A; subst hp; rw [Array.getElem?_toList] at hv; exact Go.pl (fun T locs X eT t q => X.baloadBytes C.1 (by rw [eT]; exact A.1) (State.isArrayOf_alike C.2.1.alike A.2.1) A.2.2 (own_in hj hv) hv (g := mkF m pc Ls (.int j :: .ref a :: st)) rfl rfl (hb C.2.2.2.1 hd) t q) hr
theorem Cx.zaload (C : Cx p s m meth c Z n0 own bc maxL ret nm) {a : Addr} {vs : List Value} {j : Int32} (v : Value) (hd : decode bc pc = .ok (.baload, 1)) (hp : pc + 1 = pc') (A : Av Z h a .boolean vs) (hj : ¬ j < 0) (hv : vs[j.toNatClampNeg]? = some v) (hr : Go p l e R s m args below meth c n0 F h k n pc' Ls (v :: st)) : Go p l e R s m args below meth c n0 F h k n pc Ls (.int j :: .ref a :: st) := by
  obtain ⟨cl, A, rfl, -⟩ := A; subst hp; rw [Array.getElem?_toList] at hv; exact Go.pl (fun T locs X eT t q => X.baloadBooleans C.1 (by rw [eT]; exact A.1) (State.isArrayOf_alike C.2.1.alike A.2.1) A.2.2 (own_in hj hv) hv (g := mkF m pc Ls (.int j :: .ref a :: st)) rfl rfl (hb C.2.2.2.1 hd) t q) hr
theorem Cx.iastore (C : Cx p s m meth c Z n0 own bc maxL ret nm) {a : Addr} {vs : List Value} {j : Int32} {x : Int32} (hd : decode bc pc = .ok (.iastore, 1)) (hp : pc + 1 = pc') (A : Av Z h a .int vs) (ha : n0 ≤ a) (hj : ¬ j < 0) (hl : j.toNatClampNeg < vs.length) (hr : ∀ h', Wr h h' a j.toNatClampNeg (.int x) → Av Z h' a .int (vs.set j.toNatClampNeg (.int x)) → Go p l e R s m args below meth c n0 F h' k n pc' Ls st) : Go p l e R s m args below meth c n0 F h k n pc Ls (.int x :: .int j :: .ref a :: st) := by
  intro T locs X eT N; have A0 := A; obtain ⟨cl, A, rfl, -⟩ := A; subst hp; rw [Array.length_toList] at hl
  obtain ⟨T', h', X', e', W, stp⟩ := stI X C.1 C.2.1 eT A (own_in2 hj hl) (g := mkF m pc Ls (.int x :: .int j :: .ref a :: st)) rfl rfl (hb C.2.2.2.1 hd)
  obtain ⟨s₂, o, q1, q2⟩ := hr h' W (A0.same W rfl) T' _ X' e' (Fr.snoc X' N ha)
  exact ⟨s₂, o, stp _ q1, q2⟩
theorem Cx.lastore (C : Cx p s m meth c Z n0 own bc maxL ret nm) {a : Addr} {vs : List Value} {j : Int32} {x : Int64} (hd : decode bc pc = .ok (.lastore, 1)) (hp : pc + 1 = pc') (A : Av Z h a .long vs) (ha : n0 ≤ a) (hj : ¬ j < 0) (hl : j.toNatClampNeg < vs.length) (hr : ∀ h', Wr h h' a j.toNatClampNeg (.long x) → Av Z h' a .long (vs.set j.toNatClampNeg (.long x)) → Go p l e R s m args below meth c n0 F h' k n pc' Ls st) : Go p l e R s m args below meth c n0 F h k n pc Ls (.long x :: .int j :: .ref a :: st) := by
  intro T locs X eT N; have A0 := A; obtain ⟨cl, A, rfl, -⟩ := A; subst hp; rw [Array.length_toList] at hl
  obtain ⟨T', h', X', e', W, stp⟩ := stJ X C.1 C.2.1 eT A (own_in2 hj hl) (g := mkF m pc Ls (.long x :: .int j :: .ref a :: st)) rfl rfl (hb C.2.2.2.1 hd)
  obtain ⟨s₂, o, q1, q2⟩ := hr h' W (A0.same W rfl) T' _ X' e' (Fr.snoc X' N ha)
  exact ⟨s₂, o, stp _ q1, q2⟩
theorem Cx.castore (C : Cx p s m meth c Z n0 own bc maxL ret nm) {a : Addr} {vs : List Value} {j : Int32} {x : Int32} (hd : decode bc pc = .ok (.castore, 1)) (hp : pc + 1 = pc') (A : Av Z h a .char vs) (ha : n0 ≤ a) (hj : ¬ j < 0) (hl : j.toNatClampNeg < vs.length) (hr : ∀ h', Wr h h' a j.toNatClampNeg (.int (nar .char x)) → Av Z h' a .char (vs.set j.toNatClampNeg (.int (nar .char x))) → Go p l e R s m args below meth c n0 F h' k n pc' Ls st) : Go p l e R s m args below meth c n0 F h k n pc Ls (.int x :: .int j :: .ref a :: st) := by
  intro T locs X eT N; have A0 := A; obtain ⟨cl, A, rfl, -⟩ := A; subst hp; rw [Array.length_toList] at hl
  obtain ⟨T', h', X', e', W, stp⟩ := stC X C.1 C.2.1 eT A (own_in2 hj hl) (g := mkF m pc Ls (.int x :: .int j :: .ref a :: st)) rfl rfl (hb C.2.2.2.1 hd)
  obtain ⟨s₂, o, q1, q2⟩ := hr h' W (A0.same W (fits_nar_char x)) T' _ X' e' (Fr.snoc X' N ha)
  exact ⟨s₂, o, stp _ q1, q2⟩
theorem Cx.bastore (C : Cx p s m meth c Z n0 own bc maxL ret nm) {a : Addr} {vs : List Value} {j : Int32} {x : Int32} (hd : decode bc pc = .ok (.bastore, 1)) (hp : pc + 1 = pc') (A : Av Z h a .byte vs) (ha : n0 ≤ a) (hj : ¬ j < 0) (hl : j.toNatClampNeg < vs.length) (hr : ∀ h', Wr h h' a j.toNatClampNeg (.int (nar .byte x)) → Av Z h' a .byte (vs.set j.toNatClampNeg (.int (nar .byte x))) → Go p l e R s m args below meth c n0 F h' k n pc' Ls st) : Go p l e R s m args below meth c n0 F h k n pc Ls (.int x :: .int j :: .ref a :: st) := by
  intro T locs X eT N; have A0 := A; obtain ⟨cl, A, rfl, -⟩ := A; subst hp; rw [Array.length_toList] at hl
  obtain ⟨T', h', X', e', W, stp⟩ := stB X C.1 C.2.1 eT A (own_in2 hj hl) (g := mkF m pc Ls (.int x :: .int j :: .ref a :: st)) rfl rfl (hb C.2.2.2.1 hd)
  obtain ⟨s₂, o, q1, q2⟩ := hr h' W (A0.same W (fits_nar_byte x)) T' _ X' e' (Fr.snoc X' N ha)
  exact ⟨s₂, o, stp _ q1, q2⟩
theorem Cx.zastore (C : Cx p s m meth c Z n0 own bc maxL ret nm) {a : Addr} {vs : List Value} {j : Int32} {x : Int32} (hd : decode bc pc = .ok (.bastore, 1)) (hp : pc + 1 = pc') (A : Av Z h a .boolean vs) (ha : n0 ≤ a) (hj : ¬ j < 0) (hl : j.toNatClampNeg < vs.length) (hr : ∀ h', Wr h h' a j.toNatClampNeg (.int (nar .boolean x)) → Av Z h' a .boolean (vs.set j.toNatClampNeg (.int (nar .boolean x))) → Go p l e R s m args below meth c n0 F h' k n pc' Ls st) : Go p l e R s m args below meth c n0 F h k n pc Ls (.int x :: .int j :: .ref a :: st) := by
  intro T locs X eT N; have A0 := A; obtain ⟨cl, A, rfl, -⟩ := A; subst hp; rw [Array.length_toList] at hl
  obtain ⟨T', h', X', e', W, stp⟩ := stZ X C.1 C.2.1 eT A (own_in2 hj hl) (g := mkF m pc Ls (.int x :: .int j :: .ref a :: st)) rfl rfl (hb C.2.2.2.1 hd)
  obtain ⟨s₂, o, q1, q2⟩ := hr h' W (A0.same W (fits_nar_bool x)) T' _ X' e' (Fr.snoc X' N ha)
  exact ⟨s₂, o, stp _ q1, q2⟩
theorem Cx.new (C : Cx p s m meth c Z n0 own bc maxL ret nm) {cls : String} {j nn : Nat} (hd : decode bc pc = .ok (.new j, 3)) (hp : pc + 3 = pc') (w1 : (Jvm.Cond.classLink own j cls).before a0 Z = true) (w2 : (Jvm.Cond.instantiable cls nn).before a0 Z = true) (w3 : (Jvm.Cond.initialized cls).before a0 Z = true) (hk : k + 1 ≤ R.cells) (hn : n + nn ≤ R.slots)
    (hr : ∀ (a : Addr) (h' : Heap), a = h.size → n0 ≤ a → Ext h h' → Exa Z h' a cls → (∀ {O f d : String} {ty : FieldType}, Laid Z a0 cls O f d → parseFieldDescriptor d = some ty → Fld Z h' a O f d (defaultValue ty)) → Go p l e R s m args below meth c n0 F h' (k + 1) (n + nn) pc' Ls (.ref a :: st)) : Go p l e R s m args below meth c n0 F h k n pc Ls st := by
  intro T locs X eT N
  subst hp
  obtain ⟨T', h', X', e', E', A', D', -, stp⟩ := newO X C.1 C.2.1 C.2.2.1 w1 w2 w3 eT (g := mkF m pc Ls st) rfl (hb C.2.2.2.1 hd) hk hn
  obtain ⟨s₂, o, q1, q2⟩ := hr h.size h' rfl (by rw [← eT]; exact C.size X) E' A' D' T' _ X' e' N
  exact ⟨s₂, o, stp _ q1, q2⟩
theorem Cx.newarr (C : Cx p s m meth c Z n0 own bc maxL ret nm) {aty : ArrayType} {ty : FieldType} {z : Int32} (cap : Nat) (hd : decode bc pc = .ok (.newarray aty, 2)) (hp : pc + 2 = pc') (hty : newarray.typeOf aty = ty) (w : (Jvm.Cond.arrayClass ty).before a0 Z = true) (hz : ¬ z < 0) (hcap : z.toNatClampNeg ≤ cap) (hb8 : cap * 8 ≤ 536870912) (hk : k + 1 ≤ R.cells) (hn : n + cap ≤ R.slots)
    (hr : ∀ (a : Addr) (h' : Heap), a = h.size → n0 ≤ a → Ext h h' → Av Z h' a ty (List.replicate z.toNatClampNeg (defaultValue ty)) → Go p l e R s m args below meth c n0 F h' (k + 1) (n + cap) pc' Ls (.ref a :: st)) : Go p l e R s m args below meth c n0 F h k n pc Ls (.int z :: st) := by
  intro T locs X eT N
  subst hp hty
  obtain ⟨T', h', cA, X', e', E', A', stp⟩ := newP X C.1 C.2.1 w eT (g := mkF m pc Ls (.int z :: st)) rfl (hb C.2.2.2.1 hd) rfl hz hcap hb8 hk hn
  obtain ⟨s₂, o, q1, q2⟩ := hr h.size h' rfl (by rw [← eT]; exact C.size X) E' (Av.new A') T' _ X' e' N
  exact ⟨s₂, o, stp _ q1, q2⟩
theorem Cx.initO (C : Cx p s m meth c Z n0 own bc maxL ret nm) {j : Nat} {a : Addr} (W : Nat) (hd : decode bc pc = .ok (.invokespecial j, 3)) (hp : pc + 3 = pc') (w1 : (Jvm.Cond.methodLink own j Lib.objectInit).before a0 Z = true) (w2 : (Jvm.Cond.instanceMethod Lib.objectInit).before a0 Z = true) (w3 : (Jvm.Cond.code Lib.objectInit ⟨#[0xb1]⟩ 1 none).before a0 Z = true) (hsz : Ls.size = maxL) (hf : 1 ≤ R.frames) (hW : (st.map fun v => v.category).sum ≤ W) (hl : W + 12 ≤ R.locals)
    (hr : Go p l e R s m args below meth c n0 F h k n pc' Ls st) : Go p l e R s m args below meth c n0 F h k n pc Ls (.ref a :: st) := by
  intro T locs X eT N
  subst hp
  obtain ⟨T', X', e', stp⟩ := RoadKit.initO X C.1 C.2.1 C.2.2.1 w1 w2 w3 eT (g := mkF m pc Ls (.ref a :: st)) rfl (hsz.trans C.2.2.2.2.1.symm) rfl (hb C.2.2.2.1 hd) hf (W := W) (by show 2 * 0 + _ ≤ W; omega) hl
  obtain ⟨s₂, o, q1, q2⟩ := hr T' _ X' e' N
  exact ⟨s₂, o, stp _ q1, q2⟩
theorem Cx.getF (C : Cx p s m meth c Z n0 own bc maxL ret nm) {O f d : String} {j : Nat} {a : Addr} {v : Value} (hd : decode bc pc = .ok (.getfield j, 3)) (hp : pc + 3 = pc') (w : (Jvm.Cond.fieldLink own j O f d).before a0 Z = true) (F' : Fld Z h a O f d v)
    (hr : Go p l e R s m args below meth c n0 F h k n pc' Ls (v :: st)) : Go p l e R s m args below meth c n0 F h k n pc Ls (.ref a :: st) := by
  intro T locs X eT N
  subst hp
  obtain ⟨T', X', e', stp⟩ := RoadKit.getF X C.1 C.2.1 C.2.2.1 (host := "") (Or.inl w) Via.refl eT F' (g := mkF m pc Ls (.ref a :: st)) rfl rfl (hb C.2.2.2.1 hd)
  obtain ⟨s₂, o, q1, q2⟩ := hr T' _ X' e' N
  exact ⟨s₂, o, stp _ q1, q2⟩
theorem Cx.putF (C : Cx p s m meth c Z n0 own bc maxL ret nm) {O f d cls : String} {j kk : Nat} {ty : FieldType} {a : Addr} {v old : Value} (hd : decode bc pc = .ok (.putfield j, 3)) (hp : pc + 3 = pc') (w : (Jvm.Cond.fieldLink own j O f d).before a0 Z = true) (F' : Fld Z h a O f d old) (E : Exa Z h a cls)
    (L : (Jvm.Cond.lays cls O f d).before a0 Z = true ∨ ((Jvm.Cond.laysFinal cls O f d).before a0 Z = true ∧ own = O ∧ nm = "<init>")) (wi : (Jvm.Cond.instantiable cls kk).before a0 Z = true) (hty : parseFieldDescriptor d = some ty) (hnr : narrow ty v = v) (hf : fits ty v = true) (ha : n0 ≤ a)
    (hr : ∀ h', Wr h h' a (Jvm.RoadKit.slotOf Z O f d) v → Fld Z h' a O f d v → Go p l e R s m args below meth c n0 F h' k n pc' Ls st) : Go p l e R s m args below meth c n0 F h k n pc Ls (v :: .ref a :: st) := by
  intro T locs X eT N
  subst hp
  obtain ⟨T', h', X', e', W, stp⟩ := RoadKit.putF X C.1 C.2.1 C.2.2.1 (host := "") (Or.inl w) Via.refl eT F' E (L.imp id fun q => ⟨q.1, q.2.1, C.2.2.2.2.2.2.1.trans q.2.2⟩) wi hty hnr hf (g := mkF m pc Ls (v :: .ref a :: st)) rfl rfl (hb C.2.2.2.1 hd)
  obtain ⟨s₂, o, q1, q2⟩ := hr h' W (F'.same W) T' _ X' e' (Fr.snoc X' N ha)
  exact ⟨s₂, o, stp _ q1, q2⟩
/-! the end of a body -/
theorem Cx.ret0 {Q : Option Value → Heap → Prop} {ck cs : Nat} (C : Cx p s m meth c Z n0 own bc maxL none nm) (hd : decode bc pc = .ok (.return_, 1)) (hk : k ≤ ck) (hn : n ≤ cs) (hq : Q none h) : Go p l e R s m args below meth c n0 (FinQ s n0 Q ck cs) h k n pc Ls [] := by
  intro T locs X eT N
  have hlk := C.2.2.2.2.2.2.2.1
  obtain ⟨fs, hr, hrun, hended, hW, hsame⟩ := X.leave (v := none) (fun _ => rfl) hlk
  exact ⟨_, _, X.returnOut C.1 C.2.2.2.2.2.1 (hb C.2.2.2.1 hd) hr, hrun, hended, _, _, rfl, ⟨by show Q none T.heap; rw [eT]; exact hq, N⟩, ⟨_, rfl⟩, hW, hsame.mono hk hn⟩
theorem Cx.retW {Q : Option Value → Heap → Prop} {ck cs : Nat} {t : FieldType} {w : Value} {i : Instr} (C : Cx p s m meth c Z n0 own bc maxL (some t) nm) (hd : decode bc pc = .ok (i, 1)) (hnr : narrow t w = w)
    (hi : (i = .ireturn ∧ (t = .int ∨ t = .boolean ∨ t = .byte ∨ t = .char ∨ t = .short) ∧ ∃ z, w = .int z) ∨ (i = .lreturn ∧ t = .long ∧ ∃ z, w = .long z) ∨ (i = .dreturn ∧ t = .double ∧ ∃ z, w = .double z) ∨ (i = .freturn ∧ t = .float ∧ ∃ z, w = .float z) ∨ (i = .areturn ∧ t.isReference = true ∧ w.isRef = true))
    (hk : k ≤ ck) (hn : n ≤ cs) (hq : Q (some w) h) : Go p l e R s m args below meth c n0 (FinQ s n0 Q ck cs) h k n pc Ls (w :: st) := by
  intro T locs X eT N
  have hlk := C.2.2.2.2.2.2.2.1
  have hrt := C.2.2.2.2.2.1
  obtain ⟨fs, hr, hrun, hended, hW, hsame⟩ := X.leave (v := some w) (fun q => by rw [hrt] at q; cases q) hlk
  exact ⟨_, _, retOut X C.1 hrt hnr hi (hb C.2.2.2.1 hd) hr, hrun, hended, _, _, rfl, ⟨by show Q (some w) T.heap; rw [eT]; exact hq, N⟩, ⟨_, rfl⟩, hW, hsame.mono hk hn⟩
theorem Cx.retI {Q : Option Value → Heap → Prop} {ck cs : Nat} {z : Int32} (C : Cx p s m meth c Z n0 own bc maxL (some .int) nm) (hd : decode bc pc = .ok (.ireturn, 1)) (hk : k ≤ ck) (hn : n ≤ cs) (hq : Q (some (.int z)) h) : Go p l e R s m args below meth c n0 (FinQ s n0 Q ck cs) h k n pc Ls (.int z :: st) :=
  C.retW hd rfl (Or.inl ⟨rfl, Or.inl rfl, z, rfl⟩) hk hn hq
theorem Cx.retZ {Q : Option Value → Heap → Prop} {ck cs : Nat} {z : Int32} (C : Cx p s m meth c Z n0 own bc maxL (some .boolean) nm) (hd : decode bc pc = .ok (.ireturn, 1)) (hz : narrow .boolean (.int z) = .int z) (hk : k ≤ ck) (hn : n ≤ cs) (hq : Q (some (.int z)) h) : Go p l e R s m args below meth c n0 (FinQ s n0 Q ck cs) h k n pc Ls (.int z :: st) :=
  C.retW hd hz (Or.inl ⟨rfl, Or.inr (Or.inl rfl), z, rfl⟩) hk hn hq
theorem Cx.retC {Q : Option Value → Heap → Prop} {ck cs : Nat} {z : Int32} (C : Cx p s m meth c Z n0 own bc maxL (some .char) nm) (hd : decode bc pc = .ok (.ireturn, 1)) (hz : narrow .char (.int z) = .int z) (hk : k ≤ ck) (hn : n ≤ cs) (hq : Q (some (.int z)) h) : Go p l e R s m args below meth c n0 (FinQ s n0 Q ck cs) h k n pc Ls (.int z :: st) :=
  C.retW hd hz (Or.inl ⟨rfl, Or.inr (Or.inr (Or.inr (Or.inl rfl))), z, rfl⟩) hk hn hq
theorem Cx.retJ {Q : Option Value → Heap → Prop} {ck cs : Nat} {z : Int64} (C : Cx p s m meth c Z n0 own bc maxL (some .long) nm) (hd : decode bc pc = .ok (.lreturn, 1)) (hk : k ≤ ck) (hn : n ≤ cs) (hq : Q (some (.long z)) h) : Go p l e R s m args below meth c n0 (FinQ s n0 Q ck cs) h k n pc Ls (.long z :: st) :=
  C.retW hd rfl (Or.inr (Or.inl ⟨rfl, rfl, z, rfl⟩)) hk hn hq
theorem Cx.retA {Q : Option Value → Heap → Prop} {ck cs : Nat} {t : FieldType} {a : Addr} (C : Cx p s m meth c Z n0 own bc maxL (some t) nm) (hd : decode bc pc = .ok (.areturn, 1)) (ht : t.isReference = true) (hnr : narrow t (.ref a) = .ref a) (hk : k ≤ ck) (hn : n ≤ cs) (hq : Q (some (.ref a)) h) : Go p l e R s m args below meth c n0 (FinQ s n0 Q ck cs) h k n pc Ls (.ref a :: st) :=
  C.retW hd hnr (Or.inr (Or.inr (Or.inr (Or.inr ⟨rfl, ht, rfl⟩)))) hk hn hq
/-! a body's contract out of its walk -/
theorem Con.of {ws : List Jvm.Cond} {y : MethodName} {as : Array Value} {h0 : Heap} {Q : Option Value → Heap → Prop} (hn : plainFor y = true) (ef : ∀ m, entryFrame m as maxL = mkF m 0 Ls []) (hn0 : n0 ≤ h0.size)
    (body : ∀ p e s m below meth c, Cx p s m meth c Z n0 y.cls bc maxL ret y.name → Go p l e R s m as below meth c n0 (FinQ s n0 Q R.cells R.slots) h0 0 0 0 Ls []) : Con l Z n0 ws y bc maxL ret R as h0 Q := by
  refine MetFree.of_bodySF hn hisR ?_
  intro p e s m args below meth c s₁ Bd hml0 hP hK
  obtain ⟨rfl, hZ, hh⟩ := hP
  have e0 : s₁.heap = h0 := by rw [← hh, Bd.state]; rfl
  have X0 : Stand p l e R s m args below meth c s₁ [] 0 0 := Stand.of_body Bd
  obtain ⟨s₂, o, q1, q2, q3, q4⟩ := body p e s m below meth c ⟨Bd.exec, hZ, findClass_of_methodNamed Bd.named, Bd.bytes, hml0, Bd.returns, (name_of_methodNamed Bd.named Bd.method).1, Bd.notSynchronized, by rw [hh]; exact hn0⟩ s₁ [] X0 e0 (Fr.nil n0)
  exact ⟨s₂, o, castTop (ef m) q1, q2, q3, q4⟩
theorem Con.imp {ws : List Jvm.Cond} {y : MethodName} {as : Array Value} {h0 : Heap} {Q Q' : Option Value → Heap → Prop} (H : Con l Z n0 ws y bc maxL ret R as h0 Q) (q : ∀ v h, Q v h → Q' v h) : Con l Z n0 ws y bc maxL ret R as h0 Q' := by
  intro p e ha hc hk s m args below hf happ hP hK
  obtain ⟨n, o, h1, h2, h3, v, L, r1, ⟨r2, r3⟩, r4⟩ := H p e ha hc hk s m args below hf happ hP hK
  exact ⟨n, o, h1, h2, h3, v, L, r1, ⟨q _ _ r2, r3⟩, r4⟩
/-! calls by contract -/
theorem Cx.callS (C : Cx p s m meth c Z n0 own bc maxL ret nm) {y : MethodName} {bc' : ByteArray} {maxL' j : Nat} {ret' : Option FieldType} {R' : Room} {argsL rest : List Value} {Q : Option Value → Heap → Prop} (W : Nat) (hC : n0 ≤ h.size → Con l Z n0 [] y bc' maxL' ret' R' argsL.toArray h Q) (hd : decode bc pc = .ok (.invokestatic j, 3)) (hp : pc + 3 = pc')
    (w1 : (Jvm.Cond.methodLink own j y).before a0 Z = true) (w2 : (Jvm.Cond.static y).before a0 Z = true) (w3 : (Jvm.Cond.initialized y.cls).before a0 Z = true) (w4 : (Jvm.Cond.code y bc' maxL' ret').before a0 Z = true) (hy : y.cls ≠ "java/lang/invoke/MethodHandle" ∧ y.cls ≠ "java/lang/invoke/VarHandle") {ps : List FieldType} {r : Option FieldType} (hpd : parseMethodDescriptor y.desc = some ⟨ps, r⟩) (hlen : argsL.length = ps.length)
    (hst : st = argsL.reverse ++ rest) (hsz : Ls.size = maxL) (hW : (rest.map fun v => v.category).sum ≤ W) (hf : R'.frames + 1 ≤ R.frames) (hl : W + (maxL' + 11) + R'.locals ≤ R.locals) (hk : k + R'.cells ≤ R.cells) (hn : n + R'.slots ≤ R.slots)
    (hr : ∀ v h', Q v h' → Go p l e R s m args below meth c n0 F h' (k + R'.cells) (n + R'.slots) pc' Ls (v.toList ++ rest)) : Go p l e R s m args below meth c n0 F h k n pc Ls st := by
  intro T locs X eT N
  subst hp hst
  obtain ⟨v, _, ⟨T', L', k', n'⟩, -, X', ⟨Lc, hQ, l1, y1, z1⟩, stp⟩ := Jvm.LawKit.callS X C.1 (y := y) C.2.2.1 (mvT C.2.1 w1) (mvT C.2.1 w2) (mvT C.2.1 w3) (mvT C.2.1 w4) hy (backOf (Z := Z) (h := h) (bytes := bc') (maxL := maxL') (ret := ret') (rm := R') (as' := argsL.toArray) (Q := fun v h' L => Q v h' ∧ Fr n0 L) (W := W) (hC (by rw [← eT]; exact C.size X)) C.2.1 w4 w3 hf hl) (g := mkF m pc Ls (argsL.reverse ++ rest)) rfl (hsz.trans C.2.2.2.2.1.symm) (argsL := argsL) (rest := rest) (lenOf hpd hlen) rfl (by show 2 * 0 + _ ≤ W; omega) (hb C.2.2.2.1 hd) (fun _ _ => ⟨rfl, eT, hk, hn⟩)
  dsimp only [Pt.U, Pt.locs, Pt.cells, Pt.slots] at X' l1 y1 z1 stp hQ
  subst l1 y1 z1
  obtain ⟨s₂, o, q1, q2⟩ := hr v T'.heap hQ.1 T' _ X' rfl (Fr.app N hQ.2)
  exact ⟨s₂, o, stp _ q1, q2⟩
theorem Cx.callN (C : Cx p s m meth c Z n0 own bc maxL ret nm) {y : MethodName} {bc' : ByteArray} {maxL' j : Nat} {R' : Room} {a : Addr} {argsL rest : List Value} {Q : Option Value → Heap → Prop} (W : Nat) (hC : n0 ≤ h.size → Con l Z n0 [] y bc' maxL' none R' (.ref a :: argsL).toArray h Q) (hd : decode bc pc = .ok (.invokespecial j, 3)) (hp : pc + 3 = pc') (hy1 : y.name = "<init>")
    (w1 : (Jvm.Cond.methodLink own j y).before a0 Z = true) (w2 : (Jvm.Cond.instanceMethod y).before a0 Z = true) (w3 : (Jvm.Cond.initialized y.cls).before a0 Z = true) (w4 : (Jvm.Cond.code y bc' maxL' none).before a0 Z = true) (hy : y.cls ≠ "java/lang/invoke/MethodHandle" ∧ y.cls ≠ "java/lang/invoke/VarHandle") {ps : List FieldType} {r : Option FieldType} (hpd : parseMethodDescriptor y.desc = some ⟨ps, r⟩) (hlen : argsL.length = ps.length)
    (hst : st = argsL.reverse ++ .ref a :: rest) (hsz : Ls.size = maxL) (hW : (rest.map fun v => v.category).sum ≤ W) (hf : R'.frames + 1 ≤ R.frames) (hl : W + (maxL' + 11) + R'.locals ≤ R.locals) (hk : k + R'.cells ≤ R.cells) (hn : n + R'.slots ≤ R.slots)
    (hr : ∀ v h', Q v h' → Go p l e R s m args below meth c n0 F h' (k + R'.cells) (n + R'.slots) pc' Ls (v.toList ++ rest)) : Go p l e R s m args below meth c n0 F h k n pc Ls st := by
  intro T locs X eT N
  subst hp hst
  obtain ⟨v, _, ⟨T', L', k', n'⟩, -, X', ⟨Lc, hQ, l1, y1, z1⟩, stp⟩ := X.specialBack C.1 (y := y) hy1 C.2.2.1 (mvT C.2.1 w1) (mvT C.2.1 w2) (mvT C.2.1 w4) hy (backOf (Z := Z) (h := h) (bytes := bc') (maxL := maxL') (ret := none) (rm := R') (as' := (Value.ref a :: argsL).toArray) (Q := fun v h' L => Q v h' ∧ Fr n0 L) (W := W) (hC (by rw [← eT]; exact C.size X)) C.2.1 w4 w3 hf hl) (g := mkF m pc Ls (argsL.reverse ++ .ref a :: rest)) rfl (hsz.trans C.2.2.2.2.1.symm) (Steps.refl _) (a := a) (argsL := argsL) (rest := rest) (lenOf hpd hlen) rfl (by show 2 * 0 + _ ≤ W; omega) (hb C.2.2.2.1 hd) (fun _ _ => ⟨rfl, eT, hk, hn⟩)
  dsimp only [Pt.U, Pt.locs, Pt.cells, Pt.slots] at X' l1 y1 z1 stp hQ
  subst l1 y1 z1
  obtain ⟨s₂, o, q1, q2⟩ := hr v T'.heap hQ.1 T' _ X' rfl (Fr.app N hQ.2)
  exact ⟨s₂, o, stp.trans q1, q2⟩
theorem Cx.callV (C : Cx p s m meth c Z n0 own bc maxL ret nm) {y : MethodName} {cls : String} {bc' : ByteArray} {maxL' j : Nat} {ret' : Option FieldType} {R' : Room} {a : Addr} {argsL rest : List Value} {Q : Option Value → Heap → Prop} (W : Nat) (hC : n0 ≤ h.size → Con l Z n0 [] y bc' maxL' ret' R' (.ref a :: argsL).toArray h Q) (E : Exa Z h a cls) (hd : decode bc pc = .ok (.invokevirtual j, 3)) (hp : pc + 3 = pc')
    (w1 : (Jvm.Cond.methodLink own j y).before a0 Z = true) (w2 : (Jvm.Cond.declares y).before a0 Z = true) (w3 : (Jvm.Cond.instanceMethod y).before a0 Z = true) (w4 : (Jvm.Cond.selects cls y y).before a0 Z = true) (w5 : (Jvm.Cond.initialized y.cls).before a0 Z = true) (w6 : (Jvm.Cond.code y bc' maxL' ret').before a0 Z = true) (hy : y.cls ≠ "java/lang/invoke/MethodHandle" ∧ y.cls ≠ "java/lang/invoke/VarHandle") {ps : List FieldType} {r : Option FieldType} (hpd : parseMethodDescriptor y.desc = some ⟨ps, r⟩) (hlen : argsL.length = ps.length)
    (hst : st = argsL.reverse ++ .ref a :: rest) (hsz : Ls.size = maxL) (hW : (rest.map fun v => v.category).sum ≤ W) (hf : R'.frames + 1 ≤ R.frames) (hl : W + (maxL' + 11) + R'.locals ≤ R.locals) (hk : k + R'.cells ≤ R.cells) (hn : n + R'.slots ≤ R.slots)
    (hr : ∀ v h', Q v h' → Go p l e R s m args below meth c n0 F h' (k + R'.cells) (n + R'.slots) pc' Ls (v.toList ++ rest)) : Go p l e R s m args below meth c n0 F h k n pc Ls st := by
  intro T locs X eT N
  subst hp hst
  obtain ⟨cq, kq, qa, qb, qc⟩ := isOf (T := T) C.2.1 eT E
  obtain ⟨v, _, ⟨T', L', k', n'⟩, -, X', ⟨Lc, hQ, l1, y1, z1⟩, stp⟩ := X.virtualBack C.1 (y := y) (z := y) C.2.2.1 (mvT C.2.1 w1) (mvT C.2.1 w2) (notFace_of_selects (args := #[]) (mvT C.2.1 w4)) (mvT C.2.1 w4) (mvT C.2.1 w3) hy (backOf (Z := Z) (h := h) (bytes := bc') (maxL := maxL') (ret := ret') (rm := R') (as' := (Value.ref a :: argsL).toArray) (Q := fun v h' L => Q v h' ∧ Fr n0 L) (W := W) (hC (by rw [← eT]; exact C.size X)) C.2.1 w6 w5 hf hl) qa qc (g := mkF m pc Ls (argsL.reverse ++ .ref a :: rest)) rfl (hsz.trans C.2.2.2.2.1.symm) (Steps.refl _) (argsL := argsL) (rest := rest) (lenOf hpd hlen) rfl (by show 2 * 0 + _ ≤ W; omega) (hb C.2.2.2.1 hd) (fun _ _ => ⟨rfl, eT, hk, hn⟩)
  dsimp only [Pt.U, Pt.locs, Pt.cells, Pt.slots] at X' l1 y1 z1 stp hQ
  subst l1 y1 z1
  obtain ⟨s₂, o, q1, q2⟩ := hr v T'.heap hQ.1 T' _ X' rfl (Fr.app N hQ.2)
  exact ⟨s₂, o, stp.trans q1, q2⟩
end Own
theorem own_or_l {a b : Int64} (q : ¬ a = 0) : ¬ a ||| b = 0 := fun e => q (by
  have f := congrArg Int64.toBitVec e
  rw [Int64.toBitVec_or] at f
  exact Int64.toBitVec_inj.1 (BitVec.or_eq_zero_iff.mp f).1)
theorem own_or_r {a b : Int64} (q : ¬ b = 0) : ¬ a ||| b = 0 := fun e => q (by
  have f := congrArg Int64.toBitVec e
  rw [Int64.toBitVec_or] at f
  exact Int64.toBitVec_inj.1 (BitVec.or_eq_zero_iff.mp f).2)
section OwnArr
variable {p : Program} {l : Launch} {e : Env} {R : Room} {s : State} {m : MethodId} {args : Array Value} {below : List Frame} {meth : Method} {c : Code} {n0 : Nat} {F : State → Outcome → Prop} {h : Heap} {k n pc pc' : Nat} {Ls : Array Slot} {st : List Value} {Z : State} {own : String} {bc : ByteArray} {maxL : Nat} {ret : Option FieldType} {nm : String} {a0 : Array Value}
theorem own_clamp {j : Nat} (q : j < 2 ^ 31) : j.toInt32.toNatClampNeg = j ∧ ¬ j.toInt32 < 0 := by
  have e := len_toInt q
  constructor
  · simp only [Int32.toNatClampNeg, e]; omega
  · rw [Int32.lt_iff_toInt_lt, e]; simp only [Int32.reduceToInt]; omega
theorem Av.arv {a : Addr} {ty : FieldType} {vs : List Value} (A : Av Z h a ty vs) (q : vs.length < 2 ^ 31) (dv : Value) : ∃ kc, Arv Z h a kc ty vs.length.toInt32 vs dv := by
  obtain ⟨cl, A, rfl, r⟩ := A
  obtain ⟨e1, e2⟩ := own_clamp q
  rw [Array.length_toList] at q e1 e2 ⊢
  refine ⟨cl.cls, cl, A, rfl, e1.symm, e2, fun i hi => ?_, fun i hi => ?_⟩
  · simp [List.getD_eq_getElem?_getD, hi]
  · have : cl.slots.toList.getD i dv = cl.slots[i] := by simp [List.getD_eq_getElem?_getD, hi]
    rw [this]; exact r _ (by simp)
theorem Arv.av {a : Addr} {kc : ClassId} {ty : FieldType} {z : Int32} {vs : List Value} {dv : Value} (A : Arv Z h a kc ty z vs dv) (q : z.toNatClampNeg = vs.length) : Av Z h a ty vs := by
  obtain ⟨cl, A, -, S, -, H, G⟩ := A
  have e : cl.slots.toList = vs := by
    apply List.ext_getElem?
    intro i
    by_cases hi : i < cl.slots.size
    · have := H i hi
      rw [Array.getElem?_toList, this]
      have h2 : i < vs.length := by omega
      simp [List.getD_eq_getElem?_getD, h2]
    · rw [List.getElem?_eq_none (by simpa using hi), List.getElem?_eq_none (by omega)]
  refine ⟨cl, A, e, fun v hv => ?_⟩
  obtain ⟨i, hi, rfl⟩ := List.getElem_of_mem hv
  have := G i (by omega)
  simpa [List.getD_eq_getElem?_getD, hi] using this
theorem own_range (vs : List Value) (sp nn : Nat) (q : sp + nn ≤ vs.length) (d : Value) : (List.range nn).map (fun i => vs.getD (sp + i) d) = (vs.drop sp).take nn := by
  apply List.ext_getElem?
  intro i
  by_cases hi : i < nn
  · simp [hi, List.getElem?_take, List.getD_eq_getElem?_getD, show sp + i < vs.length by omega]
  · rw [List.getElem?_eq_none (by simpa using hi), List.getElem?_eq_none (by simp; omega)]
theorem Cx.acopy (C : Cx p s m meth c Z n0 own bc maxL ret nm) {j : Nat} {a b : Addr} {ty : FieldType} {sp dp nn : Int32} {vs vd : List Value} (W : Nat) (hd : decode bc pc = .ok (.invokestatic j, 3)) (hp : pc + 3 = pc') (w1 : (Jvm.Cond.methodLink own j Jvm.Stand.acN).before a0 Z = true) (w2 : (Jvm.Cond.native Jvm.Stand.acN).before a0 Z = true) (w3 : (Jvm.Cond.static Jvm.Stand.acN).before a0 Z = true) (w4 : (Jvm.Cond.initialized "java/lang/System").before a0 Z = true)
    (A : Av Z h a ty vs) (B : Av Z h b ty vd) (hty : refKind ty = false) (l1 : vs.length < 2 ^ 31) (l2 : vd.length < 2 ^ 31) (h1 : ¬ sp < 0) (h2 : ¬ dp < 0) (h3 : ¬ nn < 0) (h4 : sp.toNatClampNeg + nn.toNatClampNeg ≤ vs.length) (h5 : dp.toNatClampNeg + nn.toNatClampNeg ≤ vd.length) (ge : n0 ≤ b) (hsz : Ls.size = maxL) (hf : 1 ≤ R.frames) (hW : (st.map fun v => v.category).sum ≤ W) (hlo : W + (nativeFrameWords "java/lang/System" "arraycopy" 5 + 11) ≤ R.locals)
    (hr : ∀ h', Keep h h' [b] → Av Z h' b ty (vd.take dp.toNatClampNeg ++ (vs.drop sp.toNatClampNeg).take nn.toNatClampNeg ++ vd.drop (dp.toNatClampNeg + nn.toNatClampNeg)) → Go p l e R s m args below meth c n0 F h' k n pc' Ls st) : Go p l e R s m args below meth c n0 F h k n pc Ls (.int nn :: .int dp :: .ref b :: .int sp :: .ref a :: st) := by
  intro T locs X eT N
  subst hp
  obtain ⟨ka, A'⟩ := A.arv l1 (.int 0)
  obtain ⟨kb, B'⟩ := B.arv l2 (.int 0)
  have c1 := (own_clamp l1).1
  have c2 := (own_clamp l2).1
  obtain ⟨T', h', L', X', e', N', K', V', stp⟩ := cpA X C.1 C.2.1 C.2.2.1 w1 w2 w3 w4 eT A' B' (Or.inl ⟨rfl, hty⟩) h1 h2 h3 (by rw [c1]; exact h4) (by rw [c2]; exact h5) rfl h5 N ge (g := mkF m pc Ls (.int nn :: .int dp :: .ref b :: .int sp :: .ref a :: st)) rfl (hsz.trans C.2.2.2.2.1.symm) rfl (hb C.2.2.2.1 hd) hf (W := W) (by show 2 * 0 + _ ≤ W; omega) hlo
  rw [own_range vs _ _ h4] at V'
  have V2 := Arv.av V' (by rw [c2]; simp; omega)
  obtain ⟨s₂, o, q1, q2⟩ := hr h' K' V2 T' _ X' e' N'
  exact ⟨s₂, o, stp _ q1, q2⟩
end OwnArr
section OwnCalls
variable {p : Program} {l : Launch} {e : Env} {R : Room} {s : State} {m : MethodId} {args : Array Value} {below : List Frame} {meth : Method} {c : Code} {n0 : Nat} {F : State → Outcome → Prop} {h : Heap} {k n pc pc' : Nat} {Ls : Array Slot} {st : List Value} {Z : State} {own : String} {bc : ByteArray} {maxL : Nat} {ret : Option FieldType} {nm : String} {a0 : Array Value}
theorem Cx.callNN (C : Cx p s m meth c Z n0 own bc maxL ret nm) {y : MethodName} {host : String} {bc' : ByteArray} {maxL' j : Nat} {R' : Room} {a : Addr} {argsL rest : List Value} {Q : Option Value → Heap → Prop} (W : Nat) (hC : n0 ≤ h.size → Con l Z n0 [] y bc' maxL' none R' (.ref a :: argsL).toArray h Q) (hd : decode bc pc = .ok (.invokespecial j, 3)) (hp : pc + 3 = pc') (hy1 : y.name = "<init>")
    (w1 : (Jvm.Cond.methodLinkNest own j y host).before a0 Z = true) (w2 : (Jvm.Cond.instanceMethod y).before a0 Z = true) (w3 : (Jvm.Cond.initialized y.cls).before a0 Z = true) (w4 : (Jvm.Cond.code y bc' maxL' none).before a0 Z = true) (hy : y.cls ≠ "java/lang/invoke/MethodHandle" ∧ y.cls ≠ "java/lang/invoke/VarHandle") {ps : List FieldType} {r : Option FieldType} (hpd : parseMethodDescriptor y.desc = some ⟨ps, r⟩) (hlen : argsL.length = ps.length)
    (hst : st = argsL.reverse ++ .ref a :: rest) (hsz : Ls.size = maxL) (hW : (rest.map fun v => v.category).sum ≤ W) (hf : R'.frames + 1 ≤ R.frames) (hl : W + (maxL' + 11) + R'.locals ≤ R.locals) (hk : k + R'.cells ≤ R.cells) (hn : n + R'.slots ≤ R.slots)
    (hr : ∀ v h', Q v h' → Go p l e R s m args below meth c n0 F h' (k + R'.cells) (n + R'.slots) pc' Ls (v.toList ++ rest)) : Go p l e R s m args below meth c n0 F h k n pc Ls st := by
  intro T locs X eT N
  subst hp hst
  obtain ⟨v, _, ⟨T', L', k', n'⟩, -, X', ⟨Lc, hQ, l1, y1, z1⟩, stp⟩ := X.specialBackNest C.1 (y := y) hy1 C.2.2.1 (Cond.methodLinkNest_wide C.2.1 w1 :) (mvT C.2.1 w2) (mvT C.2.1 w4) hy (backOf (Z := Z) (h := h) (bytes := bc') (maxL := maxL') (ret := none) (rm := R') (as' := (Value.ref a :: argsL).toArray) (Q := fun v h' L => Q v h' ∧ Fr n0 L) (W := W) (hC (by rw [← eT]; exact C.size X)) C.2.1 w4 w3 hf hl) (g := mkF m pc Ls (argsL.reverse ++ .ref a :: rest)) rfl (hsz.trans C.2.2.2.2.1.symm) (Steps.refl _) (a := a) (argsL := argsL) (rest := rest) (lenOf hpd hlen) rfl (by show 2 * 0 + _ ≤ W; omega) (hb C.2.2.2.1 hd) (fun _ _ => ⟨rfl, eT, hk, hn⟩)
  dsimp only [Pt.U, Pt.locs, Pt.cells, Pt.slots] at X' l1 y1 z1 stp hQ
  subst l1 y1 z1
  obtain ⟨s₂, o, q1, q2⟩ := hr v T'.heap hQ.1 T' _ X' rfl (Fr.app N hQ.2)
  exact ⟨s₂, o, stp.trans q1, q2⟩
end OwnCalls
section OwnPriv
variable {p : Program} {l : Launch} {e : Env} {R : Room} {s : State} {m : MethodId} {args : Array Value} {below : List Frame} {meth : Method} {c : Code} {n0 : Nat} {F : State → Outcome → Prop} {h : Heap} {k n pc pc' : Nat} {Ls : Array Slot} {st : List Value} {Z : State} {own : String} {bc : ByteArray} {maxL : Nat} {ret : Option FieldType} {nm : String} {a0 : Array Value}
theorem Cx.callP (C : Cx p s m meth c Z n0 own bc maxL ret nm) {y : MethodName} {cls : String} {bc' : ByteArray} {maxL' j : Nat} {ret' : Option FieldType} {R' : Room} {a : Addr} {argsL rest : List Value} {Q : Option Value → Heap → Prop} (W : Nat) (hC : n0 ≤ h.size → Con l Z n0 [] y bc' maxL' ret' R' (.ref a :: argsL).toArray h Q) (E : Exa Z h a cls) (hd : decode bc pc = .ok (.invokevirtual j, 3)) (hp : pc + 3 = pc')
    (w1 : (Jvm.Cond.methodLink own j y).before a0 Z = true) (w2 : (Jvm.Cond.privateMethod y).before a0 Z = true) (w3 : (Jvm.Cond.instanceMethod y).before a0 Z = true) (w4 : (Jvm.Cond.selects y.cls y y).before a0 Z = true) (w5 : (Jvm.Cond.initialized y.cls).before a0 Z = true) (w6 : (Jvm.Cond.code y bc' maxL' ret').before a0 Z = true) (hy : y.cls ≠ "java/lang/invoke/MethodHandle" ∧ y.cls ≠ "java/lang/invoke/VarHandle") {ps : List FieldType} {r : Option FieldType} (hpd : parseMethodDescriptor y.desc = some ⟨ps, r⟩) (hlen : argsL.length = ps.length)
    (hst : st = argsL.reverse ++ .ref a :: rest) (hsz : Ls.size = maxL) (hW : (rest.map fun v => v.category).sum ≤ W) (hf : R'.frames + 1 ≤ R.frames) (hl : W + (maxL' + 11) + R'.locals ≤ R.locals) (hk : k + R'.cells ≤ R.cells) (hn : n + R'.slots ≤ R.slots)
    (hr : ∀ v h', Q v h' → Go p l e R s m args below meth c n0 F h' (k + R'.cells) (n + R'.slots) pc' Ls (v.toList ++ rest)) : Go p l e R s m args below meth c n0 F h k n pc Ls st := by
  intro T locs X eT N
  subst hp hst
  obtain ⟨cell, hc1, hc2⟩ := E.cell
  obtain ⟨v, _, ⟨T', L', k', n'⟩, -, X', ⟨Lc, hQ, l1, y1, z1⟩, stp⟩ := X.privateBack C.1 (y := y) C.2.2.1 (mvT C.2.1 w1) (mvT C.2.1 w3) (mvT C.2.1 w4) (Cond.privateMethod_at (args := #[]) (mvP C.2.1 w2)) (mvT C.2.1 w6) hy (backOf (Z := Z) (h := h) (bytes := bc') (maxL := maxL') (ret := ret') (rm := R') (as' := (Value.ref a :: argsL).toArray) (Q := fun v h' L => Q v h' ∧ Fr n0 L) (W := W) (hC (by rw [← eT]; exact C.size X)) C.2.1 w6 w5 hf hl) (g := mkF m pc Ls (argsL.reverse ++ .ref a :: rest)) rfl (hsz.trans C.2.2.2.2.1.symm) (Steps.refl _) (by rw [eT]; exact hc1) hc2 (argsL := argsL) (rest := rest) (lenOf hpd hlen) rfl (by show 2 * 0 + _ ≤ W; omega) (hb C.2.2.2.1 hd) (fun _ _ => ⟨rfl, eT, hk, hn⟩)
  dsimp only [Pt.U, Pt.locs, Pt.cells, Pt.slots] at X' l1 y1 z1 stp hQ
  subst l1 y1 z1
  obtain ⟨s₂, o, q1, q2⟩ := hr v T'.heap hQ.1 T' _ X' rfl (Fr.app N hQ.2)
  exact ⟨s₂, o, stp.trans q1, q2⟩
end OwnPriv
theorem own_four (x : Int32) : x &&& 3 = 0 ∨ x &&& 3 = 1 ∨ x &&& 3 = 2 ∨ x &&& 3 = 3 := by
  have e : (x &&& 3).toInt = x.toInt % 2 ^ 2 := Jvm.Kit.i32_mask x 3 (k := 2) (by decide) (by decide)
  simp only [← Int32.toInt_inj, Int32.reduceToInt]; omega
theorem pf_0 : plainFor x = true := by first | exact plainFor_of_name (by first | (simp [plainName, overriddenIn]; done) | decide +kernel) | decide +kernel
theorem d1_0 : decode prog_22_method_1_code 0 = .ok (.aload_n 0, 1) := by decide +kernel
theorem d1_1 : decode prog_22_method_1_code 1 = .ok (.invokespecial 1, 3) := by decide +kernel
theorem d1_4 : decode prog_22_method_1_code 4 = .ok (.aload_n 0, 1) := by decide +kernel
theorem d1_5 : decode prog_22_method_1_code 5 = .ok (.iconst 0, 1) := by decide +kernel
theorem d1_6 : decode prog_22_method_1_code 6 = .ok (.putfield 9, 3) := by decide +kernel
theorem d1_9 : decode prog_22_method_1_code 9 = .ok (.aload_n 0, 1) := by decide +kernel
theorem d1_10 : decode prog_22_method_1_code 10 = .ok (.aload_n 1, 1) := by decide +kernel
theorem d1_11 : decode prog_22_method_1_code 11 = .ok (.putfield 13, 3) := by decide +kernel
theorem d1_14 : decode prog_22_method_1_code 14 = .ok (.aload_n 0, 1) := by decide +kernel
theorem d1_15 : decode prog_22_method_1_code 15 = .ok (.aload_n 2, 1) := by decide +kernel
theorem d1_16 : decode prog_22_method_1_code 16 = .ok (.putfield 17, 3) := by decide +kernel
theorem d1_19 : decode prog_22_method_1_code 19 = .ok (.aload_n 0, 1) := by decide +kernel
theorem d1_20 : decode prog_22_method_1_code 20 = .ok (.aload_n 3, 1) := by decide +kernel
theorem d1_21 : decode prog_22_method_1_code 21 = .ok (.putfield 20, 3) := by decide +kernel
theorem d1_24 : decode prog_22_method_1_code 24 = .ok (.aload_n 0, 1) := by decide +kernel
theorem d1_25 : decode prog_22_method_1_code 25 = .ok (.aload 4, 2) := by decide +kernel
theorem d1_27 : decode prog_22_method_1_code 27 = .ok (.putfield 23, 3) := by decide +kernel
theorem d1_30 : decode prog_22_method_1_code 30 = .ok (.return_, 1) := by decide +kernel
theorem pf_1 : plainFor (⟨"com/example/dodder/dodder/Elements", "<init>", "([I[I[I[I)V"⟩ : MethodName) = true := by first | exact plainFor_of_name (by first | (simp [plainName, overriddenIn]; done) | decide +kernel) | decide +kernel
def Qau46_1 (Z : State) (n0 : Nat) (h0 : Heap) (o0 : Addr) (o1 : Addr) (o2 : Addr) (o3 : Addr) (v : Option Value) (h' : Heap) : Prop := (v = none) ∧ (Keep h0 h' [o0]) ∧ (Fld Z h' o0 "com/example/dodder/dodder/Elements" "depths" "[I" (.ref o3)) ∧ (Fld Z h' o0 "com/example/dodder/dodder/Elements" "extents" "[I" (.ref o2)) ∧ (Fld Z h' o0 "com/example/dodder/dodder/Elements" "nesting" "B" (.int 0)) ∧ (Fld Z h' o0 "com/example/dodder/dodder/Elements" "numbers" "[I" (.ref o1)) ∧ (Fld Z h' o0 "com/example/dodder/dodder/Elements" "parents" "[I" (.null))
theorem ef_au46_1 (m : MethodId) (o0 : Addr) (o1 : Addr) (o2 : Addr) (o3 : Addr) : entryFrame m #[(.ref o0), (.ref o1), (.ref o2), (.ref o3), .null] 5 = mkF m 0 #[.val (.ref o0), .val (.ref o1), .val (.ref o2), .val (.ref o3), .val (.null)] [] := by first | (simp [entryFrame, mkF, argsToLocals, Value.category]; done) | rfl
set_option maxRecDepth 65536 in
set_option maxHeartbeats 40000000 in
theorem au46_1 (l : Launch) (Z : State) (a0 : Array Value) (hw : ∀ d ∈ tables_1, d.before a0 Z = true) (n0 : Nat) (h0 : Heap) (hn0 : n0 ≤ h0.size) (o0 : Addr) (o1 : Addr) (o2 : Addr) (o3 : Addr) (P0 : Exa Z h0 o0 "com/example/dodder/dodder/Elements") (P1 : Fld Z h0 o0 "com/example/dodder/dodder/Elements" "depths" "[I" (.null)) (P2 : Fld Z h0 o0 "com/example/dodder/dodder/Elements" "extents" "[I" (.null)) (P3 : Fld Z h0 o0 "com/example/dodder/dodder/Elements" "nesting" "B" (.int 0)) (P4 : Fld Z h0 o0 "com/example/dodder/dodder/Elements" "numbers" "[I" (.null)) (P5 : Fld Z h0 o0 "com/example/dodder/dodder/Elements" "parents" "[I" (.null)) (P6 : Av Z h0 o1 .int ([])) (P7 : Av Z h0 o2 .int ([])) (P8 : Av Z h0 o3 .int ([])) (g_o0 : n0 ≤ o0) (g_o1 : n0 ≤ o1) (g_o2 : n0 ≤ o2) (g_o3 : n0 ≤ o3) (ne_o0_o1 : o0 ≠ o1) (ne_o0_o2 : o0 ≠ o2) (ne_o0_o3 : o0 ≠ o3) (ne_o1_o2 : o1 ≠ o2) (ne_o1_o3 : o1 ≠ o3) (ne_o2_o3 : o2 ≠ o3) :
    Con l Z n0 [] (⟨"com/example/dodder/dodder/Elements", "<init>", "([I[I[I[I)V"⟩ : MethodName) prog_22_method_1_code 5 none ({ frames := 1, cells := 0, slots := 0, locals := 12 } : Room) #[(.ref o0), (.ref o1), (.ref o2), (.ref o3), .null] h0 (Qau46_1 Z n0 h0 o0 o1 o2 o3) := by
  refine Con.of pf_1 (fun m => ef_au46_1 m o0 o1 o2 o3) hn0 ?_
  intro p e s m below meth c C
  refine C.aloadN d1_0 rfl rfl rfl ?_
  refine C.initO 0 d1_1 rfl (tw hw 7 rfl) (tw hw 8 rfl) (tw hw 9 rfl) rfl (by decide) (Nat.le_of_eq rfl) (by decide) ?_
  refine C.aloadN d1_4 rfl rfl rfl ?_
  refine C.iconst 0 d1_5 rfl rfl ?_
  refine C.putF d1_6 rfl (tw hw 10 rfl) P3 P0 (Or.inl (tw hw 11 rfl)) (tw hw 2 rfl) (ty := .byte) (by decide) rfl rfl g_o0 (fun h157 W158 F159 => ?_)
  have F160 : Exa Z h157 o0 "com/example/dodder/dodder/Elements" := Exa.wr W158 P0
  have F161 : Fld Z h157 o0 "com/example/dodder/dodder/Elements" "depths" "[I" (.null) := Fld.other W158 P1 (Or.inr (slot_ne (C := "com/example/dodder/dodder/Elements") (t := (.array .int)) (t' := .byte) (Or.inr (tw hw 17 rfl)) (Or.inl (tw hw 11 rfl)) (by decide) (by decide) (by decide)))
  have F162 : Fld Z h157 o0 "com/example/dodder/dodder/Elements" "extents" "[I" (.null) := Fld.other W158 P2 (Or.inr (slot_ne (C := "com/example/dodder/dodder/Elements") (t := (.array .int)) (t' := .byte) (Or.inr (tw hw 15 rfl)) (Or.inl (tw hw 11 rfl)) (by decide) (by decide) (by decide)))
  have F163 : Fld Z h157 o0 "com/example/dodder/dodder/Elements" "numbers" "[I" (.null) := Fld.other W158 P4 (Or.inr (slot_ne (C := "com/example/dodder/dodder/Elements") (t := (.array .int)) (t' := .byte) (Or.inr (tw hw 13 rfl)) (Or.inl (tw hw 11 rfl)) (by decide) (by decide) (by decide)))
  have F164 : Fld Z h157 o0 "com/example/dodder/dodder/Elements" "parents" "[I" (.null) := Fld.other W158 P5 (Or.inr (slot_ne (C := "com/example/dodder/dodder/Elements") (t := (.array .int)) (t' := .byte) (Or.inr (tw hw 19 rfl)) (Or.inl (tw hw 11 rfl)) (by decide) (by decide) (by decide)))
  have F165 : Av Z h157 o1 .int ([]) := P6.other W158 (Ne.symm ne_o0_o1)
  have F166 : Av Z h157 o2 .int ([]) := P7.other W158 (Ne.symm ne_o0_o2)
  have F167 : Av Z h157 o3 .int ([]) := P8.other W158 (Ne.symm ne_o0_o3)
  refine C.aloadN d1_9 rfl rfl rfl ?_
  refine C.aloadN d1_10 rfl rfl rfl ?_
  refine C.putF d1_11 rfl (tw hw 12 rfl) F163 F160 (Or.inr ⟨(tw hw 13 rfl), rfl, rfl⟩) (tw hw 2 rfl) (ty := (.array .int)) (by decide) rfl rfl g_o0 (fun h168 W169 F170 => ?_)
  have F171 : Exa Z h168 o0 "com/example/dodder/dodder/Elements" := Exa.wr W169 F160
  have F172 : Fld Z h168 o0 "com/example/dodder/dodder/Elements" "depths" "[I" (.null) := Fld.other W169 F161 (Or.inr (slot_ne (C := "com/example/dodder/dodder/Elements") (t := (.array .int)) (t' := (.array .int)) (Or.inr (tw hw 17 rfl)) (Or.inr (tw hw 13 rfl)) (by decide) (by decide) (by decide)))
  have F173 : Fld Z h168 o0 "com/example/dodder/dodder/Elements" "extents" "[I" (.null) := Fld.other W169 F162 (Or.inr (slot_ne (C := "com/example/dodder/dodder/Elements") (t := (.array .int)) (t' := (.array .int)) (Or.inr (tw hw 15 rfl)) (Or.inr (tw hw 13 rfl)) (by decide) (by decide) (by decide)))
  have F174 : Fld Z h168 o0 "com/example/dodder/dodder/Elements" "parents" "[I" (.null) := Fld.other W169 F164 (Or.inr (slot_ne (C := "com/example/dodder/dodder/Elements") (t := (.array .int)) (t' := (.array .int)) (Or.inr (tw hw 19 rfl)) (Or.inr (tw hw 13 rfl)) (by decide) (by decide) (by decide)))
  have F175 : Av Z h168 o1 .int ([]) := F165.other W169 (Ne.symm ne_o0_o1)
  have F176 : Av Z h168 o2 .int ([]) := F166.other W169 (Ne.symm ne_o0_o2)
  have F177 : Av Z h168 o3 .int ([]) := F167.other W169 (Ne.symm ne_o0_o3)
  have F178 : Fld Z h168 o0 "com/example/dodder/dodder/Elements" "nesting" "B" (.int 0) := Fld.other W169 F159 (Or.inr (slot_ne (C := "com/example/dodder/dodder/Elements") (t := .byte) (t' := (.array .int)) (Or.inl (tw hw 11 rfl)) (Or.inr (tw hw 13 rfl)) (by decide) (by decide) (by decide)))
  refine C.aloadN d1_14 rfl rfl rfl ?_
  refine C.aloadN d1_15 rfl rfl rfl ?_
  refine C.putF d1_16 rfl (tw hw 14 rfl) F173 F171 (Or.inr ⟨(tw hw 15 rfl), rfl, rfl⟩) (tw hw 2 rfl) (ty := (.array .int)) (by decide) rfl rfl g_o0 (fun h179 W180 F181 => ?_)
  have F182 : Exa Z h179 o0 "com/example/dodder/dodder/Elements" := Exa.wr W180 F171
  have F183 : Fld Z h179 o0 "com/example/dodder/dodder/Elements" "depths" "[I" (.null) := Fld.other W180 F172 (Or.inr (slot_ne (C := "com/example/dodder/dodder/Elements") (t := (.array .int)) (t' := (.array .int)) (Or.inr (tw hw 17 rfl)) (Or.inr (tw hw 15 rfl)) (by decide) (by decide) (by decide)))
  have F184 : Fld Z h179 o0 "com/example/dodder/dodder/Elements" "parents" "[I" (.null) := Fld.other W180 F174 (Or.inr (slot_ne (C := "com/example/dodder/dodder/Elements") (t := (.array .int)) (t' := (.array .int)) (Or.inr (tw hw 19 rfl)) (Or.inr (tw hw 15 rfl)) (by decide) (by decide) (by decide)))
  have F185 : Av Z h179 o1 .int ([]) := F175.other W180 (Ne.symm ne_o0_o1)
  have F186 : Av Z h179 o2 .int ([]) := F176.other W180 (Ne.symm ne_o0_o2)
  have F187 : Av Z h179 o3 .int ([]) := F177.other W180 (Ne.symm ne_o0_o3)
  have F188 : Fld Z h179 o0 "com/example/dodder/dodder/Elements" "nesting" "B" (.int 0) := Fld.other W180 F178 (Or.inr (slot_ne (C := "com/example/dodder/dodder/Elements") (t := .byte) (t' := (.array .int)) (Or.inl (tw hw 11 rfl)) (Or.inr (tw hw 15 rfl)) (by decide) (by decide) (by decide)))
  have F189 : Fld Z h179 o0 "com/example/dodder/dodder/Elements" "numbers" "[I" (.ref o1) := Fld.other W180 F170 (Or.inr (slot_ne (C := "com/example/dodder/dodder/Elements") (t := (.array .int)) (t' := (.array .int)) (Or.inr (tw hw 13 rfl)) (Or.inr (tw hw 15 rfl)) (by decide) (by decide) (by decide)))
  refine C.aloadN d1_19 rfl rfl rfl ?_
  refine C.aloadN d1_20 rfl rfl rfl ?_
  refine C.putF d1_21 rfl (tw hw 16 rfl) F183 F182 (Or.inr ⟨(tw hw 17 rfl), rfl, rfl⟩) (tw hw 2 rfl) (ty := (.array .int)) (by decide) rfl rfl g_o0 (fun h190 W191 F192 => ?_)
  have F193 : Exa Z h190 o0 "com/example/dodder/dodder/Elements" := Exa.wr W191 F182
  have F194 : Fld Z h190 o0 "com/example/dodder/dodder/Elements" "parents" "[I" (.null) := Fld.other W191 F184 (Or.inr (slot_ne (C := "com/example/dodder/dodder/Elements") (t := (.array .int)) (t' := (.array .int)) (Or.inr (tw hw 19 rfl)) (Or.inr (tw hw 17 rfl)) (by decide) (by decide) (by decide)))
  have F195 : Av Z h190 o1 .int ([]) := F185.other W191 (Ne.symm ne_o0_o1)
  have F196 : Av Z h190 o2 .int ([]) := F186.other W191 (Ne.symm ne_o0_o2)
  have F197 : Av Z h190 o3 .int ([]) := F187.other W191 (Ne.symm ne_o0_o3)
  have F198 : Fld Z h190 o0 "com/example/dodder/dodder/Elements" "nesting" "B" (.int 0) := Fld.other W191 F188 (Or.inr (slot_ne (C := "com/example/dodder/dodder/Elements") (t := .byte) (t' := (.array .int)) (Or.inl (tw hw 11 rfl)) (Or.inr (tw hw 17 rfl)) (by decide) (by decide) (by decide)))
  have F199 : Fld Z h190 o0 "com/example/dodder/dodder/Elements" "numbers" "[I" (.ref o1) := Fld.other W191 F189 (Or.inr (slot_ne (C := "com/example/dodder/dodder/Elements") (t := (.array .int)) (t' := (.array .int)) (Or.inr (tw hw 13 rfl)) (Or.inr (tw hw 17 rfl)) (by decide) (by decide) (by decide)))
  have F200 : Fld Z h190 o0 "com/example/dodder/dodder/Elements" "extents" "[I" (.ref o2) := Fld.other W191 F181 (Or.inr (slot_ne (C := "com/example/dodder/dodder/Elements") (t := (.array .int)) (t' := (.array .int)) (Or.inr (tw hw 15 rfl)) (Or.inr (tw hw 17 rfl)) (by decide) (by decide) (by decide)))
  refine C.aloadN d1_24 rfl rfl rfl ?_
  refine C.aload d1_25 rfl rfl rfl ?_
  refine C.putF d1_27 rfl (tw hw 18 rfl) F194 F193 (Or.inr ⟨(tw hw 19 rfl), rfl, rfl⟩) (tw hw 2 rfl) (ty := (.array .int)) (by decide) rfl rfl g_o0 (fun h201 W202 F203 => ?_)
  have F204 : Exa Z h201 o0 "com/example/dodder/dodder/Elements" := Exa.wr W202 F193
  have F205 : Av Z h201 o1 .int ([]) := F195.other W202 (Ne.symm ne_o0_o1)
  have F206 : Av Z h201 o2 .int ([]) := F196.other W202 (Ne.symm ne_o0_o2)
  have F207 : Av Z h201 o3 .int ([]) := F197.other W202 (Ne.symm ne_o0_o3)
  have F208 : Fld Z h201 o0 "com/example/dodder/dodder/Elements" "nesting" "B" (.int 0) := Fld.other W202 F198 (Or.inr (slot_ne (C := "com/example/dodder/dodder/Elements") (t := .byte) (t' := (.array .int)) (Or.inl (tw hw 11 rfl)) (Or.inr (tw hw 19 rfl)) (by decide) (by decide) (by decide)))
  have F209 : Fld Z h201 o0 "com/example/dodder/dodder/Elements" "numbers" "[I" (.ref o1) := Fld.other W202 F199 (Or.inr (slot_ne (C := "com/example/dodder/dodder/Elements") (t := (.array .int)) (t' := (.array .int)) (Or.inr (tw hw 13 rfl)) (Or.inr (tw hw 19 rfl)) (by decide) (by decide) (by decide)))
  have F210 : Fld Z h201 o0 "com/example/dodder/dodder/Elements" "extents" "[I" (.ref o2) := Fld.other W202 F200 (Or.inr (slot_ne (C := "com/example/dodder/dodder/Elements") (t := (.array .int)) (t' := (.array .int)) (Or.inr (tw hw 15 rfl)) (Or.inr (tw hw 19 rfl)) (by decide) (by decide) (by decide)))
  have F211 : Fld Z h201 o0 "com/example/dodder/dodder/Elements" "depths" "[I" (.ref o3) := Fld.other W202 F192 (Or.inr (slot_ne (C := "com/example/dodder/dodder/Elements") (t := (.array .int)) (t' := (.array .int)) (Or.inr (tw hw 17 rfl)) (Or.inr (tw hw 19 rfl)) (by decide) (by decide) (by decide)))
  exact C.ret0 d1_30 (by decide) (by decide) ⟨rfl, ((((((Keep.refl h0 [o0]).wr W158 (Or.inl (List.mem_of_getElem? (i := 0) rfl))).wr W169 (Or.inl (List.mem_of_getElem? (i := 0) rfl))).wr W180 (Or.inl (List.mem_of_getElem? (i := 0) rfl))).wr W191 (Or.inl (List.mem_of_getElem? (i := 0) rfl))).wr W202 (Or.inl (List.mem_of_getElem? (i := 0) rfl))), F211, F210, F208, F209, F203⟩
theorem pd_0 : parseMethodDescriptor "([I[I[I[I)V" = some ⟨[(.array .int), (.array .int), (.array .int), (.array .int)], none⟩ := by decide +kernel
theorem d3_0 : decode prog_22_method_15_code 0 = .ok (.aload_n 0, 1) := by decide +kernel
theorem d3_1 : decode prog_22_method_15_code 1 = .ok (.getfield 9, 3) := by decide +kernel
theorem d3_4 : decode prog_22_method_15_code 4 = .ok (.ifCond .ne 62, 3) := by decide +kernel
theorem d3_7 : decode prog_22_method_15_code 7 = .ok (.iconst 0, 1) := by decide +kernel
theorem d3_8 : decode prog_22_method_15_code 8 = .ok (.istore_n 1, 1) := by decide +kernel
theorem d3_9 : decode prog_22_method_15_code 9 = .ok (.iconst 1, 1) := by decide +kernel
theorem d3_10 : decode prog_22_method_15_code 10 = .ok (.istore_n 2, 1) := by decide +kernel
theorem d3_11 : decode prog_22_method_15_code 11 = .ok (.iload_n 1, 1) := by decide +kernel
theorem d3_12 : decode prog_22_method_15_code 12 = .ok (.ifCond .ne 41, 3) := by decide +kernel
theorem d3_15 : decode prog_22_method_15_code 15 = .ok (.iload_n 2, 1) := by decide +kernel
theorem d3_16 : decode prog_22_method_15_code 16 = .ok (.aload_n 0, 1) := by decide +kernel
theorem d3_17 : decode prog_22_method_15_code 17 = .ok (.getfield 13, 3) := by decide +kernel
theorem d3_20 : decode prog_22_method_15_code 20 = .ok (.arraylength, 1) := by decide +kernel
theorem d3_21 : decode prog_22_method_15_code 21 = .ok (.if_icmp .ge 32, 3) := by decide +kernel
theorem d3_24 : decode prog_22_method_15_code 24 = .ok (.aload_n 0, 1) := by decide +kernel
theorem d3_25 : decode prog_22_method_15_code 25 = .ok (.getfield 13, 3) := by decide +kernel
theorem d3_28 : decode prog_22_method_15_code 28 = .ok (.iload_n 2, 1) := by decide +kernel
theorem d3_29 : decode prog_22_method_15_code 29 = .ok (.iaload, 1) := by decide +kernel
theorem d3_30 : decode prog_22_method_15_code 30 = .ok (.aload_n 0, 1) := by decide +kernel
theorem d3_31 : decode prog_22_method_15_code 31 = .ok (.getfield 17, 3) := by decide +kernel
theorem d3_34 : decode prog_22_method_15_code 34 = .ok (.iload_n 2, 1) := by decide +kernel
theorem d3_35 : decode prog_22_method_15_code 35 = .ok (.iconst 1, 1) := by decide +kernel
theorem d3_36 : decode prog_22_method_15_code 36 = .ok (.isub, 1) := by decide +kernel
theorem d3_37 : decode prog_22_method_15_code 37 = .ok (.iaload, 1) := by decide +kernel
theorem d3_38 : decode prog_22_method_15_code 38 = .ok (.if_icmp .gt 7, 3) := by decide +kernel
theorem d3_41 : decode prog_22_method_15_code 41 = .ok (.iconst 1, 1) := by decide +kernel
theorem d3_42 : decode prog_22_method_15_code 42 = .ok (.goto 4, 3) := by decide +kernel
theorem d3_45 : decode prog_22_method_15_code 45 = .ok (.iconst 0, 1) := by decide +kernel
theorem d3_46 : decode prog_22_method_15_code 46 = .ok (.istore_n 1, 1) := by decide +kernel
theorem d3_47 : decode prog_22_method_15_code 47 = .ok (.iinc 2 1, 3) := by decide +kernel
theorem d3_50 : decode prog_22_method_15_code 50 = .ok (.goto (-39), 3) := by decide +kernel
theorem d3_53 : decode prog_22_method_15_code 53 = .ok (.aload_n 0, 1) := by decide +kernel
theorem d3_54 : decode prog_22_method_15_code 54 = .ok (.iload_n 1, 1) := by decide +kernel
theorem d3_55 : decode prog_22_method_15_code 55 = .ok (.ifCond .eq 7, 3) := by decide +kernel
theorem d3_58 : decode prog_22_method_15_code 58 = .ok (.iconst 1, 1) := by decide +kernel
theorem d3_59 : decode prog_22_method_15_code 59 = .ok (.goto 4, 3) := by decide +kernel
theorem d3_62 : decode prog_22_method_15_code 62 = .ok (.iconst 2, 1) := by decide +kernel
theorem d3_63 : decode prog_22_method_15_code 63 = .ok (.putfield 9, 3) := by decide +kernel
theorem d3_66 : decode prog_22_method_15_code 66 = .ok (.aload_n 0, 1) := by decide +kernel
theorem d3_67 : decode prog_22_method_15_code 67 = .ok (.getfield 9, 3) := by decide +kernel
theorem d3_70 : decode prog_22_method_15_code 70 = .ok (.iconst 1, 1) := by decide +kernel
theorem d3_71 : decode prog_22_method_15_code 71 = .ok (.if_icmp .ne 7, 3) := by decide +kernel
theorem d3_74 : decode prog_22_method_15_code 74 = .ok (.iconst 1, 1) := by decide +kernel
theorem d3_75 : decode prog_22_method_15_code 75 = .ok (.goto 4, 3) := by decide +kernel
theorem d3_78 : decode prog_22_method_15_code 78 = .ok (.iconst 0, 1) := by decide +kernel
theorem d3_79 : decode prog_22_method_15_code 79 = .ok (.ireturn, 1) := by decide +kernel
theorem pf_2 : plainFor (⟨"com/example/dodder/dodder/Elements", "nests", "()Z"⟩ : MethodName) = true := by first | exact plainFor_of_name (by first | (simp [plainName, overriddenIn]; done) | decide +kernel) | decide +kernel
def Qau230_3 (Z : State) (n0 : Nat) (h0 : Heap) (o0 : Addr) (o1 : Addr) (o2 : Addr) (o3 : Addr) (v : Option Value) (h' : Heap) : Prop := (v = some (.int 0)) ∧ (Keep h0 h' [o0]) ∧ (Fld Z h' o0 "com/example/dodder/dodder/Elements" "depths" "[I" (.ref o1)) ∧ (Fld Z h' o0 "com/example/dodder/dodder/Elements" "extents" "[I" (.ref o2)) ∧ (Fld Z h' o0 "com/example/dodder/dodder/Elements" "nesting" "B" (.int 2)) ∧ (Fld Z h' o0 "com/example/dodder/dodder/Elements" "numbers" "[I" (.ref o3)) ∧ (Fld Z h' o0 "com/example/dodder/dodder/Elements" "parents" "[I" (.null))
theorem ef_au230_3 (m : MethodId) (o0 : Addr) : entryFrame m #[(.ref o0)] 3 = mkF m 0 #[.val (.ref o0), .unset, .unset] [] := by first | (simp [entryFrame, mkF, argsToLocals, Value.category]; done) | rfl
set_option maxRecDepth 65536 in
set_option maxHeartbeats 40000000 in
theorem au230_3 (l : Launch) (Z : State) (a0 : Array Value) (hw : ∀ d ∈ tables_1, d.before a0 Z = true) (n0 : Nat) (h0 : Heap) (hn0 : n0 ≤ h0.size) (o0 : Addr) (o1 : Addr) (o2 : Addr) (o3 : Addr) (P0 : Exa Z h0 o0 "com/example/dodder/dodder/Elements") (P1 : Fld Z h0 o0 "com/example/dodder/dodder/Elements" "depths" "[I" (.ref o1)) (P2 : Fld Z h0 o0 "com/example/dodder/dodder/Elements" "extents" "[I" (.ref o2)) (P3 : Fld Z h0 o0 "com/example/dodder/dodder/Elements" "nesting" "B" (.int 0)) (P4 : Fld Z h0 o0 "com/example/dodder/dodder/Elements" "numbers" "[I" (.ref o3)) (P5 : Fld Z h0 o0 "com/example/dodder/dodder/Elements" "parents" "[I" (.null)) (P6 : Av Z h0 o1 .int ([])) (P7 : Av Z h0 o2 .int ([])) (P8 : Av Z h0 o3 .int ([])) (g_o0 : n0 ≤ o0) (g_o1 : n0 ≤ o1) (g_o2 : n0 ≤ o2) (g_o3 : n0 ≤ o3) (ne_o0_o1 : o0 ≠ o1) (ne_o0_o2 : o0 ≠ o2) (ne_o0_o3 : o0 ≠ o3) (ne_o1_o2 : o1 ≠ o2) (ne_o1_o3 : o1 ≠ o3) (ne_o2_o3 : o2 ≠ o3) :
    Con l Z n0 [] (⟨"com/example/dodder/dodder/Elements", "nests", "()Z"⟩ : MethodName) prog_22_method_15_code 3 (some .boolean) ({ frames := 0, cells := 0, slots := 0, locals := 0 } : Room) #[(.ref o0)] h0 (Qau230_3 Z n0 h0 o0 o1 o2 o3) := by
  refine Con.of pf_2 (fun m => ef_au230_3 m o0) hn0 ?_
  intro p e s m below meth c C
  refine C.aloadN d3_0 rfl rfl rfl ?_
  refine C.getF d3_1 rfl (tw hw 10 rfl) P3 ?_
  refine C.if_ne_f d3_4 rfl (by decide) ?_
  refine C.iconst 0 d3_7 rfl rfl ?_
  refine C.istoreN (Ls' := #[.val (.ref o0), .val (.int 0), .unset]) d3_8 rfl rfl ?_
  refine C.iconst 1 d3_9 rfl rfl ?_
  refine C.istoreN (Ls' := #[.val (.ref o0), .val (.int 0), .val (.int 1)]) d3_10 rfl rfl ?_
  refine C.iloadN d3_11 rfl rfl ?_
  refine C.if_ne_f d3_12 rfl (by decide) ?_
  refine C.iloadN d3_15 rfl rfl ?_
  refine C.aloadN d3_16 rfl rfl rfl ?_
  refine C.getF d3_17 rfl (tw hw 12 rfl) P4 ?_
  refine C.alen d3_20 rfl P8 ?_
  show Go p l e ({ frames := 0, cells := 0, slots := 0, locals := 0 } : Room) s m #[(.ref o0)] below meth c n0 (FinQ s n0 (Qau230_3 Z n0 h0 o0 o1 o2 o3) ({ frames := 0, cells := 0, slots := 0, locals := 0 } : Room).cells ({ frames := 0, cells := 0, slots := 0, locals := 0 } : Room).slots) h0 0 0 21 #[.val (.ref o0), .val (.int 0), .val (.int 1)] [(.int 0), (.int 1)]
  refine C.icmp_ge_t d3_21 (by decide) rfl (by decide) ?_
  refine C.aloadN d3_53 rfl rfl rfl ?_
  refine C.iloadN d3_54 rfl rfl ?_
  refine C.if_eq_t d3_55 (by decide) rfl (by decide) ?_
  refine C.iconst 2 d3_62 rfl rfl ?_
  refine C.putF d3_63 rfl (tw hw 10 rfl) P3 P0 (Or.inl (tw hw 11 rfl)) (tw hw 2 rfl) (ty := .byte) (by decide) rfl rfl g_o0 (fun h253 W254 F255 => ?_)
  have F256 : Exa Z h253 o0 "com/example/dodder/dodder/Elements" := Exa.wr W254 P0
  have F257 : Fld Z h253 o0 "com/example/dodder/dodder/Elements" "depths" "[I" (.ref o1) := Fld.other W254 P1 (Or.inr (slot_ne (C := "com/example/dodder/dodder/Elements") (t := (.array .int)) (t' := .byte) (Or.inr (tw hw 17 rfl)) (Or.inl (tw hw 11 rfl)) (by decide) (by decide) (by decide)))
  have F258 : Fld Z h253 o0 "com/example/dodder/dodder/Elements" "extents" "[I" (.ref o2) := Fld.other W254 P2 (Or.inr (slot_ne (C := "com/example/dodder/dodder/Elements") (t := (.array .int)) (t' := .byte) (Or.inr (tw hw 15 rfl)) (Or.inl (tw hw 11 rfl)) (by decide) (by decide) (by decide)))
  have F259 : Fld Z h253 o0 "com/example/dodder/dodder/Elements" "numbers" "[I" (.ref o3) := Fld.other W254 P4 (Or.inr (slot_ne (C := "com/example/dodder/dodder/Elements") (t := (.array .int)) (t' := .byte) (Or.inr (tw hw 13 rfl)) (Or.inl (tw hw 11 rfl)) (by decide) (by decide) (by decide)))
  have F260 : Fld Z h253 o0 "com/example/dodder/dodder/Elements" "parents" "[I" (.null) := Fld.other W254 P5 (Or.inr (slot_ne (C := "com/example/dodder/dodder/Elements") (t := (.array .int)) (t' := .byte) (Or.inr (tw hw 19 rfl)) (Or.inl (tw hw 11 rfl)) (by decide) (by decide) (by decide)))
  have F261 : Av Z h253 o1 .int ([]) := P6.other W254 (Ne.symm ne_o0_o1)
  have F262 : Av Z h253 o2 .int ([]) := P7.other W254 (Ne.symm ne_o0_o2)
  have F263 : Av Z h253 o3 .int ([]) := P8.other W254 (Ne.symm ne_o0_o3)
  refine C.aloadN d3_66 rfl rfl rfl ?_
  refine C.getF d3_67 rfl (tw hw 10 rfl) F255 ?_
  refine C.iconst 1 d3_70 rfl rfl ?_
  refine C.icmp_ne_t d3_71 (by decide) rfl (by decide) ?_
  refine C.iconst 0 d3_78 rfl rfl ?_
  exact C.retZ d3_79 rfl (by decide) (by decide) ⟨rfl, ((Keep.refl h0 [o0]).wr W254 (Or.inl (List.mem_of_getElem? (i := 0) rfl))), F257, F258, F255, F259, F260⟩
theorem pd_1 : parseMethodDescriptor "()Z" = some ⟨[], some .boolean⟩ := by decide +kernel
def Qau282_3 (Z : State) (n0 : Nat) (h0 : Heap) (o0 : Addr) (o1 : Addr) (o2 : Addr) (o3 : Addr) (v : Option Value) (h' : Heap) : Prop := (v = some (.int 0)) ∧ (h0 = h')
theorem ef_au282_3 (m : MethodId) (o0 : Addr) : entryFrame m #[(.ref o0)] 3 = mkF m 0 #[.val (.ref o0), .unset, .unset] [] := by first | (simp [entryFrame, mkF, argsToLocals, Value.category]; done) | rfl
set_option maxRecDepth 65536 in
set_option maxHeartbeats 40000000 in
theorem au282_3 (l : Launch) (Z : State) (a0 : Array Value) (hw : ∀ d ∈ tables_1, d.before a0 Z = true) (n0 : Nat) (h0 : Heap) (hn0 : n0 ≤ h0.size) (o0 : Addr) (o1 : Addr) (o2 : Addr) (o3 : Addr) (P0 : Exa Z h0 o0 "com/example/dodder/dodder/Elements") (P1 : Fld Z h0 o0 "com/example/dodder/dodder/Elements" "depths" "[I" (.ref o1)) (P2 : Fld Z h0 o0 "com/example/dodder/dodder/Elements" "extents" "[I" (.ref o2)) (P3 : Fld Z h0 o0 "com/example/dodder/dodder/Elements" "nesting" "B" (.int 2)) (P4 : Fld Z h0 o0 "com/example/dodder/dodder/Elements" "numbers" "[I" (.ref o3)) (P5 : Fld Z h0 o0 "com/example/dodder/dodder/Elements" "parents" "[I" (.null)) (P6 : Av Z h0 o1 .int ([])) (P7 : Av Z h0 o2 .int ([])) (P8 : Av Z h0 o3 .int ([])) (g_o0 : n0 ≤ o0) (g_o1 : n0 ≤ o1) (g_o2 : n0 ≤ o2) (g_o3 : n0 ≤ o3) (ne_o0_o1 : o0 ≠ o1) (ne_o0_o2 : o0 ≠ o2) (ne_o0_o3 : o0 ≠ o3) (ne_o1_o2 : o1 ≠ o2) (ne_o1_o3 : o1 ≠ o3) (ne_o2_o3 : o2 ≠ o3) :
    Con l Z n0 [] (⟨"com/example/dodder/dodder/Elements", "nests", "()Z"⟩ : MethodName) prog_22_method_15_code 3 (some .boolean) ({ frames := 0, cells := 0, slots := 0, locals := 0 } : Room) #[(.ref o0)] h0 (Qau282_3 Z n0 h0 o0 o1 o2 o3) := by
  refine Con.of pf_2 (fun m => ef_au282_3 m o0) hn0 ?_
  intro p e s m below meth c C
  refine C.aloadN d3_0 rfl rfl rfl ?_
  refine C.getF d3_1 rfl (tw hw 10 rfl) P3 ?_
  refine C.if_ne_t d3_4 (by decide) rfl (by decide) ?_
  refine C.aloadN d3_66 rfl rfl rfl ?_
  refine C.getF d3_67 rfl (tw hw 10 rfl) P3 ?_
  refine C.iconst 1 d3_70 rfl rfl ?_
  refine C.icmp_ne_t d3_71 (by decide) rfl (by decide) ?_
  refine C.iconst 0 d3_78 rfl rfl ?_
  exact C.retZ d3_79 rfl (by decide) (by decide) ⟨rfl, rfl⟩
def Qau350_1 (Z : State) (n0 : Nat) (h0 : Heap) (o0 : Addr) (o1 : Addr) (o2 : Addr) (o3 : Addr) (i0 : Int32) (i1 : Int32) (v : Option Value) (h' : Heap) : Prop := (v = none) ∧ (Keep h0 h' [o0]) ∧ (Fld Z h' o0 "com/example/dodder/dodder/Elements" "depths" "[I" (.ref o3)) ∧ (Fld Z h' o0 "com/example/dodder/dodder/Elements" "extents" "[I" (.ref o2)) ∧ (Fld Z h' o0 "com/example/dodder/dodder/Elements" "nesting" "B" (.int 0)) ∧ (Fld Z h' o0 "com/example/dodder/dodder/Elements" "numbers" "[I" (.ref o1)) ∧ (Fld Z h' o0 "com/example/dodder/dodder/Elements" "parents" "[I" (.null))
theorem ef_au350_1 (m : MethodId) (o0 : Addr) (o1 : Addr) (o2 : Addr) (o3 : Addr) : entryFrame m #[(.ref o0), (.ref o1), (.ref o2), (.ref o3), .null] 5 = mkF m 0 #[.val (.ref o0), .val (.ref o1), .val (.ref o2), .val (.ref o3), .val (.null)] [] := by first | (simp [entryFrame, mkF, argsToLocals, Value.category]; done) | rfl
set_option maxRecDepth 65536 in
set_option maxHeartbeats 40000000 in
theorem au350_1 (l : Launch) (Z : State) (a0 : Array Value) (hw : ∀ d ∈ tables_1, d.before a0 Z = true) (n0 : Nat) (h0 : Heap) (hn0 : n0 ≤ h0.size) (o0 : Addr) (o1 : Addr) (o2 : Addr) (o3 : Addr) (i0 : Int32) (i1 : Int32) (P0 : Exa Z h0 o0 "com/example/dodder/dodder/Elements") (P1 : Fld Z h0 o0 "com/example/dodder/dodder/Elements" "depths" "[I" (.null)) (P2 : Fld Z h0 o0 "com/example/dodder/dodder/Elements" "extents" "[I" (.null)) (P3 : Fld Z h0 o0 "com/example/dodder/dodder/Elements" "nesting" "B" (.int 0)) (P4 : Fld Z h0 o0 "com/example/dodder/dodder/Elements" "numbers" "[I" (.null)) (P5 : Fld Z h0 o0 "com/example/dodder/dodder/Elements" "parents" "[I" (.null)) (P6 : Av Z h0 o1 .int ([.int i0])) (P7 : Av Z h0 o2 .int ([.int i1])) (P8 : Av Z h0 o3 .int ([.int 1])) (g_o0 : n0 ≤ o0) (g_o1 : n0 ≤ o1) (g_o2 : n0 ≤ o2) (g_o3 : n0 ≤ o3) (ne_o0_o1 : o0 ≠ o1) (ne_o0_o2 : o0 ≠ o2) (ne_o0_o3 : o0 ≠ o3) (ne_o1_o2 : o1 ≠ o2) (ne_o1_o3 : o1 ≠ o3) (ne_o2_o3 : o2 ≠ o3) :
    Con l Z n0 [] (⟨"com/example/dodder/dodder/Elements", "<init>", "([I[I[I[I)V"⟩ : MethodName) prog_22_method_1_code 5 none ({ frames := 1, cells := 0, slots := 0, locals := 12 } : Room) #[(.ref o0), (.ref o1), (.ref o2), (.ref o3), .null] h0 (Qau350_1 Z n0 h0 o0 o1 o2 o3 i0 i1) := by
  refine Con.of pf_1 (fun m => ef_au350_1 m o0 o1 o2 o3) hn0 ?_
  intro p e s m below meth c C
  refine C.aloadN d1_0 rfl rfl rfl ?_
  refine C.initO 0 d1_1 rfl (tw hw 7 rfl) (tw hw 8 rfl) (tw hw 9 rfl) rfl (by decide) (Nat.le_of_eq rfl) (by decide) ?_
  refine C.aloadN d1_4 rfl rfl rfl ?_
  refine C.iconst 0 d1_5 rfl rfl ?_
  refine C.putF d1_6 rfl (tw hw 10 rfl) P3 P0 (Or.inl (tw hw 11 rfl)) (tw hw 2 rfl) (ty := .byte) (by decide) rfl rfl g_o0 (fun h461 W462 F463 => ?_)
  have F464 : Exa Z h461 o0 "com/example/dodder/dodder/Elements" := Exa.wr W462 P0
  have F465 : Fld Z h461 o0 "com/example/dodder/dodder/Elements" "depths" "[I" (.null) := Fld.other W462 P1 (Or.inr (slot_ne (C := "com/example/dodder/dodder/Elements") (t := (.array .int)) (t' := .byte) (Or.inr (tw hw 17 rfl)) (Or.inl (tw hw 11 rfl)) (by decide) (by decide) (by decide)))
  have F466 : Fld Z h461 o0 "com/example/dodder/dodder/Elements" "extents" "[I" (.null) := Fld.other W462 P2 (Or.inr (slot_ne (C := "com/example/dodder/dodder/Elements") (t := (.array .int)) (t' := .byte) (Or.inr (tw hw 15 rfl)) (Or.inl (tw hw 11 rfl)) (by decide) (by decide) (by decide)))
  have F467 : Fld Z h461 o0 "com/example/dodder/dodder/Elements" "numbers" "[I" (.null) := Fld.other W462 P4 (Or.inr (slot_ne (C := "com/example/dodder/dodder/Elements") (t := (.array .int)) (t' := .byte) (Or.inr (tw hw 13 rfl)) (Or.inl (tw hw 11 rfl)) (by decide) (by decide) (by decide)))
  have F468 : Fld Z h461 o0 "com/example/dodder/dodder/Elements" "parents" "[I" (.null) := Fld.other W462 P5 (Or.inr (slot_ne (C := "com/example/dodder/dodder/Elements") (t := (.array .int)) (t' := .byte) (Or.inr (tw hw 19 rfl)) (Or.inl (tw hw 11 rfl)) (by decide) (by decide) (by decide)))
  have F469 : Av Z h461 o1 .int ([.int i0]) := P6.other W462 (Ne.symm ne_o0_o1)
  have F470 : Av Z h461 o2 .int ([.int i1]) := P7.other W462 (Ne.symm ne_o0_o2)
  have F471 : Av Z h461 o3 .int ([.int 1]) := P8.other W462 (Ne.symm ne_o0_o3)
  refine C.aloadN d1_9 rfl rfl rfl ?_
  refine C.aloadN d1_10 rfl rfl rfl ?_
  refine C.putF d1_11 rfl (tw hw 12 rfl) F467 F464 (Or.inr ⟨(tw hw 13 rfl), rfl, rfl⟩) (tw hw 2 rfl) (ty := (.array .int)) (by decide) rfl rfl g_o0 (fun h472 W473 F474 => ?_)
  have F475 : Exa Z h472 o0 "com/example/dodder/dodder/Elements" := Exa.wr W473 F464
  have F476 : Fld Z h472 o0 "com/example/dodder/dodder/Elements" "depths" "[I" (.null) := Fld.other W473 F465 (Or.inr (slot_ne (C := "com/example/dodder/dodder/Elements") (t := (.array .int)) (t' := (.array .int)) (Or.inr (tw hw 17 rfl)) (Or.inr (tw hw 13 rfl)) (by decide) (by decide) (by decide)))
  have F477 : Fld Z h472 o0 "com/example/dodder/dodder/Elements" "extents" "[I" (.null) := Fld.other W473 F466 (Or.inr (slot_ne (C := "com/example/dodder/dodder/Elements") (t := (.array .int)) (t' := (.array .int)) (Or.inr (tw hw 15 rfl)) (Or.inr (tw hw 13 rfl)) (by decide) (by decide) (by decide)))
  have F478 : Fld Z h472 o0 "com/example/dodder/dodder/Elements" "parents" "[I" (.null) := Fld.other W473 F468 (Or.inr (slot_ne (C := "com/example/dodder/dodder/Elements") (t := (.array .int)) (t' := (.array .int)) (Or.inr (tw hw 19 rfl)) (Or.inr (tw hw 13 rfl)) (by decide) (by decide) (by decide)))
  have F479 : Av Z h472 o1 .int ([.int i0]) := F469.other W473 (Ne.symm ne_o0_o1)
  have F480 : Av Z h472 o2 .int ([.int i1]) := F470.other W473 (Ne.symm ne_o0_o2)
  have F481 : Av Z h472 o3 .int ([.int 1]) := F471.other W473 (Ne.symm ne_o0_o3)
  have F482 : Fld Z h472 o0 "com/example/dodder/dodder/Elements" "nesting" "B" (.int 0) := Fld.other W473 F463 (Or.inr (slot_ne (C := "com/example/dodder/dodder/Elements") (t := .byte) (t' := (.array .int)) (Or.inl (tw hw 11 rfl)) (Or.inr (tw hw 13 rfl)) (by decide) (by decide) (by decide)))
  refine C.aloadN d1_14 rfl rfl rfl ?_
  refine C.aloadN d1_15 rfl rfl rfl ?_
  refine C.putF d1_16 rfl (tw hw 14 rfl) F477 F475 (Or.inr ⟨(tw hw 15 rfl), rfl, rfl⟩) (tw hw 2 rfl) (ty := (.array .int)) (by decide) rfl rfl g_o0 (fun h483 W484 F485 => ?_)
  have F486 : Exa Z h483 o0 "com/example/dodder/dodder/Elements" := Exa.wr W484 F475
  have F487 : Fld Z h483 o0 "com/example/dodder/dodder/Elements" "depths" "[I" (.null) := Fld.other W484 F476 (Or.inr (slot_ne (C := "com/example/dodder/dodder/Elements") (t := (.array .int)) (t' := (.array .int)) (Or.inr (tw hw 17 rfl)) (Or.inr (tw hw 15 rfl)) (by decide) (by decide) (by decide)))
  have F488 : Fld Z h483 o0 "com/example/dodder/dodder/Elements" "parents" "[I" (.null) := Fld.other W484 F478 (Or.inr (slot_ne (C := "com/example/dodder/dodder/Elements") (t := (.array .int)) (t' := (.array .int)) (Or.inr (tw hw 19 rfl)) (Or.inr (tw hw 15 rfl)) (by decide) (by decide) (by decide)))
  have F489 : Av Z h483 o1 .int ([.int i0]) := F479.other W484 (Ne.symm ne_o0_o1)
  have F490 : Av Z h483 o2 .int ([.int i1]) := F480.other W484 (Ne.symm ne_o0_o2)
  have F491 : Av Z h483 o3 .int ([.int 1]) := F481.other W484 (Ne.symm ne_o0_o3)
  have F492 : Fld Z h483 o0 "com/example/dodder/dodder/Elements" "nesting" "B" (.int 0) := Fld.other W484 F482 (Or.inr (slot_ne (C := "com/example/dodder/dodder/Elements") (t := .byte) (t' := (.array .int)) (Or.inl (tw hw 11 rfl)) (Or.inr (tw hw 15 rfl)) (by decide) (by decide) (by decide)))
  have F493 : Fld Z h483 o0 "com/example/dodder/dodder/Elements" "numbers" "[I" (.ref o1) := Fld.other W484 F474 (Or.inr (slot_ne (C := "com/example/dodder/dodder/Elements") (t := (.array .int)) (t' := (.array .int)) (Or.inr (tw hw 13 rfl)) (Or.inr (tw hw 15 rfl)) (by decide) (by decide) (by decide)))
  refine C.aloadN d1_19 rfl rfl rfl ?_
  refine C.aloadN d1_20 rfl rfl rfl ?_
  refine C.putF d1_21 rfl (tw hw 16 rfl) F487 F486 (Or.inr ⟨(tw hw 17 rfl), rfl, rfl⟩) (tw hw 2 rfl) (ty := (.array .int)) (by decide) rfl rfl g_o0 (fun h494 W495 F496 => ?_)
  have F497 : Exa Z h494 o0 "com/example/dodder/dodder/Elements" := Exa.wr W495 F486
  have F498 : Fld Z h494 o0 "com/example/dodder/dodder/Elements" "parents" "[I" (.null) := Fld.other W495 F488 (Or.inr (slot_ne (C := "com/example/dodder/dodder/Elements") (t := (.array .int)) (t' := (.array .int)) (Or.inr (tw hw 19 rfl)) (Or.inr (tw hw 17 rfl)) (by decide) (by decide) (by decide)))
  have F499 : Av Z h494 o1 .int ([.int i0]) := F489.other W495 (Ne.symm ne_o0_o1)
  have F500 : Av Z h494 o2 .int ([.int i1]) := F490.other W495 (Ne.symm ne_o0_o2)
  have F501 : Av Z h494 o3 .int ([.int 1]) := F491.other W495 (Ne.symm ne_o0_o3)
  have F502 : Fld Z h494 o0 "com/example/dodder/dodder/Elements" "nesting" "B" (.int 0) := Fld.other W495 F492 (Or.inr (slot_ne (C := "com/example/dodder/dodder/Elements") (t := .byte) (t' := (.array .int)) (Or.inl (tw hw 11 rfl)) (Or.inr (tw hw 17 rfl)) (by decide) (by decide) (by decide)))
  have F503 : Fld Z h494 o0 "com/example/dodder/dodder/Elements" "numbers" "[I" (.ref o1) := Fld.other W495 F493 (Or.inr (slot_ne (C := "com/example/dodder/dodder/Elements") (t := (.array .int)) (t' := (.array .int)) (Or.inr (tw hw 13 rfl)) (Or.inr (tw hw 17 rfl)) (by decide) (by decide) (by decide)))
  have F504 : Fld Z h494 o0 "com/example/dodder/dodder/Elements" "extents" "[I" (.ref o2) := Fld.other W495 F485 (Or.inr (slot_ne (C := "com/example/dodder/dodder/Elements") (t := (.array .int)) (t' := (.array .int)) (Or.inr (tw hw 15 rfl)) (Or.inr (tw hw 17 rfl)) (by decide) (by decide) (by decide)))
  refine C.aloadN d1_24 rfl rfl rfl ?_
  refine C.aload d1_25 rfl rfl rfl ?_
  refine C.putF d1_27 rfl (tw hw 18 rfl) F498 F497 (Or.inr ⟨(tw hw 19 rfl), rfl, rfl⟩) (tw hw 2 rfl) (ty := (.array .int)) (by decide) rfl rfl g_o0 (fun h505 W506 F507 => ?_)
  have F508 : Exa Z h505 o0 "com/example/dodder/dodder/Elements" := Exa.wr W506 F497
  have F509 : Av Z h505 o1 .int ([.int i0]) := F499.other W506 (Ne.symm ne_o0_o1)
  have F510 : Av Z h505 o2 .int ([.int i1]) := F500.other W506 (Ne.symm ne_o0_o2)
  have F511 : Av Z h505 o3 .int ([.int 1]) := F501.other W506 (Ne.symm ne_o0_o3)
  have F512 : Fld Z h505 o0 "com/example/dodder/dodder/Elements" "nesting" "B" (.int 0) := Fld.other W506 F502 (Or.inr (slot_ne (C := "com/example/dodder/dodder/Elements") (t := .byte) (t' := (.array .int)) (Or.inl (tw hw 11 rfl)) (Or.inr (tw hw 19 rfl)) (by decide) (by decide) (by decide)))
  have F513 : Fld Z h505 o0 "com/example/dodder/dodder/Elements" "numbers" "[I" (.ref o1) := Fld.other W506 F503 (Or.inr (slot_ne (C := "com/example/dodder/dodder/Elements") (t := (.array .int)) (t' := (.array .int)) (Or.inr (tw hw 13 rfl)) (Or.inr (tw hw 19 rfl)) (by decide) (by decide) (by decide)))
  have F514 : Fld Z h505 o0 "com/example/dodder/dodder/Elements" "extents" "[I" (.ref o2) := Fld.other W506 F504 (Or.inr (slot_ne (C := "com/example/dodder/dodder/Elements") (t := (.array .int)) (t' := (.array .int)) (Or.inr (tw hw 15 rfl)) (Or.inr (tw hw 19 rfl)) (by decide) (by decide) (by decide)))
  have F515 : Fld Z h505 o0 "com/example/dodder/dodder/Elements" "depths" "[I" (.ref o3) := Fld.other W506 F496 (Or.inr (slot_ne (C := "com/example/dodder/dodder/Elements") (t := (.array .int)) (t' := (.array .int)) (Or.inr (tw hw 17 rfl)) (Or.inr (tw hw 19 rfl)) (by decide) (by decide) (by decide)))
  exact C.ret0 d1_30 (by decide) (by decide) ⟨rfl, ((((((Keep.refl h0 [o0]).wr W462 (Or.inl (List.mem_of_getElem? (i := 0) rfl))).wr W473 (Or.inl (List.mem_of_getElem? (i := 0) rfl))).wr W484 (Or.inl (List.mem_of_getElem? (i := 0) rfl))).wr W495 (Or.inl (List.mem_of_getElem? (i := 0) rfl))).wr W506 (Or.inl (List.mem_of_getElem? (i := 0) rfl))), F515, F514, F512, F513, F507⟩
def Qau534_3 (Z : State) (n0 : Nat) (h0 : Heap) (o0 : Addr) (o1 : Addr) (o2 : Addr) (o3 : Addr) (i0 : Int32) (i1 : Int32) (v : Option Value) (h' : Heap) : Prop := (v = some (.int 0)) ∧ (Keep h0 h' [o0]) ∧ (Fld Z h' o0 "com/example/dodder/dodder/Elements" "depths" "[I" (.ref o1)) ∧ (Fld Z h' o0 "com/example/dodder/dodder/Elements" "extents" "[I" (.ref o2)) ∧ (Fld Z h' o0 "com/example/dodder/dodder/Elements" "nesting" "B" (.int 2)) ∧ (Fld Z h' o0 "com/example/dodder/dodder/Elements" "numbers" "[I" (.ref o3)) ∧ (Fld Z h' o0 "com/example/dodder/dodder/Elements" "parents" "[I" (.null))
theorem ef_au534_3 (m : MethodId) (o0 : Addr) : entryFrame m #[(.ref o0)] 3 = mkF m 0 #[.val (.ref o0), .unset, .unset] [] := by first | (simp [entryFrame, mkF, argsToLocals, Value.category]; done) | rfl
set_option maxRecDepth 65536 in
set_option maxHeartbeats 40000000 in
theorem au534_3 (l : Launch) (Z : State) (a0 : Array Value) (hw : ∀ d ∈ tables_1, d.before a0 Z = true) (n0 : Nat) (h0 : Heap) (hn0 : n0 ≤ h0.size) (o0 : Addr) (o1 : Addr) (o2 : Addr) (o3 : Addr) (i0 : Int32) (i1 : Int32) (P0 : Exa Z h0 o0 "com/example/dodder/dodder/Elements") (P1 : Fld Z h0 o0 "com/example/dodder/dodder/Elements" "depths" "[I" (.ref o1)) (P2 : Fld Z h0 o0 "com/example/dodder/dodder/Elements" "extents" "[I" (.ref o2)) (P3 : Fld Z h0 o0 "com/example/dodder/dodder/Elements" "nesting" "B" (.int 0)) (P4 : Fld Z h0 o0 "com/example/dodder/dodder/Elements" "numbers" "[I" (.ref o3)) (P5 : Fld Z h0 o0 "com/example/dodder/dodder/Elements" "parents" "[I" (.null)) (P6 : Av Z h0 o1 .int ([.int 1])) (P7 : Av Z h0 o2 .int ([.int i0])) (P8 : Av Z h0 o3 .int ([.int i1])) (g_o0 : n0 ≤ o0) (g_o1 : n0 ≤ o1) (g_o2 : n0 ≤ o2) (g_o3 : n0 ≤ o3) (ne_o0_o1 : o0 ≠ o1) (ne_o0_o2 : o0 ≠ o2) (ne_o0_o3 : o0 ≠ o3) (ne_o1_o2 : o1 ≠ o2) (ne_o1_o3 : o1 ≠ o3) (ne_o2_o3 : o2 ≠ o3) :
    Con l Z n0 [] (⟨"com/example/dodder/dodder/Elements", "nests", "()Z"⟩ : MethodName) prog_22_method_15_code 3 (some .boolean) ({ frames := 0, cells := 0, slots := 0, locals := 0 } : Room) #[(.ref o0)] h0 (Qau534_3 Z n0 h0 o0 o1 o2 o3 i0 i1) := by
  refine Con.of pf_2 (fun m => ef_au534_3 m o0) hn0 ?_
  intro p e s m below meth c C
  refine C.aloadN d3_0 rfl rfl rfl ?_
  refine C.getF d3_1 rfl (tw hw 10 rfl) P3 ?_
  refine C.if_ne_f d3_4 rfl (by decide) ?_
  refine C.iconst 0 d3_7 rfl rfl ?_
  refine C.istoreN (Ls' := #[.val (.ref o0), .val (.int 0), .unset]) d3_8 rfl rfl ?_
  refine C.iconst 1 d3_9 rfl rfl ?_
  refine C.istoreN (Ls' := #[.val (.ref o0), .val (.int 0), .val (.int 1)]) d3_10 rfl rfl ?_
  refine C.iloadN d3_11 rfl rfl ?_
  refine C.if_ne_f d3_12 rfl (by decide) ?_
  refine C.iloadN d3_15 rfl rfl ?_
  refine C.aloadN d3_16 rfl rfl rfl ?_
  refine C.getF d3_17 rfl (tw hw 12 rfl) P4 ?_
  refine C.alen d3_20 rfl P8 ?_
  show Go p l e ({ frames := 0, cells := 0, slots := 0, locals := 0 } : Room) s m #[(.ref o0)] below meth c n0 (FinQ s n0 (Qau534_3 Z n0 h0 o0 o1 o2 o3 i0 i1) ({ frames := 0, cells := 0, slots := 0, locals := 0 } : Room).cells ({ frames := 0, cells := 0, slots := 0, locals := 0 } : Room).slots) h0 0 0 21 #[.val (.ref o0), .val (.int 0), .val (.int 1)] [(.int 1), (.int 1)]
  refine C.icmp_ge_t d3_21 (by decide) rfl (by decide) ?_
  refine C.aloadN d3_53 rfl rfl rfl ?_
  refine C.iloadN d3_54 rfl rfl ?_
  refine C.if_eq_t d3_55 (by decide) rfl (by decide) ?_
  refine C.iconst 2 d3_62 rfl rfl ?_
  refine C.putF d3_63 rfl (tw hw 10 rfl) P3 P0 (Or.inl (tw hw 11 rfl)) (tw hw 2 rfl) (ty := .byte) (by decide) rfl rfl g_o0 (fun h557 W558 F559 => ?_)
  have F560 : Exa Z h557 o0 "com/example/dodder/dodder/Elements" := Exa.wr W558 P0
  have F561 : Fld Z h557 o0 "com/example/dodder/dodder/Elements" "depths" "[I" (.ref o1) := Fld.other W558 P1 (Or.inr (slot_ne (C := "com/example/dodder/dodder/Elements") (t := (.array .int)) (t' := .byte) (Or.inr (tw hw 17 rfl)) (Or.inl (tw hw 11 rfl)) (by decide) (by decide) (by decide)))
  have F562 : Fld Z h557 o0 "com/example/dodder/dodder/Elements" "extents" "[I" (.ref o2) := Fld.other W558 P2 (Or.inr (slot_ne (C := "com/example/dodder/dodder/Elements") (t := (.array .int)) (t' := .byte) (Or.inr (tw hw 15 rfl)) (Or.inl (tw hw 11 rfl)) (by decide) (by decide) (by decide)))
  have F563 : Fld Z h557 o0 "com/example/dodder/dodder/Elements" "numbers" "[I" (.ref o3) := Fld.other W558 P4 (Or.inr (slot_ne (C := "com/example/dodder/dodder/Elements") (t := (.array .int)) (t' := .byte) (Or.inr (tw hw 13 rfl)) (Or.inl (tw hw 11 rfl)) (by decide) (by decide) (by decide)))
  have F564 : Fld Z h557 o0 "com/example/dodder/dodder/Elements" "parents" "[I" (.null) := Fld.other W558 P5 (Or.inr (slot_ne (C := "com/example/dodder/dodder/Elements") (t := (.array .int)) (t' := .byte) (Or.inr (tw hw 19 rfl)) (Or.inl (tw hw 11 rfl)) (by decide) (by decide) (by decide)))
  have F565 : Av Z h557 o1 .int ([.int 1]) := P6.other W558 (Ne.symm ne_o0_o1)
  have F566 : Av Z h557 o2 .int ([.int i0]) := P7.other W558 (Ne.symm ne_o0_o2)
  have F567 : Av Z h557 o3 .int ([.int i1]) := P8.other W558 (Ne.symm ne_o0_o3)
  refine C.aloadN d3_66 rfl rfl rfl ?_
  refine C.getF d3_67 rfl (tw hw 10 rfl) F559 ?_
  refine C.iconst 1 d3_70 rfl rfl ?_
  refine C.icmp_ne_t d3_71 (by decide) rfl (by decide) ?_
  refine C.iconst 0 d3_78 rfl rfl ?_
  exact C.retZ d3_79 rfl (by decide) (by decide) ⟨rfl, ((Keep.refl h0 [o0]).wr W558 (Or.inl (List.mem_of_getElem? (i := 0) rfl))), F561, F562, F559, F563, F564⟩
def Qau586_3 (Z : State) (n0 : Nat) (h0 : Heap) (o0 : Addr) (o1 : Addr) (o2 : Addr) (o3 : Addr) (i0 : Int32) (i1 : Int32) (v : Option Value) (h' : Heap) : Prop := (v = some (.int 0)) ∧ (h0 = h')
theorem ef_au586_3 (m : MethodId) (o0 : Addr) : entryFrame m #[(.ref o0)] 3 = mkF m 0 #[.val (.ref o0), .unset, .unset] [] := by first | (simp [entryFrame, mkF, argsToLocals, Value.category]; done) | rfl
set_option maxRecDepth 65536 in
set_option maxHeartbeats 40000000 in
theorem au586_3 (l : Launch) (Z : State) (a0 : Array Value) (hw : ∀ d ∈ tables_1, d.before a0 Z = true) (n0 : Nat) (h0 : Heap) (hn0 : n0 ≤ h0.size) (o0 : Addr) (o1 : Addr) (o2 : Addr) (o3 : Addr) (i0 : Int32) (i1 : Int32) (P0 : Exa Z h0 o0 "com/example/dodder/dodder/Elements") (P1 : Fld Z h0 o0 "com/example/dodder/dodder/Elements" "depths" "[I" (.ref o1)) (P2 : Fld Z h0 o0 "com/example/dodder/dodder/Elements" "extents" "[I" (.ref o2)) (P3 : Fld Z h0 o0 "com/example/dodder/dodder/Elements" "nesting" "B" (.int 2)) (P4 : Fld Z h0 o0 "com/example/dodder/dodder/Elements" "numbers" "[I" (.ref o3)) (P5 : Fld Z h0 o0 "com/example/dodder/dodder/Elements" "parents" "[I" (.null)) (P6 : Av Z h0 o1 .int ([.int 1])) (P7 : Av Z h0 o2 .int ([.int i0])) (P8 : Av Z h0 o3 .int ([.int i1])) (g_o0 : n0 ≤ o0) (g_o1 : n0 ≤ o1) (g_o2 : n0 ≤ o2) (g_o3 : n0 ≤ o3) (ne_o0_o1 : o0 ≠ o1) (ne_o0_o2 : o0 ≠ o2) (ne_o0_o3 : o0 ≠ o3) (ne_o1_o2 : o1 ≠ o2) (ne_o1_o3 : o1 ≠ o3) (ne_o2_o3 : o2 ≠ o3) :
    Con l Z n0 [] (⟨"com/example/dodder/dodder/Elements", "nests", "()Z"⟩ : MethodName) prog_22_method_15_code 3 (some .boolean) ({ frames := 0, cells := 0, slots := 0, locals := 0 } : Room) #[(.ref o0)] h0 (Qau586_3 Z n0 h0 o0 o1 o2 o3 i0 i1) := by
  refine Con.of pf_2 (fun m => ef_au586_3 m o0) hn0 ?_
  intro p e s m below meth c C
  refine C.aloadN d3_0 rfl rfl rfl ?_
  refine C.getF d3_1 rfl (tw hw 10 rfl) P3 ?_
  refine C.if_ne_t d3_4 (by decide) rfl (by decide) ?_
  refine C.aloadN d3_66 rfl rfl rfl ?_
  refine C.getF d3_67 rfl (tw hw 10 rfl) P3 ?_
  refine C.iconst 1 d3_70 rfl rfl ?_
  refine C.icmp_ne_t d3_71 (by decide) rfl (by decide) ?_
  refine C.iconst 0 d3_78 rfl rfl ?_
  exact C.retZ d3_79 rfl (by decide) (by decide) ⟨rfl, rfl⟩
def Qau672_1 (Z : State) (n0 : Nat) (h0 : Heap) (o0 : Addr) (o1 : Addr) (o2 : Addr) (o3 : Addr) (i0 : Int32) (i1 : Int32) (i2 : Int32) (i3 : Int32) (v : Option Value) (h' : Heap) : Prop := (v = none) ∧ (Keep h0 h' [o0]) ∧ (Fld Z h' o0 "com/example/dodder/dodder/Elements" "depths" "[I" (.ref o3)) ∧ (Fld Z h' o0 "com/example/dodder/dodder/Elements" "extents" "[I" (.ref o2)) ∧ (Fld Z h' o0 "com/example/dodder/dodder/Elements" "nesting" "B" (.int 0)) ∧ (Fld Z h' o0 "com/example/dodder/dodder/Elements" "numbers" "[I" (.ref o1)) ∧ (Fld Z h' o0 "com/example/dodder/dodder/Elements" "parents" "[I" (.null))
theorem ef_au672_1 (m : MethodId) (o0 : Addr) (o1 : Addr) (o2 : Addr) (o3 : Addr) : entryFrame m #[(.ref o0), (.ref o1), (.ref o2), (.ref o3), .null] 5 = mkF m 0 #[.val (.ref o0), .val (.ref o1), .val (.ref o2), .val (.ref o3), .val (.null)] [] := by first | (simp [entryFrame, mkF, argsToLocals, Value.category]; done) | rfl
set_option maxRecDepth 65536 in
set_option maxHeartbeats 40000000 in
theorem au672_1 (l : Launch) (Z : State) (a0 : Array Value) (hw : ∀ d ∈ tables_1, d.before a0 Z = true) (n0 : Nat) (h0 : Heap) (hn0 : n0 ≤ h0.size) (o0 : Addr) (o1 : Addr) (o2 : Addr) (o3 : Addr) (i0 : Int32) (i1 : Int32) (i2 : Int32) (i3 : Int32) (P0 : Exa Z h0 o0 "com/example/dodder/dodder/Elements") (P1 : Fld Z h0 o0 "com/example/dodder/dodder/Elements" "depths" "[I" (.null)) (P2 : Fld Z h0 o0 "com/example/dodder/dodder/Elements" "extents" "[I" (.null)) (P3 : Fld Z h0 o0 "com/example/dodder/dodder/Elements" "nesting" "B" (.int 0)) (P4 : Fld Z h0 o0 "com/example/dodder/dodder/Elements" "numbers" "[I" (.null)) (P5 : Fld Z h0 o0 "com/example/dodder/dodder/Elements" "parents" "[I" (.null)) (P6 : Av Z h0 o1 .int ([.int i0, .int i1])) (P7 : Av Z h0 o2 .int ([.int i2, .int i3])) (P8 : Av Z h0 o3 .int ([.int 1, .int 2])) (g_o0 : n0 ≤ o0) (g_o1 : n0 ≤ o1) (g_o2 : n0 ≤ o2) (g_o3 : n0 ≤ o3) (ne_o0_o1 : o0 ≠ o1) (ne_o0_o2 : o0 ≠ o2) (ne_o0_o3 : o0 ≠ o3) (ne_o1_o2 : o1 ≠ o2) (ne_o1_o3 : o1 ≠ o3) (ne_o2_o3 : o2 ≠ o3) :
    Con l Z n0 [] (⟨"com/example/dodder/dodder/Elements", "<init>", "([I[I[I[I)V"⟩ : MethodName) prog_22_method_1_code 5 none ({ frames := 1, cells := 0, slots := 0, locals := 12 } : Room) #[(.ref o0), (.ref o1), (.ref o2), (.ref o3), .null] h0 (Qau672_1 Z n0 h0 o0 o1 o2 o3 i0 i1 i2 i3) := by
  refine Con.of pf_1 (fun m => ef_au672_1 m o0 o1 o2 o3) hn0 ?_
  intro p e s m below meth c C
  refine C.aloadN d1_0 rfl rfl rfl ?_
  refine C.initO 0 d1_1 rfl (tw hw 7 rfl) (tw hw 8 rfl) (tw hw 9 rfl) rfl (by decide) (Nat.le_of_eq rfl) (by decide) ?_
  refine C.aloadN d1_4 rfl rfl rfl ?_
  refine C.iconst 0 d1_5 rfl rfl ?_
  refine C.putF d1_6 rfl (tw hw 10 rfl) P3 P0 (Or.inl (tw hw 11 rfl)) (tw hw 2 rfl) (ty := .byte) (by decide) rfl rfl g_o0 (fun h783 W784 F785 => ?_)
  have F786 : Exa Z h783 o0 "com/example/dodder/dodder/Elements" := Exa.wr W784 P0
  have F787 : Fld Z h783 o0 "com/example/dodder/dodder/Elements" "depths" "[I" (.null) := Fld.other W784 P1 (Or.inr (slot_ne (C := "com/example/dodder/dodder/Elements") (t := (.array .int)) (t' := .byte) (Or.inr (tw hw 17 rfl)) (Or.inl (tw hw 11 rfl)) (by decide) (by decide) (by decide)))
  have F788 : Fld Z h783 o0 "com/example/dodder/dodder/Elements" "extents" "[I" (.null) := Fld.other W784 P2 (Or.inr (slot_ne (C := "com/example/dodder/dodder/Elements") (t := (.array .int)) (t' := .byte) (Or.inr (tw hw 15 rfl)) (Or.inl (tw hw 11 rfl)) (by decide) (by decide) (by decide)))
  have F789 : Fld Z h783 o0 "com/example/dodder/dodder/Elements" "numbers" "[I" (.null) := Fld.other W784 P4 (Or.inr (slot_ne (C := "com/example/dodder/dodder/Elements") (t := (.array .int)) (t' := .byte) (Or.inr (tw hw 13 rfl)) (Or.inl (tw hw 11 rfl)) (by decide) (by decide) (by decide)))
  have F790 : Fld Z h783 o0 "com/example/dodder/dodder/Elements" "parents" "[I" (.null) := Fld.other W784 P5 (Or.inr (slot_ne (C := "com/example/dodder/dodder/Elements") (t := (.array .int)) (t' := .byte) (Or.inr (tw hw 19 rfl)) (Or.inl (tw hw 11 rfl)) (by decide) (by decide) (by decide)))
  have F791 : Av Z h783 o1 .int ([.int i0, .int i1]) := P6.other W784 (Ne.symm ne_o0_o1)
  have F792 : Av Z h783 o2 .int ([.int i2, .int i3]) := P7.other W784 (Ne.symm ne_o0_o2)
  have F793 : Av Z h783 o3 .int ([.int 1, .int 2]) := P8.other W784 (Ne.symm ne_o0_o3)
  refine C.aloadN d1_9 rfl rfl rfl ?_
  refine C.aloadN d1_10 rfl rfl rfl ?_
  refine C.putF d1_11 rfl (tw hw 12 rfl) F789 F786 (Or.inr ⟨(tw hw 13 rfl), rfl, rfl⟩) (tw hw 2 rfl) (ty := (.array .int)) (by decide) rfl rfl g_o0 (fun h794 W795 F796 => ?_)
  have F797 : Exa Z h794 o0 "com/example/dodder/dodder/Elements" := Exa.wr W795 F786
  have F798 : Fld Z h794 o0 "com/example/dodder/dodder/Elements" "depths" "[I" (.null) := Fld.other W795 F787 (Or.inr (slot_ne (C := "com/example/dodder/dodder/Elements") (t := (.array .int)) (t' := (.array .int)) (Or.inr (tw hw 17 rfl)) (Or.inr (tw hw 13 rfl)) (by decide) (by decide) (by decide)))
  have F799 : Fld Z h794 o0 "com/example/dodder/dodder/Elements" "extents" "[I" (.null) := Fld.other W795 F788 (Or.inr (slot_ne (C := "com/example/dodder/dodder/Elements") (t := (.array .int)) (t' := (.array .int)) (Or.inr (tw hw 15 rfl)) (Or.inr (tw hw 13 rfl)) (by decide) (by decide) (by decide)))
  have F800 : Fld Z h794 o0 "com/example/dodder/dodder/Elements" "parents" "[I" (.null) := Fld.other W795 F790 (Or.inr (slot_ne (C := "com/example/dodder/dodder/Elements") (t := (.array .int)) (t' := (.array .int)) (Or.inr (tw hw 19 rfl)) (Or.inr (tw hw 13 rfl)) (by decide) (by decide) (by decide)))
  have F801 : Av Z h794 o1 .int ([.int i0, .int i1]) := F791.other W795 (Ne.symm ne_o0_o1)
  have F802 : Av Z h794 o2 .int ([.int i2, .int i3]) := F792.other W795 (Ne.symm ne_o0_o2)
  have F803 : Av Z h794 o3 .int ([.int 1, .int 2]) := F793.other W795 (Ne.symm ne_o0_o3)
  have F804 : Fld Z h794 o0 "com/example/dodder/dodder/Elements" "nesting" "B" (.int 0) := Fld.other W795 F785 (Or.inr (slot_ne (C := "com/example/dodder/dodder/Elements") (t := .byte) (t' := (.array .int)) (Or.inl (tw hw 11 rfl)) (Or.inr (tw hw 13 rfl)) (by decide) (by decide) (by decide)))
  refine C.aloadN d1_14 rfl rfl rfl ?_
  refine C.aloadN d1_15 rfl rfl rfl ?_
  refine C.putF d1_16 rfl (tw hw 14 rfl) F799 F797 (Or.inr ⟨(tw hw 15 rfl), rfl, rfl⟩) (tw hw 2 rfl) (ty := (.array .int)) (by decide) rfl rfl g_o0 (fun h805 W806 F807 => ?_)
  have F808 : Exa Z h805 o0 "com/example/dodder/dodder/Elements" := Exa.wr W806 F797
  have F809 : Fld Z h805 o0 "com/example/dodder/dodder/Elements" "depths" "[I" (.null) := Fld.other W806 F798 (Or.inr (slot_ne (C := "com/example/dodder/dodder/Elements") (t := (.array .int)) (t' := (.array .int)) (Or.inr (tw hw 17 rfl)) (Or.inr (tw hw 15 rfl)) (by decide) (by decide) (by decide)))
  have F810 : Fld Z h805 o0 "com/example/dodder/dodder/Elements" "parents" "[I" (.null) := Fld.other W806 F800 (Or.inr (slot_ne (C := "com/example/dodder/dodder/Elements") (t := (.array .int)) (t' := (.array .int)) (Or.inr (tw hw 19 rfl)) (Or.inr (tw hw 15 rfl)) (by decide) (by decide) (by decide)))
  have F811 : Av Z h805 o1 .int ([.int i0, .int i1]) := F801.other W806 (Ne.symm ne_o0_o1)
  have F812 : Av Z h805 o2 .int ([.int i2, .int i3]) := F802.other W806 (Ne.symm ne_o0_o2)
  have F813 : Av Z h805 o3 .int ([.int 1, .int 2]) := F803.other W806 (Ne.symm ne_o0_o3)
  have F814 : Fld Z h805 o0 "com/example/dodder/dodder/Elements" "nesting" "B" (.int 0) := Fld.other W806 F804 (Or.inr (slot_ne (C := "com/example/dodder/dodder/Elements") (t := .byte) (t' := (.array .int)) (Or.inl (tw hw 11 rfl)) (Or.inr (tw hw 15 rfl)) (by decide) (by decide) (by decide)))
  have F815 : Fld Z h805 o0 "com/example/dodder/dodder/Elements" "numbers" "[I" (.ref o1) := Fld.other W806 F796 (Or.inr (slot_ne (C := "com/example/dodder/dodder/Elements") (t := (.array .int)) (t' := (.array .int)) (Or.inr (tw hw 13 rfl)) (Or.inr (tw hw 15 rfl)) (by decide) (by decide) (by decide)))
  refine C.aloadN d1_19 rfl rfl rfl ?_
  refine C.aloadN d1_20 rfl rfl rfl ?_
  refine C.putF d1_21 rfl (tw hw 16 rfl) F809 F808 (Or.inr ⟨(tw hw 17 rfl), rfl, rfl⟩) (tw hw 2 rfl) (ty := (.array .int)) (by decide) rfl rfl g_o0 (fun h816 W817 F818 => ?_)
  have F819 : Exa Z h816 o0 "com/example/dodder/dodder/Elements" := Exa.wr W817 F808
  have F820 : Fld Z h816 o0 "com/example/dodder/dodder/Elements" "parents" "[I" (.null) := Fld.other W817 F810 (Or.inr (slot_ne (C := "com/example/dodder/dodder/Elements") (t := (.array .int)) (t' := (.array .int)) (Or.inr (tw hw 19 rfl)) (Or.inr (tw hw 17 rfl)) (by decide) (by decide) (by decide)))
  have F821 : Av Z h816 o1 .int ([.int i0, .int i1]) := F811.other W817 (Ne.symm ne_o0_o1)
  have F822 : Av Z h816 o2 .int ([.int i2, .int i3]) := F812.other W817 (Ne.symm ne_o0_o2)
  have F823 : Av Z h816 o3 .int ([.int 1, .int 2]) := F813.other W817 (Ne.symm ne_o0_o3)
  have F824 : Fld Z h816 o0 "com/example/dodder/dodder/Elements" "nesting" "B" (.int 0) := Fld.other W817 F814 (Or.inr (slot_ne (C := "com/example/dodder/dodder/Elements") (t := .byte) (t' := (.array .int)) (Or.inl (tw hw 11 rfl)) (Or.inr (tw hw 17 rfl)) (by decide) (by decide) (by decide)))
  have F825 : Fld Z h816 o0 "com/example/dodder/dodder/Elements" "numbers" "[I" (.ref o1) := Fld.other W817 F815 (Or.inr (slot_ne (C := "com/example/dodder/dodder/Elements") (t := (.array .int)) (t' := (.array .int)) (Or.inr (tw hw 13 rfl)) (Or.inr (tw hw 17 rfl)) (by decide) (by decide) (by decide)))
  have F826 : Fld Z h816 o0 "com/example/dodder/dodder/Elements" "extents" "[I" (.ref o2) := Fld.other W817 F807 (Or.inr (slot_ne (C := "com/example/dodder/dodder/Elements") (t := (.array .int)) (t' := (.array .int)) (Or.inr (tw hw 15 rfl)) (Or.inr (tw hw 17 rfl)) (by decide) (by decide) (by decide)))
  refine C.aloadN d1_24 rfl rfl rfl ?_
  refine C.aload d1_25 rfl rfl rfl ?_
  refine C.putF d1_27 rfl (tw hw 18 rfl) F820 F819 (Or.inr ⟨(tw hw 19 rfl), rfl, rfl⟩) (tw hw 2 rfl) (ty := (.array .int)) (by decide) rfl rfl g_o0 (fun h827 W828 F829 => ?_)
  have F830 : Exa Z h827 o0 "com/example/dodder/dodder/Elements" := Exa.wr W828 F819
  have F831 : Av Z h827 o1 .int ([.int i0, .int i1]) := F821.other W828 (Ne.symm ne_o0_o1)
  have F832 : Av Z h827 o2 .int ([.int i2, .int i3]) := F822.other W828 (Ne.symm ne_o0_o2)
  have F833 : Av Z h827 o3 .int ([.int 1, .int 2]) := F823.other W828 (Ne.symm ne_o0_o3)
  have F834 : Fld Z h827 o0 "com/example/dodder/dodder/Elements" "nesting" "B" (.int 0) := Fld.other W828 F824 (Or.inr (slot_ne (C := "com/example/dodder/dodder/Elements") (t := .byte) (t' := (.array .int)) (Or.inl (tw hw 11 rfl)) (Or.inr (tw hw 19 rfl)) (by decide) (by decide) (by decide)))
  have F835 : Fld Z h827 o0 "com/example/dodder/dodder/Elements" "numbers" "[I" (.ref o1) := Fld.other W828 F825 (Or.inr (slot_ne (C := "com/example/dodder/dodder/Elements") (t := (.array .int)) (t' := (.array .int)) (Or.inr (tw hw 13 rfl)) (Or.inr (tw hw 19 rfl)) (by decide) (by decide) (by decide)))
  have F836 : Fld Z h827 o0 "com/example/dodder/dodder/Elements" "extents" "[I" (.ref o2) := Fld.other W828 F826 (Or.inr (slot_ne (C := "com/example/dodder/dodder/Elements") (t := (.array .int)) (t' := (.array .int)) (Or.inr (tw hw 15 rfl)) (Or.inr (tw hw 19 rfl)) (by decide) (by decide) (by decide)))
  have F837 : Fld Z h827 o0 "com/example/dodder/dodder/Elements" "depths" "[I" (.ref o3) := Fld.other W828 F818 (Or.inr (slot_ne (C := "com/example/dodder/dodder/Elements") (t := (.array .int)) (t' := (.array .int)) (Or.inr (tw hw 17 rfl)) (Or.inr (tw hw 19 rfl)) (by decide) (by decide) (by decide)))
  exact C.ret0 d1_30 (by decide) (by decide) ⟨rfl, ((((((Keep.refl h0 [o0]).wr W784 (Or.inl (List.mem_of_getElem? (i := 0) rfl))).wr W795 (Or.inl (List.mem_of_getElem? (i := 0) rfl))).wr W806 (Or.inl (List.mem_of_getElem? (i := 0) rfl))).wr W817 (Or.inl (List.mem_of_getElem? (i := 0) rfl))).wr W828 (Or.inl (List.mem_of_getElem? (i := 0) rfl))), F837, F836, F834, F835, F829⟩
def Qau857_3 (Z : State) (n0 : Nat) (h0 : Heap) (o0 : Addr) (o1 : Addr) (o2 : Addr) (o3 : Addr) (i0 : Int32) (i1 : Int32) (i2 : Int32) (i3 : Int32) (v : Option Value) (h' : Heap) : Prop := (v = some (.int 0)) ∧ (Keep h0 h' [o0]) ∧ (Fld Z h' o0 "com/example/dodder/dodder/Elements" "depths" "[I" (.ref o1)) ∧ (Fld Z h' o0 "com/example/dodder/dodder/Elements" "extents" "[I" (.ref o2)) ∧ (Fld Z h' o0 "com/example/dodder/dodder/Elements" "nesting" "B" (.int 2)) ∧ (Fld Z h' o0 "com/example/dodder/dodder/Elements" "numbers" "[I" (.ref o3)) ∧ (Fld Z h' o0 "com/example/dodder/dodder/Elements" "parents" "[I" (.null))
theorem ef_au857_3 (m : MethodId) (o0 : Addr) : entryFrame m #[(.ref o0)] 3 = mkF m 0 #[.val (.ref o0), .unset, .unset] [] := by first | (simp [entryFrame, mkF, argsToLocals, Value.category]; done) | rfl
set_option maxRecDepth 65536 in
set_option maxHeartbeats 40000000 in
theorem au857_3 (l : Launch) (Z : State) (a0 : Array Value) (hw : ∀ d ∈ tables_1, d.before a0 Z = true) (n0 : Nat) (h0 : Heap) (hn0 : n0 ≤ h0.size) (o0 : Addr) (o1 : Addr) (o2 : Addr) (o3 : Addr) (i0 : Int32) (i1 : Int32) (i2 : Int32) (i3 : Int32) (P0 : Exa Z h0 o0 "com/example/dodder/dodder/Elements") (P1 : Fld Z h0 o0 "com/example/dodder/dodder/Elements" "depths" "[I" (.ref o1)) (P2 : Fld Z h0 o0 "com/example/dodder/dodder/Elements" "extents" "[I" (.ref o2)) (P3 : Fld Z h0 o0 "com/example/dodder/dodder/Elements" "nesting" "B" (.int 0)) (P4 : Fld Z h0 o0 "com/example/dodder/dodder/Elements" "numbers" "[I" (.ref o3)) (P5 : Fld Z h0 o0 "com/example/dodder/dodder/Elements" "parents" "[I" (.null)) (P6 : Av Z h0 o1 .int ([.int 1, .int 2])) (P7 : Av Z h0 o2 .int ([.int i0, .int i1])) (P8 : Av Z h0 o3 .int ([.int i2, .int i3])) (g_o0 : n0 ≤ o0) (g_o1 : n0 ≤ o1) (g_o2 : n0 ≤ o2) (g_o3 : n0 ≤ o3) (ne_o0_o1 : o0 ≠ o1) (ne_o0_o2 : o0 ≠ o2) (ne_o0_o3 : o0 ≠ o3) (ne_o1_o2 : o1 ≠ o2) (ne_o1_o3 : o1 ≠ o3) (ne_o2_o3 : o2 ≠ o3) (kq0 : (i0 < i3)) :
    Con l Z n0 [] (⟨"com/example/dodder/dodder/Elements", "nests", "()Z"⟩ : MethodName) prog_22_method_15_code 3 (some .boolean) ({ frames := 0, cells := 0, slots := 0, locals := 0 } : Room) #[(.ref o0)] h0 (Qau857_3 Z n0 h0 o0 o1 o2 o3 i0 i1 i2 i3) := by
  refine Con.of pf_2 (fun m => ef_au857_3 m o0) hn0 ?_
  intro p e s m below meth c C
  refine C.aloadN d3_0 rfl rfl rfl ?_
  refine C.getF d3_1 rfl (tw hw 10 rfl) P3 ?_
  refine C.if_ne_f d3_4 rfl (by decide) ?_
  refine C.iconst 0 d3_7 rfl rfl ?_
  refine C.istoreN (Ls' := #[.val (.ref o0), .val (.int 0), .unset]) d3_8 rfl rfl ?_
  refine C.iconst 1 d3_9 rfl rfl ?_
  refine C.istoreN (Ls' := #[.val (.ref o0), .val (.int 0), .val (.int 1)]) d3_10 rfl rfl ?_
  refine C.iloadN d3_11 rfl rfl ?_
  refine C.if_ne_f d3_12 rfl (by decide) ?_
  refine C.iloadN d3_15 rfl rfl ?_
  refine C.aloadN d3_16 rfl rfl rfl ?_
  refine C.getF d3_17 rfl (tw hw 12 rfl) P4 ?_
  refine C.alen d3_20 rfl P8 ?_
  show Go p l e ({ frames := 0, cells := 0, slots := 0, locals := 0 } : Room) s m #[(.ref o0)] below meth c n0 (FinQ s n0 (Qau857_3 Z n0 h0 o0 o1 o2 o3 i0 i1 i2 i3) ({ frames := 0, cells := 0, slots := 0, locals := 0 } : Room).cells ({ frames := 0, cells := 0, slots := 0, locals := 0 } : Room).slots) h0 0 0 21 #[.val (.ref o0), .val (.int 0), .val (.int 1)] [(.int 2), (.int 1)]
  refine C.icmp_ge_f d3_21 rfl (by decide) ?_
  refine C.aloadN d3_24 rfl rfl rfl ?_
  refine C.getF d3_25 rfl (tw hw 12 rfl) P4 ?_
  refine C.iloadN d3_28 rfl rfl ?_
  refine C.iaload (.int i3) d3_29 rfl P8 (by decide) rfl ?_
  refine C.aloadN d3_30 rfl rfl rfl ?_
  refine C.getF d3_31 rfl (tw hw 14 rfl) P2 ?_
  refine C.iloadN d3_34 rfl rfl ?_
  refine C.iconst 1 d3_35 rfl rfl ?_
  refine C.isub d3_36 rfl ?_
  show Go p l e ({ frames := 0, cells := 0, slots := 0, locals := 0 } : Room) s m #[(.ref o0)] below meth c n0 (FinQ s n0 (Qau857_3 Z n0 h0 o0 o1 o2 o3 i0 i1 i2 i3) ({ frames := 0, cells := 0, slots := 0, locals := 0 } : Room).cells ({ frames := 0, cells := 0, slots := 0, locals := 0 } : Room).slots) h0 0 0 37 #[.val (.ref o0), .val (.int 0), .val (.int 1)] [(.int 0), (.ref o2), (.int i3)]
  refine C.iaload (.int i0) d3_37 rfl P7 (by decide) rfl ?_
  refine C.icmp_gt_t d3_38 (by decide) rfl kq0 ?_
  refine C.iconst 0 d3_45 rfl rfl ?_
  refine C.istoreN (Ls' := #[.val (.ref o0), .val (.int 0), .val (.int 1)]) d3_46 rfl rfl ?_
  refine C.iinc (Ls' := #[.val (.ref o0), .val (.int 0), .val (.int 2)]) 1 d3_47 rfl rfl rfl rfl ?_
  refine C.goto d3_50 (by decide) rfl ?_
  refine C.iloadN d3_11 rfl rfl ?_
  refine C.if_ne_f d3_12 rfl (by decide) ?_
  refine C.iloadN d3_15 rfl rfl ?_
  refine C.aloadN d3_16 rfl rfl rfl ?_
  refine C.getF d3_17 rfl (tw hw 12 rfl) P4 ?_
  refine C.alen d3_20 rfl P8 ?_
  show Go p l e ({ frames := 0, cells := 0, slots := 0, locals := 0 } : Room) s m #[(.ref o0)] below meth c n0 (FinQ s n0 (Qau857_3 Z n0 h0 o0 o1 o2 o3 i0 i1 i2 i3) ({ frames := 0, cells := 0, slots := 0, locals := 0 } : Room).cells ({ frames := 0, cells := 0, slots := 0, locals := 0 } : Room).slots) h0 0 0 21 #[.val (.ref o0), .val (.int 0), .val (.int 2)] [(.int 2), (.int 2)]
  refine C.icmp_ge_t d3_21 (by decide) rfl (by decide) ?_
  refine C.aloadN d3_53 rfl rfl rfl ?_
  refine C.iloadN d3_54 rfl rfl ?_
  refine C.if_eq_t d3_55 (by decide) rfl (by decide) ?_
  refine C.iconst 2 d3_62 rfl rfl ?_
  refine C.putF d3_63 rfl (tw hw 10 rfl) P3 P0 (Or.inl (tw hw 11 rfl)) (tw hw 2 rfl) (ty := .byte) (by decide) rfl rfl g_o0 (fun h880 W881 F882 => ?_)
  have F883 : Exa Z h880 o0 "com/example/dodder/dodder/Elements" := Exa.wr W881 P0
  have F884 : Fld Z h880 o0 "com/example/dodder/dodder/Elements" "depths" "[I" (.ref o1) := Fld.other W881 P1 (Or.inr (slot_ne (C := "com/example/dodder/dodder/Elements") (t := (.array .int)) (t' := .byte) (Or.inr (tw hw 17 rfl)) (Or.inl (tw hw 11 rfl)) (by decide) (by decide) (by decide)))
  have F885 : Fld Z h880 o0 "com/example/dodder/dodder/Elements" "extents" "[I" (.ref o2) := Fld.other W881 P2 (Or.inr (slot_ne (C := "com/example/dodder/dodder/Elements") (t := (.array .int)) (t' := .byte) (Or.inr (tw hw 15 rfl)) (Or.inl (tw hw 11 rfl)) (by decide) (by decide) (by decide)))
  have F886 : Fld Z h880 o0 "com/example/dodder/dodder/Elements" "numbers" "[I" (.ref o3) := Fld.other W881 P4 (Or.inr (slot_ne (C := "com/example/dodder/dodder/Elements") (t := (.array .int)) (t' := .byte) (Or.inr (tw hw 13 rfl)) (Or.inl (tw hw 11 rfl)) (by decide) (by decide) (by decide)))
  have F887 : Fld Z h880 o0 "com/example/dodder/dodder/Elements" "parents" "[I" (.null) := Fld.other W881 P5 (Or.inr (slot_ne (C := "com/example/dodder/dodder/Elements") (t := (.array .int)) (t' := .byte) (Or.inr (tw hw 19 rfl)) (Or.inl (tw hw 11 rfl)) (by decide) (by decide) (by decide)))
  have F888 : Av Z h880 o1 .int ([.int 1, .int 2]) := P6.other W881 (Ne.symm ne_o0_o1)
  have F889 : Av Z h880 o2 .int ([.int i0, .int i1]) := P7.other W881 (Ne.symm ne_o0_o2)
  have F890 : Av Z h880 o3 .int ([.int i2, .int i3]) := P8.other W881 (Ne.symm ne_o0_o3)
  refine C.aloadN d3_66 rfl rfl rfl ?_
  refine C.getF d3_67 rfl (tw hw 10 rfl) F882 ?_
  refine C.iconst 1 d3_70 rfl rfl ?_
  refine C.icmp_ne_t d3_71 (by decide) rfl (by decide) ?_
  refine C.iconst 0 d3_78 rfl rfl ?_
  exact C.retZ d3_79 rfl (by decide) (by decide) ⟨rfl, ((Keep.refl h0 [o0]).wr W881 (Or.inl (List.mem_of_getElem? (i := 0) rfl))), F884, F885, F882, F886, F887⟩
def Qau909_3 (Z : State) (n0 : Nat) (h0 : Heap) (o0 : Addr) (o1 : Addr) (o2 : Addr) (o3 : Addr) (i0 : Int32) (i1 : Int32) (i2 : Int32) (i3 : Int32) (v : Option Value) (h' : Heap) : Prop := (v = some (.int 0)) ∧ (h0 = h')
theorem ef_au909_3 (m : MethodId) (o0 : Addr) : entryFrame m #[(.ref o0)] 3 = mkF m 0 #[.val (.ref o0), .unset, .unset] [] := by first | (simp [entryFrame, mkF, argsToLocals, Value.category]; done) | rfl
set_option maxRecDepth 65536 in
set_option maxHeartbeats 40000000 in
theorem au909_3 (l : Launch) (Z : State) (a0 : Array Value) (hw : ∀ d ∈ tables_1, d.before a0 Z = true) (n0 : Nat) (h0 : Heap) (hn0 : n0 ≤ h0.size) (o0 : Addr) (o1 : Addr) (o2 : Addr) (o3 : Addr) (i0 : Int32) (i1 : Int32) (i2 : Int32) (i3 : Int32) (P0 : Exa Z h0 o0 "com/example/dodder/dodder/Elements") (P1 : Fld Z h0 o0 "com/example/dodder/dodder/Elements" "depths" "[I" (.ref o1)) (P2 : Fld Z h0 o0 "com/example/dodder/dodder/Elements" "extents" "[I" (.ref o2)) (P3 : Fld Z h0 o0 "com/example/dodder/dodder/Elements" "nesting" "B" (.int 2)) (P4 : Fld Z h0 o0 "com/example/dodder/dodder/Elements" "numbers" "[I" (.ref o3)) (P5 : Fld Z h0 o0 "com/example/dodder/dodder/Elements" "parents" "[I" (.null)) (P6 : Av Z h0 o1 .int ([.int 1, .int 2])) (P7 : Av Z h0 o2 .int ([.int i0, .int i1])) (P8 : Av Z h0 o3 .int ([.int i2, .int i3])) (g_o0 : n0 ≤ o0) (g_o1 : n0 ≤ o1) (g_o2 : n0 ≤ o2) (g_o3 : n0 ≤ o3) (ne_o0_o1 : o0 ≠ o1) (ne_o0_o2 : o0 ≠ o2) (ne_o0_o3 : o0 ≠ o3) (ne_o1_o2 : o1 ≠ o2) (ne_o1_o3 : o1 ≠ o3) (ne_o2_o3 : o2 ≠ o3) :
    Con l Z n0 [] (⟨"com/example/dodder/dodder/Elements", "nests", "()Z"⟩ : MethodName) prog_22_method_15_code 3 (some .boolean) ({ frames := 0, cells := 0, slots := 0, locals := 0 } : Room) #[(.ref o0)] h0 (Qau909_3 Z n0 h0 o0 o1 o2 o3 i0 i1 i2 i3) := by
  refine Con.of pf_2 (fun m => ef_au909_3 m o0) hn0 ?_
  intro p e s m below meth c C
  refine C.aloadN d3_0 rfl rfl rfl ?_
  refine C.getF d3_1 rfl (tw hw 10 rfl) P3 ?_
  refine C.if_ne_t d3_4 (by decide) rfl (by decide) ?_
  refine C.aloadN d3_66 rfl rfl rfl ?_
  refine C.getF d3_67 rfl (tw hw 10 rfl) P3 ?_
  refine C.iconst 1 d3_70 rfl rfl ?_
  refine C.icmp_ne_t d3_71 (by decide) rfl (by decide) ?_
  refine C.iconst 0 d3_78 rfl rfl ?_
  exact C.retZ d3_79 rfl (by decide) (by decide) ⟨rfl, rfl⟩
def Qau914_3 (Z : State) (n0 : Nat) (h0 : Heap) (o0 : Addr) (o1 : Addr) (o2 : Addr) (o3 : Addr) (i0 : Int32) (i1 : Int32) (i2 : Int32) (i3 : Int32) (v : Option Value) (h' : Heap) : Prop := (v = some (.int 1)) ∧ (Keep h0 h' [o0]) ∧ (Fld Z h' o0 "com/example/dodder/dodder/Elements" "depths" "[I" (.ref o1)) ∧ (Fld Z h' o0 "com/example/dodder/dodder/Elements" "extents" "[I" (.ref o2)) ∧ (Fld Z h' o0 "com/example/dodder/dodder/Elements" "nesting" "B" (.int 1)) ∧ (Fld Z h' o0 "com/example/dodder/dodder/Elements" "numbers" "[I" (.ref o3)) ∧ (Fld Z h' o0 "com/example/dodder/dodder/Elements" "parents" "[I" (.null))
theorem ef_au914_3 (m : MethodId) (o0 : Addr) : entryFrame m #[(.ref o0)] 3 = mkF m 0 #[.val (.ref o0), .unset, .unset] [] := by first | (simp [entryFrame, mkF, argsToLocals, Value.category]; done) | rfl
set_option maxRecDepth 65536 in
set_option maxHeartbeats 40000000 in
theorem au914_3 (l : Launch) (Z : State) (a0 : Array Value) (hw : ∀ d ∈ tables_1, d.before a0 Z = true) (n0 : Nat) (h0 : Heap) (hn0 : n0 ≤ h0.size) (o0 : Addr) (o1 : Addr) (o2 : Addr) (o3 : Addr) (i0 : Int32) (i1 : Int32) (i2 : Int32) (i3 : Int32) (P0 : Exa Z h0 o0 "com/example/dodder/dodder/Elements") (P1 : Fld Z h0 o0 "com/example/dodder/dodder/Elements" "depths" "[I" (.ref o1)) (P2 : Fld Z h0 o0 "com/example/dodder/dodder/Elements" "extents" "[I" (.ref o2)) (P3 : Fld Z h0 o0 "com/example/dodder/dodder/Elements" "nesting" "B" (.int 0)) (P4 : Fld Z h0 o0 "com/example/dodder/dodder/Elements" "numbers" "[I" (.ref o3)) (P5 : Fld Z h0 o0 "com/example/dodder/dodder/Elements" "parents" "[I" (.null)) (P6 : Av Z h0 o1 .int ([.int 1, .int 2])) (P7 : Av Z h0 o2 .int ([.int i0, .int i1])) (P8 : Av Z h0 o3 .int ([.int i2, .int i3])) (g_o0 : n0 ≤ o0) (g_o1 : n0 ≤ o1) (g_o2 : n0 ≤ o2) (g_o3 : n0 ≤ o3) (ne_o0_o1 : o0 ≠ o1) (ne_o0_o2 : o0 ≠ o2) (ne_o0_o3 : o0 ≠ o3) (ne_o1_o2 : o1 ≠ o2) (ne_o1_o3 : o1 ≠ o3) (ne_o2_o3 : o2 ≠ o3) (kq0 : ¬ (i0 < i3)) :
    Con l Z n0 [] (⟨"com/example/dodder/dodder/Elements", "nests", "()Z"⟩ : MethodName) prog_22_method_15_code 3 (some .boolean) ({ frames := 0, cells := 0, slots := 0, locals := 0 } : Room) #[(.ref o0)] h0 (Qau914_3 Z n0 h0 o0 o1 o2 o3 i0 i1 i2 i3) := by
  refine Con.of pf_2 (fun m => ef_au914_3 m o0) hn0 ?_
  intro p e s m below meth c C
  refine C.aloadN d3_0 rfl rfl rfl ?_
  refine C.getF d3_1 rfl (tw hw 10 rfl) P3 ?_
  refine C.if_ne_f d3_4 rfl (by decide) ?_
  refine C.iconst 0 d3_7 rfl rfl ?_
  refine C.istoreN (Ls' := #[.val (.ref o0), .val (.int 0), .unset]) d3_8 rfl rfl ?_
  refine C.iconst 1 d3_9 rfl rfl ?_
  refine C.istoreN (Ls' := #[.val (.ref o0), .val (.int 0), .val (.int 1)]) d3_10 rfl rfl ?_
  refine C.iloadN d3_11 rfl rfl ?_
  refine C.if_ne_f d3_12 rfl (by decide) ?_
  refine C.iloadN d3_15 rfl rfl ?_
  refine C.aloadN d3_16 rfl rfl rfl ?_
  refine C.getF d3_17 rfl (tw hw 12 rfl) P4 ?_
  refine C.alen d3_20 rfl P8 ?_
  show Go p l e ({ frames := 0, cells := 0, slots := 0, locals := 0 } : Room) s m #[(.ref o0)] below meth c n0 (FinQ s n0 (Qau914_3 Z n0 h0 o0 o1 o2 o3 i0 i1 i2 i3) ({ frames := 0, cells := 0, slots := 0, locals := 0 } : Room).cells ({ frames := 0, cells := 0, slots := 0, locals := 0 } : Room).slots) h0 0 0 21 #[.val (.ref o0), .val (.int 0), .val (.int 1)] [(.int 2), (.int 1)]
  refine C.icmp_ge_f d3_21 rfl (by decide) ?_
  refine C.aloadN d3_24 rfl rfl rfl ?_
  refine C.getF d3_25 rfl (tw hw 12 rfl) P4 ?_
  refine C.iloadN d3_28 rfl rfl ?_
  refine C.iaload (.int i3) d3_29 rfl P8 (by decide) rfl ?_
  refine C.aloadN d3_30 rfl rfl rfl ?_
  refine C.getF d3_31 rfl (tw hw 14 rfl) P2 ?_
  refine C.iloadN d3_34 rfl rfl ?_
  refine C.iconst 1 d3_35 rfl rfl ?_
  refine C.isub d3_36 rfl ?_
  show Go p l e ({ frames := 0, cells := 0, slots := 0, locals := 0 } : Room) s m #[(.ref o0)] below meth c n0 (FinQ s n0 (Qau914_3 Z n0 h0 o0 o1 o2 o3 i0 i1 i2 i3) ({ frames := 0, cells := 0, slots := 0, locals := 0 } : Room).cells ({ frames := 0, cells := 0, slots := 0, locals := 0 } : Room).slots) h0 0 0 37 #[.val (.ref o0), .val (.int 0), .val (.int 1)] [(.int 0), (.ref o2), (.int i3)]
  refine C.iaload (.int i0) d3_37 rfl P7 (by decide) rfl ?_
  refine C.icmp_gt_f d3_38 rfl kq0 ?_
  refine C.iconst 1 d3_41 rfl rfl ?_
  refine C.goto d3_42 (by decide) rfl ?_
  refine C.istoreN (Ls' := #[.val (.ref o0), .val (.int 1), .val (.int 1)]) d3_46 rfl rfl ?_
  refine C.iinc (Ls' := #[.val (.ref o0), .val (.int 1), .val (.int 2)]) 1 d3_47 rfl rfl rfl rfl ?_
  refine C.goto d3_50 (by decide) rfl ?_
  refine C.iloadN d3_11 rfl rfl ?_
  refine C.if_ne_t d3_12 (by decide) rfl (by decide) ?_
  refine C.aloadN d3_53 rfl rfl rfl ?_
  refine C.iloadN d3_54 rfl rfl ?_
  refine C.if_eq_f d3_55 rfl (by decide) ?_
  refine C.iconst 1 d3_58 rfl rfl ?_
  refine C.goto d3_59 (by decide) rfl ?_
  refine C.putF d3_63 rfl (tw hw 10 rfl) P3 P0 (Or.inl (tw hw 11 rfl)) (tw hw 2 rfl) (ty := .byte) (by decide) rfl rfl g_o0 (fun h937 W938 F939 => ?_)
  have F940 : Exa Z h937 o0 "com/example/dodder/dodder/Elements" := Exa.wr W938 P0
  have F941 : Fld Z h937 o0 "com/example/dodder/dodder/Elements" "depths" "[I" (.ref o1) := Fld.other W938 P1 (Or.inr (slot_ne (C := "com/example/dodder/dodder/Elements") (t := (.array .int)) (t' := .byte) (Or.inr (tw hw 17 rfl)) (Or.inl (tw hw 11 rfl)) (by decide) (by decide) (by decide)))
  have F942 : Fld Z h937 o0 "com/example/dodder/dodder/Elements" "extents" "[I" (.ref o2) := Fld.other W938 P2 (Or.inr (slot_ne (C := "com/example/dodder/dodder/Elements") (t := (.array .int)) (t' := .byte) (Or.inr (tw hw 15 rfl)) (Or.inl (tw hw 11 rfl)) (by decide) (by decide) (by decide)))
  have F943 : Fld Z h937 o0 "com/example/dodder/dodder/Elements" "numbers" "[I" (.ref o3) := Fld.other W938 P4 (Or.inr (slot_ne (C := "com/example/dodder/dodder/Elements") (t := (.array .int)) (t' := .byte) (Or.inr (tw hw 13 rfl)) (Or.inl (tw hw 11 rfl)) (by decide) (by decide) (by decide)))
  have F944 : Fld Z h937 o0 "com/example/dodder/dodder/Elements" "parents" "[I" (.null) := Fld.other W938 P5 (Or.inr (slot_ne (C := "com/example/dodder/dodder/Elements") (t := (.array .int)) (t' := .byte) (Or.inr (tw hw 19 rfl)) (Or.inl (tw hw 11 rfl)) (by decide) (by decide) (by decide)))
  have F945 : Av Z h937 o1 .int ([.int 1, .int 2]) := P6.other W938 (Ne.symm ne_o0_o1)
  have F946 : Av Z h937 o2 .int ([.int i0, .int i1]) := P7.other W938 (Ne.symm ne_o0_o2)
  have F947 : Av Z h937 o3 .int ([.int i2, .int i3]) := P8.other W938 (Ne.symm ne_o0_o3)
  refine C.aloadN d3_66 rfl rfl rfl ?_
  refine C.getF d3_67 rfl (tw hw 10 rfl) F939 ?_
  refine C.iconst 1 d3_70 rfl rfl ?_
  refine C.icmp_ne_f d3_71 rfl (by decide) ?_
  refine C.iconst 1 d3_74 rfl rfl ?_
  refine C.goto d3_75 (by decide) rfl ?_
  exact C.retZ d3_79 rfl (by decide) (by decide) ⟨rfl, ((Keep.refl h0 [o0]).wr W938 (Or.inl (List.mem_of_getElem? (i := 0) rfl))), F941, F942, F939, F943, F944⟩
def Qau966_3 (Z : State) (n0 : Nat) (h0 : Heap) (o0 : Addr) (o1 : Addr) (o2 : Addr) (o3 : Addr) (i0 : Int32) (i1 : Int32) (i2 : Int32) (i3 : Int32) (v : Option Value) (h' : Heap) : Prop := (v = some (.int 1)) ∧ (h0 = h')
theorem ef_au966_3 (m : MethodId) (o0 : Addr) : entryFrame m #[(.ref o0)] 3 = mkF m 0 #[.val (.ref o0), .unset, .unset] [] := by first | (simp [entryFrame, mkF, argsToLocals, Value.category]; done) | rfl
set_option maxRecDepth 65536 in
set_option maxHeartbeats 40000000 in
theorem au966_3 (l : Launch) (Z : State) (a0 : Array Value) (hw : ∀ d ∈ tables_1, d.before a0 Z = true) (n0 : Nat) (h0 : Heap) (hn0 : n0 ≤ h0.size) (o0 : Addr) (o1 : Addr) (o2 : Addr) (o3 : Addr) (i0 : Int32) (i1 : Int32) (i2 : Int32) (i3 : Int32) (P0 : Exa Z h0 o0 "com/example/dodder/dodder/Elements") (P1 : Fld Z h0 o0 "com/example/dodder/dodder/Elements" "depths" "[I" (.ref o1)) (P2 : Fld Z h0 o0 "com/example/dodder/dodder/Elements" "extents" "[I" (.ref o2)) (P3 : Fld Z h0 o0 "com/example/dodder/dodder/Elements" "nesting" "B" (.int 1)) (P4 : Fld Z h0 o0 "com/example/dodder/dodder/Elements" "numbers" "[I" (.ref o3)) (P5 : Fld Z h0 o0 "com/example/dodder/dodder/Elements" "parents" "[I" (.null)) (P6 : Av Z h0 o1 .int ([.int 1, .int 2])) (P7 : Av Z h0 o2 .int ([.int i0, .int i1])) (P8 : Av Z h0 o3 .int ([.int i2, .int i3])) (g_o0 : n0 ≤ o0) (g_o1 : n0 ≤ o1) (g_o2 : n0 ≤ o2) (g_o3 : n0 ≤ o3) (ne_o0_o1 : o0 ≠ o1) (ne_o0_o2 : o0 ≠ o2) (ne_o0_o3 : o0 ≠ o3) (ne_o1_o2 : o1 ≠ o2) (ne_o1_o3 : o1 ≠ o3) (ne_o2_o3 : o2 ≠ o3) :
    Con l Z n0 [] (⟨"com/example/dodder/dodder/Elements", "nests", "()Z"⟩ : MethodName) prog_22_method_15_code 3 (some .boolean) ({ frames := 0, cells := 0, slots := 0, locals := 0 } : Room) #[(.ref o0)] h0 (Qau966_3 Z n0 h0 o0 o1 o2 o3 i0 i1 i2 i3) := by
  refine Con.of pf_2 (fun m => ef_au966_3 m o0) hn0 ?_
  intro p e s m below meth c C
  refine C.aloadN d3_0 rfl rfl rfl ?_
  refine C.getF d3_1 rfl (tw hw 10 rfl) P3 ?_
  refine C.if_ne_t d3_4 (by decide) rfl (by decide) ?_
  refine C.aloadN d3_66 rfl rfl rfl ?_
  refine C.getF d3_67 rfl (tw hw 10 rfl) P3 ?_
  refine C.iconst 1 d3_70 rfl rfl ?_
  refine C.icmp_ne_f d3_71 rfl (by decide) ?_
  refine C.iconst 1 d3_74 rfl rfl ?_
  refine C.goto d3_75 (by decide) rfl ?_
  exact C.retZ d3_79 rfl (by decide) (by decide) ⟨rfl, rfl⟩
def Qau1070_1 (Z : State) (n0 : Nat) (h0 : Heap) (o0 : Addr) (o1 : Addr) (o2 : Addr) (o3 : Addr) (i0 : Int32) (i1 : Int32) (i2 : Int32) (i3 : Int32) (i4 : Int32) (i5 : Int32) (v : Option Value) (h' : Heap) : Prop := (v = none) ∧ (Keep h0 h' [o0]) ∧ (Fld Z h' o0 "com/example/dodder/dodder/Elements" "depths" "[I" (.ref o3)) ∧ (Fld Z h' o0 "com/example/dodder/dodder/Elements" "extents" "[I" (.ref o2)) ∧ (Fld Z h' o0 "com/example/dodder/dodder/Elements" "nesting" "B" (.int 0)) ∧ (Fld Z h' o0 "com/example/dodder/dodder/Elements" "numbers" "[I" (.ref o1)) ∧ (Fld Z h' o0 "com/example/dodder/dodder/Elements" "parents" "[I" (.null))
theorem ef_au1070_1 (m : MethodId) (o0 : Addr) (o1 : Addr) (o2 : Addr) (o3 : Addr) : entryFrame m #[(.ref o0), (.ref o1), (.ref o2), (.ref o3), .null] 5 = mkF m 0 #[.val (.ref o0), .val (.ref o1), .val (.ref o2), .val (.ref o3), .val (.null)] [] := by first | (simp [entryFrame, mkF, argsToLocals, Value.category]; done) | rfl
set_option maxRecDepth 65536 in
set_option maxHeartbeats 40000000 in
theorem au1070_1 (l : Launch) (Z : State) (a0 : Array Value) (hw : ∀ d ∈ tables_1, d.before a0 Z = true) (n0 : Nat) (h0 : Heap) (hn0 : n0 ≤ h0.size) (o0 : Addr) (o1 : Addr) (o2 : Addr) (o3 : Addr) (i0 : Int32) (i1 : Int32) (i2 : Int32) (i3 : Int32) (i4 : Int32) (i5 : Int32) (P0 : Exa Z h0 o0 "com/example/dodder/dodder/Elements") (P1 : Fld Z h0 o0 "com/example/dodder/dodder/Elements" "depths" "[I" (.null)) (P2 : Fld Z h0 o0 "com/example/dodder/dodder/Elements" "extents" "[I" (.null)) (P3 : Fld Z h0 o0 "com/example/dodder/dodder/Elements" "nesting" "B" (.int 0)) (P4 : Fld Z h0 o0 "com/example/dodder/dodder/Elements" "numbers" "[I" (.null)) (P5 : Fld Z h0 o0 "com/example/dodder/dodder/Elements" "parents" "[I" (.null)) (P6 : Av Z h0 o1 .int ([.int i0, .int i1, .int i2])) (P7 : Av Z h0 o2 .int ([.int i3, .int i4, .int i5])) (P8 : Av Z h0 o3 .int ([.int 1, .int 2, .int 3])) (g_o0 : n0 ≤ o0) (g_o1 : n0 ≤ o1) (g_o2 : n0 ≤ o2) (g_o3 : n0 ≤ o3) (ne_o0_o1 : o0 ≠ o1) (ne_o0_o2 : o0 ≠ o2) (ne_o0_o3 : o0 ≠ o3) (ne_o1_o2 : o1 ≠ o2) (ne_o1_o3 : o1 ≠ o3) (ne_o2_o3 : o2 ≠ o3) :
    Con l Z n0 [] (⟨"com/example/dodder/dodder/Elements", "<init>", "([I[I[I[I)V"⟩ : MethodName) prog_22_method_1_code 5 none ({ frames := 1, cells := 0, slots := 0, locals := 12 } : Room) #[(.ref o0), (.ref o1), (.ref o2), (.ref o3), .null] h0 (Qau1070_1 Z n0 h0 o0 o1 o2 o3 i0 i1 i2 i3 i4 i5) := by
  refine Con.of pf_1 (fun m => ef_au1070_1 m o0 o1 o2 o3) hn0 ?_
  intro p e s m below meth c C
  refine C.aloadN d1_0 rfl rfl rfl ?_
  refine C.initO 0 d1_1 rfl (tw hw 7 rfl) (tw hw 8 rfl) (tw hw 9 rfl) rfl (by decide) (Nat.le_of_eq rfl) (by decide) ?_
  refine C.aloadN d1_4 rfl rfl rfl ?_
  refine C.iconst 0 d1_5 rfl rfl ?_
  refine C.putF d1_6 rfl (tw hw 10 rfl) P3 P0 (Or.inl (tw hw 11 rfl)) (tw hw 2 rfl) (ty := .byte) (by decide) rfl rfl g_o0 (fun h1181 W1182 F1183 => ?_)
  have F1184 : Exa Z h1181 o0 "com/example/dodder/dodder/Elements" := Exa.wr W1182 P0
  have F1185 : Fld Z h1181 o0 "com/example/dodder/dodder/Elements" "depths" "[I" (.null) := Fld.other W1182 P1 (Or.inr (slot_ne (C := "com/example/dodder/dodder/Elements") (t := (.array .int)) (t' := .byte) (Or.inr (tw hw 17 rfl)) (Or.inl (tw hw 11 rfl)) (by decide) (by decide) (by decide)))
  have F1186 : Fld Z h1181 o0 "com/example/dodder/dodder/Elements" "extents" "[I" (.null) := Fld.other W1182 P2 (Or.inr (slot_ne (C := "com/example/dodder/dodder/Elements") (t := (.array .int)) (t' := .byte) (Or.inr (tw hw 15 rfl)) (Or.inl (tw hw 11 rfl)) (by decide) (by decide) (by decide)))
  have F1187 : Fld Z h1181 o0 "com/example/dodder/dodder/Elements" "numbers" "[I" (.null) := Fld.other W1182 P4 (Or.inr (slot_ne (C := "com/example/dodder/dodder/Elements") (t := (.array .int)) (t' := .byte) (Or.inr (tw hw 13 rfl)) (Or.inl (tw hw 11 rfl)) (by decide) (by decide) (by decide)))
  have F1188 : Fld Z h1181 o0 "com/example/dodder/dodder/Elements" "parents" "[I" (.null) := Fld.other W1182 P5 (Or.inr (slot_ne (C := "com/example/dodder/dodder/Elements") (t := (.array .int)) (t' := .byte) (Or.inr (tw hw 19 rfl)) (Or.inl (tw hw 11 rfl)) (by decide) (by decide) (by decide)))
  have F1189 : Av Z h1181 o1 .int ([.int i0, .int i1, .int i2]) := P6.other W1182 (Ne.symm ne_o0_o1)
  have F1190 : Av Z h1181 o2 .int ([.int i3, .int i4, .int i5]) := P7.other W1182 (Ne.symm ne_o0_o2)
  have F1191 : Av Z h1181 o3 .int ([.int 1, .int 2, .int 3]) := P8.other W1182 (Ne.symm ne_o0_o3)
  refine C.aloadN d1_9 rfl rfl rfl ?_
  refine C.aloadN d1_10 rfl rfl rfl ?_
  refine C.putF d1_11 rfl (tw hw 12 rfl) F1187 F1184 (Or.inr ⟨(tw hw 13 rfl), rfl, rfl⟩) (tw hw 2 rfl) (ty := (.array .int)) (by decide) rfl rfl g_o0 (fun h1192 W1193 F1194 => ?_)
  have F1195 : Exa Z h1192 o0 "com/example/dodder/dodder/Elements" := Exa.wr W1193 F1184
  have F1196 : Fld Z h1192 o0 "com/example/dodder/dodder/Elements" "depths" "[I" (.null) := Fld.other W1193 F1185 (Or.inr (slot_ne (C := "com/example/dodder/dodder/Elements") (t := (.array .int)) (t' := (.array .int)) (Or.inr (tw hw 17 rfl)) (Or.inr (tw hw 13 rfl)) (by decide) (by decide) (by decide)))
  have F1197 : Fld Z h1192 o0 "com/example/dodder/dodder/Elements" "extents" "[I" (.null) := Fld.other W1193 F1186 (Or.inr (slot_ne (C := "com/example/dodder/dodder/Elements") (t := (.array .int)) (t' := (.array .int)) (Or.inr (tw hw 15 rfl)) (Or.inr (tw hw 13 rfl)) (by decide) (by decide) (by decide)))
  have F1198 : Fld Z h1192 o0 "com/example/dodder/dodder/Elements" "parents" "[I" (.null) := Fld.other W1193 F1188 (Or.inr (slot_ne (C := "com/example/dodder/dodder/Elements") (t := (.array .int)) (t' := (.array .int)) (Or.inr (tw hw 19 rfl)) (Or.inr (tw hw 13 rfl)) (by decide) (by decide) (by decide)))
  have F1199 : Av Z h1192 o1 .int ([.int i0, .int i1, .int i2]) := F1189.other W1193 (Ne.symm ne_o0_o1)
  have F1200 : Av Z h1192 o2 .int ([.int i3, .int i4, .int i5]) := F1190.other W1193 (Ne.symm ne_o0_o2)
  have F1201 : Av Z h1192 o3 .int ([.int 1, .int 2, .int 3]) := F1191.other W1193 (Ne.symm ne_o0_o3)
  have F1202 : Fld Z h1192 o0 "com/example/dodder/dodder/Elements" "nesting" "B" (.int 0) := Fld.other W1193 F1183 (Or.inr (slot_ne (C := "com/example/dodder/dodder/Elements") (t := .byte) (t' := (.array .int)) (Or.inl (tw hw 11 rfl)) (Or.inr (tw hw 13 rfl)) (by decide) (by decide) (by decide)))
  refine C.aloadN d1_14 rfl rfl rfl ?_
  refine C.aloadN d1_15 rfl rfl rfl ?_
  refine C.putF d1_16 rfl (tw hw 14 rfl) F1197 F1195 (Or.inr ⟨(tw hw 15 rfl), rfl, rfl⟩) (tw hw 2 rfl) (ty := (.array .int)) (by decide) rfl rfl g_o0 (fun h1203 W1204 F1205 => ?_)
  have F1206 : Exa Z h1203 o0 "com/example/dodder/dodder/Elements" := Exa.wr W1204 F1195
  have F1207 : Fld Z h1203 o0 "com/example/dodder/dodder/Elements" "depths" "[I" (.null) := Fld.other W1204 F1196 (Or.inr (slot_ne (C := "com/example/dodder/dodder/Elements") (t := (.array .int)) (t' := (.array .int)) (Or.inr (tw hw 17 rfl)) (Or.inr (tw hw 15 rfl)) (by decide) (by decide) (by decide)))
  have F1208 : Fld Z h1203 o0 "com/example/dodder/dodder/Elements" "parents" "[I" (.null) := Fld.other W1204 F1198 (Or.inr (slot_ne (C := "com/example/dodder/dodder/Elements") (t := (.array .int)) (t' := (.array .int)) (Or.inr (tw hw 19 rfl)) (Or.inr (tw hw 15 rfl)) (by decide) (by decide) (by decide)))
  have F1209 : Av Z h1203 o1 .int ([.int i0, .int i1, .int i2]) := F1199.other W1204 (Ne.symm ne_o0_o1)
  have F1210 : Av Z h1203 o2 .int ([.int i3, .int i4, .int i5]) := F1200.other W1204 (Ne.symm ne_o0_o2)
  have F1211 : Av Z h1203 o3 .int ([.int 1, .int 2, .int 3]) := F1201.other W1204 (Ne.symm ne_o0_o3)
  have F1212 : Fld Z h1203 o0 "com/example/dodder/dodder/Elements" "nesting" "B" (.int 0) := Fld.other W1204 F1202 (Or.inr (slot_ne (C := "com/example/dodder/dodder/Elements") (t := .byte) (t' := (.array .int)) (Or.inl (tw hw 11 rfl)) (Or.inr (tw hw 15 rfl)) (by decide) (by decide) (by decide)))
  have F1213 : Fld Z h1203 o0 "com/example/dodder/dodder/Elements" "numbers" "[I" (.ref o1) := Fld.other W1204 F1194 (Or.inr (slot_ne (C := "com/example/dodder/dodder/Elements") (t := (.array .int)) (t' := (.array .int)) (Or.inr (tw hw 13 rfl)) (Or.inr (tw hw 15 rfl)) (by decide) (by decide) (by decide)))
  refine C.aloadN d1_19 rfl rfl rfl ?_
  refine C.aloadN d1_20 rfl rfl rfl ?_
  refine C.putF d1_21 rfl (tw hw 16 rfl) F1207 F1206 (Or.inr ⟨(tw hw 17 rfl), rfl, rfl⟩) (tw hw 2 rfl) (ty := (.array .int)) (by decide) rfl rfl g_o0 (fun h1214 W1215 F1216 => ?_)
  have F1217 : Exa Z h1214 o0 "com/example/dodder/dodder/Elements" := Exa.wr W1215 F1206
  have F1218 : Fld Z h1214 o0 "com/example/dodder/dodder/Elements" "parents" "[I" (.null) := Fld.other W1215 F1208 (Or.inr (slot_ne (C := "com/example/dodder/dodder/Elements") (t := (.array .int)) (t' := (.array .int)) (Or.inr (tw hw 19 rfl)) (Or.inr (tw hw 17 rfl)) (by decide) (by decide) (by decide)))
  have F1219 : Av Z h1214 o1 .int ([.int i0, .int i1, .int i2]) := F1209.other W1215 (Ne.symm ne_o0_o1)
  have F1220 : Av Z h1214 o2 .int ([.int i3, .int i4, .int i5]) := F1210.other W1215 (Ne.symm ne_o0_o2)
  have F1221 : Av Z h1214 o3 .int ([.int 1, .int 2, .int 3]) := F1211.other W1215 (Ne.symm ne_o0_o3)
  have F1222 : Fld Z h1214 o0 "com/example/dodder/dodder/Elements" "nesting" "B" (.int 0) := Fld.other W1215 F1212 (Or.inr (slot_ne (C := "com/example/dodder/dodder/Elements") (t := .byte) (t' := (.array .int)) (Or.inl (tw hw 11 rfl)) (Or.inr (tw hw 17 rfl)) (by decide) (by decide) (by decide)))
  have F1223 : Fld Z h1214 o0 "com/example/dodder/dodder/Elements" "numbers" "[I" (.ref o1) := Fld.other W1215 F1213 (Or.inr (slot_ne (C := "com/example/dodder/dodder/Elements") (t := (.array .int)) (t' := (.array .int)) (Or.inr (tw hw 13 rfl)) (Or.inr (tw hw 17 rfl)) (by decide) (by decide) (by decide)))
  have F1224 : Fld Z h1214 o0 "com/example/dodder/dodder/Elements" "extents" "[I" (.ref o2) := Fld.other W1215 F1205 (Or.inr (slot_ne (C := "com/example/dodder/dodder/Elements") (t := (.array .int)) (t' := (.array .int)) (Or.inr (tw hw 15 rfl)) (Or.inr (tw hw 17 rfl)) (by decide) (by decide) (by decide)))
  refine C.aloadN d1_24 rfl rfl rfl ?_
  refine C.aload d1_25 rfl rfl rfl ?_
  refine C.putF d1_27 rfl (tw hw 18 rfl) F1218 F1217 (Or.inr ⟨(tw hw 19 rfl), rfl, rfl⟩) (tw hw 2 rfl) (ty := (.array .int)) (by decide) rfl rfl g_o0 (fun h1225 W1226 F1227 => ?_)
  have F1228 : Exa Z h1225 o0 "com/example/dodder/dodder/Elements" := Exa.wr W1226 F1217
  have F1229 : Av Z h1225 o1 .int ([.int i0, .int i1, .int i2]) := F1219.other W1226 (Ne.symm ne_o0_o1)
  have F1230 : Av Z h1225 o2 .int ([.int i3, .int i4, .int i5]) := F1220.other W1226 (Ne.symm ne_o0_o2)
  have F1231 : Av Z h1225 o3 .int ([.int 1, .int 2, .int 3]) := F1221.other W1226 (Ne.symm ne_o0_o3)
  have F1232 : Fld Z h1225 o0 "com/example/dodder/dodder/Elements" "nesting" "B" (.int 0) := Fld.other W1226 F1222 (Or.inr (slot_ne (C := "com/example/dodder/dodder/Elements") (t := .byte) (t' := (.array .int)) (Or.inl (tw hw 11 rfl)) (Or.inr (tw hw 19 rfl)) (by decide) (by decide) (by decide)))
  have F1233 : Fld Z h1225 o0 "com/example/dodder/dodder/Elements" "numbers" "[I" (.ref o1) := Fld.other W1226 F1223 (Or.inr (slot_ne (C := "com/example/dodder/dodder/Elements") (t := (.array .int)) (t' := (.array .int)) (Or.inr (tw hw 13 rfl)) (Or.inr (tw hw 19 rfl)) (by decide) (by decide) (by decide)))
  have F1234 : Fld Z h1225 o0 "com/example/dodder/dodder/Elements" "extents" "[I" (.ref o2) := Fld.other W1226 F1224 (Or.inr (slot_ne (C := "com/example/dodder/dodder/Elements") (t := (.array .int)) (t' := (.array .int)) (Or.inr (tw hw 15 rfl)) (Or.inr (tw hw 19 rfl)) (by decide) (by decide) (by decide)))
  have F1235 : Fld Z h1225 o0 "com/example/dodder/dodder/Elements" "depths" "[I" (.ref o3) := Fld.other W1226 F1216 (Or.inr (slot_ne (C := "com/example/dodder/dodder/Elements") (t := (.array .int)) (t' := (.array .int)) (Or.inr (tw hw 17 rfl)) (Or.inr (tw hw 19 rfl)) (by decide) (by decide) (by decide)))
  exact C.ret0 d1_30 (by decide) (by decide) ⟨rfl, ((((((Keep.refl h0 [o0]).wr W1182 (Or.inl (List.mem_of_getElem? (i := 0) rfl))).wr W1193 (Or.inl (List.mem_of_getElem? (i := 0) rfl))).wr W1204 (Or.inl (List.mem_of_getElem? (i := 0) rfl))).wr W1215 (Or.inl (List.mem_of_getElem? (i := 0) rfl))).wr W1226 (Or.inl (List.mem_of_getElem? (i := 0) rfl))), F1235, F1234, F1232, F1233, F1227⟩
def Qau1256_3 (Z : State) (n0 : Nat) (h0 : Heap) (o0 : Addr) (o1 : Addr) (o2 : Addr) (o3 : Addr) (i0 : Int32) (i1 : Int32) (i2 : Int32) (i3 : Int32) (i4 : Int32) (i5 : Int32) (v : Option Value) (h' : Heap) : Prop := (v = some (.int 0)) ∧ (Keep h0 h' [o0]) ∧ (Fld Z h' o0 "com/example/dodder/dodder/Elements" "depths" "[I" (.ref o1)) ∧ (Fld Z h' o0 "com/example/dodder/dodder/Elements" "extents" "[I" (.ref o2)) ∧ (Fld Z h' o0 "com/example/dodder/dodder/Elements" "nesting" "B" (.int 2)) ∧ (Fld Z h' o0 "com/example/dodder/dodder/Elements" "numbers" "[I" (.ref o3)) ∧ (Fld Z h' o0 "com/example/dodder/dodder/Elements" "parents" "[I" (.null))
theorem ef_au1256_3 (m : MethodId) (o0 : Addr) : entryFrame m #[(.ref o0)] 3 = mkF m 0 #[.val (.ref o0), .unset, .unset] [] := by first | (simp [entryFrame, mkF, argsToLocals, Value.category]; done) | rfl
set_option maxRecDepth 65536 in
set_option maxHeartbeats 40000000 in
theorem au1256_3 (l : Launch) (Z : State) (a0 : Array Value) (hw : ∀ d ∈ tables_1, d.before a0 Z = true) (n0 : Nat) (h0 : Heap) (hn0 : n0 ≤ h0.size) (o0 : Addr) (o1 : Addr) (o2 : Addr) (o3 : Addr) (i0 : Int32) (i1 : Int32) (i2 : Int32) (i3 : Int32) (i4 : Int32) (i5 : Int32) (P0 : Exa Z h0 o0 "com/example/dodder/dodder/Elements") (P1 : Fld Z h0 o0 "com/example/dodder/dodder/Elements" "depths" "[I" (.ref o1)) (P2 : Fld Z h0 o0 "com/example/dodder/dodder/Elements" "extents" "[I" (.ref o2)) (P3 : Fld Z h0 o0 "com/example/dodder/dodder/Elements" "nesting" "B" (.int 0)) (P4 : Fld Z h0 o0 "com/example/dodder/dodder/Elements" "numbers" "[I" (.ref o3)) (P5 : Fld Z h0 o0 "com/example/dodder/dodder/Elements" "parents" "[I" (.null)) (P6 : Av Z h0 o1 .int ([.int 1, .int 2, .int 3])) (P7 : Av Z h0 o2 .int ([.int i0, .int i1, .int i2])) (P8 : Av Z h0 o3 .int ([.int i3, .int i4, .int i5])) (g_o0 : n0 ≤ o0) (g_o1 : n0 ≤ o1) (g_o2 : n0 ≤ o2) (g_o3 : n0 ≤ o3) (ne_o0_o1 : o0 ≠ o1) (ne_o0_o2 : o0 ≠ o2) (ne_o0_o3 : o0 ≠ o3) (ne_o1_o2 : o1 ≠ o2) (ne_o1_o3 : o1 ≠ o3) (ne_o2_o3 : o2 ≠ o3) (kq0 : (i0 < i4)) (kq1 : (i1 < i5)) :
    Con l Z n0 [] (⟨"com/example/dodder/dodder/Elements", "nests", "()Z"⟩ : MethodName) prog_22_method_15_code 3 (some .boolean) ({ frames := 0, cells := 0, slots := 0, locals := 0 } : Room) #[(.ref o0)] h0 (Qau1256_3 Z n0 h0 o0 o1 o2 o3 i0 i1 i2 i3 i4 i5) := by
  refine Con.of pf_2 (fun m => ef_au1256_3 m o0) hn0 ?_
  intro p e s m below meth c C
  refine C.aloadN d3_0 rfl rfl rfl ?_
  refine C.getF d3_1 rfl (tw hw 10 rfl) P3 ?_
  refine C.if_ne_f d3_4 rfl (by decide) ?_
  refine C.iconst 0 d3_7 rfl rfl ?_
  refine C.istoreN (Ls' := #[.val (.ref o0), .val (.int 0), .unset]) d3_8 rfl rfl ?_
  refine C.iconst 1 d3_9 rfl rfl ?_
  refine C.istoreN (Ls' := #[.val (.ref o0), .val (.int 0), .val (.int 1)]) d3_10 rfl rfl ?_
  refine C.iloadN d3_11 rfl rfl ?_
  refine C.if_ne_f d3_12 rfl (by decide) ?_
  refine C.iloadN d3_15 rfl rfl ?_
  refine C.aloadN d3_16 rfl rfl rfl ?_
  refine C.getF d3_17 rfl (tw hw 12 rfl) P4 ?_
  refine C.alen d3_20 rfl P8 ?_
  show Go p l e ({ frames := 0, cells := 0, slots := 0, locals := 0 } : Room) s m #[(.ref o0)] below meth c n0 (FinQ s n0 (Qau1256_3 Z n0 h0 o0 o1 o2 o3 i0 i1 i2 i3 i4 i5) ({ frames := 0, cells := 0, slots := 0, locals := 0 } : Room).cells ({ frames := 0, cells := 0, slots := 0, locals := 0 } : Room).slots) h0 0 0 21 #[.val (.ref o0), .val (.int 0), .val (.int 1)] [(.int 3), (.int 1)]
  refine C.icmp_ge_f d3_21 rfl (by decide) ?_
  refine C.aloadN d3_24 rfl rfl rfl ?_
  refine C.getF d3_25 rfl (tw hw 12 rfl) P4 ?_
  refine C.iloadN d3_28 rfl rfl ?_
  refine C.iaload (.int i4) d3_29 rfl P8 (by decide) rfl ?_
  refine C.aloadN d3_30 rfl rfl rfl ?_
  refine C.getF d3_31 rfl (tw hw 14 rfl) P2 ?_
  refine C.iloadN d3_34 rfl rfl ?_
  refine C.iconst 1 d3_35 rfl rfl ?_
  refine C.isub d3_36 rfl ?_
  show Go p l e ({ frames := 0, cells := 0, slots := 0, locals := 0 } : Room) s m #[(.ref o0)] below meth c n0 (FinQ s n0 (Qau1256_3 Z n0 h0 o0 o1 o2 o3 i0 i1 i2 i3 i4 i5) ({ frames := 0, cells := 0, slots := 0, locals := 0 } : Room).cells ({ frames := 0, cells := 0, slots := 0, locals := 0 } : Room).slots) h0 0 0 37 #[.val (.ref o0), .val (.int 0), .val (.int 1)] [(.int 0), (.ref o2), (.int i4)]
  refine C.iaload (.int i0) d3_37 rfl P7 (by decide) rfl ?_
  refine C.icmp_gt_t d3_38 (by decide) rfl kq0 ?_
  refine C.iconst 0 d3_45 rfl rfl ?_
  refine C.istoreN (Ls' := #[.val (.ref o0), .val (.int 0), .val (.int 1)]) d3_46 rfl rfl ?_
  refine C.iinc (Ls' := #[.val (.ref o0), .val (.int 0), .val (.int 2)]) 1 d3_47 rfl rfl rfl rfl ?_
  refine C.goto d3_50 (by decide) rfl ?_
  refine C.iloadN d3_11 rfl rfl ?_
  refine C.if_ne_f d3_12 rfl (by decide) ?_
  refine C.iloadN d3_15 rfl rfl ?_
  refine C.aloadN d3_16 rfl rfl rfl ?_
  refine C.getF d3_17 rfl (tw hw 12 rfl) P4 ?_
  refine C.alen d3_20 rfl P8 ?_
  show Go p l e ({ frames := 0, cells := 0, slots := 0, locals := 0 } : Room) s m #[(.ref o0)] below meth c n0 (FinQ s n0 (Qau1256_3 Z n0 h0 o0 o1 o2 o3 i0 i1 i2 i3 i4 i5) ({ frames := 0, cells := 0, slots := 0, locals := 0 } : Room).cells ({ frames := 0, cells := 0, slots := 0, locals := 0 } : Room).slots) h0 0 0 21 #[.val (.ref o0), .val (.int 0), .val (.int 2)] [(.int 3), (.int 2)]
  refine C.icmp_ge_f d3_21 rfl (by decide) ?_
  refine C.aloadN d3_24 rfl rfl rfl ?_
  refine C.getF d3_25 rfl (tw hw 12 rfl) P4 ?_
  refine C.iloadN d3_28 rfl rfl ?_
  refine C.iaload (.int i5) d3_29 rfl P8 (by decide) rfl ?_
  refine C.aloadN d3_30 rfl rfl rfl ?_
  refine C.getF d3_31 rfl (tw hw 14 rfl) P2 ?_
  refine C.iloadN d3_34 rfl rfl ?_
  refine C.iconst 1 d3_35 rfl rfl ?_
  refine C.isub d3_36 rfl ?_
  show Go p l e ({ frames := 0, cells := 0, slots := 0, locals := 0 } : Room) s m #[(.ref o0)] below meth c n0 (FinQ s n0 (Qau1256_3 Z n0 h0 o0 o1 o2 o3 i0 i1 i2 i3 i4 i5) ({ frames := 0, cells := 0, slots := 0, locals := 0 } : Room).cells ({ frames := 0, cells := 0, slots := 0, locals := 0 } : Room).slots) h0 0 0 37 #[.val (.ref o0), .val (.int 0), .val (.int 2)] [(.int 1), (.ref o2), (.int i5)]
  refine C.iaload (.int i1) d3_37 rfl P7 (by decide) rfl ?_
  refine C.icmp_gt_t d3_38 (by decide) rfl kq1 ?_
  refine C.iconst 0 d3_45 rfl rfl ?_
  refine C.istoreN (Ls' := #[.val (.ref o0), .val (.int 0), .val (.int 2)]) d3_46 rfl rfl ?_
  refine C.iinc (Ls' := #[.val (.ref o0), .val (.int 0), .val (.int 3)]) 1 d3_47 rfl rfl rfl rfl ?_
  refine C.goto d3_50 (by decide) rfl ?_
  refine C.iloadN d3_11 rfl rfl ?_
  refine C.if_ne_f d3_12 rfl (by decide) ?_
  refine C.iloadN d3_15 rfl rfl ?_
  refine C.aloadN d3_16 rfl rfl rfl ?_
  refine C.getF d3_17 rfl (tw hw 12 rfl) P4 ?_
  refine C.alen d3_20 rfl P8 ?_
  show Go p l e ({ frames := 0, cells := 0, slots := 0, locals := 0 } : Room) s m #[(.ref o0)] below meth c n0 (FinQ s n0 (Qau1256_3 Z n0 h0 o0 o1 o2 o3 i0 i1 i2 i3 i4 i5) ({ frames := 0, cells := 0, slots := 0, locals := 0 } : Room).cells ({ frames := 0, cells := 0, slots := 0, locals := 0 } : Room).slots) h0 0 0 21 #[.val (.ref o0), .val (.int 0), .val (.int 3)] [(.int 3), (.int 3)]
  refine C.icmp_ge_t d3_21 (by decide) rfl (by decide) ?_
  refine C.aloadN d3_53 rfl rfl rfl ?_
  refine C.iloadN d3_54 rfl rfl ?_
  refine C.if_eq_t d3_55 (by decide) rfl (by decide) ?_
  refine C.iconst 2 d3_62 rfl rfl ?_
  refine C.putF d3_63 rfl (tw hw 10 rfl) P3 P0 (Or.inl (tw hw 11 rfl)) (tw hw 2 rfl) (ty := .byte) (by decide) rfl rfl g_o0 (fun h1279 W1280 F1281 => ?_)
  have F1282 : Exa Z h1279 o0 "com/example/dodder/dodder/Elements" := Exa.wr W1280 P0
  have F1283 : Fld Z h1279 o0 "com/example/dodder/dodder/Elements" "depths" "[I" (.ref o1) := Fld.other W1280 P1 (Or.inr (slot_ne (C := "com/example/dodder/dodder/Elements") (t := (.array .int)) (t' := .byte) (Or.inr (tw hw 17 rfl)) (Or.inl (tw hw 11 rfl)) (by decide) (by decide) (by decide)))
  have F1284 : Fld Z h1279 o0 "com/example/dodder/dodder/Elements" "extents" "[I" (.ref o2) := Fld.other W1280 P2 (Or.inr (slot_ne (C := "com/example/dodder/dodder/Elements") (t := (.array .int)) (t' := .byte) (Or.inr (tw hw 15 rfl)) (Or.inl (tw hw 11 rfl)) (by decide) (by decide) (by decide)))
  have F1285 : Fld Z h1279 o0 "com/example/dodder/dodder/Elements" "numbers" "[I" (.ref o3) := Fld.other W1280 P4 (Or.inr (slot_ne (C := "com/example/dodder/dodder/Elements") (t := (.array .int)) (t' := .byte) (Or.inr (tw hw 13 rfl)) (Or.inl (tw hw 11 rfl)) (by decide) (by decide) (by decide)))
  have F1286 : Fld Z h1279 o0 "com/example/dodder/dodder/Elements" "parents" "[I" (.null) := Fld.other W1280 P5 (Or.inr (slot_ne (C := "com/example/dodder/dodder/Elements") (t := (.array .int)) (t' := .byte) (Or.inr (tw hw 19 rfl)) (Or.inl (tw hw 11 rfl)) (by decide) (by decide) (by decide)))
  have F1287 : Av Z h1279 o1 .int ([.int 1, .int 2, .int 3]) := P6.other W1280 (Ne.symm ne_o0_o1)
  have F1288 : Av Z h1279 o2 .int ([.int i0, .int i1, .int i2]) := P7.other W1280 (Ne.symm ne_o0_o2)
  have F1289 : Av Z h1279 o3 .int ([.int i3, .int i4, .int i5]) := P8.other W1280 (Ne.symm ne_o0_o3)
  refine C.aloadN d3_66 rfl rfl rfl ?_
  refine C.getF d3_67 rfl (tw hw 10 rfl) F1281 ?_
  refine C.iconst 1 d3_70 rfl rfl ?_
  refine C.icmp_ne_t d3_71 (by decide) rfl (by decide) ?_
  refine C.iconst 0 d3_78 rfl rfl ?_
  exact C.retZ d3_79 rfl (by decide) (by decide) ⟨rfl, ((Keep.refl h0 [o0]).wr W1280 (Or.inl (List.mem_of_getElem? (i := 0) rfl))), F1283, F1284, F1281, F1285, F1286⟩
def Qau1308_3 (Z : State) (n0 : Nat) (h0 : Heap) (o0 : Addr) (o1 : Addr) (o2 : Addr) (o3 : Addr) (i0 : Int32) (i1 : Int32) (i2 : Int32) (i3 : Int32) (i4 : Int32) (i5 : Int32) (v : Option Value) (h' : Heap) : Prop := (v = some (.int 0)) ∧ (h0 = h')
theorem ef_au1308_3 (m : MethodId) (o0 : Addr) : entryFrame m #[(.ref o0)] 3 = mkF m 0 #[.val (.ref o0), .unset, .unset] [] := by first | (simp [entryFrame, mkF, argsToLocals, Value.category]; done) | rfl
set_option maxRecDepth 65536 in
set_option maxHeartbeats 40000000 in
theorem au1308_3 (l : Launch) (Z : State) (a0 : Array Value) (hw : ∀ d ∈ tables_1, d.before a0 Z = true) (n0 : Nat) (h0 : Heap) (hn0 : n0 ≤ h0.size) (o0 : Addr) (o1 : Addr) (o2 : Addr) (o3 : Addr) (i0 : Int32) (i1 : Int32) (i2 : Int32) (i3 : Int32) (i4 : Int32) (i5 : Int32) (P0 : Exa Z h0 o0 "com/example/dodder/dodder/Elements") (P1 : Fld Z h0 o0 "com/example/dodder/dodder/Elements" "depths" "[I" (.ref o1)) (P2 : Fld Z h0 o0 "com/example/dodder/dodder/Elements" "extents" "[I" (.ref o2)) (P3 : Fld Z h0 o0 "com/example/dodder/dodder/Elements" "nesting" "B" (.int 2)) (P4 : Fld Z h0 o0 "com/example/dodder/dodder/Elements" "numbers" "[I" (.ref o3)) (P5 : Fld Z h0 o0 "com/example/dodder/dodder/Elements" "parents" "[I" (.null)) (P6 : Av Z h0 o1 .int ([.int 1, .int 2, .int 3])) (P7 : Av Z h0 o2 .int ([.int i0, .int i1, .int i2])) (P8 : Av Z h0 o3 .int ([.int i3, .int i4, .int i5])) (g_o0 : n0 ≤ o0) (g_o1 : n0 ≤ o1) (g_o2 : n0 ≤ o2) (g_o3 : n0 ≤ o3) (ne_o0_o1 : o0 ≠ o1) (ne_o0_o2 : o0 ≠ o2) (ne_o0_o3 : o0 ≠ o3) (ne_o1_o2 : o1 ≠ o2) (ne_o1_o3 : o1 ≠ o3) (ne_o2_o3 : o2 ≠ o3) :
    Con l Z n0 [] (⟨"com/example/dodder/dodder/Elements", "nests", "()Z"⟩ : MethodName) prog_22_method_15_code 3 (some .boolean) ({ frames := 0, cells := 0, slots := 0, locals := 0 } : Room) #[(.ref o0)] h0 (Qau1308_3 Z n0 h0 o0 o1 o2 o3 i0 i1 i2 i3 i4 i5) := by
  refine Con.of pf_2 (fun m => ef_au1308_3 m o0) hn0 ?_
  intro p e s m below meth c C
  refine C.aloadN d3_0 rfl rfl rfl ?_
  refine C.getF d3_1 rfl (tw hw 10 rfl) P3 ?_
  refine C.if_ne_t d3_4 (by decide) rfl (by decide) ?_
  refine C.aloadN d3_66 rfl rfl rfl ?_
  refine C.getF d3_67 rfl (tw hw 10 rfl) P3 ?_
  refine C.iconst 1 d3_70 rfl rfl ?_
  refine C.icmp_ne_t d3_71 (by decide) rfl (by decide) ?_
  refine C.iconst 0 d3_78 rfl rfl ?_
  exact C.retZ d3_79 rfl (by decide) (by decide) ⟨rfl, rfl⟩
def Qau1313_3 (Z : State) (n0 : Nat) (h0 : Heap) (o0 : Addr) (o1 : Addr) (o2 : Addr) (o3 : Addr) (i0 : Int32) (i1 : Int32) (i2 : Int32) (i3 : Int32) (i4 : Int32) (i5 : Int32) (v : Option Value) (h' : Heap) : Prop := (v = some (.int 1)) ∧ (Keep h0 h' [o0]) ∧ (Fld Z h' o0 "com/example/dodder/dodder/Elements" "depths" "[I" (.ref o1)) ∧ (Fld Z h' o0 "com/example/dodder/dodder/Elements" "extents" "[I" (.ref o2)) ∧ (Fld Z h' o0 "com/example/dodder/dodder/Elements" "nesting" "B" (.int 1)) ∧ (Fld Z h' o0 "com/example/dodder/dodder/Elements" "numbers" "[I" (.ref o3)) ∧ (Fld Z h' o0 "com/example/dodder/dodder/Elements" "parents" "[I" (.null))
theorem ef_au1313_3 (m : MethodId) (o0 : Addr) : entryFrame m #[(.ref o0)] 3 = mkF m 0 #[.val (.ref o0), .unset, .unset] [] := by first | (simp [entryFrame, mkF, argsToLocals, Value.category]; done) | rfl
set_option maxRecDepth 65536 in
set_option maxHeartbeats 40000000 in
theorem au1313_3 (l : Launch) (Z : State) (a0 : Array Value) (hw : ∀ d ∈ tables_1, d.before a0 Z = true) (n0 : Nat) (h0 : Heap) (hn0 : n0 ≤ h0.size) (o0 : Addr) (o1 : Addr) (o2 : Addr) (o3 : Addr) (i0 : Int32) (i1 : Int32) (i2 : Int32) (i3 : Int32) (i4 : Int32) (i5 : Int32) (P0 : Exa Z h0 o0 "com/example/dodder/dodder/Elements") (P1 : Fld Z h0 o0 "com/example/dodder/dodder/Elements" "depths" "[I" (.ref o1)) (P2 : Fld Z h0 o0 "com/example/dodder/dodder/Elements" "extents" "[I" (.ref o2)) (P3 : Fld Z h0 o0 "com/example/dodder/dodder/Elements" "nesting" "B" (.int 0)) (P4 : Fld Z h0 o0 "com/example/dodder/dodder/Elements" "numbers" "[I" (.ref o3)) (P5 : Fld Z h0 o0 "com/example/dodder/dodder/Elements" "parents" "[I" (.null)) (P6 : Av Z h0 o1 .int ([.int 1, .int 2, .int 3])) (P7 : Av Z h0 o2 .int ([.int i0, .int i1, .int i2])) (P8 : Av Z h0 o3 .int ([.int i3, .int i4, .int i5])) (g_o0 : n0 ≤ o0) (g_o1 : n0 ≤ o1) (g_o2 : n0 ≤ o2) (g_o3 : n0 ≤ o3) (ne_o0_o1 : o0 ≠ o1) (ne_o0_o2 : o0 ≠ o2) (ne_o0_o3 : o0 ≠ o3) (ne_o1_o2 : o1 ≠ o2) (ne_o1_o3 : o1 ≠ o3) (ne_o2_o3 : o2 ≠ o3) (kq0 : (i0 < i4)) (kq1 : ¬ (i1 < i5)) :
    Con l Z n0 [] (⟨"com/example/dodder/dodder/Elements", "nests", "()Z"⟩ : MethodName) prog_22_method_15_code 3 (some .boolean) ({ frames := 0, cells := 0, slots := 0, locals := 0 } : Room) #[(.ref o0)] h0 (Qau1313_3 Z n0 h0 o0 o1 o2 o3 i0 i1 i2 i3 i4 i5) := by
  refine Con.of pf_2 (fun m => ef_au1313_3 m o0) hn0 ?_
  intro p e s m below meth c C
  refine C.aloadN d3_0 rfl rfl rfl ?_
  refine C.getF d3_1 rfl (tw hw 10 rfl) P3 ?_
  refine C.if_ne_f d3_4 rfl (by decide) ?_
  refine C.iconst 0 d3_7 rfl rfl ?_
  refine C.istoreN (Ls' := #[.val (.ref o0), .val (.int 0), .unset]) d3_8 rfl rfl ?_
  refine C.iconst 1 d3_9 rfl rfl ?_
  refine C.istoreN (Ls' := #[.val (.ref o0), .val (.int 0), .val (.int 1)]) d3_10 rfl rfl ?_
  refine C.iloadN d3_11 rfl rfl ?_
  refine C.if_ne_f d3_12 rfl (by decide) ?_
  refine C.iloadN d3_15 rfl rfl ?_
  refine C.aloadN d3_16 rfl rfl rfl ?_
  refine C.getF d3_17 rfl (tw hw 12 rfl) P4 ?_
  refine C.alen d3_20 rfl P8 ?_
  show Go p l e ({ frames := 0, cells := 0, slots := 0, locals := 0 } : Room) s m #[(.ref o0)] below meth c n0 (FinQ s n0 (Qau1313_3 Z n0 h0 o0 o1 o2 o3 i0 i1 i2 i3 i4 i5) ({ frames := 0, cells := 0, slots := 0, locals := 0 } : Room).cells ({ frames := 0, cells := 0, slots := 0, locals := 0 } : Room).slots) h0 0 0 21 #[.val (.ref o0), .val (.int 0), .val (.int 1)] [(.int 3), (.int 1)]
  refine C.icmp_ge_f d3_21 rfl (by decide) ?_
  refine C.aloadN d3_24 rfl rfl rfl ?_
  refine C.getF d3_25 rfl (tw hw 12 rfl) P4 ?_
  refine C.iloadN d3_28 rfl rfl ?_
  refine C.iaload (.int i4) d3_29 rfl P8 (by decide) rfl ?_
  refine C.aloadN d3_30 rfl rfl rfl ?_
  refine C.getF d3_31 rfl (tw hw 14 rfl) P2 ?_
  refine C.iloadN d3_34 rfl rfl ?_
  refine C.iconst 1 d3_35 rfl rfl ?_
  refine C.isub d3_36 rfl ?_
  show Go p l e ({ frames := 0, cells := 0, slots := 0, locals := 0 } : Room) s m #[(.ref o0)] below meth c n0 (FinQ s n0 (Qau1313_3 Z n0 h0 o0 o1 o2 o3 i0 i1 i2 i3 i4 i5) ({ frames := 0, cells := 0, slots := 0, locals := 0 } : Room).cells ({ frames := 0, cells := 0, slots := 0, locals := 0 } : Room).slots) h0 0 0 37 #[.val (.ref o0), .val (.int 0), .val (.int 1)] [(.int 0), (.ref o2), (.int i4)]
  refine C.iaload (.int i0) d3_37 rfl P7 (by decide) rfl ?_
  refine C.icmp_gt_t d3_38 (by decide) rfl kq0 ?_
  refine C.iconst 0 d3_45 rfl rfl ?_
  refine C.istoreN (Ls' := #[.val (.ref o0), .val (.int 0), .val (.int 1)]) d3_46 rfl rfl ?_
  refine C.iinc (Ls' := #[.val (.ref o0), .val (.int 0), .val (.int 2)]) 1 d3_47 rfl rfl rfl rfl ?_
  refine C.goto d3_50 (by decide) rfl ?_
  refine C.iloadN d3_11 rfl rfl ?_
  refine C.if_ne_f d3_12 rfl (by decide) ?_
  refine C.iloadN d3_15 rfl rfl ?_
  refine C.aloadN d3_16 rfl rfl rfl ?_
  refine C.getF d3_17 rfl (tw hw 12 rfl) P4 ?_
  refine C.alen d3_20 rfl P8 ?_
  show Go p l e ({ frames := 0, cells := 0, slots := 0, locals := 0 } : Room) s m #[(.ref o0)] below meth c n0 (FinQ s n0 (Qau1313_3 Z n0 h0 o0 o1 o2 o3 i0 i1 i2 i3 i4 i5) ({ frames := 0, cells := 0, slots := 0, locals := 0 } : Room).cells ({ frames := 0, cells := 0, slots := 0, locals := 0 } : Room).slots) h0 0 0 21 #[.val (.ref o0), .val (.int 0), .val (.int 2)] [(.int 3), (.int 2)]
  refine C.icmp_ge_f d3_21 rfl (by decide) ?_
  refine C.aloadN d3_24 rfl rfl rfl ?_
  refine C.getF d3_25 rfl (tw hw 12 rfl) P4 ?_
  refine C.iloadN d3_28 rfl rfl ?_
  refine C.iaload (.int i5) d3_29 rfl P8 (by decide) rfl ?_
  refine C.aloadN d3_30 rfl rfl rfl ?_
  refine C.getF d3_31 rfl (tw hw 14 rfl) P2 ?_
  refine C.iloadN d3_34 rfl rfl ?_
  refine C.iconst 1 d3_35 rfl rfl ?_
  refine C.isub d3_36 rfl ?_
  show Go p l e ({ frames := 0, cells := 0, slots := 0, locals := 0 } : Room) s m #[(.ref o0)] below meth c n0 (FinQ s n0 (Qau1313_3 Z n0 h0 o0 o1 o2 o3 i0 i1 i2 i3 i4 i5) ({ frames := 0, cells := 0, slots := 0, locals := 0 } : Room).cells ({ frames := 0, cells := 0, slots := 0, locals := 0 } : Room).slots) h0 0 0 37 #[.val (.ref o0), .val (.int 0), .val (.int 2)] [(.int 1), (.ref o2), (.int i5)]
  refine C.iaload (.int i1) d3_37 rfl P7 (by decide) rfl ?_
  refine C.icmp_gt_f d3_38 rfl kq1 ?_
  refine C.iconst 1 d3_41 rfl rfl ?_
  refine C.goto d3_42 (by decide) rfl ?_
  refine C.istoreN (Ls' := #[.val (.ref o0), .val (.int 1), .val (.int 2)]) d3_46 rfl rfl ?_
  refine C.iinc (Ls' := #[.val (.ref o0), .val (.int 1), .val (.int 3)]) 1 d3_47 rfl rfl rfl rfl ?_
  refine C.goto d3_50 (by decide) rfl ?_
  refine C.iloadN d3_11 rfl rfl ?_
  refine C.if_ne_t d3_12 (by decide) rfl (by decide) ?_
  refine C.aloadN d3_53 rfl rfl rfl ?_
  refine C.iloadN d3_54 rfl rfl ?_
  refine C.if_eq_f d3_55 rfl (by decide) ?_
  refine C.iconst 1 d3_58 rfl rfl ?_
  refine C.goto d3_59 (by decide) rfl ?_
  refine C.putF d3_63 rfl (tw hw 10 rfl) P3 P0 (Or.inl (tw hw 11 rfl)) (tw hw 2 rfl) (ty := .byte) (by decide) rfl rfl g_o0 (fun h1336 W1337 F1338 => ?_)
  have F1339 : Exa Z h1336 o0 "com/example/dodder/dodder/Elements" := Exa.wr W1337 P0
  have F1340 : Fld Z h1336 o0 "com/example/dodder/dodder/Elements" "depths" "[I" (.ref o1) := Fld.other W1337 P1 (Or.inr (slot_ne (C := "com/example/dodder/dodder/Elements") (t := (.array .int)) (t' := .byte) (Or.inr (tw hw 17 rfl)) (Or.inl (tw hw 11 rfl)) (by decide) (by decide) (by decide)))
  have F1341 : Fld Z h1336 o0 "com/example/dodder/dodder/Elements" "extents" "[I" (.ref o2) := Fld.other W1337 P2 (Or.inr (slot_ne (C := "com/example/dodder/dodder/Elements") (t := (.array .int)) (t' := .byte) (Or.inr (tw hw 15 rfl)) (Or.inl (tw hw 11 rfl)) (by decide) (by decide) (by decide)))
  have F1342 : Fld Z h1336 o0 "com/example/dodder/dodder/Elements" "numbers" "[I" (.ref o3) := Fld.other W1337 P4 (Or.inr (slot_ne (C := "com/example/dodder/dodder/Elements") (t := (.array .int)) (t' := .byte) (Or.inr (tw hw 13 rfl)) (Or.inl (tw hw 11 rfl)) (by decide) (by decide) (by decide)))
  have F1343 : Fld Z h1336 o0 "com/example/dodder/dodder/Elements" "parents" "[I" (.null) := Fld.other W1337 P5 (Or.inr (slot_ne (C := "com/example/dodder/dodder/Elements") (t := (.array .int)) (t' := .byte) (Or.inr (tw hw 19 rfl)) (Or.inl (tw hw 11 rfl)) (by decide) (by decide) (by decide)))
  have F1344 : Av Z h1336 o1 .int ([.int 1, .int 2, .int 3]) := P6.other W1337 (Ne.symm ne_o0_o1)
  have F1345 : Av Z h1336 o2 .int ([.int i0, .int i1, .int i2]) := P7.other W1337 (Ne.symm ne_o0_o2)
  have F1346 : Av Z h1336 o3 .int ([.int i3, .int i4, .int i5]) := P8.other W1337 (Ne.symm ne_o0_o3)
  refine C.aloadN d3_66 rfl rfl rfl ?_
  refine C.getF d3_67 rfl (tw hw 10 rfl) F1338 ?_
  refine C.iconst 1 d3_70 rfl rfl ?_
  refine C.icmp_ne_f d3_71 rfl (by decide) ?_
  refine C.iconst 1 d3_74 rfl rfl ?_
  refine C.goto d3_75 (by decide) rfl ?_
  exact C.retZ d3_79 rfl (by decide) (by decide) ⟨rfl, ((Keep.refl h0 [o0]).wr W1337 (Or.inl (List.mem_of_getElem? (i := 0) rfl))), F1340, F1341, F1338, F1342, F1343⟩
def Qau1365_3 (Z : State) (n0 : Nat) (h0 : Heap) (o0 : Addr) (o1 : Addr) (o2 : Addr) (o3 : Addr) (i0 : Int32) (i1 : Int32) (i2 : Int32) (i3 : Int32) (i4 : Int32) (i5 : Int32) (v : Option Value) (h' : Heap) : Prop := (v = some (.int 1)) ∧ (h0 = h')
theorem ef_au1365_3 (m : MethodId) (o0 : Addr) : entryFrame m #[(.ref o0)] 3 = mkF m 0 #[.val (.ref o0), .unset, .unset] [] := by first | (simp [entryFrame, mkF, argsToLocals, Value.category]; done) | rfl
set_option maxRecDepth 65536 in
set_option maxHeartbeats 40000000 in
theorem au1365_3 (l : Launch) (Z : State) (a0 : Array Value) (hw : ∀ d ∈ tables_1, d.before a0 Z = true) (n0 : Nat) (h0 : Heap) (hn0 : n0 ≤ h0.size) (o0 : Addr) (o1 : Addr) (o2 : Addr) (o3 : Addr) (i0 : Int32) (i1 : Int32) (i2 : Int32) (i3 : Int32) (i4 : Int32) (i5 : Int32) (P0 : Exa Z h0 o0 "com/example/dodder/dodder/Elements") (P1 : Fld Z h0 o0 "com/example/dodder/dodder/Elements" "depths" "[I" (.ref o1)) (P2 : Fld Z h0 o0 "com/example/dodder/dodder/Elements" "extents" "[I" (.ref o2)) (P3 : Fld Z h0 o0 "com/example/dodder/dodder/Elements" "nesting" "B" (.int 1)) (P4 : Fld Z h0 o0 "com/example/dodder/dodder/Elements" "numbers" "[I" (.ref o3)) (P5 : Fld Z h0 o0 "com/example/dodder/dodder/Elements" "parents" "[I" (.null)) (P6 : Av Z h0 o1 .int ([.int 1, .int 2, .int 3])) (P7 : Av Z h0 o2 .int ([.int i0, .int i1, .int i2])) (P8 : Av Z h0 o3 .int ([.int i3, .int i4, .int i5])) (g_o0 : n0 ≤ o0) (g_o1 : n0 ≤ o1) (g_o2 : n0 ≤ o2) (g_o3 : n0 ≤ o3) (ne_o0_o1 : o0 ≠ o1) (ne_o0_o2 : o0 ≠ o2) (ne_o0_o3 : o0 ≠ o3) (ne_o1_o2 : o1 ≠ o2) (ne_o1_o3 : o1 ≠ o3) (ne_o2_o3 : o2 ≠ o3) :
    Con l Z n0 [] (⟨"com/example/dodder/dodder/Elements", "nests", "()Z"⟩ : MethodName) prog_22_method_15_code 3 (some .boolean) ({ frames := 0, cells := 0, slots := 0, locals := 0 } : Room) #[(.ref o0)] h0 (Qau1365_3 Z n0 h0 o0 o1 o2 o3 i0 i1 i2 i3 i4 i5) := by
  refine Con.of pf_2 (fun m => ef_au1365_3 m o0) hn0 ?_
  intro p e s m below meth c C
  refine C.aloadN d3_0 rfl rfl rfl ?_
  refine C.getF d3_1 rfl (tw hw 10 rfl) P3 ?_
  refine C.if_ne_t d3_4 (by decide) rfl (by decide) ?_
  refine C.aloadN d3_66 rfl rfl rfl ?_
  refine C.getF d3_67 rfl (tw hw 10 rfl) P3 ?_
  refine C.iconst 1 d3_70 rfl rfl ?_
  refine C.icmp_ne_f d3_71 rfl (by decide) ?_
  refine C.iconst 1 d3_74 rfl rfl ?_
  refine C.goto d3_75 (by decide) rfl ?_
  exact C.retZ d3_79 rfl (by decide) (by decide) ⟨rfl, rfl⟩
def Qau1370_3 (Z : State) (n0 : Nat) (h0 : Heap) (o0 : Addr) (o1 : Addr) (o2 : Addr) (o3 : Addr) (i0 : Int32) (i1 : Int32) (i2 : Int32) (i3 : Int32) (i4 : Int32) (i5 : Int32) (v : Option Value) (h' : Heap) : Prop := (v = some (.int 1)) ∧ (Keep h0 h' [o0]) ∧ (Fld Z h' o0 "com/example/dodder/dodder/Elements" "depths" "[I" (.ref o1)) ∧ (Fld Z h' o0 "com/example/dodder/dodder/Elements" "extents" "[I" (.ref o2)) ∧ (Fld Z h' o0 "com/example/dodder/dodder/Elements" "nesting" "B" (.int 1)) ∧ (Fld Z h' o0 "com/example/dodder/dodder/Elements" "numbers" "[I" (.ref o3)) ∧ (Fld Z h' o0 "com/example/dodder/dodder/Elements" "parents" "[I" (.null))
theorem ef_au1370_3 (m : MethodId) (o0 : Addr) : entryFrame m #[(.ref o0)] 3 = mkF m 0 #[.val (.ref o0), .unset, .unset] [] := by first | (simp [entryFrame, mkF, argsToLocals, Value.category]; done) | rfl
set_option maxRecDepth 65536 in
set_option maxHeartbeats 40000000 in
theorem au1370_3 (l : Launch) (Z : State) (a0 : Array Value) (hw : ∀ d ∈ tables_1, d.before a0 Z = true) (n0 : Nat) (h0 : Heap) (hn0 : n0 ≤ h0.size) (o0 : Addr) (o1 : Addr) (o2 : Addr) (o3 : Addr) (i0 : Int32) (i1 : Int32) (i2 : Int32) (i3 : Int32) (i4 : Int32) (i5 : Int32) (P0 : Exa Z h0 o0 "com/example/dodder/dodder/Elements") (P1 : Fld Z h0 o0 "com/example/dodder/dodder/Elements" "depths" "[I" (.ref o1)) (P2 : Fld Z h0 o0 "com/example/dodder/dodder/Elements" "extents" "[I" (.ref o2)) (P3 : Fld Z h0 o0 "com/example/dodder/dodder/Elements" "nesting" "B" (.int 0)) (P4 : Fld Z h0 o0 "com/example/dodder/dodder/Elements" "numbers" "[I" (.ref o3)) (P5 : Fld Z h0 o0 "com/example/dodder/dodder/Elements" "parents" "[I" (.null)) (P6 : Av Z h0 o1 .int ([.int 1, .int 2, .int 3])) (P7 : Av Z h0 o2 .int ([.int i0, .int i1, .int i2])) (P8 : Av Z h0 o3 .int ([.int i3, .int i4, .int i5])) (g_o0 : n0 ≤ o0) (g_o1 : n0 ≤ o1) (g_o2 : n0 ≤ o2) (g_o3 : n0 ≤ o3) (ne_o0_o1 : o0 ≠ o1) (ne_o0_o2 : o0 ≠ o2) (ne_o0_o3 : o0 ≠ o3) (ne_o1_o2 : o1 ≠ o2) (ne_o1_o3 : o1 ≠ o3) (ne_o2_o3 : o2 ≠ o3) (kq0 : ¬ (i0 < i4)) (kq1 : (i1 < i5)) :
    Con l Z n0 [] (⟨"com/example/dodder/dodder/Elements", "nests", "()Z"⟩ : MethodName) prog_22_method_15_code 3 (some .boolean) ({ frames := 0, cells := 0, slots := 0, locals := 0 } : Room) #[(.ref o0)] h0 (Qau1370_3 Z n0 h0 o0 o1 o2 o3 i0 i1 i2 i3 i4 i5) := by
  refine Con.of pf_2 (fun m => ef_au1370_3 m o0) hn0 ?_
  intro p e s m below meth c C
  refine C.aloadN d3_0 rfl rfl rfl ?_
  refine C.getF d3_1 rfl (tw hw 10 rfl) P3 ?_
  refine C.if_ne_f d3_4 rfl (by decide) ?_
  refine C.iconst 0 d3_7 rfl rfl ?_
  refine C.istoreN (Ls' := #[.val (.ref o0), .val (.int 0), .unset]) d3_8 rfl rfl ?_
  refine C.iconst 1 d3_9 rfl rfl ?_
  refine C.istoreN (Ls' := #[.val (.ref o0), .val (.int 0), .val (.int 1)]) d3_10 rfl rfl ?_
  refine C.iloadN d3_11 rfl rfl ?_
  refine C.if_ne_f d3_12 rfl (by decide) ?_
  refine C.iloadN d3_15 rfl rfl ?_
  refine C.aloadN d3_16 rfl rfl rfl ?_
  refine C.getF d3_17 rfl (tw hw 12 rfl) P4 ?_
  refine C.alen d3_20 rfl P8 ?_
  show Go p l e ({ frames := 0, cells := 0, slots := 0, locals := 0 } : Room) s m #[(.ref o0)] below meth c n0 (FinQ s n0 (Qau1370_3 Z n0 h0 o0 o1 o2 o3 i0 i1 i2 i3 i4 i5) ({ frames := 0, cells := 0, slots := 0, locals := 0 } : Room).cells ({ frames := 0, cells := 0, slots := 0, locals := 0 } : Room).slots) h0 0 0 21 #[.val (.ref o0), .val (.int 0), .val (.int 1)] [(.int 3), (.int 1)]
  refine C.icmp_ge_f d3_21 rfl (by decide) ?_
  refine C.aloadN d3_24 rfl rfl rfl ?_
  refine C.getF d3_25 rfl (tw hw 12 rfl) P4 ?_
  refine C.iloadN d3_28 rfl rfl ?_
  refine C.iaload (.int i4) d3_29 rfl P8 (by decide) rfl ?_
  refine C.aloadN d3_30 rfl rfl rfl ?_
  refine C.getF d3_31 rfl (tw hw 14 rfl) P2 ?_
  refine C.iloadN d3_34 rfl rfl ?_
  refine C.iconst 1 d3_35 rfl rfl ?_
  refine C.isub d3_36 rfl ?_
  show Go p l e ({ frames := 0, cells := 0, slots := 0, locals := 0 } : Room) s m #[(.ref o0)] below meth c n0 (FinQ s n0 (Qau1370_3 Z n0 h0 o0 o1 o2 o3 i0 i1 i2 i3 i4 i5) ({ frames := 0, cells := 0, slots := 0, locals := 0 } : Room).cells ({ frames := 0, cells := 0, slots := 0, locals := 0 } : Room).slots) h0 0 0 37 #[.val (.ref o0), .val (.int 0), .val (.int 1)] [(.int 0), (.ref o2), (.int i4)]
  refine C.iaload (.int i0) d3_37 rfl P7 (by decide) rfl ?_
  refine C.icmp_gt_f d3_38 rfl kq0 ?_
  refine C.iconst 1 d3_41 rfl rfl ?_
  refine C.goto d3_42 (by decide) rfl ?_
  refine C.istoreN (Ls' := #[.val (.ref o0), .val (.int 1), .val (.int 1)]) d3_46 rfl rfl ?_
  refine C.iinc (Ls' := #[.val (.ref o0), .val (.int 1), .val (.int 2)]) 1 d3_47 rfl rfl rfl rfl ?_
  refine C.goto d3_50 (by decide) rfl ?_
  refine C.iloadN d3_11 rfl rfl ?_
  refine C.if_ne_t d3_12 (by decide) rfl (by decide) ?_
  refine C.aloadN d3_53 rfl rfl rfl ?_
  refine C.iloadN d3_54 rfl rfl ?_
  refine C.if_eq_f d3_55 rfl (by decide) ?_
  refine C.iconst 1 d3_58 rfl rfl ?_
  refine C.goto d3_59 (by decide) rfl ?_
  refine C.putF d3_63 rfl (tw hw 10 rfl) P3 P0 (Or.inl (tw hw 11 rfl)) (tw hw 2 rfl) (ty := .byte) (by decide) rfl rfl g_o0 (fun h1393 W1394 F1395 => ?_)
  have F1396 : Exa Z h1393 o0 "com/example/dodder/dodder/Elements" := Exa.wr W1394 P0
  have F1397 : Fld Z h1393 o0 "com/example/dodder/dodder/Elements" "depths" "[I" (.ref o1) := Fld.other W1394 P1 (Or.inr (slot_ne (C := "com/example/dodder/dodder/Elements") (t := (.array .int)) (t' := .byte) (Or.inr (tw hw 17 rfl)) (Or.inl (tw hw 11 rfl)) (by decide) (by decide) (by decide)))
  have F1398 : Fld Z h1393 o0 "com/example/dodder/dodder/Elements" "extents" "[I" (.ref o2) := Fld.other W1394 P2 (Or.inr (slot_ne (C := "com/example/dodder/dodder/Elements") (t := (.array .int)) (t' := .byte) (Or.inr (tw hw 15 rfl)) (Or.inl (tw hw 11 rfl)) (by decide) (by decide) (by decide)))
  have F1399 : Fld Z h1393 o0 "com/example/dodder/dodder/Elements" "numbers" "[I" (.ref o3) := Fld.other W1394 P4 (Or.inr (slot_ne (C := "com/example/dodder/dodder/Elements") (t := (.array .int)) (t' := .byte) (Or.inr (tw hw 13 rfl)) (Or.inl (tw hw 11 rfl)) (by decide) (by decide) (by decide)))
  have F1400 : Fld Z h1393 o0 "com/example/dodder/dodder/Elements" "parents" "[I" (.null) := Fld.other W1394 P5 (Or.inr (slot_ne (C := "com/example/dodder/dodder/Elements") (t := (.array .int)) (t' := .byte) (Or.inr (tw hw 19 rfl)) (Or.inl (tw hw 11 rfl)) (by decide) (by decide) (by decide)))
  have F1401 : Av Z h1393 o1 .int ([.int 1, .int 2, .int 3]) := P6.other W1394 (Ne.symm ne_o0_o1)
  have F1402 : Av Z h1393 o2 .int ([.int i0, .int i1, .int i2]) := P7.other W1394 (Ne.symm ne_o0_o2)
  have F1403 : Av Z h1393 o3 .int ([.int i3, .int i4, .int i5]) := P8.other W1394 (Ne.symm ne_o0_o3)
  refine C.aloadN d3_66 rfl rfl rfl ?_
  refine C.getF d3_67 rfl (tw hw 10 rfl) F1395 ?_
  refine C.iconst 1 d3_70 rfl rfl ?_
  refine C.icmp_ne_f d3_71 rfl (by decide) ?_
  refine C.iconst 1 d3_74 rfl rfl ?_
  refine C.goto d3_75 (by decide) rfl ?_
  exact C.retZ d3_79 rfl (by decide) (by decide) ⟨rfl, ((Keep.refl h0 [o0]).wr W1394 (Or.inl (List.mem_of_getElem? (i := 0) rfl))), F1397, F1398, F1395, F1399, F1400⟩
def Qau1426_3 (Z : State) (n0 : Nat) (h0 : Heap) (o0 : Addr) (o1 : Addr) (o2 : Addr) (o3 : Addr) (i0 : Int32) (i1 : Int32) (i2 : Int32) (i3 : Int32) (i4 : Int32) (i5 : Int32) (v : Option Value) (h' : Heap) : Prop := (v = some (.int 1)) ∧ (Keep h0 h' [o0]) ∧ (Fld Z h' o0 "com/example/dodder/dodder/Elements" "depths" "[I" (.ref o1)) ∧ (Fld Z h' o0 "com/example/dodder/dodder/Elements" "extents" "[I" (.ref o2)) ∧ (Fld Z h' o0 "com/example/dodder/dodder/Elements" "nesting" "B" (.int 1)) ∧ (Fld Z h' o0 "com/example/dodder/dodder/Elements" "numbers" "[I" (.ref o3)) ∧ (Fld Z h' o0 "com/example/dodder/dodder/Elements" "parents" "[I" (.null))
theorem ef_au1426_3 (m : MethodId) (o0 : Addr) : entryFrame m #[(.ref o0)] 3 = mkF m 0 #[.val (.ref o0), .unset, .unset] [] := by first | (simp [entryFrame, mkF, argsToLocals, Value.category]; done) | rfl
set_option maxRecDepth 65536 in
set_option maxHeartbeats 40000000 in
theorem au1426_3 (l : Launch) (Z : State) (a0 : Array Value) (hw : ∀ d ∈ tables_1, d.before a0 Z = true) (n0 : Nat) (h0 : Heap) (hn0 : n0 ≤ h0.size) (o0 : Addr) (o1 : Addr) (o2 : Addr) (o3 : Addr) (i0 : Int32) (i1 : Int32) (i2 : Int32) (i3 : Int32) (i4 : Int32) (i5 : Int32) (P0 : Exa Z h0 o0 "com/example/dodder/dodder/Elements") (P1 : Fld Z h0 o0 "com/example/dodder/dodder/Elements" "depths" "[I" (.ref o1)) (P2 : Fld Z h0 o0 "com/example/dodder/dodder/Elements" "extents" "[I" (.ref o2)) (P3 : Fld Z h0 o0 "com/example/dodder/dodder/Elements" "nesting" "B" (.int 0)) (P4 : Fld Z h0 o0 "com/example/dodder/dodder/Elements" "numbers" "[I" (.ref o3)) (P5 : Fld Z h0 o0 "com/example/dodder/dodder/Elements" "parents" "[I" (.null)) (P6 : Av Z h0 o1 .int ([.int 1, .int 2, .int 3])) (P7 : Av Z h0 o2 .int ([.int i0, .int i1, .int i2])) (P8 : Av Z h0 o3 .int ([.int i3, .int i4, .int i5])) (g_o0 : n0 ≤ o0) (g_o1 : n0 ≤ o1) (g_o2 : n0 ≤ o2) (g_o3 : n0 ≤ o3) (ne_o0_o1 : o0 ≠ o1) (ne_o0_o2 : o0 ≠ o2) (ne_o0_o3 : o0 ≠ o3) (ne_o1_o2 : o1 ≠ o2) (ne_o1_o3 : o1 ≠ o3) (ne_o2_o3 : o2 ≠ o3) (kq0 : ¬ (i0 < i4)) (kq1 : ¬ (i1 < i5)) :
    Con l Z n0 [] (⟨"com/example/dodder/dodder/Elements", "nests", "()Z"⟩ : MethodName) prog_22_method_15_code 3 (some .boolean) ({ frames := 0, cells := 0, slots := 0, locals := 0 } : Room) #[(.ref o0)] h0 (Qau1426_3 Z n0 h0 o0 o1 o2 o3 i0 i1 i2 i3 i4 i5) := by
  refine Con.of pf_2 (fun m => ef_au1426_3 m o0) hn0 ?_
  intro p e s m below meth c C
  refine C.aloadN d3_0 rfl rfl rfl ?_
  refine C.getF d3_1 rfl (tw hw 10 rfl) P3 ?_
  refine C.if_ne_f d3_4 rfl (by decide) ?_
  refine C.iconst 0 d3_7 rfl rfl ?_
  refine C.istoreN (Ls' := #[.val (.ref o0), .val (.int 0), .unset]) d3_8 rfl rfl ?_
  refine C.iconst 1 d3_9 rfl rfl ?_
  refine C.istoreN (Ls' := #[.val (.ref o0), .val (.int 0), .val (.int 1)]) d3_10 rfl rfl ?_
  refine C.iloadN d3_11 rfl rfl ?_
  refine C.if_ne_f d3_12 rfl (by decide) ?_
  refine C.iloadN d3_15 rfl rfl ?_
  refine C.aloadN d3_16 rfl rfl rfl ?_
  refine C.getF d3_17 rfl (tw hw 12 rfl) P4 ?_
  refine C.alen d3_20 rfl P8 ?_
  show Go p l e ({ frames := 0, cells := 0, slots := 0, locals := 0 } : Room) s m #[(.ref o0)] below meth c n0 (FinQ s n0 (Qau1426_3 Z n0 h0 o0 o1 o2 o3 i0 i1 i2 i3 i4 i5) ({ frames := 0, cells := 0, slots := 0, locals := 0 } : Room).cells ({ frames := 0, cells := 0, slots := 0, locals := 0 } : Room).slots) h0 0 0 21 #[.val (.ref o0), .val (.int 0), .val (.int 1)] [(.int 3), (.int 1)]
  refine C.icmp_ge_f d3_21 rfl (by decide) ?_
  refine C.aloadN d3_24 rfl rfl rfl ?_
  refine C.getF d3_25 rfl (tw hw 12 rfl) P4 ?_
  refine C.iloadN d3_28 rfl rfl ?_
  refine C.iaload (.int i4) d3_29 rfl P8 (by decide) rfl ?_
  refine C.aloadN d3_30 rfl rfl rfl ?_
  refine C.getF d3_31 rfl (tw hw 14 rfl) P2 ?_
  refine C.iloadN d3_34 rfl rfl ?_
  refine C.iconst 1 d3_35 rfl rfl ?_
  refine C.isub d3_36 rfl ?_
  show Go p l e ({ frames := 0, cells := 0, slots := 0, locals := 0 } : Room) s m #[(.ref o0)] below meth c n0 (FinQ s n0 (Qau1426_3 Z n0 h0 o0 o1 o2 o3 i0 i1 i2 i3 i4 i5) ({ frames := 0, cells := 0, slots := 0, locals := 0 } : Room).cells ({ frames := 0, cells := 0, slots := 0, locals := 0 } : Room).slots) h0 0 0 37 #[.val (.ref o0), .val (.int 0), .val (.int 1)] [(.int 0), (.ref o2), (.int i4)]
  refine C.iaload (.int i0) d3_37 rfl P7 (by decide) rfl ?_
  refine C.icmp_gt_f d3_38 rfl kq0 ?_
  refine C.iconst 1 d3_41 rfl rfl ?_
  refine C.goto d3_42 (by decide) rfl ?_
  refine C.istoreN (Ls' := #[.val (.ref o0), .val (.int 1), .val (.int 1)]) d3_46 rfl rfl ?_
  refine C.iinc (Ls' := #[.val (.ref o0), .val (.int 1), .val (.int 2)]) 1 d3_47 rfl rfl rfl rfl ?_
  refine C.goto d3_50 (by decide) rfl ?_
  refine C.iloadN d3_11 rfl rfl ?_
  refine C.if_ne_t d3_12 (by decide) rfl (by decide) ?_
  refine C.aloadN d3_53 rfl rfl rfl ?_
  refine C.iloadN d3_54 rfl rfl ?_
  refine C.if_eq_f d3_55 rfl (by decide) ?_
  refine C.iconst 1 d3_58 rfl rfl ?_
  refine C.goto d3_59 (by decide) rfl ?_
  refine C.putF d3_63 rfl (tw hw 10 rfl) P3 P0 (Or.inl (tw hw 11 rfl)) (tw hw 2 rfl) (ty := .byte) (by decide) rfl rfl g_o0 (fun h1449 W1450 F1451 => ?_)
  have F1452 : Exa Z h1449 o0 "com/example/dodder/dodder/Elements" := Exa.wr W1450 P0
  have F1453 : Fld Z h1449 o0 "com/example/dodder/dodder/Elements" "depths" "[I" (.ref o1) := Fld.other W1450 P1 (Or.inr (slot_ne (C := "com/example/dodder/dodder/Elements") (t := (.array .int)) (t' := .byte) (Or.inr (tw hw 17 rfl)) (Or.inl (tw hw 11 rfl)) (by decide) (by decide) (by decide)))
  have F1454 : Fld Z h1449 o0 "com/example/dodder/dodder/Elements" "extents" "[I" (.ref o2) := Fld.other W1450 P2 (Or.inr (slot_ne (C := "com/example/dodder/dodder/Elements") (t := (.array .int)) (t' := .byte) (Or.inr (tw hw 15 rfl)) (Or.inl (tw hw 11 rfl)) (by decide) (by decide) (by decide)))
  have F1455 : Fld Z h1449 o0 "com/example/dodder/dodder/Elements" "numbers" "[I" (.ref o3) := Fld.other W1450 P4 (Or.inr (slot_ne (C := "com/example/dodder/dodder/Elements") (t := (.array .int)) (t' := .byte) (Or.inr (tw hw 13 rfl)) (Or.inl (tw hw 11 rfl)) (by decide) (by decide) (by decide)))
  have F1456 : Fld Z h1449 o0 "com/example/dodder/dodder/Elements" "parents" "[I" (.null) := Fld.other W1450 P5 (Or.inr (slot_ne (C := "com/example/dodder/dodder/Elements") (t := (.array .int)) (t' := .byte) (Or.inr (tw hw 19 rfl)) (Or.inl (tw hw 11 rfl)) (by decide) (by decide) (by decide)))
  have F1457 : Av Z h1449 o1 .int ([.int 1, .int 2, .int 3]) := P6.other W1450 (Ne.symm ne_o0_o1)
  have F1458 : Av Z h1449 o2 .int ([.int i0, .int i1, .int i2]) := P7.other W1450 (Ne.symm ne_o0_o2)
  have F1459 : Av Z h1449 o3 .int ([.int i3, .int i4, .int i5]) := P8.other W1450 (Ne.symm ne_o0_o3)
  refine C.aloadN d3_66 rfl rfl rfl ?_
  refine C.getF d3_67 rfl (tw hw 10 rfl) F1451 ?_
  refine C.iconst 1 d3_70 rfl rfl ?_
  refine C.icmp_ne_f d3_71 rfl (by decide) ?_
  refine C.iconst 1 d3_74 rfl rfl ?_
  refine C.goto d3_75 (by decide) rfl ?_
  exact C.retZ d3_79 rfl (by decide) (by decide) ⟨rfl, ((Keep.refl h0 [o0]).wr W1450 (Or.inl (List.mem_of_getElem? (i := 0) rfl))), F1453, F1454, F1451, F1455, F1456⟩
def Qcon0 (Z : State) (n0 : Nat) (h0 : Heap) (x0 : Int32) (x1 : Int32) (x2 : Int32) (x3 : Int32) (x4 : Int32) (x5 : Int32) (v : Option Value) (h' : Heap) : Prop := v = some (.int 1) ∧ True
theorem ef_con0 (m : MethodId) (x0 : Int32) (x1 : Int32) (x2 : Int32) (x3 : Int32) (x4 : Int32) (x5 : Int32) : entryFrame m #[(.int x0), (.int x1), (.int x2), (.int x3), (.int x4), (.int x5)] maxLocals = mkF m 0 #[.val (.int x0), .val (.int x1), .val (.int x2), .val (.int x3), .val (.int x4), .val (.int x5), .unset, .unset, .unset, .unset, .unset, .unset, .unset, .unset] [] := by first | (simp [entryFrame, mkF, argsToLocals, Value.category, maxLocals]; done) | rfl
set_option maxRecDepth 65536 in
set_option maxHeartbeats 40000000 in
theorem con0 (l : Launch) (Z : State) (a0 : Array Value) (hw : ∀ d ∈ tables_1, d.before a0 Z = true) (n0 : Nat) (h0 : Heap) (hn0 : n0 ≤ h0.size) (x0 : Int32) (x1 : Int32) (x2 : Int32) (x3 : Int32) (x4 : Int32) (x5 : Int32) :
    Con l Z n0 tables_1 x code maxLocals ret room_1 #[(.int x0), (.int x1), (.int x2), (.int x3), (.int x4), (.int x5)] h0 (Qcon0 Z n0 h0 x0 x1 x2 x3 x4 x5) := by
  refine Con.of pf_0 (fun m => ef_con0 m x0 x1 x2 x3 x4 x5) hn0 ?_
  intro p e s m below meth c C
  refine C.iload at_0 rfl rfl ?_
  refine C.iconst 3 at_2 rfl rfl ?_
  refine C.iand at_3 rfl ?_
  refine C.istore (Ls' := #[.val (.int x0), .val (.int x1), .val (.int x2), .val (.int x3), .val (.int x4), .val (.int x5), .val (.int (x5 &&& 3)), .unset, .unset, .unset, .unset, .unset, .unset, .unset]) at_4 rfl rfl ?_
  rcases own_four x5 with qc | qc | qc | qc
  · rw [qc]
    refine C.iload at_6 rfl rfl ?_
    refine C.newarr 0 at_8 rfl rfl (tw hw 0 rfl) (by decide) (by decide) (by decide) (by decide) (by decide) (fun a1 h2 z5 g6 X3 F4 => ?_)
    have F7 : Av Z h2 a1 .int ([]) := F4
    refine C.astore (Ls' := #[.val (.int x0), .val (.int x1), .val (.int x2), .val (.int x3), .val (.int x4), .val (.int x5), .val (.int 0), .val (.ref a1), .unset, .unset, .unset, .unset, .unset, .unset]) at_10 rfl rfl rfl ?_
    refine C.iload at_12 rfl rfl ?_
    refine C.newarr 0 at_14 rfl rfl (tw hw 0 rfl) (by decide) (by decide) (by decide) (by decide) (by decide) (fun a8 h9 z12 g13 X10 F11 => ?_)
    have ne14 : a1 ≠ a8 := by rw [z12]; exact Nat.ne_of_lt F7.lt
    have F15 : Av Z h9 a1 .int ([]) := F7.ext X10
    have F16 : Av Z h9 a8 .int ([]) := F11
    refine C.astore (Ls' := #[.val (.int x0), .val (.int x1), .val (.int x2), .val (.int x3), .val (.int x4), .val (.int x5), .val (.int 0), .val (.ref a1), .val (.ref a8), .unset, .unset, .unset, .unset, .unset]) at_16 rfl rfl rfl ?_
    refine C.iload at_18 rfl rfl ?_
    refine C.newarr 0 at_20 rfl rfl (tw hw 0 rfl) (by decide) (by decide) (by decide) (by decide) (by decide) (fun a17 h18 z21 g22 X19 F20 => ?_)
    have ne23 : a1 ≠ a17 := by rw [z21]; exact Nat.ne_of_lt F15.lt
    have ne24 : a8 ≠ a17 := by rw [z21]; exact Nat.ne_of_lt F16.lt
    have F25 : Av Z h18 a1 .int ([]) := F15.ext X19
    have F26 : Av Z h18 a8 .int ([]) := F16.ext X19
    have F27 : Av Z h18 a17 .int ([]) := F20
    refine C.astore (Ls' := #[.val (.int x0), .val (.int x1), .val (.int x2), .val (.int x3), .val (.int x4), .val (.int x5), .val (.int 0), .val (.ref a1), .val (.ref a8), .val (.ref a17), .unset, .unset, .unset, .unset]) at_22 rfl rfl rfl ?_
    refine C.iload at_24 rfl rfl ?_
    refine C.if_le_t at_26 (by decide) rfl (by decide) ?_
    refine C.iload at_44 rfl rfl ?_
    refine C.iconst 1 at_46 rfl rfl ?_
    refine C.icmp_le_t at_47 (by decide) rfl (by decide) ?_
    refine C.iload at_66 rfl rfl ?_
    refine C.iconst 2 at_68 rfl rfl ?_
    refine C.icmp_le_t at_69 (by decide) rfl (by decide) ?_
    refine C.new at_88 rfl (tw hw 1 rfl) (tw hw 2 rfl) (tw hw 3 rfl) (by decide) (by decide) (fun a28 h29 z33 g34 X31 E30 D32 => ?_)
    have ne35 : a1 ≠ a28 := by rw [z33]; exact Nat.ne_of_lt F25.lt
    have ne36 : a8 ≠ a28 := by rw [z33]; exact Nat.ne_of_lt F26.lt
    have ne37 : a17 ≠ a28 := by rw [z33]; exact Nat.ne_of_lt F27.lt
    have F38 : Av Z h29 a1 .int ([]) := F25.ext X31
    have F39 : Av Z h29 a8 .int ([]) := F26.ext X31
    have F40 : Av Z h29 a17 .int ([]) := F27.ext X31
    have F41 : Fld Z h29 a28 "com/example/dodder/dodder/Elements" "nesting" "B" (.int 0) := D32 (Or.inl (tw hw 11 rfl)) (ty := .byte) (by decide)
    have F42 : Fld Z h29 a28 "com/example/dodder/dodder/Elements" "numbers" "[I" (.null) := D32 (Or.inr (tw hw 13 rfl)) (ty := (.array .int)) (by decide)
    have F43 : Fld Z h29 a28 "com/example/dodder/dodder/Elements" "extents" "[I" (.null) := D32 (Or.inr (tw hw 15 rfl)) (ty := (.array .int)) (by decide)
    have F44 : Fld Z h29 a28 "com/example/dodder/dodder/Elements" "depths" "[I" (.null) := D32 (Or.inr (tw hw 17 rfl)) (ty := (.array .int)) (by decide)
    have F45 : Fld Z h29 a28 "com/example/dodder/dodder/Elements" "parents" "[I" (.null) := D32 (Or.inr (tw hw 19 rfl)) (ty := (.array .int)) (by decide)
    refine C.dup at_91 rfl rfl ?_
    refine C.aload at_92 rfl rfl rfl ?_
    refine C.aload at_94 rfl rfl rfl ?_
    refine C.aload at_96 rfl rfl rfl ?_
    refine C.aconst_null at_98 rfl ?_
    refine C.callN (argsL := [(.ref a1), (.ref a8), (.ref a17), .null]) (rest := [(.ref a28)]) 1 (fun zz => au46_1 l Z a0 hw n0 h29 zz a28 a1 a8 a17 E30 F44 F43 F41 F42 F45 F38 F39 F40 g34 g6 g13 g22 (Ne.symm ne35) (Ne.symm ne36) (Ne.symm ne37) ne14 ne23 ne24) at_99 rfl rfl (tw hw 4 rfl) (tw hw 5 rfl) (tw hw 3 rfl) (tw hw 6 rfl) (by decide) pd_0 rfl rfl rfl (Nat.le_of_eq rfl) (by decide) (by decide) (by decide) (by decide) (fun v212 h213 r214 => ?_)
    obtain ⟨rfl, K215, F216, F217, F218, F219, F220⟩ := r214
    have F221 : Av Z h213 a1 .int ([]) := F38.keep K215 (ninS ne35 nin0)
    have F222 : Av Z h213 a8 .int ([]) := F39.keep K215 (ninS ne36 nin0)
    have F223 : Av Z h213 a17 .int ([]) := F40.keep K215 (ninS ne37 nin0)
    have F224 : Exa Z h213 a28 "com/example/dodder/dodder/Elements" := E30.keep K215
    refine C.astore (Ls' := #[.val (.int x0), .val (.int x1), .val (.int x2), .val (.int x3), .val (.int x4), .val (.int x5), .val (.int 0), .val (.ref a1), .val (.ref a8), .val (.ref a17), .val (.ref a28), .unset, .unset, .unset]) at_102 rfl rfl rfl ?_
    refine C.iconst 0 at_104 rfl rfl ?_
    refine C.istore (Ls' := #[.val (.int x0), .val (.int x1), .val (.int x2), .val (.int x3), .val (.int x4), .val (.int x5), .val (.int 0), .val (.ref a1), .val (.ref a8), .val (.ref a17), .val (.ref a28), .val (.int 0), .unset, .unset]) at_105 rfl rfl ?_
    refine C.iload at_107 rfl rfl ?_
    refine C.iconst 2 at_109 rfl rfl ?_
    refine C.icmp_lt_t at_110 (by decide) rfl (by decide) ?_
    refine C.iload at_121 rfl rfl ?_
    refine C.iconst 3 at_123 rfl rfl ?_
    refine C.icmp_lt_t at_124 (by decide) rfl (by decide) ?_
    refine C.aload at_136 rfl rfl rfl ?_
    refine C.callV (argsL := []) (rest := []) 0 (fun zz => au230_3 l Z a0 hw n0 h213 zz a28 a17 a8 a1 F224 F216 F217 F218 F219 F220 F223 F222 F221 g34 g22 g13 g6 (Ne.symm ne37) (Ne.symm ne36) (Ne.symm ne35) (Ne.symm ne24) (Ne.symm ne23) (Ne.symm ne14)) F224 at_138 rfl (tw hw 20 rfl) (tw hw 21 rfl) (tw hw 22 rfl) (tw hw 23 rfl) (tw hw 3 rfl) (tw hw 24 rfl) (by decide) pd_1 rfl rfl rfl (Nat.le_of_eq rfl) (by decide) (by decide) (by decide) (by decide) (fun v264 h265 r266 => ?_)
    obtain ⟨rfl, K267, F268, F269, F270, F271, F272⟩ := r266
    have F273 : Av Z h265 a1 .int ([]) := F221.keep K267 (ninS ne35 nin0)
    have F274 : Av Z h265 a8 .int ([]) := F222.keep K267 (ninS ne36 nin0)
    have F275 : Av Z h265 a17 .int ([]) := F223.keep K267 (ninS ne37 nin0)
    have F276 : Exa Z h265 a28 "com/example/dodder/dodder/Elements" := F224.keep K267
    refine C.istore (Ls' := #[.val (.int x0), .val (.int x1), .val (.int x2), .val (.int x3), .val (.int x4), .val (.int x5), .val (.int 0), .val (.ref a1), .val (.ref a8), .val (.ref a17), .val (.ref a28), .val (.int 0), .val (.int 0), .unset]) at_141 rfl rfl ?_
    refine C.aload at_143 rfl rfl rfl ?_
    refine C.callV (argsL := []) (rest := []) 0 (fun zz => au282_3 l Z a0 hw n0 h265 zz a28 a17 a8 a1 F276 F268 F269 F270 F271 F272 F275 F274 F273 g34 g22 g13 g6 (Ne.symm ne37) (Ne.symm ne36) (Ne.symm ne35) (Ne.symm ne24) (Ne.symm ne23) (Ne.symm ne14)) F276 at_145 rfl (tw hw 20 rfl) (tw hw 21 rfl) (tw hw 22 rfl) (tw hw 23 rfl) (tw hw 3 rfl) (tw hw 24 rfl) (by decide) pd_1 rfl rfl rfl (Nat.le_of_eq rfl) (by decide) (by decide) (by decide) (by decide) (fun v283 h284 r285 => ?_)
    obtain ⟨rfl, rfl⟩ := r285
    refine C.istore (Ls' := #[.val (.int x0), .val (.int x1), .val (.int x2), .val (.int x3), .val (.int x4), .val (.int x5), .val (.int 0), .val (.ref a1), .val (.ref a8), .val (.ref a17), .val (.ref a28), .val (.int 0), .val (.int 0), .val (.int 0)]) at_148 rfl rfl ?_
    refine C.iload at_150 rfl rfl ?_
    refine C.iload at_152 rfl rfl ?_
    refine C.icmp_ne_f at_154 rfl (by decide) ?_
    refine C.iload at_157 rfl rfl ?_
    refine C.iload at_159 rfl rfl ?_
    refine C.icmp_ne_f at_161 rfl (by decide) ?_
    refine C.iconst 1 at_164 rfl rfl ?_
    refine C.goto at_165 (by decide) rfl ?_
    exact C.retZ at_169 rfl (by decide) (by decide) ⟨rfl, trivial⟩
  · rw [qc]
    refine C.iload at_6 rfl rfl ?_
    refine C.newarr 1 at_8 rfl rfl (tw hw 0 rfl) (by decide) (by decide) (by decide) (by decide) (by decide) (fun a287 h288 z291 g292 X289 F290 => ?_)
    have F293 : Av Z h288 a287 .int ([.int 0]) := F290
    refine C.astore (Ls' := #[.val (.int x0), .val (.int x1), .val (.int x2), .val (.int x3), .val (.int x4), .val (.int x5), .val (.int 1), .val (.ref a287), .unset, .unset, .unset, .unset, .unset, .unset]) at_10 rfl rfl rfl ?_
    refine C.iload at_12 rfl rfl ?_
    refine C.newarr 1 at_14 rfl rfl (tw hw 0 rfl) (by decide) (by decide) (by decide) (by decide) (by decide) (fun a294 h295 z298 g299 X296 F297 => ?_)
    have ne300 : a287 ≠ a294 := by rw [z298]; exact Nat.ne_of_lt F293.lt
    have F301 : Av Z h295 a287 .int ([.int 0]) := F293.ext X296
    have F302 : Av Z h295 a294 .int ([.int 0]) := F297
    refine C.astore (Ls' := #[.val (.int x0), .val (.int x1), .val (.int x2), .val (.int x3), .val (.int x4), .val (.int x5), .val (.int 1), .val (.ref a287), .val (.ref a294), .unset, .unset, .unset, .unset, .unset]) at_16 rfl rfl rfl ?_
    refine C.iload at_18 rfl rfl ?_
    refine C.newarr 1 at_20 rfl rfl (tw hw 0 rfl) (by decide) (by decide) (by decide) (by decide) (by decide) (fun a303 h304 z307 g308 X305 F306 => ?_)
    have ne309 : a287 ≠ a303 := by rw [z307]; exact Nat.ne_of_lt F301.lt
    have ne310 : a294 ≠ a303 := by rw [z307]; exact Nat.ne_of_lt F302.lt
    have F311 : Av Z h304 a287 .int ([.int 0]) := F301.ext X305
    have F312 : Av Z h304 a294 .int ([.int 0]) := F302.ext X305
    have F313 : Av Z h304 a303 .int ([.int 0]) := F306
    refine C.astore (Ls' := #[.val (.int x0), .val (.int x1), .val (.int x2), .val (.int x3), .val (.int x4), .val (.int x5), .val (.int 1), .val (.ref a287), .val (.ref a294), .val (.ref a303), .unset, .unset, .unset, .unset]) at_22 rfl rfl rfl ?_
    refine C.iload at_24 rfl rfl ?_
    refine C.if_le_f at_26 rfl (by decide) ?_
    refine C.aload at_29 rfl rfl rfl ?_
    refine C.iconst 0 at_31 rfl rfl ?_
    refine C.iloadN at_32 rfl rfl ?_
    refine C.iastore at_33 rfl F311 g292 (by decide) (Nat.le_of_ble_eq_true rfl) (fun h314 W315 F316 => ?_)
    have F317 : Av Z h314 a294 .int ([.int 0]) := F312.other W315 (Ne.symm ne300)
    have F318 : Av Z h314 a303 .int ([.int 0]) := F313.other W315 (Ne.symm ne309)
    have F319 : Av Z h314 a287 .int ([.int x0]) := F316
    refine C.aload at_34 rfl rfl rfl ?_
    refine C.iconst 0 at_36 rfl rfl ?_
    refine C.iloadN at_37 rfl rfl ?_
    refine C.iastore at_38 rfl F317 g299 (by decide) (Nat.le_of_ble_eq_true rfl) (fun h320 W321 F322 => ?_)
    have F323 : Av Z h320 a303 .int ([.int 0]) := F318.other W321 (Ne.symm ne310)
    have F324 : Av Z h320 a287 .int ([.int x0]) := F319.other W321 ne300
    have F325 : Av Z h320 a294 .int ([.int x3]) := F322
    refine C.aload at_39 rfl rfl rfl ?_
    refine C.iconst 0 at_41 rfl rfl ?_
    refine C.iconst 1 at_42 rfl rfl ?_
    refine C.iastore at_43 rfl F323 g308 (by decide) (Nat.le_of_ble_eq_true rfl) (fun h326 W327 F328 => ?_)
    have F329 : Av Z h326 a287 .int ([.int x0]) := F324.other W327 ne309
    have F330 : Av Z h326 a294 .int ([.int x3]) := F325.other W327 ne310
    have F331 : Av Z h326 a303 .int ([.int 1]) := F328
    refine C.iload at_44 rfl rfl ?_
    refine C.iconst 1 at_46 rfl rfl ?_
    refine C.icmp_le_t at_47 (by decide) rfl (by decide) ?_
    refine C.iload at_66 rfl rfl ?_
    refine C.iconst 2 at_68 rfl rfl ?_
    refine C.icmp_le_t at_69 (by decide) rfl (by decide) ?_
    refine C.new at_88 rfl (tw hw 1 rfl) (tw hw 2 rfl) (tw hw 3 rfl) (by decide) (by decide) (fun a332 h333 z337 g338 X335 E334 D336 => ?_)
    have ne339 : a287 ≠ a332 := by rw [z337]; exact Nat.ne_of_lt F329.lt
    have ne340 : a294 ≠ a332 := by rw [z337]; exact Nat.ne_of_lt F330.lt
    have ne341 : a303 ≠ a332 := by rw [z337]; exact Nat.ne_of_lt F331.lt
    have F342 : Av Z h333 a287 .int ([.int x0]) := F329.ext X335
    have F343 : Av Z h333 a294 .int ([.int x3]) := F330.ext X335
    have F344 : Av Z h333 a303 .int ([.int 1]) := F331.ext X335
    have F345 : Fld Z h333 a332 "com/example/dodder/dodder/Elements" "nesting" "B" (.int 0) := D336 (Or.inl (tw hw 11 rfl)) (ty := .byte) (by decide)
    have F346 : Fld Z h333 a332 "com/example/dodder/dodder/Elements" "numbers" "[I" (.null) := D336 (Or.inr (tw hw 13 rfl)) (ty := (.array .int)) (by decide)
    have F347 : Fld Z h333 a332 "com/example/dodder/dodder/Elements" "extents" "[I" (.null) := D336 (Or.inr (tw hw 15 rfl)) (ty := (.array .int)) (by decide)
    have F348 : Fld Z h333 a332 "com/example/dodder/dodder/Elements" "depths" "[I" (.null) := D336 (Or.inr (tw hw 17 rfl)) (ty := (.array .int)) (by decide)
    have F349 : Fld Z h333 a332 "com/example/dodder/dodder/Elements" "parents" "[I" (.null) := D336 (Or.inr (tw hw 19 rfl)) (ty := (.array .int)) (by decide)
    refine C.dup at_91 rfl rfl ?_
    refine C.aload at_92 rfl rfl rfl ?_
    refine C.aload at_94 rfl rfl rfl ?_
    refine C.aload at_96 rfl rfl rfl ?_
    refine C.aconst_null at_98 rfl ?_
    refine C.callN (argsL := [(.ref a287), (.ref a294), (.ref a303), .null]) (rest := [(.ref a332)]) 1 (fun zz => au350_1 l Z a0 hw n0 h333 zz a332 a287 a294 a303 x0 x3 E334 F348 F347 F345 F346 F349 F342 F343 F344 g338 g292 g299 g308 (Ne.symm ne339) (Ne.symm ne340) (Ne.symm ne341) ne300 ne309 ne310) at_99 rfl rfl (tw hw 4 rfl) (tw hw 5 rfl) (tw hw 3 rfl) (tw hw 6 rfl) (by decide) pd_0 rfl rfl rfl (Nat.le_of_eq rfl) (by decide) (by decide) (by decide) (by decide) (fun v516 h517 r518 => ?_)
    obtain ⟨rfl, K519, F520, F521, F522, F523, F524⟩ := r518
    have F525 : Av Z h517 a287 .int ([.int x0]) := F342.keep K519 (ninS ne339 nin0)
    have F526 : Av Z h517 a294 .int ([.int x3]) := F343.keep K519 (ninS ne340 nin0)
    have F527 : Av Z h517 a303 .int ([.int 1]) := F344.keep K519 (ninS ne341 nin0)
    have F528 : Exa Z h517 a332 "com/example/dodder/dodder/Elements" := E334.keep K519
    refine C.astore (Ls' := #[.val (.int x0), .val (.int x1), .val (.int x2), .val (.int x3), .val (.int x4), .val (.int x5), .val (.int 1), .val (.ref a287), .val (.ref a294), .val (.ref a303), .val (.ref a332), .unset, .unset, .unset]) at_102 rfl rfl rfl ?_
    refine C.iconst 0 at_104 rfl rfl ?_
    refine C.istore (Ls' := #[.val (.int x0), .val (.int x1), .val (.int x2), .val (.int x3), .val (.int x4), .val (.int x5), .val (.int 1), .val (.ref a287), .val (.ref a294), .val (.ref a303), .val (.ref a332), .val (.int 0), .unset, .unset]) at_105 rfl rfl ?_
    refine C.iload at_107 rfl rfl ?_
    refine C.iconst 2 at_109 rfl rfl ?_
    refine C.icmp_lt_t at_110 (by decide) rfl (by decide) ?_
    refine C.iload at_121 rfl rfl ?_
    refine C.iconst 3 at_123 rfl rfl ?_
    refine C.icmp_lt_t at_124 (by decide) rfl (by decide) ?_
    refine C.aload at_136 rfl rfl rfl ?_
    refine C.callV (argsL := []) (rest := []) 0 (fun zz => au534_3 l Z a0 hw n0 h517 zz a332 a303 a294 a287 x3 x0 F528 F520 F521 F522 F523 F524 F527 F526 F525 g338 g308 g299 g292 (Ne.symm ne341) (Ne.symm ne340) (Ne.symm ne339) (Ne.symm ne310) (Ne.symm ne309) (Ne.symm ne300)) F528 at_138 rfl (tw hw 20 rfl) (tw hw 21 rfl) (tw hw 22 rfl) (tw hw 23 rfl) (tw hw 3 rfl) (tw hw 24 rfl) (by decide) pd_1 rfl rfl rfl (Nat.le_of_eq rfl) (by decide) (by decide) (by decide) (by decide) (fun v568 h569 r570 => ?_)
    obtain ⟨rfl, K571, F572, F573, F574, F575, F576⟩ := r570
    have F577 : Av Z h569 a287 .int ([.int x0]) := F525.keep K571 (ninS ne339 nin0)
    have F578 : Av Z h569 a294 .int ([.int x3]) := F526.keep K571 (ninS ne340 nin0)
    have F579 : Av Z h569 a303 .int ([.int 1]) := F527.keep K571 (ninS ne341 nin0)
    have F580 : Exa Z h569 a332 "com/example/dodder/dodder/Elements" := F528.keep K571
    refine C.istore (Ls' := #[.val (.int x0), .val (.int x1), .val (.int x2), .val (.int x3), .val (.int x4), .val (.int x5), .val (.int 1), .val (.ref a287), .val (.ref a294), .val (.ref a303), .val (.ref a332), .val (.int 0), .val (.int 0), .unset]) at_141 rfl rfl ?_
    refine C.aload at_143 rfl rfl rfl ?_
    refine C.callV (argsL := []) (rest := []) 0 (fun zz => au586_3 l Z a0 hw n0 h569 zz a332 a303 a294 a287 x3 x0 F580 F572 F573 F574 F575 F576 F579 F578 F577 g338 g308 g299 g292 (Ne.symm ne341) (Ne.symm ne340) (Ne.symm ne339) (Ne.symm ne310) (Ne.symm ne309) (Ne.symm ne300)) F580 at_145 rfl (tw hw 20 rfl) (tw hw 21 rfl) (tw hw 22 rfl) (tw hw 23 rfl) (tw hw 3 rfl) (tw hw 24 rfl) (by decide) pd_1 rfl rfl rfl (Nat.le_of_eq rfl) (by decide) (by decide) (by decide) (by decide) (fun v587 h588 r589 => ?_)
    obtain ⟨rfl, rfl⟩ := r589
    refine C.istore (Ls' := #[.val (.int x0), .val (.int x1), .val (.int x2), .val (.int x3), .val (.int x4), .val (.int x5), .val (.int 1), .val (.ref a287), .val (.ref a294), .val (.ref a303), .val (.ref a332), .val (.int 0), .val (.int 0), .val (.int 0)]) at_148 rfl rfl ?_
    refine C.iload at_150 rfl rfl ?_
    refine C.iload at_152 rfl rfl ?_
    refine C.icmp_ne_f at_154 rfl (by decide) ?_
    refine C.iload at_157 rfl rfl ?_
    refine C.iload at_159 rfl rfl ?_
    refine C.icmp_ne_f at_161 rfl (by decide) ?_
    refine C.iconst 1 at_164 rfl rfl ?_
    refine C.goto at_165 (by decide) rfl ?_
    exact C.retZ at_169 rfl (by decide) (by decide) ⟨rfl, trivial⟩
  · rw [qc]
    refine C.iload at_6 rfl rfl ?_
    refine C.newarr 2 at_8 rfl rfl (tw hw 0 rfl) (by decide) (by decide) (by decide) (by decide) (by decide) (fun a591 h592 z595 g596 X593 F594 => ?_)
    have F597 : Av Z h592 a591 .int ([.int 0, .int 0]) := F594
    refine C.astore (Ls' := #[.val (.int x0), .val (.int x1), .val (.int x2), .val (.int x3), .val (.int x4), .val (.int x5), .val (.int 2), .val (.ref a591), .unset, .unset, .unset, .unset, .unset, .unset]) at_10 rfl rfl rfl ?_
    refine C.iload at_12 rfl rfl ?_
    refine C.newarr 2 at_14 rfl rfl (tw hw 0 rfl) (by decide) (by decide) (by decide) (by decide) (by decide) (fun a598 h599 z602 g603 X600 F601 => ?_)
    have ne604 : a591 ≠ a598 := by rw [z602]; exact Nat.ne_of_lt F597.lt
    have F605 : Av Z h599 a591 .int ([.int 0, .int 0]) := F597.ext X600
    have F606 : Av Z h599 a598 .int ([.int 0, .int 0]) := F601
    refine C.astore (Ls' := #[.val (.int x0), .val (.int x1), .val (.int x2), .val (.int x3), .val (.int x4), .val (.int x5), .val (.int 2), .val (.ref a591), .val (.ref a598), .unset, .unset, .unset, .unset, .unset]) at_16 rfl rfl rfl ?_
    refine C.iload at_18 rfl rfl ?_
    refine C.newarr 2 at_20 rfl rfl (tw hw 0 rfl) (by decide) (by decide) (by decide) (by decide) (by decide) (fun a607 h608 z611 g612 X609 F610 => ?_)
    have ne613 : a591 ≠ a607 := by rw [z611]; exact Nat.ne_of_lt F605.lt
    have ne614 : a598 ≠ a607 := by rw [z611]; exact Nat.ne_of_lt F606.lt
    have F615 : Av Z h608 a591 .int ([.int 0, .int 0]) := F605.ext X609
    have F616 : Av Z h608 a598 .int ([.int 0, .int 0]) := F606.ext X609
    have F617 : Av Z h608 a607 .int ([.int 0, .int 0]) := F610
    refine C.astore (Ls' := #[.val (.int x0), .val (.int x1), .val (.int x2), .val (.int x3), .val (.int x4), .val (.int x5), .val (.int 2), .val (.ref a591), .val (.ref a598), .val (.ref a607), .unset, .unset, .unset, .unset]) at_22 rfl rfl rfl ?_
    refine C.iload at_24 rfl rfl ?_
    refine C.if_le_f at_26 rfl (by decide) ?_
    refine C.aload at_29 rfl rfl rfl ?_
    refine C.iconst 0 at_31 rfl rfl ?_
    refine C.iloadN at_32 rfl rfl ?_
    refine C.iastore at_33 rfl F615 g596 (by decide) (Nat.le_of_ble_eq_true rfl) (fun h618 W619 F620 => ?_)
    have F621 : Av Z h618 a598 .int ([.int 0, .int 0]) := F616.other W619 (Ne.symm ne604)
    have F622 : Av Z h618 a607 .int ([.int 0, .int 0]) := F617.other W619 (Ne.symm ne613)
    have F623 : Av Z h618 a591 .int ([.int x0, .int 0]) := F620
    refine C.aload at_34 rfl rfl rfl ?_
    refine C.iconst 0 at_36 rfl rfl ?_
    refine C.iloadN at_37 rfl rfl ?_
    refine C.iastore at_38 rfl F621 g603 (by decide) (Nat.le_of_ble_eq_true rfl) (fun h624 W625 F626 => ?_)
    have F627 : Av Z h624 a607 .int ([.int 0, .int 0]) := F622.other W625 (Ne.symm ne614)
    have F628 : Av Z h624 a591 .int ([.int x0, .int 0]) := F623.other W625 ne604
    have F629 : Av Z h624 a598 .int ([.int x3, .int 0]) := F626
    refine C.aload at_39 rfl rfl rfl ?_
    refine C.iconst 0 at_41 rfl rfl ?_
    refine C.iconst 1 at_42 rfl rfl ?_
    refine C.iastore at_43 rfl F627 g612 (by decide) (Nat.le_of_ble_eq_true rfl) (fun h630 W631 F632 => ?_)
    have F633 : Av Z h630 a591 .int ([.int x0, .int 0]) := F628.other W631 ne613
    have F634 : Av Z h630 a598 .int ([.int x3, .int 0]) := F629.other W631 ne614
    have F635 : Av Z h630 a607 .int ([.int 1, .int 0]) := F632
    refine C.iload at_44 rfl rfl ?_
    refine C.iconst 1 at_46 rfl rfl ?_
    refine C.icmp_le_f at_47 rfl (by decide) ?_
    refine C.aload at_50 rfl rfl rfl ?_
    refine C.iconst 1 at_52 rfl rfl ?_
    refine C.iloadN at_53 rfl rfl ?_
    refine C.iastore at_54 rfl F633 g596 (by decide) (Nat.le_of_ble_eq_true rfl) (fun h636 W637 F638 => ?_)
    have F639 : Av Z h636 a598 .int ([.int x3, .int 0]) := F634.other W637 (Ne.symm ne604)
    have F640 : Av Z h636 a607 .int ([.int 1, .int 0]) := F635.other W637 (Ne.symm ne613)
    have F641 : Av Z h636 a591 .int ([.int x0, .int x1]) := F638
    refine C.aload at_55 rfl rfl rfl ?_
    refine C.iconst 1 at_57 rfl rfl ?_
    refine C.iload at_58 rfl rfl ?_
    refine C.iastore at_60 rfl F639 g603 (by decide) (Nat.le_of_ble_eq_true rfl) (fun h642 W643 F644 => ?_)
    have F645 : Av Z h642 a607 .int ([.int 1, .int 0]) := F640.other W643 (Ne.symm ne614)
    have F646 : Av Z h642 a591 .int ([.int x0, .int x1]) := F641.other W643 ne604
    have F647 : Av Z h642 a598 .int ([.int x3, .int x4]) := F644
    refine C.aload at_61 rfl rfl rfl ?_
    refine C.iconst 1 at_63 rfl rfl ?_
    refine C.iconst 2 at_64 rfl rfl ?_
    refine C.iastore at_65 rfl F645 g612 (by decide) (Nat.le_of_ble_eq_true rfl) (fun h648 W649 F650 => ?_)
    have F651 : Av Z h648 a591 .int ([.int x0, .int x1]) := F646.other W649 ne613
    have F652 : Av Z h648 a598 .int ([.int x3, .int x4]) := F647.other W649 ne614
    have F653 : Av Z h648 a607 .int ([.int 1, .int 2]) := F650
    refine C.iload at_66 rfl rfl ?_
    refine C.iconst 2 at_68 rfl rfl ?_
    refine C.icmp_le_t at_69 (by decide) rfl (by decide) ?_
    refine C.new at_88 rfl (tw hw 1 rfl) (tw hw 2 rfl) (tw hw 3 rfl) (by decide) (by decide) (fun a654 h655 z659 g660 X657 E656 D658 => ?_)
    have ne661 : a591 ≠ a654 := by rw [z659]; exact Nat.ne_of_lt F651.lt
    have ne662 : a598 ≠ a654 := by rw [z659]; exact Nat.ne_of_lt F652.lt
    have ne663 : a607 ≠ a654 := by rw [z659]; exact Nat.ne_of_lt F653.lt
    have F664 : Av Z h655 a591 .int ([.int x0, .int x1]) := F651.ext X657
    have F665 : Av Z h655 a598 .int ([.int x3, .int x4]) := F652.ext X657
    have F666 : Av Z h655 a607 .int ([.int 1, .int 2]) := F653.ext X657
    have F667 : Fld Z h655 a654 "com/example/dodder/dodder/Elements" "nesting" "B" (.int 0) := D658 (Or.inl (tw hw 11 rfl)) (ty := .byte) (by decide)
    have F668 : Fld Z h655 a654 "com/example/dodder/dodder/Elements" "numbers" "[I" (.null) := D658 (Or.inr (tw hw 13 rfl)) (ty := (.array .int)) (by decide)
    have F669 : Fld Z h655 a654 "com/example/dodder/dodder/Elements" "extents" "[I" (.null) := D658 (Or.inr (tw hw 15 rfl)) (ty := (.array .int)) (by decide)
    have F670 : Fld Z h655 a654 "com/example/dodder/dodder/Elements" "depths" "[I" (.null) := D658 (Or.inr (tw hw 17 rfl)) (ty := (.array .int)) (by decide)
    have F671 : Fld Z h655 a654 "com/example/dodder/dodder/Elements" "parents" "[I" (.null) := D658 (Or.inr (tw hw 19 rfl)) (ty := (.array .int)) (by decide)
    refine C.dup at_91 rfl rfl ?_
    refine C.aload at_92 rfl rfl rfl ?_
    refine C.aload at_94 rfl rfl rfl ?_
    refine C.aload at_96 rfl rfl rfl ?_
    refine C.aconst_null at_98 rfl ?_
    refine C.callN (argsL := [(.ref a591), (.ref a598), (.ref a607), .null]) (rest := [(.ref a654)]) 1 (fun zz => au672_1 l Z a0 hw n0 h655 zz a654 a591 a598 a607 x0 x1 x3 x4 E656 F670 F669 F667 F668 F671 F664 F665 F666 g660 g596 g603 g612 (Ne.symm ne661) (Ne.symm ne662) (Ne.symm ne663) ne604 ne613 ne614) at_99 rfl rfl (tw hw 4 rfl) (tw hw 5 rfl) (tw hw 3 rfl) (tw hw 6 rfl) (by decide) pd_0 rfl rfl rfl (Nat.le_of_eq rfl) (by decide) (by decide) (by decide) (by decide) (fun v838 h839 r840 => ?_)
    obtain ⟨rfl, K841, F842, F843, F844, F845, F846⟩ := r840
    have F847 : Av Z h839 a591 .int ([.int x0, .int x1]) := F664.keep K841 (ninS ne661 nin0)
    have F848 : Av Z h839 a598 .int ([.int x3, .int x4]) := F665.keep K841 (ninS ne662 nin0)
    have F849 : Av Z h839 a607 .int ([.int 1, .int 2]) := F666.keep K841 (ninS ne663 nin0)
    have F850 : Exa Z h839 a654 "com/example/dodder/dodder/Elements" := E656.keep K841
    refine C.astore (Ls' := #[.val (.int x0), .val (.int x1), .val (.int x2), .val (.int x3), .val (.int x4), .val (.int x5), .val (.int 2), .val (.ref a591), .val (.ref a598), .val (.ref a607), .val (.ref a654), .unset, .unset, .unset]) at_102 rfl rfl rfl ?_
    refine C.iconst 0 at_104 rfl rfl ?_
    refine C.istore (Ls' := #[.val (.int x0), .val (.int x1), .val (.int x2), .val (.int x3), .val (.int x4), .val (.int x5), .val (.int 2), .val (.ref a591), .val (.ref a598), .val (.ref a607), .val (.ref a654), .val (.int 0), .unset, .unset]) at_105 rfl rfl ?_
    refine C.iload at_107 rfl rfl ?_
    refine C.iconst 2 at_109 rfl rfl ?_
    refine C.icmp_lt_f at_110 rfl (by decide) ?_
    refine C.iloadN at_113 rfl rfl ?_
    refine C.iloadN at_114 rfl rfl ?_
    refine C.icmp_gt at_115 (by decide) rfl rfl (fun q115 => ?_) (fun q115 => ?_)
    · refine C.iload at_121 rfl rfl ?_
      refine C.iconst 3 at_123 rfl rfl ?_
      refine C.icmp_lt_t at_124 (by decide) rfl (by decide) ?_
      refine C.aload at_136 rfl rfl rfl ?_
      refine C.callV (argsL := []) (rest := []) 0 (fun zz => au857_3 l Z a0 hw n0 h839 zz a654 a607 a598 a591 x3 x4 x0 x1 F850 F842 F843 F844 F845 F846 F849 F848 F847 g660 g612 g603 g596 (Ne.symm ne663) (Ne.symm ne662) (Ne.symm ne661) (Ne.symm ne614) (Ne.symm ne613) (Ne.symm ne604) q115) F850 at_138 rfl (tw hw 20 rfl) (tw hw 21 rfl) (tw hw 22 rfl) (tw hw 23 rfl) (tw hw 3 rfl) (tw hw 24 rfl) (by decide) pd_1 rfl rfl rfl (Nat.le_of_eq rfl) (by decide) (by decide) (by decide) (by decide) (fun v891 h892 r893 => ?_)
      obtain ⟨rfl, K894, F895, F896, F897, F898, F899⟩ := r893
      have F900 : Av Z h892 a591 .int ([.int x0, .int x1]) := F847.keep K894 (ninS ne661 nin0)
      have F901 : Av Z h892 a598 .int ([.int x3, .int x4]) := F848.keep K894 (ninS ne662 nin0)
      have F902 : Av Z h892 a607 .int ([.int 1, .int 2]) := F849.keep K894 (ninS ne663 nin0)
      have F903 : Exa Z h892 a654 "com/example/dodder/dodder/Elements" := F850.keep K894
      refine C.istore (Ls' := #[.val (.int x0), .val (.int x1), .val (.int x2), .val (.int x3), .val (.int x4), .val (.int x5), .val (.int 2), .val (.ref a591), .val (.ref a598), .val (.ref a607), .val (.ref a654), .val (.int 0), .val (.int 0), .unset]) at_141 rfl rfl ?_
      refine C.aload at_143 rfl rfl rfl ?_
      refine C.callV (argsL := []) (rest := []) 0 (fun zz => au909_3 l Z a0 hw n0 h892 zz a654 a607 a598 a591 x3 x4 x0 x1 F903 F895 F896 F897 F898 F899 F902 F901 F900 g660 g612 g603 g596 (Ne.symm ne663) (Ne.symm ne662) (Ne.symm ne661) (Ne.symm ne614) (Ne.symm ne613) (Ne.symm ne604)) F903 at_145 rfl (tw hw 20 rfl) (tw hw 21 rfl) (tw hw 22 rfl) (tw hw 23 rfl) (tw hw 3 rfl) (tw hw 24 rfl) (by decide) pd_1 rfl rfl rfl (Nat.le_of_eq rfl) (by decide) (by decide) (by decide) (by decide) (fun v910 h911 r912 => ?_)
      obtain ⟨rfl, rfl⟩ := r912
      refine C.istore (Ls' := #[.val (.int x0), .val (.int x1), .val (.int x2), .val (.int x3), .val (.int x4), .val (.int x5), .val (.int 2), .val (.ref a591), .val (.ref a598), .val (.ref a607), .val (.ref a654), .val (.int 0), .val (.int 0), .val (.int 0)]) at_148 rfl rfl ?_
      refine C.iload at_150 rfl rfl ?_
      refine C.iload at_152 rfl rfl ?_
      refine C.icmp_ne_f at_154 rfl (by decide) ?_
      refine C.iload at_157 rfl rfl ?_
      refine C.iload at_159 rfl rfl ?_
      refine C.icmp_ne_f at_161 rfl (by decide) ?_
      refine C.iconst 1 at_164 rfl rfl ?_
      refine C.goto at_165 (by decide) rfl ?_
      exact C.retZ at_169 rfl (by decide) (by decide) ⟨rfl, trivial⟩
    · refine C.iconst 1 at_118 rfl rfl ?_
      refine C.istore (Ls' := #[.val (.int x0), .val (.int x1), .val (.int x2), .val (.int x3), .val (.int x4), .val (.int x5), .val (.int 2), .val (.ref a591), .val (.ref a598), .val (.ref a607), .val (.ref a654), .val (.int 1), .unset, .unset]) at_119 rfl rfl ?_
      refine C.iload at_121 rfl rfl ?_
      refine C.iconst 3 at_123 rfl rfl ?_
      refine C.icmp_lt_t at_124 (by decide) rfl (by decide) ?_
      refine C.aload at_136 rfl rfl rfl ?_
      refine C.callV (argsL := []) (rest := []) 0 (fun zz => au914_3 l Z a0 hw n0 h839 zz a654 a607 a598 a591 x3 x4 x0 x1 F850 F842 F843 F844 F845 F846 F849 F848 F847 g660 g612 g603 g596 (Ne.symm ne663) (Ne.symm ne662) (Ne.symm ne661) (Ne.symm ne614) (Ne.symm ne613) (Ne.symm ne604) q115) F850 at_138 rfl (tw hw 20 rfl) (tw hw 21 rfl) (tw hw 22 rfl) (tw hw 23 rfl) (tw hw 3 rfl) (tw hw 24 rfl) (by decide) pd_1 rfl rfl rfl (Nat.le_of_eq rfl) (by decide) (by decide) (by decide) (by decide) (fun v948 h949 r950 => ?_)
      obtain ⟨rfl, K951, F952, F953, F954, F955, F956⟩ := r950
      have F957 : Av Z h949 a591 .int ([.int x0, .int x1]) := F847.keep K951 (ninS ne661 nin0)
      have F958 : Av Z h949 a598 .int ([.int x3, .int x4]) := F848.keep K951 (ninS ne662 nin0)
      have F959 : Av Z h949 a607 .int ([.int 1, .int 2]) := F849.keep K951 (ninS ne663 nin0)
      have F960 : Exa Z h949 a654 "com/example/dodder/dodder/Elements" := F850.keep K951
      refine C.istore (Ls' := #[.val (.int x0), .val (.int x1), .val (.int x2), .val (.int x3), .val (.int x4), .val (.int x5), .val (.int 2), .val (.ref a591), .val (.ref a598), .val (.ref a607), .val (.ref a654), .val (.int 1), .val (.int 1), .unset]) at_141 rfl rfl ?_
      refine C.aload at_143 rfl rfl rfl ?_
      refine C.callV (argsL := []) (rest := []) 0 (fun zz => au966_3 l Z a0 hw n0 h949 zz a654 a607 a598 a591 x3 x4 x0 x1 F960 F952 F953 F954 F955 F956 F959 F958 F957 g660 g612 g603 g596 (Ne.symm ne663) (Ne.symm ne662) (Ne.symm ne661) (Ne.symm ne614) (Ne.symm ne613) (Ne.symm ne604)) F960 at_145 rfl (tw hw 20 rfl) (tw hw 21 rfl) (tw hw 22 rfl) (tw hw 23 rfl) (tw hw 3 rfl) (tw hw 24 rfl) (by decide) pd_1 rfl rfl rfl (Nat.le_of_eq rfl) (by decide) (by decide) (by decide) (by decide) (fun v967 h968 r969 => ?_)
      obtain ⟨rfl, rfl⟩ := r969
      refine C.istore (Ls' := #[.val (.int x0), .val (.int x1), .val (.int x2), .val (.int x3), .val (.int x4), .val (.int x5), .val (.int 2), .val (.ref a591), .val (.ref a598), .val (.ref a607), .val (.ref a654), .val (.int 1), .val (.int 1), .val (.int 1)]) at_148 rfl rfl ?_
      refine C.iload at_150 rfl rfl ?_
      refine C.iload at_152 rfl rfl ?_
      refine C.icmp_ne_f at_154 rfl (by decide) ?_
      refine C.iload at_157 rfl rfl ?_
      refine C.iload at_159 rfl rfl ?_
      refine C.icmp_ne_f at_161 rfl (by decide) ?_
      refine C.iconst 1 at_164 rfl rfl ?_
      refine C.goto at_165 (by decide) rfl ?_
      exact C.retZ at_169 rfl (by decide) (by decide) ⟨rfl, trivial⟩
  · rw [qc]
    refine C.iload at_6 rfl rfl ?_
    refine C.newarr 3 at_8 rfl rfl (tw hw 0 rfl) (by decide) (by decide) (by decide) (by decide) (by decide) (fun a971 h972 z975 g976 X973 F974 => ?_)
    have F977 : Av Z h972 a971 .int ([.int 0, .int 0, .int 0]) := F974
    refine C.astore (Ls' := #[.val (.int x0), .val (.int x1), .val (.int x2), .val (.int x3), .val (.int x4), .val (.int x5), .val (.int 3), .val (.ref a971), .unset, .unset, .unset, .unset, .unset, .unset]) at_10 rfl rfl rfl ?_
    refine C.iload at_12 rfl rfl ?_
    refine C.newarr 3 at_14 rfl rfl (tw hw 0 rfl) (by decide) (by decide) (by decide) (by decide) (by decide) (fun a978 h979 z982 g983 X980 F981 => ?_)
    have ne984 : a971 ≠ a978 := by rw [z982]; exact Nat.ne_of_lt F977.lt
    have F985 : Av Z h979 a971 .int ([.int 0, .int 0, .int 0]) := F977.ext X980
    have F986 : Av Z h979 a978 .int ([.int 0, .int 0, .int 0]) := F981
    refine C.astore (Ls' := #[.val (.int x0), .val (.int x1), .val (.int x2), .val (.int x3), .val (.int x4), .val (.int x5), .val (.int 3), .val (.ref a971), .val (.ref a978), .unset, .unset, .unset, .unset, .unset]) at_16 rfl rfl rfl ?_
    refine C.iload at_18 rfl rfl ?_
    refine C.newarr 3 at_20 rfl rfl (tw hw 0 rfl) (by decide) (by decide) (by decide) (by decide) (by decide) (fun a987 h988 z991 g992 X989 F990 => ?_)
    have ne993 : a971 ≠ a987 := by rw [z991]; exact Nat.ne_of_lt F985.lt
    have ne994 : a978 ≠ a987 := by rw [z991]; exact Nat.ne_of_lt F986.lt
    have F995 : Av Z h988 a971 .int ([.int 0, .int 0, .int 0]) := F985.ext X989
    have F996 : Av Z h988 a978 .int ([.int 0, .int 0, .int 0]) := F986.ext X989
    have F997 : Av Z h988 a987 .int ([.int 0, .int 0, .int 0]) := F990
    refine C.astore (Ls' := #[.val (.int x0), .val (.int x1), .val (.int x2), .val (.int x3), .val (.int x4), .val (.int x5), .val (.int 3), .val (.ref a971), .val (.ref a978), .val (.ref a987), .unset, .unset, .unset, .unset]) at_22 rfl rfl rfl ?_
    refine C.iload at_24 rfl rfl ?_
    refine C.if_le_f at_26 rfl (by decide) ?_
    refine C.aload at_29 rfl rfl rfl ?_
    refine C.iconst 0 at_31 rfl rfl ?_
    refine C.iloadN at_32 rfl rfl ?_
    refine C.iastore at_33 rfl F995 g976 (by decide) (Nat.le_of_ble_eq_true rfl) (fun h998 W999 F1000 => ?_)
    have F1001 : Av Z h998 a978 .int ([.int 0, .int 0, .int 0]) := F996.other W999 (Ne.symm ne984)
    have F1002 : Av Z h998 a987 .int ([.int 0, .int 0, .int 0]) := F997.other W999 (Ne.symm ne993)
    have F1003 : Av Z h998 a971 .int ([.int x0, .int 0, .int 0]) := F1000
    refine C.aload at_34 rfl rfl rfl ?_
    refine C.iconst 0 at_36 rfl rfl ?_
    refine C.iloadN at_37 rfl rfl ?_
    refine C.iastore at_38 rfl F1001 g983 (by decide) (Nat.le_of_ble_eq_true rfl) (fun h1004 W1005 F1006 => ?_)
    have F1007 : Av Z h1004 a987 .int ([.int 0, .int 0, .int 0]) := F1002.other W1005 (Ne.symm ne994)
    have F1008 : Av Z h1004 a971 .int ([.int x0, .int 0, .int 0]) := F1003.other W1005 ne984
    have F1009 : Av Z h1004 a978 .int ([.int x3, .int 0, .int 0]) := F1006
    refine C.aload at_39 rfl rfl rfl ?_
    refine C.iconst 0 at_41 rfl rfl ?_
    refine C.iconst 1 at_42 rfl rfl ?_
    refine C.iastore at_43 rfl F1007 g992 (by decide) (Nat.le_of_ble_eq_true rfl) (fun h1010 W1011 F1012 => ?_)
    have F1013 : Av Z h1010 a971 .int ([.int x0, .int 0, .int 0]) := F1008.other W1011 ne993
    have F1014 : Av Z h1010 a978 .int ([.int x3, .int 0, .int 0]) := F1009.other W1011 ne994
    have F1015 : Av Z h1010 a987 .int ([.int 1, .int 0, .int 0]) := F1012
    refine C.iload at_44 rfl rfl ?_
    refine C.iconst 1 at_46 rfl rfl ?_
    refine C.icmp_le_f at_47 rfl (by decide) ?_
    refine C.aload at_50 rfl rfl rfl ?_
    refine C.iconst 1 at_52 rfl rfl ?_
    refine C.iloadN at_53 rfl rfl ?_
    refine C.iastore at_54 rfl F1013 g976 (by decide) (Nat.le_of_ble_eq_true rfl) (fun h1016 W1017 F1018 => ?_)
    have F1019 : Av Z h1016 a978 .int ([.int x3, .int 0, .int 0]) := F1014.other W1017 (Ne.symm ne984)
    have F1020 : Av Z h1016 a987 .int ([.int 1, .int 0, .int 0]) := F1015.other W1017 (Ne.symm ne993)
    have F1021 : Av Z h1016 a971 .int ([.int x0, .int x1, .int 0]) := F1018
    refine C.aload at_55 rfl rfl rfl ?_
    refine C.iconst 1 at_57 rfl rfl ?_
    refine C.iload at_58 rfl rfl ?_
    refine C.iastore at_60 rfl F1019 g983 (by decide) (Nat.le_of_ble_eq_true rfl) (fun h1022 W1023 F1024 => ?_)
    have F1025 : Av Z h1022 a987 .int ([.int 1, .int 0, .int 0]) := F1020.other W1023 (Ne.symm ne994)
    have F1026 : Av Z h1022 a971 .int ([.int x0, .int x1, .int 0]) := F1021.other W1023 ne984
    have F1027 : Av Z h1022 a978 .int ([.int x3, .int x4, .int 0]) := F1024
    refine C.aload at_61 rfl rfl rfl ?_
    refine C.iconst 1 at_63 rfl rfl ?_
    refine C.iconst 2 at_64 rfl rfl ?_
    refine C.iastore at_65 rfl F1025 g992 (by decide) (Nat.le_of_ble_eq_true rfl) (fun h1028 W1029 F1030 => ?_)
    have F1031 : Av Z h1028 a971 .int ([.int x0, .int x1, .int 0]) := F1026.other W1029 ne993
    have F1032 : Av Z h1028 a978 .int ([.int x3, .int x4, .int 0]) := F1027.other W1029 ne994
    have F1033 : Av Z h1028 a987 .int ([.int 1, .int 2, .int 0]) := F1030
    refine C.iload at_66 rfl rfl ?_
    refine C.iconst 2 at_68 rfl rfl ?_
    refine C.icmp_le_f at_69 rfl (by decide) ?_
    refine C.aload at_72 rfl rfl rfl ?_
    refine C.iconst 2 at_74 rfl rfl ?_
    refine C.iloadN at_75 rfl rfl ?_
    refine C.iastore at_76 rfl F1031 g976 (by decide) (Nat.le_of_ble_eq_true rfl) (fun h1034 W1035 F1036 => ?_)
    have F1037 : Av Z h1034 a978 .int ([.int x3, .int x4, .int 0]) := F1032.other W1035 (Ne.symm ne984)
    have F1038 : Av Z h1034 a987 .int ([.int 1, .int 2, .int 0]) := F1033.other W1035 (Ne.symm ne993)
    have F1039 : Av Z h1034 a971 .int ([.int x0, .int x1, .int x2]) := F1036
    refine C.aload at_77 rfl rfl rfl ?_
    refine C.iconst 2 at_79 rfl rfl ?_
    refine C.iload at_80 rfl rfl ?_
    refine C.iastore at_82 rfl F1037 g983 (by decide) (Nat.le_of_ble_eq_true rfl) (fun h1040 W1041 F1042 => ?_)
    have F1043 : Av Z h1040 a987 .int ([.int 1, .int 2, .int 0]) := F1038.other W1041 (Ne.symm ne994)
    have F1044 : Av Z h1040 a971 .int ([.int x0, .int x1, .int x2]) := F1039.other W1041 ne984
    have F1045 : Av Z h1040 a978 .int ([.int x3, .int x4, .int x5]) := F1042
    refine C.aload at_83 rfl rfl rfl ?_
    refine C.iconst 2 at_85 rfl rfl ?_
    refine C.iconst 3 at_86 rfl rfl ?_
    refine C.iastore at_87 rfl F1043 g992 (by decide) (Nat.le_of_ble_eq_true rfl) (fun h1046 W1047 F1048 => ?_)
    have F1049 : Av Z h1046 a971 .int ([.int x0, .int x1, .int x2]) := F1044.other W1047 ne993
    have F1050 : Av Z h1046 a978 .int ([.int x3, .int x4, .int x5]) := F1045.other W1047 ne994
    have F1051 : Av Z h1046 a987 .int ([.int 1, .int 2, .int 3]) := F1048
    refine C.new at_88 rfl (tw hw 1 rfl) (tw hw 2 rfl) (tw hw 3 rfl) (by decide) (by decide) (fun a1052 h1053 z1057 g1058 X1055 E1054 D1056 => ?_)
    have ne1059 : a971 ≠ a1052 := by rw [z1057]; exact Nat.ne_of_lt F1049.lt
    have ne1060 : a978 ≠ a1052 := by rw [z1057]; exact Nat.ne_of_lt F1050.lt
    have ne1061 : a987 ≠ a1052 := by rw [z1057]; exact Nat.ne_of_lt F1051.lt
    have F1062 : Av Z h1053 a971 .int ([.int x0, .int x1, .int x2]) := F1049.ext X1055
    have F1063 : Av Z h1053 a978 .int ([.int x3, .int x4, .int x5]) := F1050.ext X1055
    have F1064 : Av Z h1053 a987 .int ([.int 1, .int 2, .int 3]) := F1051.ext X1055
    have F1065 : Fld Z h1053 a1052 "com/example/dodder/dodder/Elements" "nesting" "B" (.int 0) := D1056 (Or.inl (tw hw 11 rfl)) (ty := .byte) (by decide)
    have F1066 : Fld Z h1053 a1052 "com/example/dodder/dodder/Elements" "numbers" "[I" (.null) := D1056 (Or.inr (tw hw 13 rfl)) (ty := (.array .int)) (by decide)
    have F1067 : Fld Z h1053 a1052 "com/example/dodder/dodder/Elements" "extents" "[I" (.null) := D1056 (Or.inr (tw hw 15 rfl)) (ty := (.array .int)) (by decide)
    have F1068 : Fld Z h1053 a1052 "com/example/dodder/dodder/Elements" "depths" "[I" (.null) := D1056 (Or.inr (tw hw 17 rfl)) (ty := (.array .int)) (by decide)
    have F1069 : Fld Z h1053 a1052 "com/example/dodder/dodder/Elements" "parents" "[I" (.null) := D1056 (Or.inr (tw hw 19 rfl)) (ty := (.array .int)) (by decide)
    refine C.dup at_91 rfl rfl ?_
    refine C.aload at_92 rfl rfl rfl ?_
    refine C.aload at_94 rfl rfl rfl ?_
    refine C.aload at_96 rfl rfl rfl ?_
    refine C.aconst_null at_98 rfl ?_
    refine C.callN (argsL := [(.ref a971), (.ref a978), (.ref a987), .null]) (rest := [(.ref a1052)]) 1 (fun zz => au1070_1 l Z a0 hw n0 h1053 zz a1052 a971 a978 a987 x0 x1 x2 x3 x4 x5 E1054 F1068 F1067 F1065 F1066 F1069 F1062 F1063 F1064 g1058 g976 g983 g992 (Ne.symm ne1059) (Ne.symm ne1060) (Ne.symm ne1061) ne984 ne993 ne994) at_99 rfl rfl (tw hw 4 rfl) (tw hw 5 rfl) (tw hw 3 rfl) (tw hw 6 rfl) (by decide) pd_0 rfl rfl rfl (Nat.le_of_eq rfl) (by decide) (by decide) (by decide) (by decide) (fun v1236 h1237 r1238 => ?_)
    obtain ⟨rfl, K1239, F1240, F1241, F1242, F1243, F1244⟩ := r1238
    have F1245 : Av Z h1237 a971 .int ([.int x0, .int x1, .int x2]) := F1062.keep K1239 (ninS ne1059 nin0)
    have F1246 : Av Z h1237 a978 .int ([.int x3, .int x4, .int x5]) := F1063.keep K1239 (ninS ne1060 nin0)
    have F1247 : Av Z h1237 a987 .int ([.int 1, .int 2, .int 3]) := F1064.keep K1239 (ninS ne1061 nin0)
    have F1248 : Exa Z h1237 a1052 "com/example/dodder/dodder/Elements" := E1054.keep K1239
    refine C.astore (Ls' := #[.val (.int x0), .val (.int x1), .val (.int x2), .val (.int x3), .val (.int x4), .val (.int x5), .val (.int 3), .val (.ref a971), .val (.ref a978), .val (.ref a987), .val (.ref a1052), .unset, .unset, .unset]) at_102 rfl rfl rfl ?_
    refine C.iconst 0 at_104 rfl rfl ?_
    refine C.istore (Ls' := #[.val (.int x0), .val (.int x1), .val (.int x2), .val (.int x3), .val (.int x4), .val (.int x5), .val (.int 3), .val (.ref a971), .val (.ref a978), .val (.ref a987), .val (.ref a1052), .val (.int 0), .unset, .unset]) at_105 rfl rfl ?_
    refine C.iload at_107 rfl rfl ?_
    refine C.iconst 2 at_109 rfl rfl ?_
    refine C.icmp_lt_f at_110 rfl (by decide) ?_
    refine C.iloadN at_113 rfl rfl ?_
    refine C.iloadN at_114 rfl rfl ?_
    refine C.icmp_gt at_115 (by decide) rfl rfl (fun q115 => ?_) (fun q115 => ?_)
    · refine C.iload at_121 rfl rfl ?_
      refine C.iconst 3 at_123 rfl rfl ?_
      refine C.icmp_lt_f at_124 rfl (by decide) ?_
      refine C.iloadN at_127 rfl rfl ?_
      refine C.iload at_128 rfl rfl ?_
      refine C.icmp_gt at_130 (by decide) rfl rfl (fun q130 => ?_) (fun q130 => ?_)
      · refine C.aload at_136 rfl rfl rfl ?_
        refine C.callV (argsL := []) (rest := []) 0 (fun zz => au1256_3 l Z a0 hw n0 h1237 zz a1052 a987 a978 a971 x3 x4 x5 x0 x1 x2 F1248 F1240 F1241 F1242 F1243 F1244 F1247 F1246 F1245 g1058 g992 g983 g976 (Ne.symm ne1061) (Ne.symm ne1060) (Ne.symm ne1059) (Ne.symm ne994) (Ne.symm ne993) (Ne.symm ne984) q115 q130) F1248 at_138 rfl (tw hw 20 rfl) (tw hw 21 rfl) (tw hw 22 rfl) (tw hw 23 rfl) (tw hw 3 rfl) (tw hw 24 rfl) (by decide) pd_1 rfl rfl rfl (Nat.le_of_eq rfl) (by decide) (by decide) (by decide) (by decide) (fun v1290 h1291 r1292 => ?_)
        obtain ⟨rfl, K1293, F1294, F1295, F1296, F1297, F1298⟩ := r1292
        have F1299 : Av Z h1291 a971 .int ([.int x0, .int x1, .int x2]) := F1245.keep K1293 (ninS ne1059 nin0)
        have F1300 : Av Z h1291 a978 .int ([.int x3, .int x4, .int x5]) := F1246.keep K1293 (ninS ne1060 nin0)
        have F1301 : Av Z h1291 a987 .int ([.int 1, .int 2, .int 3]) := F1247.keep K1293 (ninS ne1061 nin0)
        have F1302 : Exa Z h1291 a1052 "com/example/dodder/dodder/Elements" := F1248.keep K1293
        refine C.istore (Ls' := #[.val (.int x0), .val (.int x1), .val (.int x2), .val (.int x3), .val (.int x4), .val (.int x5), .val (.int 3), .val (.ref a971), .val (.ref a978), .val (.ref a987), .val (.ref a1052), .val (.int 0), .val (.int 0), .unset]) at_141 rfl rfl ?_
        refine C.aload at_143 rfl rfl rfl ?_
        refine C.callV (argsL := []) (rest := []) 0 (fun zz => au1308_3 l Z a0 hw n0 h1291 zz a1052 a987 a978 a971 x3 x4 x5 x0 x1 x2 F1302 F1294 F1295 F1296 F1297 F1298 F1301 F1300 F1299 g1058 g992 g983 g976 (Ne.symm ne1061) (Ne.symm ne1060) (Ne.symm ne1059) (Ne.symm ne994) (Ne.symm ne993) (Ne.symm ne984)) F1302 at_145 rfl (tw hw 20 rfl) (tw hw 21 rfl) (tw hw 22 rfl) (tw hw 23 rfl) (tw hw 3 rfl) (tw hw 24 rfl) (by decide) pd_1 rfl rfl rfl (Nat.le_of_eq rfl) (by decide) (by decide) (by decide) (by decide) (fun v1309 h1310 r1311 => ?_)
        obtain ⟨rfl, rfl⟩ := r1311
        refine C.istore (Ls' := #[.val (.int x0), .val (.int x1), .val (.int x2), .val (.int x3), .val (.int x4), .val (.int x5), .val (.int 3), .val (.ref a971), .val (.ref a978), .val (.ref a987), .val (.ref a1052), .val (.int 0), .val (.int 0), .val (.int 0)]) at_148 rfl rfl ?_
        refine C.iload at_150 rfl rfl ?_
        refine C.iload at_152 rfl rfl ?_
        refine C.icmp_ne_f at_154 rfl (by decide) ?_
        refine C.iload at_157 rfl rfl ?_
        refine C.iload at_159 rfl rfl ?_
        refine C.icmp_ne_f at_161 rfl (by decide) ?_
        refine C.iconst 1 at_164 rfl rfl ?_
        refine C.goto at_165 (by decide) rfl ?_
        exact C.retZ at_169 rfl (by decide) (by decide) ⟨rfl, trivial⟩
      · refine C.iconst 1 at_133 rfl rfl ?_
        refine C.istore (Ls' := #[.val (.int x0), .val (.int x1), .val (.int x2), .val (.int x3), .val (.int x4), .val (.int x5), .val (.int 3), .val (.ref a971), .val (.ref a978), .val (.ref a987), .val (.ref a1052), .val (.int 1), .unset, .unset]) at_134 rfl rfl ?_
        refine C.aload at_136 rfl rfl rfl ?_
        refine C.callV (argsL := []) (rest := []) 0 (fun zz => au1313_3 l Z a0 hw n0 h1237 zz a1052 a987 a978 a971 x3 x4 x5 x0 x1 x2 F1248 F1240 F1241 F1242 F1243 F1244 F1247 F1246 F1245 g1058 g992 g983 g976 (Ne.symm ne1061) (Ne.symm ne1060) (Ne.symm ne1059) (Ne.symm ne994) (Ne.symm ne993) (Ne.symm ne984) q115 q130) F1248 at_138 rfl (tw hw 20 rfl) (tw hw 21 rfl) (tw hw 22 rfl) (tw hw 23 rfl) (tw hw 3 rfl) (tw hw 24 rfl) (by decide) pd_1 rfl rfl rfl (Nat.le_of_eq rfl) (by decide) (by decide) (by decide) (by decide) (fun v1347 h1348 r1349 => ?_)
        obtain ⟨rfl, K1350, F1351, F1352, F1353, F1354, F1355⟩ := r1349
        have F1356 : Av Z h1348 a971 .int ([.int x0, .int x1, .int x2]) := F1245.keep K1350 (ninS ne1059 nin0)
        have F1357 : Av Z h1348 a978 .int ([.int x3, .int x4, .int x5]) := F1246.keep K1350 (ninS ne1060 nin0)
        have F1358 : Av Z h1348 a987 .int ([.int 1, .int 2, .int 3]) := F1247.keep K1350 (ninS ne1061 nin0)
        have F1359 : Exa Z h1348 a1052 "com/example/dodder/dodder/Elements" := F1248.keep K1350
        refine C.istore (Ls' := #[.val (.int x0), .val (.int x1), .val (.int x2), .val (.int x3), .val (.int x4), .val (.int x5), .val (.int 3), .val (.ref a971), .val (.ref a978), .val (.ref a987), .val (.ref a1052), .val (.int 1), .val (.int 1), .unset]) at_141 rfl rfl ?_
        refine C.aload at_143 rfl rfl rfl ?_
        refine C.callV (argsL := []) (rest := []) 0 (fun zz => au1365_3 l Z a0 hw n0 h1348 zz a1052 a987 a978 a971 x3 x4 x5 x0 x1 x2 F1359 F1351 F1352 F1353 F1354 F1355 F1358 F1357 F1356 g1058 g992 g983 g976 (Ne.symm ne1061) (Ne.symm ne1060) (Ne.symm ne1059) (Ne.symm ne994) (Ne.symm ne993) (Ne.symm ne984)) F1359 at_145 rfl (tw hw 20 rfl) (tw hw 21 rfl) (tw hw 22 rfl) (tw hw 23 rfl) (tw hw 3 rfl) (tw hw 24 rfl) (by decide) pd_1 rfl rfl rfl (Nat.le_of_eq rfl) (by decide) (by decide) (by decide) (by decide) (fun v1366 h1367 r1368 => ?_)
        obtain ⟨rfl, rfl⟩ := r1368
        refine C.istore (Ls' := #[.val (.int x0), .val (.int x1), .val (.int x2), .val (.int x3), .val (.int x4), .val (.int x5), .val (.int 3), .val (.ref a971), .val (.ref a978), .val (.ref a987), .val (.ref a1052), .val (.int 1), .val (.int 1), .val (.int 1)]) at_148 rfl rfl ?_
        refine C.iload at_150 rfl rfl ?_
        refine C.iload at_152 rfl rfl ?_
        refine C.icmp_ne_f at_154 rfl (by decide) ?_
        refine C.iload at_157 rfl rfl ?_
        refine C.iload at_159 rfl rfl ?_
        refine C.icmp_ne_f at_161 rfl (by decide) ?_
        refine C.iconst 1 at_164 rfl rfl ?_
        refine C.goto at_165 (by decide) rfl ?_
        exact C.retZ at_169 rfl (by decide) (by decide) ⟨rfl, trivial⟩
    · refine C.iconst 1 at_118 rfl rfl ?_
      refine C.istore (Ls' := #[.val (.int x0), .val (.int x1), .val (.int x2), .val (.int x3), .val (.int x4), .val (.int x5), .val (.int 3), .val (.ref a971), .val (.ref a978), .val (.ref a987), .val (.ref a1052), .val (.int 1), .unset, .unset]) at_119 rfl rfl ?_
      refine C.iload at_121 rfl rfl ?_
      refine C.iconst 3 at_123 rfl rfl ?_
      refine C.icmp_lt_f at_124 rfl (by decide) ?_
      refine C.iloadN at_127 rfl rfl ?_
      refine C.iload at_128 rfl rfl ?_
      refine C.icmp_gt at_130 (by decide) rfl rfl (fun q130 => ?_) (fun q130 => ?_)
      · refine C.aload at_136 rfl rfl rfl ?_
        refine C.callV (argsL := []) (rest := []) 0 (fun zz => au1370_3 l Z a0 hw n0 h1237 zz a1052 a987 a978 a971 x3 x4 x5 x0 x1 x2 F1248 F1240 F1241 F1242 F1243 F1244 F1247 F1246 F1245 g1058 g992 g983 g976 (Ne.symm ne1061) (Ne.symm ne1060) (Ne.symm ne1059) (Ne.symm ne994) (Ne.symm ne993) (Ne.symm ne984) q115 q130) F1248 at_138 rfl (tw hw 20 rfl) (tw hw 21 rfl) (tw hw 22 rfl) (tw hw 23 rfl) (tw hw 3 rfl) (tw hw 24 rfl) (by decide) pd_1 rfl rfl rfl (Nat.le_of_eq rfl) (by decide) (by decide) (by decide) (by decide) (fun v1404 h1405 r1406 => ?_)
        obtain ⟨rfl, K1407, F1408, F1409, F1410, F1411, F1412⟩ := r1406
        have F1413 : Av Z h1405 a971 .int ([.int x0, .int x1, .int x2]) := F1245.keep K1407 (ninS ne1059 nin0)
        have F1414 : Av Z h1405 a978 .int ([.int x3, .int x4, .int x5]) := F1246.keep K1407 (ninS ne1060 nin0)
        have F1415 : Av Z h1405 a987 .int ([.int 1, .int 2, .int 3]) := F1247.keep K1407 (ninS ne1061 nin0)
        have F1416 : Exa Z h1405 a1052 "com/example/dodder/dodder/Elements" := F1248.keep K1407
        refine C.istore (Ls' := #[.val (.int x0), .val (.int x1), .val (.int x2), .val (.int x3), .val (.int x4), .val (.int x5), .val (.int 3), .val (.ref a971), .val (.ref a978), .val (.ref a987), .val (.ref a1052), .val (.int 1), .val (.int 1), .unset]) at_141 rfl rfl ?_
        refine C.aload at_143 rfl rfl rfl ?_
        refine C.callV (argsL := []) (rest := []) 0 (fun zz => au1365_3 l Z a0 hw n0 h1405 zz a1052 a987 a978 a971 x3 x4 x5 x0 x1 x2 F1416 F1408 F1409 F1410 F1411 F1412 F1415 F1414 F1413 g1058 g992 g983 g976 (Ne.symm ne1061) (Ne.symm ne1060) (Ne.symm ne1059) (Ne.symm ne994) (Ne.symm ne993) (Ne.symm ne984)) F1416 at_145 rfl (tw hw 20 rfl) (tw hw 21 rfl) (tw hw 22 rfl) (tw hw 23 rfl) (tw hw 3 rfl) (tw hw 24 rfl) (by decide) pd_1 rfl rfl rfl (Nat.le_of_eq rfl) (by decide) (by decide) (by decide) (by decide) (fun v1422 h1423 r1424 => ?_)
        obtain ⟨rfl, rfl⟩ := r1424
        refine C.istore (Ls' := #[.val (.int x0), .val (.int x1), .val (.int x2), .val (.int x3), .val (.int x4), .val (.int x5), .val (.int 3), .val (.ref a971), .val (.ref a978), .val (.ref a987), .val (.ref a1052), .val (.int 1), .val (.int 1), .val (.int 1)]) at_148 rfl rfl ?_
        refine C.iload at_150 rfl rfl ?_
        refine C.iload at_152 rfl rfl ?_
        refine C.icmp_ne_f at_154 rfl (by decide) ?_
        refine C.iload at_157 rfl rfl ?_
        refine C.iload at_159 rfl rfl ?_
        refine C.icmp_ne_f at_161 rfl (by decide) ?_
        refine C.iconst 1 at_164 rfl rfl ?_
        refine C.goto at_165 (by decide) rfl ?_
        exact C.retZ at_169 rfl (by decide) (by decide) ⟨rfl, trivial⟩
      · refine C.iconst 1 at_133 rfl rfl ?_
        refine C.istore (Ls' := #[.val (.int x0), .val (.int x1), .val (.int x2), .val (.int x3), .val (.int x4), .val (.int x5), .val (.int 3), .val (.ref a971), .val (.ref a978), .val (.ref a987), .val (.ref a1052), .val (.int 1), .unset, .unset]) at_134 rfl rfl ?_
        refine C.aload at_136 rfl rfl rfl ?_
        refine C.callV (argsL := []) (rest := []) 0 (fun zz => au1426_3 l Z a0 hw n0 h1237 zz a1052 a987 a978 a971 x3 x4 x5 x0 x1 x2 F1248 F1240 F1241 F1242 F1243 F1244 F1247 F1246 F1245 g1058 g992 g983 g976 (Ne.symm ne1061) (Ne.symm ne1060) (Ne.symm ne1059) (Ne.symm ne994) (Ne.symm ne993) (Ne.symm ne984) q115 q130) F1248 at_138 rfl (tw hw 20 rfl) (tw hw 21 rfl) (tw hw 22 rfl) (tw hw 23 rfl) (tw hw 3 rfl) (tw hw 24 rfl) (by decide) pd_1 rfl rfl rfl (Nat.le_of_eq rfl) (by decide) (by decide) (by decide) (by decide) (fun v1460 h1461 r1462 => ?_)
        obtain ⟨rfl, K1463, F1464, F1465, F1466, F1467, F1468⟩ := r1462
        have F1469 : Av Z h1461 a971 .int ([.int x0, .int x1, .int x2]) := F1245.keep K1463 (ninS ne1059 nin0)
        have F1470 : Av Z h1461 a978 .int ([.int x3, .int x4, .int x5]) := F1246.keep K1463 (ninS ne1060 nin0)
        have F1471 : Av Z h1461 a987 .int ([.int 1, .int 2, .int 3]) := F1247.keep K1463 (ninS ne1061 nin0)
        have F1472 : Exa Z h1461 a1052 "com/example/dodder/dodder/Elements" := F1248.keep K1463
        refine C.istore (Ls' := #[.val (.int x0), .val (.int x1), .val (.int x2), .val (.int x3), .val (.int x4), .val (.int x5), .val (.int 3), .val (.ref a971), .val (.ref a978), .val (.ref a987), .val (.ref a1052), .val (.int 1), .val (.int 1), .unset]) at_141 rfl rfl ?_
        refine C.aload at_143 rfl rfl rfl ?_
        refine C.callV (argsL := []) (rest := []) 0 (fun zz => au1365_3 l Z a0 hw n0 h1461 zz a1052 a987 a978 a971 x3 x4 x5 x0 x1 x2 F1472 F1464 F1465 F1466 F1467 F1468 F1471 F1470 F1469 g1058 g992 g983 g976 (Ne.symm ne1061) (Ne.symm ne1060) (Ne.symm ne1059) (Ne.symm ne994) (Ne.symm ne993) (Ne.symm ne984)) F1472 at_145 rfl (tw hw 20 rfl) (tw hw 21 rfl) (tw hw 22 rfl) (tw hw 23 rfl) (tw hw 3 rfl) (tw hw 24 rfl) (by decide) pd_1 rfl rfl rfl (Nat.le_of_eq rfl) (by decide) (by decide) (by decide) (by decide) (fun v1478 h1479 r1480 => ?_)
        obtain ⟨rfl, rfl⟩ := r1480
        refine C.istore (Ls' := #[.val (.int x0), .val (.int x1), .val (.int x2), .val (.int x3), .val (.int x4), .val (.int x5), .val (.int 3), .val (.ref a971), .val (.ref a978), .val (.ref a987), .val (.ref a1052), .val (.int 1), .val (.int 1), .val (.int 1)]) at_148 rfl rfl ?_
        refine C.iload at_150 rfl rfl ?_
        refine C.iload at_152 rfl rfl ?_
        refine C.icmp_ne_f at_154 rfl (by decide) ?_
        refine C.iload at_157 rfl rfl ?_
        refine C.iload at_159 rfl rfl ?_
        refine C.icmp_ne_f at_161 rfl (by decide) ?_
        refine C.iconst 1 at_164 rfl rfl ?_
        refine C.goto at_165 (by decide) rfl ?_
        exact C.retZ at_169 rfl (by decide) (by decide) ⟨rfl, trivial⟩
set_option maxRecDepth 65536 in
set_option maxHeartbeats 40000000 in
theorem comes_1 {Post : Tables → Env → Array Value → State → Outcome → State → Prop} (hpost : ∀ tb e args s v u, (limb_1_1.after args s (.returned v) u = true ∧ limb_1_2.after args s (.returned v) u = true ∧ True) → FrameEnd s (.returned v) u (Jvm.fieldLocs frame_1_writes args s ++ Jvm.arrayLocs frame_1_arrays args s ++ Jvm.staticLocs frame_1_statics s) 16 128 → Post tb e args s (.returned v) u) :
    ArmFor flags0 classFile x code maxLocals ret World_1 tables_1 room_1 Calls_1 rest_1 Pre_1 Post := by
  intro l hfl _ _ p e ha hc hk s m args below hf hA hF happ hP
  obtain ⟨hcalls, hrest, hpre⟩ := hP
  obtain ⟨-, -, -, hnamed, -, -, -, hat⟩ := (Spec.applies_iff hf).mp happ
  obtain ⟨hg, hn⟩ := and_e (Cond.before_iff.mp (show (Jvm.Cond.and given_1 narrow_1).before args s = true from hpre))
  obtain ⟨h1, h2⟩ := and_e hg
  obtain ⟨w0, w1, w2, w3, w4, w5, rfl⟩ : ∃ w0 w1 w2 w3 w4 w5 : Value, args = #[w0, w1, w2, w3, w4, w5] := by
    have hs : args.size = 6 := by simpa [Cond.value, given_1] using h1
    obtain ⟨L⟩ := args
    match L, hs with
    | [w0, w1, w2, w3, w4, w5], _ => exact ⟨w0, w1, w2, w3, w4, w5, rfl⟩
  have hw := fun d (hd : d ∈ tables_1) => atoms_spec (ws := Jvm.Cond.code x code maxLocals ret :: tables_1) hat d (List.mem_cons_of_mem _ hd)
  obtain ⟨u0, t0⟩ := and_e h2
  obtain ⟨i0, e0⟩ := is_v u0
  obtain rfl : w0 = (.int i0) := Option.some.inj e0
  obtain ⟨u1, t1⟩ := and_e t0
  obtain ⟨i1, e1⟩ := is_v u1
  obtain rfl : w1 = (.int i1) := Option.some.inj e1
  obtain ⟨u2, t2⟩ := and_e t1
  obtain ⟨i2, e2⟩ := is_v u2
  obtain rfl : w2 = (.int i2) := Option.some.inj e2
  obtain ⟨u3, t3⟩ := and_e t2
  obtain ⟨i3, e3⟩ := is_v u3
  obtain rfl : w3 = (.int i3) := Option.some.inj e3
  obtain ⟨u4, t4⟩ := and_e t3
  obtain ⟨i4, e4⟩ := is_v u4
  obtain rfl : w4 = (.int i4) := Option.some.inj e4
  obtain ⟨i5, e5⟩ := is_v t4
  obtain rfl : w5 = (.int i5) := Option.some.inj e5
  obtain ⟨n, o, h1, h2, h3, _, L, rfl, ⟨⟨rfl, -⟩, N⟩, hq⟩ := con0 l s _ hw s.heap.size s.heap (Nat.le_refl _) i0 i1 i2 i3 i4 i5 p e ha hc hk s m _ below hf ((Spec.applies_iff_loose hf).mp happ).1 ⟨rfl, State.Warmed39.refl s, rfl⟩ trivial
  refine ⟨n, _, h1, h2, h3, hpost _ _ _ _ _ _ ⟨Cond.after_iff.mpr rfl, Cond.after_iff.mpr (eq_i res_at (Term.int_eval (1)) rfl), trivial⟩ ⟨hq.1, hq.2.1, (hq.2.2.sift fun y hy => Or.inr (N y hy)).mono (by decide) (by decide)⟩⟩
theorem main_1_1 : Claimed_1_1 := comes_1 fun _ _ _ _ _ _ h hF => ⟨h.1, hF⟩
theorem main_1_2 : Claimed_1_2 := comes_1 fun _ _ _ _ _ _ h hF => ⟨h.2.1, hF⟩
end Jvm.Pilot.@@N@@
namespace Jvm.Pilot.@@N@@
open Jvm Jvm.ClassFile Sem Op Lib Jvm.Free Jvm.Stand Jvm.Pilot.@@N@@.Jvm.D
/-! MADE BY PROGRAM (witnessworld.py) out of the Statement's table words and the real class files: 9 classes; the members and pool entries that the words name. The judged class is class 1, her method 1. -/
namespace start1
open Jvm.ClassFile
def u (s : String) : CpInfo := .utf8 (stringToUtf16 s)
/-- a pool by its gaps: so many unusable entries, then the entry; so many at the end -/
def gap : Nat → List CpInfo → List CpInfo
  | 0, r => r
  | n + 1, r => .unusable :: gap n r
def poolList (es : List (Nat × CpInfo)) (last : Nat) : List CpInfo := es.foldr (fun e r => gap e.1 (e.2 :: r)) (gap last [])
def pool (es : List (Nat × CpInfo)) (last : Nat) : Array CpInfo := ⟨poolList es last⟩
def fileOf (pool : Array CpInfo) (this : Nat) (attrs : Array Attribute := #[]) (ms : Array MethodInfo := #[]) (fl : Nat := 33) (sup : Nat := 0) (ifs : Array Nat := #[]) (fds : Array FieldInfo := #[]) : ClassFile where
  minorVersion := 0
  majorVersion := 65
  constantPool := pool
  accessFlags := fl
  thisClass := this
  superClass := sup
  interfaces := ifs
  fields := fds
  methods := ms
  attributes := attrs
def plain (name : String) (sup : Option ClassId) : Class where
  name := name
  kind := .ordinary
  loader := none
  accessFlags := 33
  super := sup
  interfaces := #[]
  cf := none
  fields := #[]
  methods := #[]
  instanceTypes := #[]
  staticTypes := #[]
  resolved := #[]
  callSites := []
  init := .initialized
  statics := none
  mirror := none

def pool0 : Array CpInfo := pool [(5, u "<init>"), (0, u "()V"), (1, .class_ 10), (1, u "java/lang/Object")] 113

def k0c0 : Code := { maxStack := 0, maxLocals := 1, code := object_method_1_code, exceptionTable := #[], attributes := #[] }
def k0m0 : Method := { name := "<init>", desc := "()V", sig := { parameters := [], returnType := none }, accessFlags := 1, code := some k0c0 }
/-- java/lang/Object -/
def k0 : Class := { plain "java/lang/Object" none with
  accessFlags := 33
  interfaces := #[]
  cf := some (fileOf pool0 8 #[] #[{ accessFlags := 1, nameIndex := 5, descriptorIndex := 6, attributes := #[] }] 33 0 #[] #[])
  fields := #[]
  methods := #[k0m0]
  instanceTypes := #[]
  staticTypes := #[]
  resolved := Array.replicate 124 none
  statics := none }

def pool1 : Array CpInfo := pool [(2, .class_ 4), (1, u "java/lang/Object"), (0, u "<init>"), (0, u "()V"), (0, .class_ 8), (0, u "com/example/dodder/dodder/Elements"), (0, .methodref 7 10), (0, .nameAndType 5 11), (0, u "([I[I[I[I)V"), (0, .methodref 7 13), (0, .nameAndType 14 15), (0, u "nests"), (0, u "()Z"), (0, .class_ 17), (0, u "com/example/dodder/dodder/ElementsNestsPinLaw"), (2, u "law"), (0, u "(IIIIII)Z")] 5

def k1m0 : Method := { name := "<init>", desc := "()V", sig := { parameters := [], returnType := none }, accessFlags := 2, code := none }
def k1c1 : Code := { maxStack := 6, maxLocals := 14, code := code, exceptionTable := #[], attributes := #[] }
def k1m1 : Method := { name := "law", desc := "(IIIIII)Z", sig := { parameters := [.int, .int, .int, .int, .int, .int], returnType := some .boolean }, accessFlags := 9, code := some k1c1 }
/-- com/example/dodder/dodder/ElementsNestsPinLaw -/
def k1 : Class := { plain "com/example/dodder/dodder/ElementsNestsPinLaw" (some 0) with
  accessFlags := 49
  interfaces := #[]
  cf := some (fileOf pool1 16 #[] #[{ accessFlags := 2, nameIndex := 5, descriptorIndex := 6, attributes := #[] }, { accessFlags := 9, nameIndex := 20, descriptorIndex := 21, attributes := #[] }] 49 2 #[] #[])
  fields := #[]
  methods := #[k1m0, k1m1]
  instanceTypes := #[]
  staticTypes := #[]
  resolved := Array.replicate 27 none
  statics := none }

def pool2 : Array CpInfo := pool [(1, .methodref 2 3), (0, .class_ 4), (0, .nameAndType 5 6), (0, u "java/lang/Object"), (0, u "<init>"), (0, u "()V"), (0, .class_ 8), (0, u "com/example/dodder/dodder/Elements"), (0, .fieldref 7 10), (0, .nameAndType 11 12), (0, u "nesting"), (0, u "B"), (0, .fieldref 7 14), (0, .nameAndType 15 16), (0, u "numbers"), (0, u "[I"), (0, .fieldref 7 18), (0, .nameAndType 19 16), (0, u "extents"), (0, .fieldref 7 21), (0, .nameAndType 22 16), (0, u "depths"), (0, .fieldref 7 24), (0, .nameAndType 25 16), (0, u "parents"), (2, u "([I[I[I[I)V"), (36, u "NONE"), (0, u "Lcom/example/dodder/dodder/Elements;"), (0, u "UNKNOWN"), (2, u "NESTS"), (1, u "FLAT"), (17, u "()Z"), (1, u "nests")] 5

def k2c0 : Code := { maxStack := 2, maxLocals := 5, code := prog_22_method_1_code, exceptionTable := #[], attributes := #[] }
def k2m0 : Method := { name := "<init>", desc := "([I[I[I[I)V", sig := { parameters := [(.array .int), (.array .int), (.array .int), (.array .int)], returnType := none }, accessFlags := 0, code := some k2c0 }
def k2c1 : Code := { maxStack := 4, maxLocals := 3, code := prog_22_method_15_code, exceptionTable := #[], attributes := #[] }
def k2m1 : Method := { name := "nests", desc := "()Z", sig := { parameters := [], returnType := some .boolean }, accessFlags := 0, code := some k2c1 }
/-- com/example/dodder/dodder/Elements -/
def k2 : Class := { plain "com/example/dodder/dodder/Elements" (some 0) with
  accessFlags := 48
  interfaces := #[]
  cf := some (fileOf pool2 7 #[] #[{ accessFlags := 0, nameIndex := 5, descriptorIndex := 28, attributes := #[] }, { accessFlags := 0, nameIndex := 92, descriptorIndex := 90, attributes := #[] }] 48 2 #[] #[{ accessFlags := 24, nameIndex := 65, descriptorIndex := 66, attributes := #[] }, { accessFlags := 26, nameIndex := 67, descriptorIndex := 12, attributes := #[] }, { accessFlags := 26, nameIndex := 70, descriptorIndex := 12, attributes := #[] }, { accessFlags := 26, nameIndex := 72, descriptorIndex := 12, attributes := #[] }, { accessFlags := 18, nameIndex := 15, descriptorIndex := 16, attributes := #[] }, { accessFlags := 18, nameIndex := 19, descriptorIndex := 16, attributes := #[] }, { accessFlags := 18, nameIndex := 22, descriptorIndex := 16, attributes := #[] }, { accessFlags := 18, nameIndex := 25, descriptorIndex := 16, attributes := #[] }, { accessFlags := 2, nameIndex := 11, descriptorIndex := 12, attributes := #[] }])
  fields := #[{ name := "NONE", type := (.object "com/example/dodder/dodder/Elements"), accessFlags := 24, slot := 0, constantValue := 0 }, { name := "UNKNOWN", type := .byte, accessFlags := 26, slot := 1, constantValue := 0 }, { name := "NESTS", type := .byte, accessFlags := 26, slot := 2, constantValue := 0 }, { name := "FLAT", type := .byte, accessFlags := 26, slot := 3, constantValue := 0 }, { name := "numbers", type := (.array .int), accessFlags := 18, slot := 0, constantValue := 0 }, { name := "extents", type := (.array .int), accessFlags := 18, slot := 1, constantValue := 0 }, { name := "depths", type := (.array .int), accessFlags := 18, slot := 2, constantValue := 0 }, { name := "parents", type := (.array .int), accessFlags := 18, slot := 3, constantValue := 0 }, { name := "nesting", type := .byte, accessFlags := 2, slot := 4, constantValue := 0 }]
  methods := #[k2m0, k2m1]
  instanceTypes := #[(.array .int), (.array .int), (.array .int), (.array .int), .byte]
  staticTypes := #[(.object "com/example/dodder/dodder/Elements"), .byte, .byte, .byte]
  resolved := Array.replicate 98 none
  statics := none }

def pool3 : Array CpInfo := pool [(1, u "java/lang/Cloneable"), (0, .class_ 1), (0, u "java/lang/Object"), (0, .class_ 3)] 3

/-- java/lang/Cloneable -/
def k3 : Class := { plain "java/lang/Cloneable" (some 0) with
  accessFlags := 1537
  interfaces := #[]
  cf := some (fileOf pool3 2 #[] #[] 1537 4 #[] #[])
  fields := #[]
  methods := #[]
  instanceTypes := #[]
  staticTypes := #[]
  resolved := Array.replicate 8 none
  statics := none }

def pool4 : Array CpInfo := pool [(1, u "java/io/Serializable"), (0, .class_ 1), (0, u "java/lang/Object"), (0, .class_ 3)] 3

/-- java/io/Serializable -/
def k4 : Class := { plain "java/io/Serializable" (some 0) with
  accessFlags := 1537
  interfaces := #[]
  cf := some (fileOf pool4 2 #[] #[] 1537 4 #[] #[])
  fields := #[]
  methods := #[]
  instanceTypes := #[]
  staticTypes := #[]
  resolved := Array.replicate 8 none
  statics := none }

/-- the primitive byte -/
def k5 : Class := { plain "byte" none with kind := .primitive 'B', accessFlags := 0x411 }
/-- [B -/
def k6 : Class := { plain "[B" (some 0) with kind := .array 5 .byte, interfaces := #[3, 4], accessFlags := 1041 }

/-- the primitive int -/
def k7 : Class := { plain "int" none with kind := .primitive 'I', accessFlags := 0x411 }
/-- [I -/
def k8 : Class := { plain "[I" (some 0) with kind := .array 7 .int, interfaces := #[3, 4], accessFlags := 1041 }

def heap : Heap := #[]
def classes : Array Class := #[k0, k1, k2, k3, k4, k5, k6, k7, k8]
def interned : List (Array UInt16 × Addr) := []
def slotsUsed : Nat := 0
def theMethod : MethodId := ⟨1, 1⟩
def args0 : Array Value := #[.int 0, .int 1, .int 2, .int 3, .int 4, .int 5]
def aboutOver (below : List Frame) : State where
  vm := { classes := classes, interned := interned.toArray }
  heap := heap
  slotsUsed := slotsUsed
  threads := #[{ frames := .invoking theMethod args0 :: below }]
def below0 : List Frame := [.native { method := ⟨0, 0⟩, args := #[] }]
def about1 : State := aboutOver below0
def p0 : Program := .bare "" "" ""
def e0 : Env := launch0.env 0 0 0
theorem w_frames : about1.frames = Frame.invoking theMethod args0 :: below0 := rfl
set_option maxRecDepth 65536 in
theorem w_args : argsFit about1.vm theMethod args0 = true := by decide +kernel
set_option maxRecDepth 65536 in
theorem w_heap : heapFits about1 = true := by decide +kernel
set_option maxRecDepth 65536 in
theorem w_runnable : about1.curStatus? = some .runnable := by decide +kernel
set_option maxRecDepth 65536 in
theorem w_alone : about1.alone = true := by decide +kernel
set_option maxRecDepth 65536 in
theorem w_named : about1.methodNamed? x = some theMethod := by decide +kernel
set_option maxRecDepth 65536 in
theorem w_hears : about1.hears theMethod below0 = true := by decide +kernel
set_option maxRecDepth 65536 in
theorem w_ripe : about1.ripe theMethod args0 below0 = true := by decide +kernel
theorem w_running : about1.status = .running := rfl
set_option maxRecDepth 65536 in
theorem w_room : about1.hasRoom e0.platform room_1 = true :=
  launch0.hasRoom_least _ room_1 (by decide +kernel) (by decide +kernel) (by decide +kernel) (by decide +kernel) (by decide +kernel) (by decide +kernel)
theorem allAtoms_all (ts : List Jvm.Cond) (a : Array Jvm.Value) (st : Jvm.State) : (allAtoms ts).before a st = ts.all (fun c => c.before a st) := by
  induction ts with
  | nil => rfl
  | cons c t ih =>
    show (Jvm.Cond.and c (allAtoms t)).before a st = _
    rw [Jvm.Cond.before_and, ih, List.all_cons]
def words1 : List Jvm.Cond := Jvm.Cond.code x code maxLocals ret :: tables_1
/-- a 'code' word, met by the world's own term for the bytes: nothing is compared byte by byte -/
theorem code_word {y : MethodName} {bytes : ByteArray} {mx : Nat} {rt : Option FieldType} {a : Array Value} {s : State} {m : MethodId} {meth : Method} {c : Code} (h1 : s.methodNamed? y = some m) (h2 : s.vm.method? m = some meth) (h3 : meth.code = some c) (h4 : c.code = bytes)
    (h5 : (c.maxLocals == mx && c.exceptionTable.isEmpty && decide (c.maxStack ≤ mostOperands) && decide (meth.sig.returnType = rt) && !meth.locks && decide (parseMethodDescriptor y.desc = some meth.sig)) = true) : (Jvm.Cond.code y bytes mx rt).before a s = true := by
  simp only [Bool.and_eq_true, beq_iff_eq, Bool.not_eq_true', decide_eq_true_eq] at h5
  obtain ⟨⟨⟨⟨⟨g1, g2⟩, g3⟩, g4⟩, g5⟩, g6⟩ := h5
  simp [Cond.before, Cond.holds, Cond.value, h1, h2, h3, h4, g1, g2, g3, g4, g5, g6]
def isCode : Jvm.Cond → Bool
  | .code _ _ _ _ => true
  | _ => false
theorem all_split {L : List Jvm.Cond} {P : Jvm.Cond → Bool} (h1 : L.all (fun c => isCode c || P c) = true) (h2 : ∀ c ∈ L.filter isCode, P c = true) : L.all P = true := by
  refine List.all_eq_true.mpr fun c hc => ?_
  have h := List.all_eq_true.mp h1 c hc
  rcases Bool.eq_false_or_eq_true (isCode c) with hi | hi
  · exact h2 c (List.mem_filter.mpr ⟨hc, hi⟩)
  · simpa [hi] using h
set_option maxRecDepth 65536 in
theorem w_c0 : (Jvm.Cond.code x code maxLocals ret).before args0 about1 = true := code_word (m := ⟨1, 1⟩) (meth := k1m1) (c := k1c1) (by decide +kernel) rfl rfl rfl (by decide +kernel)
set_option maxRecDepth 65536 in
theorem w_c1 : (Jvm.Cond.code ({ cls := "com/example/dodder/dodder/Elements", name := "<init>", desc := "([I[I[I[I)V" } : Jvm.MethodName) prog_22_method_1_code (5 : Nat) (Option.none : Option Jvm.ClassFile.FieldType)).before args0 about1 = true := code_word (m := ⟨2, 0⟩) (meth := k2m0) (c := k2c0) (by decide +kernel) rfl rfl rfl (by decide +kernel)
set_option maxRecDepth 65536 in
theorem w_c2 : (Jvm.Cond.code ({ cls := "java/lang/Object", name := "<init>", desc := "()V" } : Jvm.MethodName) object_method_1_code (1 : Nat) (Option.none : Option Jvm.ClassFile.FieldType)).before args0 about1 = true := code_word (m := ⟨0, 0⟩) (meth := k0m0) (c := k0c0) (by decide +kernel) rfl rfl rfl (by decide +kernel)
set_option maxRecDepth 65536 in
theorem w_c3 : (Jvm.Cond.code ({ cls := "com/example/dodder/dodder/Elements", name := "nests", desc := "()Z" } : Jvm.MethodName) prog_22_method_15_code (3 : Nat) (Option.some Jvm.ClassFile.FieldType.boolean)).before args0 about1 = true := code_word (m := ⟨2, 1⟩) (meth := k2m1) (c := k2c1) (by decide +kernel) rfl rfl rfl (by decide +kernel)
def codes1 : List Jvm.Cond := [Jvm.Cond.code x code maxLocals ret, Jvm.Cond.code ({ cls := "com/example/dodder/dodder/Elements", name := "<init>", desc := "([I[I[I[I)V" } : Jvm.MethodName) prog_22_method_1_code (5 : Nat) (Option.none : Option Jvm.ClassFile.FieldType), Jvm.Cond.code ({ cls := "java/lang/Object", name := "<init>", desc := "()V" } : Jvm.MethodName) object_method_1_code (1 : Nat) (Option.none : Option Jvm.ClassFile.FieldType), Jvm.Cond.code ({ cls := "com/example/dodder/dodder/Elements", name := "nests", desc := "()Z" } : Jvm.MethodName) prog_22_method_15_code (3 : Nat) (Option.some Jvm.ClassFile.FieldType.boolean)]
set_option maxRecDepth 65536 in
theorem codes_eq : words1.filter isCode = codes1 := rfl
theorem w_codes : ∀ c ∈ words1.filter isCode, c.before args0 about1 = true := by
  rw [codes_eq]
  intro c hc
  simp only [codes1, List.mem_cons, List.not_mem_nil, or_false] at hc
  rcases hc with rfl | rfl | rfl | rfl
  · exact w_c0
  · exact w_c1
  · exact w_c2
  · exact w_c3
set_option maxRecDepth 65536 in
theorem w_t1 : (words1.take 24).all (fun c => isCode c || c.before args0 about1) = true := by decide +kernel
set_option maxRecDepth 65536 in
theorem w_t2 : (words1.drop 24).all (fun c => isCode c || c.before args0 about1) = true := by decide +kernel
theorem w_tables : (allAtoms (Jvm.Cond.code x code maxLocals ret :: tables_1)).before args0 about1 = true := by
  rw [allAtoms_all]
  show words1.all (fun c => c.before args0 about1) = true
  refine all_split ?_ w_codes
  rw [← List.take_append_drop 24 words1, List.all_append, w_t1, w_t2]
  rfl
set_option maxRecDepth 65536 in
theorem w_case : (Jvm.Cond.and given_1 narrow_1).before args0 about1 = true := by decide +kernel
theorem w_applies : (headSpec (Jvm.Cond.code x code maxLocals ret :: tables_1) room_1).applies x e0.platform about1 = true :=
  (Spec.applies_iff w_frames).mpr ⟨w_running, w_runnable, w_alone, w_named, w_hears, w_ripe, w_room, w_tables⟩
theorem atStart : AtStart classFile x code maxLocals ret World_1 tables_1 room_1 Calls_1 rest_1 Pre_1 launch0 p0 e0 about1 theMethod args0 below0 :=
  ⟨lists_1, trivial, launch0.admits_env _ _ _, launch0.least_env, fairChoices_fair.cas, fairChoices_fair.clock, w_frames, w_args, w_heap, w_applies, trivial, trivial, w_case⟩
end start1
theorem witness_1 : WitnessClaimed_1 := ⟨start1.p0, start1.e0, start1.about1, start1.theMethod, start1.args0, start1.below0, start1.atStart⟩
end Jvm.Pilot.@@N@@
